import PyProof.Rows.All
import Wide.All
import OpenK.AllK
import Wide.FinOn
import PySem.Challenge.RW_jb0021_01
set_option Elab.async false
set_option maxRecDepth 100000
set_option linter.unusedVariables false
set_option maxHeartbeats 0
namespace Jb
open PySem PySem.W PySem.W.Fast PySem.Calls PyProof.Rows
abbrev pw := PySem.Challenge.pw_jb0021_01
theorem lawful (h : PySem.Challenge.rw_jb0021_01.row.wellSaid = true → PySem.Challenge.rw_jb0021_01.row.Holds) : PySem.Challenge.rw_jb0021_01.Holds := by
  o_law; exact h (by assumption)
theorem pwE : pw = tw8690801911961774598 := te8690801911961774598
noncomputable def nth (l : List Stmt) : Nat → Stmt := @List.rec Stmt (fun _ => Nat → Stmt) (fun _ => .Pass ⟨0, 0, 0, 0⟩) (fun x _ ih k => @Nat.rec (fun _ => Stmt) x (fun k _ => ih k) k) l
noncomputable def dT (i : Nat) : Stmt := nth pw.main.body i
noncomputable def dC (i j : Nat) : Stmt := match dT i with
  | .ClassDef _ _ _ b _ _ _ _ _ _ _ => nth b j
  | s => s
def fd (s : Stmt) (k : Arguments → List Stmt → Scope → FuncData) : FuncData := match s with
  | .FunctionDef _ a b _ _ _ sc _ _ _ => k a b sc
  | _ => default
def docB (b : List Stmt) : Str := match b with
  | .Expr (.Constant (.str x) _ _) _ :: _ => x
  | _ => ""
def docS (s : Stmt) : Str := match s with
  | .FunctionDef _ _ b _ _ _ _ _ _ _ => docB b
  | .ClassDef _ _ _ b _ _ _ _ _ _ _ => docB b
  | _ => ""
noncomputable def o3 (P : Params) : Obj := ⟨(.type "dict"), .none, (.dict #[⟨(PyData.keyHash P "__name__"), (.str "__name__" 165), (.str "law_jb0021_01" 1027)⟩, ⟨(PyData.keyHash P "__doc__"), (.str "__doc__" 166), .none⟩, ⟨(PyData.keyHash P "__package__"), (.str "__package__" 167), .none⟩, ⟨(PyData.keyHash P "__loader__"), (.str "__loader__" 168), (.builtin "__main__.__loader__#opaque")⟩, ⟨(PyData.keyHash P "__spec__"), (.str "__spec__" 169), .none⟩, ⟨(PyData.keyHash P "__annotations__"), (.str "__annotations__" 170), (.ref 6)⟩, ⟨(PyData.keyHash P "__builtins__"), (.str "__builtins__" 171), (.ref 4)⟩, ⟨(PyData.keyHash P "__file__"), (.str "__file__" 173), (.str "/claim/cut.py" 172)⟩, ⟨(PyData.keyHash P "__cached__"), (.str "__cached__" 174), .none⟩, ⟨(PyData.keyHash P "_wall"), (.str "_wall" 193), (.ref 21)⟩, ⟨(PyData.keyHash P "_tuplegetter"), (.str "_tuplegetter" 252), (.ref 243)⟩, ⟨(PyData.keyHash P "tuplegetter_util"), (.str "tuplegetter_util" 253), (.ref 60)⟩, ⟨(PyData.keyHash P "WindowStats"), (.str "WindowStats" 368), (.ref 132)⟩, ⟨(PyData.keyHash P "RateLimiter"), (.str "RateLimiter" 408), (.ref 161)⟩, ⟨(PyData.keyHash P "FixedWindowRateLimiter"), (.str "FixedWindowRateLimiter" 462), (.ref 202)⟩, ⟨(PyData.keyHash P "tuplegetter_limits"), (.str "tuplegetter_limits" 522), (.ref 243)⟩, ⟨(PyData.keyHash P "safe_string"), (.str "safe_string" 530), (.ref 254)⟩, ⟨(PyData.keyHash P "Granularity"), (.str "Granularity" 645), (.ref 322)⟩, ⟨(PyData.keyHash P "RateLimitItem"), (.str "RateLimitItem" 742), (.ref 388)⟩, ⟨(PyData.keyHash P "RateLimitItemPerMinute"), (.str "RateLimitItemPerMinute" 770), (.ref 407)⟩, ⟨(PyData.keyHash P "RateLimitItemPerSecond"), (.str "RateLimitItemPerSecond" 798), (.ref 424)⟩, ⟨(PyData.keyHash P "TimestampedSlidingWindow"), (.str "TimestampedSlidingWindow" 844), (.ref 446)⟩, ⟨(PyData.keyHash P "bisect_left"), (.str "bisect_left" 859), (.ref 457)⟩, ⟨(PyData.keyHash P "MemoryStorage"), (.str "MemoryStorage" 1026), (.ref 576)⟩, ⟨(PyData.keyHash P "_law_names"), (.str "_law_names" 1034), (.ref 585)⟩, ⟨(PyData.keyHash P "_law_live"), (.str "_law_live" 1043), (.ref 592)⟩, ⟨(PyData.keyHash P "law"), (.str "law" 1069), (.ref 599)⟩] 27), #[]⟩
noncomputable def o11 (P : Params) : Obj := ⟨(.type "tuple"), .none, (.seq #[] 0), #[]⟩
noncomputable def o12 (P : Params) : Obj := ⟨.none, .none, (.fields #[(.int 1 0), (.int 0 0), (.ref 20), (.int 5 0), (.int 0 0), (.ref 27), (.int 24 0), (.int 0 0), (.ref 71), (.int 67 0), (.int 0 0), (.ref 141), (.int 74 0), (.int 0 0), (.ref 171), (.int 118 0), (.int 0 0), (.ref 210), (.int 137 0), (.int 0 0), (.ref 253), (.int 144 0), (.int 0 0), (.ref 261), (.int 186 0), (.int 0 0), (.ref 331), (.int 235 0), (.int 0 0), (.ref 398), (.int 241 0), (.int 0 0), (.ref 415), (.int 248 0), (.int 0 0), (.ref 432), (.int 255 0), (.int 0 0), (.ref 456), (.int 266 0), (.int 0 0), (.ref 463), (.int 359 0), (.int 0 0), (.ref 584), (.int 361 0), (.int 0 0), (.ref 591), (.int 365 0), (.int 0 0), (.ref 598)]), #[]⟩
noncomputable def o13 (P : Params) : Obj := ⟨(.type "code"), .none, (.fields #[(.str "<module>" 182), (.str "<module>" 183), (.str "/claim/cut.py" 184), (.int 1 0), (.int 0 0), (.int 0 0), (.int 0 0), (.int 0 0), (.ref 11), (.bool false), (.int 181 0), (.ref 12), .none, .none, .none, .none, (.int 185 0), (.int 1 0), (.str "/claim/cut.py" 186)]), #[]⟩
noncomputable def o14 (P : Params) : Obj := ⟨(.type "frame"), .none, .plain, #[(.some (.ref 13)), (.some (.ref 3)), (.some (.ref 3)), .none, (.some (.str "__main__" 164)), .none, (.some (.ref 0))]⟩
noncomputable def o15 (P : Params) : Obj := ⟨(.type "tuple"), .none, (.seq #[] 0), #[]⟩
noncomputable def o16 (P : Params) : Obj := ⟨.none, .none, (.fields #[]), #[]⟩
noncomputable def o17 (P : Params) : Obj := ⟨(.type "tuple"), .none, (.seq #[(.str "k" 190)] 0), #[]⟩
noncomputable def o18 (P : Params) : Obj := ⟨(.type "tuple"), .none, (.seq #[] 0), #[]⟩
noncomputable def o19 (P : Params) : Obj := ⟨.none, .none, .func (fd (dT 0) fun a b sc => ⟨"_wall", "_wall", a, .stmts b, sc, 0, [], .none, .none, .none, .none, .none, .none, .none, 0⟩), #[]⟩
noncomputable def o20 (P : Params) : Obj := ⟨(.type "code"), .none, (.fields #[(.str "_wall" 187), (.str "_wall" 188), (.str "/claim/cut.py" 189), (.int 1 0), (.int 1 0), (.int 0 0), (.int 0 0), (.int 3 0), (.ref 15), (.bool true), (.int 181 0), (.ref 16), .none, (.ref 17), (.ref 18), (.ref 19), (.int 191 0), (.int 1 0), (.str "/claim/cut.py" 192)]), #[]⟩
noncomputable def o21 (P : Params) : Obj := ⟨(.type "function"), .none, .func (fd (dT 0) fun a b sc => ⟨"_wall", "_wall", a, .stmts b, sc, 3, [], .none, .none, .none, (.str "__main__" 164), .none, (.ref 20), .none, 0⟩), #[]⟩
noncomputable def o22 (P : Params) : Obj := ⟨(.type "tuple"), .none, (.seq #[] 0), #[]⟩
noncomputable def o23 (P : Params) : Obj := ⟨(.type "builtin_function_or_method"), .none, (.fields #[(.builtin "type.__prepare__"), (.type "type")]), #[]⟩
noncomputable def o24 (P : Params) : Obj := ⟨(.type "dict"), .none, (.dict #[⟨(PyData.keyHash P "__module__"), (.str "__module__" 203), (.str "limits.util" 194)⟩, ⟨(PyData.keyHash P "__qualname__"), (.str "__qualname__" 205), (.str "_tuplegetter" 204)⟩, ⟨(PyData.keyHash P "__firstlineno__"), (.str "__firstlineno__" 207), (.int 5 206)⟩, ⟨(PyData.keyHash P "__init__"), (.str "__init__" 216), (.ref 35)⟩, ⟨(PyData.keyHash P "__get__"), (.str "__get__" 225), (.ref 43)⟩, ⟨(PyData.keyHash P "__set__"), (.str "__set__" 234), (.ref 50)⟩, ⟨(PyData.keyHash P "__delete__"), (.str "__delete__" 242), (.ref 57)⟩, ⟨(PyData.keyHash P "__static_attributes__"), (.str "__static_attributes__" 245), (.ref 58)⟩] 8), #[]⟩
noncomputable def o25 (P : Params) : Obj := ⟨(.type "tuple"), .none, (.seq #[] 0), #[]⟩
noncomputable def o26 (P : Params) : Obj := ⟨.none, .none, (.fields #[(.int 7 0), (.int 4 0), (.ref 34), (.int 11 0), (.int 4 0), (.ref 42), (.int 18 0), (.int 4 0), (.ref 49), (.int 21 0), (.int 4 0), (.ref 56)]), #[]⟩
noncomputable def o27 (P : Params) : Obj := ⟨(.type "code"), .none, (.fields #[(.str "_tuplegetter" 198), (.str "_tuplegetter" 199), (.str "/claim/cut.py" 200), (.int 5 0), (.int 0 0), (.int 0 0), (.int 0 0), (.int 0 0), (.ref 25), (.bool false), (.int 181 0), (.ref 26), .none, .none, .none, .none, (.int 201 0), (.int 5 0), (.str "/claim/cut.py" 202)]), #[]⟩
noncomputable def o28 (P : Params) : Obj := ⟨(.type "frame"), .none, .plain, #[(.some (.ref 27)), (.some (.ref 3)), (.some (.ref 24)), .none, (.some (.str "limits.util" 194)), .none, (.some (.ref 0))]⟩
noncomputable def o29 (P : Params) : Obj := ⟨(.type "tuple"), .none, (.seq #[] 0), #[]⟩
noncomputable def o30 (P : Params) : Obj := ⟨.none, .none, (.fields #[]), #[]⟩
noncomputable def o31 (P : Params) : Obj := ⟨(.type "tuple"), .none, (.seq #[(.str "self" 211), (.str "index" 212), (.str "doc" 213)] 0), #[]⟩
noncomputable def o32 (P : Params) : Obj := ⟨(.type "tuple"), .none, (.seq #[] 0), #[]⟩
noncomputable def o33 (P : Params) : Obj := ⟨.none, .none, .func (fd (dC 2 0) fun a b sc => ⟨"__init__", "_tuplegetter.__init__", a, .stmts b, sc, 0, [], .none, .none, .none, .none, .none, .none, .none, 0⟩), #[]⟩
noncomputable def o34 (P : Params) : Obj := ⟨(.type "code"), .none, (.fields #[(.str "__init__" 208), (.str "_tuplegetter.__init__" 209), (.str "/claim/cut.py" 210), (.int 7 0), (.int 3 0), (.int 0 0), (.int 0 0), (.int 3 0), (.ref 29), (.bool true), (.int 181 0), (.ref 30), .none, (.ref 31), (.ref 32), (.ref 33), (.int 214 0), (.int 7 0), (.str "/claim/cut.py" 215)]), #[]⟩
noncomputable def o35 (P : Params) : Obj := ⟨(.type "function"), .none, .func (fd (dC 2 0) fun a b sc => ⟨"__init__", "_tuplegetter.__init__", a, .stmts b, sc, 3, [], .none, .none, .none, (.str "limits.util" 194), .none, (.ref 34), .none, 0⟩), #[]⟩
noncomputable def o36 (P : Params) : Obj := ⟨(.type "tuple"), .none, (.seq #[.none] 0), #[]⟩
noncomputable def o37 (P : Params) : Obj := ⟨(.type "tuple"), .none, (.seq #[] 0), #[]⟩
noncomputable def o38 (P : Params) : Obj := ⟨.none, .none, (.fields #[]), #[]⟩
noncomputable def o39 (P : Params) : Obj := ⟨(.type "tuple"), .none, (.seq #[(.str "self" 220), (.str "obj" 221), (.str "objtype" 222)] 0), #[]⟩
noncomputable def o40 (P : Params) : Obj := ⟨(.type "tuple"), .none, (.seq #[] 0), #[]⟩
noncomputable def o41 (P : Params) : Obj := ⟨.none, .none, .func (fd (dC 2 1) fun a b sc => ⟨"__get__", "_tuplegetter.__get__", a, .stmts b, sc, 0, [], .none, .none, .none, .none, .none, .none, .none, 0⟩), #[]⟩
noncomputable def o42 (P : Params) : Obj := ⟨(.type "code"), .none, (.fields #[(.str "__get__" 217), (.str "_tuplegetter.__get__" 218), (.str "/claim/cut.py" 219), (.int 11 0), (.int 3 0), (.int 0 0), (.int 0 0), (.int 3 0), (.ref 37), (.bool true), (.int 181 0), (.ref 38), .none, (.ref 39), (.ref 40), (.ref 41), (.int 223 0), (.int 11 0), (.str "/claim/cut.py" 224)]), #[]⟩
noncomputable def o43 (P : Params) : Obj := ⟨(.type "function"), .none, .func (fd (dC 2 1) fun a b sc => ⟨"__get__", "_tuplegetter.__get__", a, .stmts b, sc, 3, [], (.ref 36), .none, .none, (.str "limits.util" 194), .none, (.ref 42), .none, 0⟩), #[]⟩
noncomputable def o44 (P : Params) : Obj := ⟨(.type "tuple"), .none, (.seq #[] 0), #[]⟩
noncomputable def o45 (P : Params) : Obj := ⟨.none, .none, (.fields #[]), #[]⟩
noncomputable def o46 (P : Params) : Obj := ⟨(.type "tuple"), .none, (.seq #[(.str "self" 229), (.str "obj" 230), (.str "value" 231)] 0), #[]⟩
noncomputable def o47 (P : Params) : Obj := ⟨(.type "tuple"), .none, (.seq #[] 0), #[]⟩
noncomputable def o48 (P : Params) : Obj := ⟨.none, .none, .func (fd (dC 2 2) fun a b sc => ⟨"__set__", "_tuplegetter.__set__", a, .stmts b, sc, 0, [], .none, .none, .none, .none, .none, .none, .none, 0⟩), #[]⟩
noncomputable def o49 (P : Params) : Obj := ⟨(.type "code"), .none, (.fields #[(.str "__set__" 226), (.str "_tuplegetter.__set__" 227), (.str "/claim/cut.py" 228), (.int 18 0), (.int 3 0), (.int 0 0), (.int 0 0), (.int 3 0), (.ref 44), (.bool true), (.int 181 0), (.ref 45), .none, (.ref 46), (.ref 47), (.ref 48), (.int 232 0), (.int 18 0), (.str "/claim/cut.py" 233)]), #[]⟩
noncomputable def o50 (P : Params) : Obj := ⟨(.type "function"), .none, .func (fd (dC 2 2) fun a b sc => ⟨"__set__", "_tuplegetter.__set__", a, .stmts b, sc, 3, [], .none, .none, .none, (.str "limits.util" 194), .none, (.ref 49), .none, 0⟩), #[]⟩
noncomputable def o51 (P : Params) : Obj := ⟨(.type "tuple"), .none, (.seq #[] 0), #[]⟩
noncomputable def o52 (P : Params) : Obj := ⟨.none, .none, (.fields #[]), #[]⟩
noncomputable def o53 (P : Params) : Obj := ⟨(.type "tuple"), .none, (.seq #[(.str "self" 238), (.str "obj" 239)] 0), #[]⟩
noncomputable def o54 (P : Params) : Obj := ⟨(.type "tuple"), .none, (.seq #[] 0), #[]⟩
noncomputable def o55 (P : Params) : Obj := ⟨.none, .none, .func (fd (dC 2 3) fun a b sc => ⟨"__delete__", "_tuplegetter.__delete__", a, .stmts b, sc, 0, [], .none, .none, .none, .none, .none, .none, .none, 0⟩), #[]⟩
noncomputable def o56 (P : Params) : Obj := ⟨(.type "code"), .none, (.fields #[(.str "__delete__" 235), (.str "_tuplegetter.__delete__" 236), (.str "/claim/cut.py" 237), (.int 21 0), (.int 2 0), (.int 0 0), (.int 0 0), (.int 3 0), (.ref 51), (.bool true), (.int 181 0), (.ref 52), .none, (.ref 53), (.ref 54), (.ref 55), (.int 240 0), (.int 21 0), (.str "/claim/cut.py" 241)]), #[]⟩
noncomputable def o57 (P : Params) : Obj := ⟨(.type "function"), .none, .func (fd (dC 2 3) fun a b sc => ⟨"__delete__", "_tuplegetter.__delete__", a, .stmts b, sc, 3, [], .none, .none, .none, (.str "limits.util" 194), .none, (.ref 56), .none, 0⟩), #[]⟩
noncomputable def o58 (P : Params) : Obj := ⟨(.type "tuple"), .none, (.seq #[(.str "__doc__" 243), (.str "index" 244)] 0), #[]⟩
noncomputable def o59 (P : Params) : Obj := ⟨(.type "dict"), .none, (.dict #[⟨(PyData.keyHash P "__module__"), (.str "__module__" 203), (.str "limits.util" 194)⟩, ⟨(PyData.keyHash P "__firstlineno__"), (.str "__firstlineno__" 207), (.int 5 206)⟩, ⟨(PyData.keyHash P "__init__"), (.str "__init__" 216), (.ref 35)⟩, ⟨(PyData.keyHash P "__get__"), (.str "__get__" 225), (.ref 43)⟩, ⟨(PyData.keyHash P "__set__"), (.str "__set__" 234), (.ref 50)⟩, ⟨(PyData.keyHash P "__delete__"), (.str "__delete__" 242), (.ref 57)⟩, ⟨(PyData.keyHash P "__static_attributes__"), (.str "__static_attributes__" 245), (.ref 58)⟩, ⟨(PyData.keyHash P "__dict__"), (.str "__dict__" 247), (.ref 61)⟩, ⟨(PyData.keyHash P "__weakref__"), (.str "__weakref__" 249), (.ref 62)⟩, ⟨(PyData.keyHash P "__doc__"), (.str "__doc__" 250), .none⟩] 4), #[]⟩
noncomputable def o60 (P : Params) : Obj := ⟨(.type "type"), .none, (.cls ⟨"_tuplegetter", [(.type "object")], [(.ref 60), (.type "object")], 59, "_tuplegetter", true, [], [], false, .none, false⟩), #[.none, .none, (.some (.str "_tuplegetter" 196)), (.some (.str "_tuplegetter" 204)), (.some (.builtin "object.__new__")), (.some (.bool true))]⟩
noncomputable def o61 (P : Params) : Obj := ⟨(.type "getset_descriptor"), .none, (.fields #[(.str "__dict__" 246), (.ref 60), (.builtin "function.__dict__"), (.builtin "function.__dict__#set")]), #[]⟩
noncomputable def o62 (P : Params) : Obj := ⟨(.type "getset_descriptor"), .none, (.fields #[(.str "__weakref__" 248), (.ref 60), (.builtin "ExceptionGroup.__weakref__"), .none]), #[]⟩
noncomputable def o63 (P : Params) : Obj := ⟨(.type "super"), .none, (.fields #[(.ref 60), (.ref 60), (.ref 60)]), #[]⟩
noncomputable def o64 (P : Params) : Obj := ⟨(.type "builtin_function_or_method"), .none, (.fields #[(.builtin "object.__init_subclass__"), (.ref 60)]), #[]⟩
noncomputable def o65 (P : Params) : Obj := ⟨(.type "tuple"), .none, (.seq #[(.type "tuple")] 0), #[]⟩
noncomputable def o66 (P : Params) : Obj := ⟨(.type "builtin_function_or_method"), .none, (.fields #[(.builtin "type.__prepare__"), (.type "type")]), #[]⟩
noncomputable def o67 (P : Params) : Obj := ⟨(.type "dict"), .none, (.dict #[⟨(PyData.keyHash P "__module__"), (.str "__module__" 261), (.str "limits.util" 194)⟩, ⟨(PyData.keyHash P "__qualname__"), (.str "__qualname__" 263), (.str "WindowStats" 262)⟩, ⟨(PyData.keyHash P "__firstlineno__"), (.str "__firstlineno__" 265), (.int 24 264)⟩, ⟨(PyData.keyHash P "__doc__"), (.str "__doc__" 267), (.str (docS (dT 4)) 266)⟩, ⟨(PyData.keyHash P "__slots__"), (.str "__slots__" 269), (.ref 73)⟩, ⟨(PyData.keyHash P "_fields"), (.str "_fields" 272), (.ref 74)⟩, ⟨(PyData.keyHash P "_field_defaults"), (.str "_field_defaults" 273), (.ref 75)⟩, ⟨(PyData.keyHash P "__new__"), (.str "__new__" 283), (.ref 82)⟩, ⟨(PyData.keyHash P "_make"), (.str "_make" 305), (.ref 91)⟩, ⟨(PyData.keyHash P "_replace"), (.str "_replace" 316), (.ref 100)⟩, ⟨(PyData.keyHash P "__replace__"), (.str "__replace__" 317), (.ref 100)⟩, ⟨(PyData.keyHash P "__repr__"), (.str "__repr__" 325), (.ref 107)⟩, ⟨(PyData.keyHash P "_asdict"), (.str "_asdict" 332), (.ref 114)⟩, ⟨(PyData.keyHash P "__getnewargs__"), (.str "__getnewargs__" 340), (.ref 121)⟩, ⟨(PyData.keyHash P "__match_args__"), (.str "__match_args__" 343), (.ref 122)⟩, ⟨(PyData.keyHash P "reset_time"), (.str "reset_time" 353), (.ref 124)⟩, ⟨(PyData.keyHash P "remaining"), (.str "remaining" 363), (.ref 127)⟩, ⟨(PyData.keyHash P "__static_attributes__"), (.str "__static_attributes__" 364), (.ref 129)⟩, ⟨(PyData.keyHash P "__classcell__"), (.str "__classcell__" 365), (.ref 68)⟩] 19), #[]⟩
noncomputable def o68 (P : Params) : Obj := ⟨(.type "cell"), .none, (.cell (.some (.ref 132))), #[]⟩
noncomputable def o69 (P : Params) : Obj := ⟨(.type "tuple"), .none, (.seq #[] 0), #[]⟩
noncomputable def o70 (P : Params) : Obj := ⟨.none, .none, (.fields #[(.int 30 0), (.int 4 0), (.ref 81), (.int 35 0), (.int 4 0), (.ref 88), (.int 42 0), (.int 4 0), (.ref 99), (.int 53 0), (.int 4 0), (.ref 106), (.int 57 0), (.int 4 0), (.ref 113), (.int 60 0), (.int 4 0), (.ref 120)]), #[]⟩
noncomputable def o71 (P : Params) : Obj := ⟨(.type "code"), .none, (.fields #[(.str "WindowStats" 256), (.str "WindowStats" 257), (.str "/claim/cut.py" 258), (.int 24 0), (.int 0 0), (.int 0 0), (.int 0 0), (.int 0 0), (.ref 69), (.bool false), (.int 181 0), (.ref 70), .none, .none, .none, .none, (.int 259 0), (.int 24 0), (.str "/claim/cut.py" 260)]), #[]⟩
noncomputable def o72 (P : Params) : Obj := ⟨(.type "frame"), .none, .plain, #[(.some (.ref 71)), (.some (.ref 3)), (.some (.ref 67)), .none, (.some (.str "limits.util" 194)), .none, (.some (.ref 0))]⟩
noncomputable def o73 (P : Params) : Obj := ⟨(.type "tuple"), .none, (.seq #[] 0), #[]⟩
noncomputable def o74 (P : Params) : Obj := ⟨(.type "tuple"), .none, (.seq #[(.str "reset_time" 270), (.str "remaining" 271)] 0), #[]⟩
noncomputable def o75 (P : Params) : Obj := ⟨(.type "dict"), .none, (.dict #[] 0), #[]⟩
noncomputable def o76 (P : Params) : Obj := ⟨(.type "tuple"), .none, (.seq #[] 0), #[]⟩
noncomputable def o77 (P : Params) : Obj := ⟨.none, .none, (.fields #[]), #[]⟩
noncomputable def o78 (P : Params) : Obj := ⟨(.type "tuple"), .none, (.seq #[(.str "_cls" 277), (.str "reset_time" 278), (.str "remaining" 279)] 0), #[]⟩
noncomputable def o79 (P : Params) : Obj := ⟨(.type "tuple"), .none, (.seq #[] 0), #[]⟩
noncomputable def o80 (P : Params) : Obj := ⟨.none, .none, .func (fd (dC 4 4) fun a b sc => ⟨"__new__", "WindowStats.__new__", a, .stmts b, sc, 0, [], .none, .none, .none, .none, .none, .none, .none, 0⟩), #[]⟩
noncomputable def o81 (P : Params) : Obj := ⟨(.type "code"), .none, (.fields #[(.str "__new__" 274), (.str "WindowStats.__new__" 275), (.str "/claim/cut.py" 276), (.int 30 0), (.int 3 0), (.int 0 0), (.int 0 0), (.int 3 0), (.ref 76), (.bool true), (.int 181 0), (.ref 77), .none, (.ref 78), (.ref 79), (.ref 80), (.int 280 0), (.int 30 0), (.str "/claim/cut.py" 281)]), #[]⟩
noncomputable def o82 (P : Params) : Obj := ⟨(.type "function"), .none, .func (fd (dC 4 4) fun a b sc => ⟨"__new__", "WindowStats.__new__", a, .stmts b, sc, 3, [], .none, .none, (.str (docS (dC 4 4)) 282), (.str "limits.util" 194), .none, (.ref 81), .none, 0⟩), #[]⟩
noncomputable def o83 (P : Params) : Obj := ⟨(.type "tuple"), .none, (.seq #[] 0), #[]⟩
noncomputable def o84 (P : Params) : Obj := ⟨.none, .none, (.fields #[]), #[]⟩
noncomputable def o85 (P : Params) : Obj := ⟨(.type "tuple"), .none, (.seq #[(.str "cls" 287), (.str "iterable" 288), (.str "result" 289)] 0), #[]⟩
noncomputable def o86 (P : Params) : Obj := ⟨(.type "tuple"), .none, (.seq #[] 0), #[]⟩
noncomputable def o87 (P : Params) : Obj := ⟨.none, .none, .func (fd (dC 4 5) fun a b sc => ⟨"_make", "WindowStats._make", a, .stmts b, sc, 0, [], .none, .none, .none, .none, .none, .none, .none, 0⟩), #[]⟩
noncomputable def o88 (P : Params) : Obj := ⟨(.type "code"), .none, (.fields #[(.str "_make" 284), (.str "WindowStats._make" 285), (.str "/claim/cut.py" 286), (.int 34 0), (.int 2 0), (.int 0 0), (.int 0 0), (.int 3 0), (.ref 83), (.bool true), (.int 181 0), (.ref 84), .none, (.ref 85), (.ref 86), (.ref 87), (.int 290 0), (.int 34 0), (.str "/claim/cut.py" 291)]), #[]⟩
noncomputable def o89 (P : Params) : Obj := ⟨(.type "function"), .none, .func (fd (dC 4 5) fun a b sc => ⟨"_make", "WindowStats._make", a, .stmts b, sc, 3, [], .none, .none, (.str (docS (dC 4 5)) 292), (.str "limits.util" 194), (.some 92), (.ref 88), .none, 0⟩), #[]⟩
noncomputable def o90 (P : Params) : Obj := ⟨(.type "dict"), .none, (.dict #[⟨(PyData.keyHash P "__module__"), (.str "__module__" 294), (.str "limits.util" 194)⟩, ⟨(PyData.keyHash P "__name__"), (.str "__name__" 297), (.str "_make" 296)⟩, ⟨(PyData.keyHash P "__qualname__"), (.str "__qualname__" 300), (.str "WindowStats._make" 299)⟩, ⟨(PyData.keyHash P "__doc__"), (.str "__doc__" 302), (.str (docS (dC 4 5)) 292)⟩, ⟨(PyData.keyHash P "__annotations__"), (.str "__annotations__" 304), (.ref 92)⟩] 5), #[]⟩
noncomputable def o91 (P : Params) : Obj := ⟨(.type "classmethod"), (.some 90), (.fields #[(.ref 89), (.bool false)]), #[]⟩
noncomputable def o92 (P : Params) : Obj := ⟨(.type "dict"), .none, (.dict #[] 0), #[]⟩
noncomputable def o93 (P : Params) : Obj := ⟨(.type "tuple"), .none, (.seq #[(.ref 68)] 0), #[]⟩
noncomputable def o94 (P : Params) : Obj := ⟨(.type "tuple"), .none, (.seq #[(.str "__class__" 309)] 0), #[]⟩
noncomputable def o95 (P : Params) : Obj := ⟨.none, .none, (.fields #[]), #[]⟩
noncomputable def o96 (P : Params) : Obj := ⟨(.type "tuple"), .none, (.seq #[(.str "self" 310), (.str "kwds" 311), (.str "result" 312)] 0), #[]⟩
noncomputable def o97 (P : Params) : Obj := ⟨(.type "tuple"), .none, (.seq #[] 0), #[]⟩
noncomputable def o98 (P : Params) : Obj := ⟨.none, .none, .func (fd (dC 4 6) fun a b sc => ⟨"_replace", "WindowStats._replace", a, .stmts b, sc, 0, [], .none, .none, .none, .none, .none, .none, .none, 0⟩), #[]⟩
noncomputable def o99 (P : Params) : Obj := ⟨(.type "code"), .none, (.fields #[(.str "_replace" 306), (.str "WindowStats._replace" 307), (.str "/claim/cut.py" 308), (.int 42 0), (.int 1 0), (.int 1 0), (.int 0 0), (.int 11 0), (.ref 94), (.bool true), (.int 181 0), (.ref 95), .none, (.ref 96), (.ref 97), (.ref 98), (.int 313 0), (.int 42 0), (.str "/claim/cut.py" 314)]), #[]⟩
noncomputable def o100 (P : Params) : Obj := ⟨(.type "function"), .none, .func (fd (dC 4 6) fun a b sc => ⟨"_replace", "WindowStats._replace", a, .stmts b, sc, 3, [("__class__", 68)], .none, .none, (.str (docS (dC 4 6)) 315), (.str "limits.util" 194), .none, (.ref 99), (.ref 93), 0⟩), #[]⟩
noncomputable def o101 (P : Params) : Obj := ⟨(.type "tuple"), .none, (.seq #[] 0), #[]⟩
noncomputable def o102 (P : Params) : Obj := ⟨.none, .none, (.fields #[]), #[]⟩
noncomputable def o103 (P : Params) : Obj := ⟨(.type "tuple"), .none, (.seq #[(.str "self" 321)] 0), #[]⟩
noncomputable def o104 (P : Params) : Obj := ⟨(.type "tuple"), .none, (.seq #[] 0), #[]⟩
noncomputable def o105 (P : Params) : Obj := ⟨.none, .none, .func (fd (dC 4 8) fun a b sc => ⟨"__repr__", "WindowStats.__repr__", a, .stmts b, sc, 0, [], .none, .none, .none, .none, .none, .none, .none, 0⟩), #[]⟩
noncomputable def o106 (P : Params) : Obj := ⟨(.type "code"), .none, (.fields #[(.str "__repr__" 318), (.str "WindowStats.__repr__" 319), (.str "/claim/cut.py" 320), (.int 53 0), (.int 1 0), (.int 0 0), (.int 0 0), (.int 3 0), (.ref 101), (.bool true), (.int 181 0), (.ref 102), .none, (.ref 103), (.ref 104), (.ref 105), (.int 322 0), (.int 53 0), (.str "/claim/cut.py" 323)]), #[]⟩
noncomputable def o107 (P : Params) : Obj := ⟨(.type "function"), .none, .func (fd (dC 4 8) fun a b sc => ⟨"__repr__", "WindowStats.__repr__", a, .stmts b, sc, 3, [], .none, .none, (.str (docS (dC 4 8)) 324), (.str "limits.util" 194), .none, (.ref 106), .none, 0⟩), #[]⟩
noncomputable def o108 (P : Params) : Obj := ⟨(.type "tuple"), .none, (.seq #[] 0), #[]⟩
noncomputable def o109 (P : Params) : Obj := ⟨.none, .none, (.fields #[]), #[]⟩
noncomputable def o110 (P : Params) : Obj := ⟨(.type "tuple"), .none, (.seq #[(.str "self" 329)] 0), #[]⟩
noncomputable def o111 (P : Params) : Obj := ⟨(.type "tuple"), .none, (.seq #[] 0), #[]⟩
noncomputable def o112 (P : Params) : Obj := ⟨.none, .none, .func (fd (dC 4 9) fun a b sc => ⟨"_asdict", "WindowStats._asdict", a, .stmts b, sc, 0, [], .none, .none, .none, .none, .none, .none, .none, 0⟩), #[]⟩
noncomputable def o113 (P : Params) : Obj := ⟨(.type "code"), .none, (.fields #[(.str "_asdict" 326), (.str "WindowStats._asdict" 327), (.str "/claim/cut.py" 328), (.int 57 0), (.int 1 0), (.int 0 0), (.int 0 0), (.int 3 0), (.ref 108), (.bool true), (.int 181 0), (.ref 109), .none, (.ref 110), (.ref 111), (.ref 112), (.int 330 0), (.int 57 0), (.str "/claim/cut.py" 331)]), #[]⟩
noncomputable def o114 (P : Params) : Obj := ⟨(.type "function"), .none, .func (fd (dC 4 9) fun a b sc => ⟨"_asdict", "WindowStats._asdict", a, .stmts b, sc, 3, [], .none, .none, .none, (.str "limits.util" 194), .none, (.ref 113), .none, 0⟩), #[]⟩
noncomputable def o115 (P : Params) : Obj := ⟨(.type "tuple"), .none, (.seq #[] 0), #[]⟩
noncomputable def o116 (P : Params) : Obj := ⟨.none, .none, (.fields #[]), #[]⟩
noncomputable def o117 (P : Params) : Obj := ⟨(.type "tuple"), .none, (.seq #[(.str "self" 336)] 0), #[]⟩
noncomputable def o118 (P : Params) : Obj := ⟨(.type "tuple"), .none, (.seq #[] 0), #[]⟩
noncomputable def o119 (P : Params) : Obj := ⟨.none, .none, .func (fd (dC 4 10) fun a b sc => ⟨"__getnewargs__", "WindowStats.__getnewargs__", a, .stmts b, sc, 0, [], .none, .none, .none, .none, .none, .none, .none, 0⟩), #[]⟩
noncomputable def o120 (P : Params) : Obj := ⟨(.type "code"), .none, (.fields #[(.str "__getnewargs__" 333), (.str "WindowStats.__getnewargs__" 334), (.str "/claim/cut.py" 335), (.int 60 0), (.int 1 0), (.int 0 0), (.int 0 0), (.int 3 0), (.ref 115), (.bool true), (.int 181 0), (.ref 116), .none, (.ref 117), (.ref 118), (.ref 119), (.int 337 0), (.int 60 0), (.str "/claim/cut.py" 338)]), #[]⟩
noncomputable def o121 (P : Params) : Obj := ⟨(.type "function"), .none, .func (fd (dC 4 10) fun a b sc => ⟨"__getnewargs__", "WindowStats.__getnewargs__", a, .stmts b, sc, 3, [], .none, .none, (.str (docS (dC 4 10)) 339), (.str "limits.util" 194), .none, (.ref 120), .none, 0⟩), #[]⟩
noncomputable def o122 (P : Params) : Obj := ⟨(.type "tuple"), .none, (.seq #[(.str "reset_time" 341), (.str "remaining" 342)] 0), #[]⟩
noncomputable def o123 (P : Params) : Obj := ⟨(.type "dict"), .none, (.dict #[⟨(PyData.keyHash P "index"), (.str "index" 350), (.int 0 344)⟩, ⟨(PyData.keyHash P "__doc__"), (.str "__doc__" 352), (.str "Alias for field number 0" 345)⟩] 2), #[]⟩
noncomputable def o124 (P : Params) : Obj := ⟨(.ref 60), (.some 123), .plain, #[]⟩
noncomputable def o125 (P : Params) : Obj := ⟨(.type "frame"), .none, (.dict #[⟨(PyData.keyHash P "self"), (.str "self" 346), (.ref 124)⟩, ⟨(PyData.keyHash P "index"), (.str "index" 347), (.int 0 344)⟩, ⟨(PyData.keyHash P "doc"), (.str "doc" 348), (.str "Alias for field number 0" 345)⟩] 3), #[]⟩
noncomputable def o126 (P : Params) : Obj := ⟨(.type "dict"), .none, (.dict #[⟨(PyData.keyHash P "index"), (.str "index" 360), (.int 1 354)⟩, ⟨(PyData.keyHash P "__doc__"), (.str "__doc__" 362), (.str "Alias for field number 1" 355)⟩] 2), #[]⟩
noncomputable def o127 (P : Params) : Obj := ⟨(.ref 60), (.some 126), .plain, #[]⟩
noncomputable def o128 (P : Params) : Obj := ⟨(.type "frame"), .none, (.dict #[⟨(PyData.keyHash P "self"), (.str "self" 356), (.ref 127)⟩, ⟨(PyData.keyHash P "index"), (.str "index" 357), (.int 1 354)⟩, ⟨(PyData.keyHash P "doc"), (.str "doc" 358), (.str "Alias for field number 1" 355)⟩] 3), #[]⟩
noncomputable def o129 (P : Params) : Obj := ⟨(.type "tuple"), .none, (.seq #[] 0), #[]⟩
noncomputable def o130 (P : Params) : Obj := ⟨(.type "list"), .none, (.seq #[] 0), #[]⟩
noncomputable def o131 (P : Params) : Obj := ⟨(.type "dict"), .none, (.dict #[⟨(PyData.keyHash P "__module__"), (.str "__module__" 261), (.str "limits.util" 194)⟩, ⟨(PyData.keyHash P "__firstlineno__"), (.str "__firstlineno__" 265), (.int 24 264)⟩, ⟨(PyData.keyHash P "__doc__"), (.str "__doc__" 267), (.str (docS (dT 4)) 266)⟩, ⟨(PyData.keyHash P "__slots__"), (.str "__slots__" 269), (.ref 73)⟩, ⟨(PyData.keyHash P "_fields"), (.str "_fields" 272), (.ref 74)⟩, ⟨(PyData.keyHash P "_field_defaults"), (.str "_field_defaults" 273), (.ref 75)⟩, ⟨(PyData.keyHash P "__new__"), (.str "__new__" 283), (.ref 133)⟩, ⟨(PyData.keyHash P "_make"), (.str "_make" 305), (.ref 91)⟩, ⟨(PyData.keyHash P "_replace"), (.str "_replace" 316), (.ref 100)⟩, ⟨(PyData.keyHash P "__replace__"), (.str "__replace__" 317), (.ref 100)⟩, ⟨(PyData.keyHash P "__repr__"), (.str "__repr__" 325), (.ref 107)⟩, ⟨(PyData.keyHash P "_asdict"), (.str "_asdict" 332), (.ref 114)⟩, ⟨(PyData.keyHash P "__getnewargs__"), (.str "__getnewargs__" 340), (.ref 121)⟩, ⟨(PyData.keyHash P "__match_args__"), (.str "__match_args__" 343), (.ref 122)⟩, ⟨(PyData.keyHash P "reset_time"), (.str "reset_time" 353), (.ref 124)⟩, ⟨(PyData.keyHash P "remaining"), (.str "remaining" 363), (.ref 127)⟩, ⟨(PyData.keyHash P "__static_attributes__"), (.str "__static_attributes__" 364), (.ref 129)⟩] 2), #[]⟩
noncomputable def o132 (P : Params) : Obj := ⟨(.type "type"), .none, (.cls ⟨"WindowStats", [(.type "tuple")], [(.ref 132), (.type "tuple"), (.type "object")], 131, "WindowStats", false, [], [], false, .none, false⟩), #[(.some (.ref 65)), .none, (.some (.str "WindowStats" 254)), (.some (.str "WindowStats" 262)), (.some .none), (.some (.bool false))]⟩
noncomputable def o133 (P : Params) : Obj := ⟨(.type "staticmethod"), .none, (.fields #[(.ref 82)]), #[]⟩
noncomputable def o134 (P : Params) : Obj := ⟨(.type "super"), .none, (.fields #[(.ref 132), (.ref 132), (.ref 132)]), #[]⟩
noncomputable def o135 (P : Params) : Obj := ⟨(.type "builtin_function_or_method"), .none, (.fields #[(.builtin "object.__init_subclass__"), (.ref 132)]), #[]⟩
noncomputable def o136 (P : Params) : Obj := ⟨(.type "tuple"), .none, (.seq #[] 0), #[]⟩
noncomputable def o137 (P : Params) : Obj := ⟨(.type "builtin_function_or_method"), .none, (.fields #[(.builtin "type.__prepare__"), (.type "type")]), #[]⟩
noncomputable def o138 (P : Params) : Obj := ⟨(.type "dict"), .none, (.dict #[⟨(PyData.keyHash P "__module__"), (.str "__module__" 378), (.str "limits.strategies" 369)⟩, ⟨(PyData.keyHash P "__qualname__"), (.str "__qualname__" 380), (.str "RateLimiter" 379)⟩, ⟨(PyData.keyHash P "__firstlineno__"), (.str "__firstlineno__" 382), (.int 67 381)⟩, ⟨(PyData.keyHash P "__init__"), (.str "__init__" 390), (.ref 149)⟩, ⟨(PyData.keyHash P "clear"), (.str "clear" 399), (.ref 158)⟩, ⟨(PyData.keyHash P "__static_attributes__"), (.str "__static_attributes__" 401), (.ref 159)⟩] 6), #[]⟩
noncomputable def o139 (P : Params) : Obj := ⟨(.type "tuple"), .none, (.seq #[] 0), #[]⟩
noncomputable def o140 (P : Params) : Obj := ⟨.none, .none, (.fields #[(.int 69 0), (.int 4 0), (.ref 148), (.int 72 0), (.int 4 0), (.ref 157)]), #[]⟩
noncomputable def o141 (P : Params) : Obj := ⟨(.type "code"), .none, (.fields #[(.str "RateLimiter" 373), (.str "RateLimiter" 374), (.str "/claim/cut.py" 375), (.int 67 0), (.int 0 0), (.int 0 0), (.int 0 0), (.int 0 0), (.ref 139), (.bool false), (.int 181 0), (.ref 140), .none, .none, .none, .none, (.int 376 0), (.int 67 0), (.str "/claim/cut.py" 377)]), #[]⟩
noncomputable def o142 (P : Params) : Obj := ⟨(.type "frame"), .none, .plain, #[(.some (.ref 141)), (.some (.ref 3)), (.some (.ref 138)), .none, (.some (.str "limits.strategies" 369)), .none, (.some (.ref 0))]⟩
noncomputable def o143 (P : Params) : Obj := ⟨(.type "tuple"), .none, (.seq #[] 0), #[]⟩
noncomputable def o144 (P : Params) : Obj := ⟨.none, .none, (.fields #[]), #[]⟩
noncomputable def o145 (P : Params) : Obj := ⟨(.type "tuple"), .none, (.seq #[(.str "self" 386), (.str "storage" 387)] 0), #[]⟩
noncomputable def o146 (P : Params) : Obj := ⟨(.type "tuple"), .none, (.seq #[] 0), #[]⟩
noncomputable def o147 (P : Params) : Obj := ⟨.none, .none, .func (fd (dC 6 0) fun a b sc => ⟨"__init__", "RateLimiter.__init__", a, .stmts b, sc, 0, [], .none, .none, .none, .none, .none, .none, .none, 0⟩), #[]⟩
noncomputable def o148 (P : Params) : Obj := ⟨(.type "code"), .none, (.fields #[(.str "__init__" 383), (.str "RateLimiter.__init__" 384), (.str "/claim/cut.py" 385), (.int 69 0), (.int 2 0), (.int 0 0), (.int 0 0), (.int 3 0), (.ref 143), (.bool true), (.int 181 0), (.ref 144), .none, (.ref 145), (.ref 146), (.ref 147), (.int 388 0), (.int 69 0), (.str "/claim/cut.py" 389)]), #[]⟩
noncomputable def o149 (P : Params) : Obj := ⟨(.type "function"), .none, .func (fd (dC 6 0) fun a b sc => ⟨"__init__", "RateLimiter.__init__", a, .stmts b, sc, 3, [], .none, .none, .none, (.str "limits.strategies" 369), .none, (.ref 148), .none, 0⟩), #[]⟩
noncomputable def o150 (P : Params) : Obj := ⟨(.type "tuple"), .none, (.seq #[] 0), #[]⟩
noncomputable def o151 (P : Params) : Obj := ⟨(.type "tuple"), .none, (.seq #[(.ref 150)] 0), #[]⟩
noncomputable def o152 (P : Params) : Obj := ⟨(.type "tuple"), .none, (.seq #[] 0), #[]⟩
noncomputable def o153 (P : Params) : Obj := ⟨.none, .none, (.fields #[]), #[]⟩
noncomputable def o154 (P : Params) : Obj := ⟨(.type "tuple"), .none, (.seq #[(.str "self" 394), (.str "item" 395), (.str "identifiers" 396)] 0), #[]⟩
noncomputable def o155 (P : Params) : Obj := ⟨(.type "tuple"), .none, (.seq #[] 0), #[]⟩
noncomputable def o156 (P : Params) : Obj := ⟨.none, .none, .func (fd (dC 6 1) fun a b sc => ⟨"clear", "RateLimiter.clear", a, .stmts b, sc, 0, [], .none, .none, .none, .none, .none, .none, .none, 0⟩), #[]⟩
noncomputable def o157 (P : Params) : Obj := ⟨(.type "code"), .none, (.fields #[(.str "clear" 391), (.str "RateLimiter.clear" 392), (.str "/claim/cut.py" 393), (.int 72 0), (.int 3 0), (.int 0 0), (.int 0 0), (.int 3 0), (.ref 152), (.bool true), (.int 181 0), (.ref 153), .none, (.ref 154), (.ref 155), (.ref 156), (.int 397 0), (.int 72 0), (.str "/claim/cut.py" 398)]), #[]⟩
noncomputable def o158 (P : Params) : Obj := ⟨(.type "function"), .none, .func (fd (dC 6 1) fun a b sc => ⟨"clear", "RateLimiter.clear", a, .stmts b, sc, 3, [], (.ref 151), .none, .none, (.str "limits.strategies" 369), .none, (.ref 157), .none, 0⟩), #[]⟩
noncomputable def o159 (P : Params) : Obj := ⟨(.type "tuple"), .none, (.seq #[(.str "storage" 400)] 0), #[]⟩
noncomputable def o160 (P : Params) : Obj := ⟨(.type "dict"), .none, (.dict #[⟨(PyData.keyHash P "__module__"), (.str "__module__" 378), (.str "limits.strategies" 369)⟩, ⟨(PyData.keyHash P "__firstlineno__"), (.str "__firstlineno__" 382), (.int 67 381)⟩, ⟨(PyData.keyHash P "__init__"), (.str "__init__" 390), (.ref 149)⟩, ⟨(PyData.keyHash P "clear"), (.str "clear" 399), (.ref 158)⟩, ⟨(PyData.keyHash P "__static_attributes__"), (.str "__static_attributes__" 401), (.ref 159)⟩, ⟨(PyData.keyHash P "__dict__"), (.str "__dict__" 403), (.ref 162)⟩, ⟨(PyData.keyHash P "__weakref__"), (.str "__weakref__" 405), (.ref 163)⟩, ⟨(PyData.keyHash P "__doc__"), (.str "__doc__" 406), .none⟩] 4), #[]⟩
noncomputable def o161 (P : Params) : Obj := ⟨(.type "type"), .none, (.cls ⟨"RateLimiter", [(.type "object")], [(.ref 161), (.type "object")], 160, "RateLimiter", true, [], [(.ref 202)], false, .none, false⟩), #[.none, .none, (.some (.str "RateLimiter" 371)), (.some (.str "RateLimiter" 379)), (.some (.builtin "object.__new__")), (.some (.bool true))]⟩
noncomputable def o162 (P : Params) : Obj := ⟨(.type "getset_descriptor"), .none, (.fields #[(.str "__dict__" 402), (.ref 161), (.builtin "function.__dict__"), (.builtin "function.__dict__#set")]), #[]⟩
noncomputable def o163 (P : Params) : Obj := ⟨(.type "getset_descriptor"), .none, (.fields #[(.str "__weakref__" 404), (.ref 161), (.builtin "ExceptionGroup.__weakref__"), .none]), #[]⟩
noncomputable def o164 (P : Params) : Obj := ⟨(.type "super"), .none, (.fields #[(.ref 161), (.ref 161), (.ref 161)]), #[]⟩
noncomputable def o165 (P : Params) : Obj := ⟨(.type "builtin_function_or_method"), .none, (.fields #[(.builtin "object.__init_subclass__"), (.ref 161)]), #[]⟩
noncomputable def o166 (P : Params) : Obj := ⟨(.type "tuple"), .none, (.seq #[(.ref 161)] 0), #[]⟩
noncomputable def o167 (P : Params) : Obj := ⟨(.type "builtin_function_or_method"), .none, (.fields #[(.builtin "type.__prepare__"), (.type "type")]), #[]⟩
noncomputable def o168 (P : Params) : Obj := ⟨(.type "dict"), .none, (.dict #[⟨(PyData.keyHash P "__module__"), (.str "__module__" 416), (.str "limits.strategies" 369)⟩, ⟨(PyData.keyHash P "__qualname__"), (.str "__qualname__" 418), (.str "FixedWindowRateLimiter" 417)⟩, ⟨(PyData.keyHash P "__firstlineno__"), (.str "__firstlineno__" 420), (.int 74 419)⟩, ⟨(PyData.keyHash P "__doc__"), (.str "__doc__" 422), (.str (docS (dT 7)) 421)⟩, ⟨(PyData.keyHash P "hit"), (.str "hit" 435), (.ref 181)⟩, ⟨(PyData.keyHash P "test"), (.str "test" 447), (.ref 190)⟩, ⟨(PyData.keyHash P "get_window_stats"), (.str "get_window_stats" 459), (.ref 199)⟩, ⟨(PyData.keyHash P "__static_attributes__"), (.str "__static_attributes__" 460), (.ref 200)⟩] 8), #[]⟩
noncomputable def o169 (P : Params) : Obj := ⟨(.type "tuple"), .none, (.seq #[] 0), #[]⟩
noncomputable def o170 (P : Params) : Obj := ⟨.none, .none, (.fields #[(.int 79 0), (.int 4 0), (.ref 180), (.int 92 0), (.int 4 0), (.ref 189), (.int 105 0), (.int 4 0), (.ref 198)]), #[]⟩
noncomputable def o171 (P : Params) : Obj := ⟨(.type "code"), .none, (.fields #[(.str "FixedWindowRateLimiter" 411), (.str "FixedWindowRateLimiter" 412), (.str "/claim/cut.py" 413), (.int 74 0), (.int 0 0), (.int 0 0), (.int 0 0), (.int 0 0), (.ref 169), (.bool false), (.int 181 0), (.ref 170), .none, .none, .none, .none, (.int 414 0), (.int 74 0), (.str "/claim/cut.py" 415)]), #[]⟩
noncomputable def o172 (P : Params) : Obj := ⟨(.type "frame"), .none, .plain, #[(.some (.ref 171)), (.some (.ref 3)), (.some (.ref 168)), .none, (.some (.str "limits.strategies" 369)), .none, (.some (.ref 0))]⟩
noncomputable def o173 (P : Params) : Obj := ⟨(.type "tuple"), .none, (.seq #[] 0), #[]⟩
noncomputable def o174 (P : Params) : Obj := ⟨(.type "tuple"), .none, (.seq #[(.ref 173), (.int 1 424)] 0), #[]⟩
noncomputable def o175 (P : Params) : Obj := ⟨(.type "tuple"), .none, (.seq #[] 0), #[]⟩
noncomputable def o176 (P : Params) : Obj := ⟨.none, .none, (.fields #[]), #[]⟩
noncomputable def o177 (P : Params) : Obj := ⟨(.type "tuple"), .none, (.seq #[(.str "self" 428), (.str "item" 429), (.str "identifiers" 430), (.str "cost" 431)] 0), #[]⟩
noncomputable def o178 (P : Params) : Obj := ⟨(.type "tuple"), .none, (.seq #[] 0), #[]⟩
noncomputable def o179 (P : Params) : Obj := ⟨.none, .none, .func (fd (dC 7 1) fun a b sc => ⟨"hit", "FixedWindowRateLimiter.hit", a, .stmts b, sc, 0, [], .none, .none, .none, .none, .none, .none, .none, 0⟩), #[]⟩
noncomputable def o180 (P : Params) : Obj := ⟨(.type "code"), .none, (.fields #[(.str "hit" 425), (.str "FixedWindowRateLimiter.hit" 426), (.str "/claim/cut.py" 427), (.int 79 0), (.int 4 0), (.int 0 0), (.int 0 0), (.int 3 0), (.ref 175), (.bool true), (.int 181 0), (.ref 176), .none, (.ref 177), (.ref 178), (.ref 179), (.int 432 0), (.int 79 0), (.str "/claim/cut.py" 433)]), #[]⟩
noncomputable def o181 (P : Params) : Obj := ⟨(.type "function"), .none, .func (fd (dC 7 1) fun a b sc => ⟨"hit", "FixedWindowRateLimiter.hit", a, .stmts b, sc, 3, [], (.ref 174), .none, (.str (docS (dC 7 1)) 434), (.str "limits.strategies" 369), .none, (.ref 180), .none, 0⟩), #[]⟩
noncomputable def o182 (P : Params) : Obj := ⟨(.type "tuple"), .none, (.seq #[] 0), #[]⟩
noncomputable def o183 (P : Params) : Obj := ⟨(.type "tuple"), .none, (.seq #[(.ref 182), (.int 1 436)] 0), #[]⟩
noncomputable def o184 (P : Params) : Obj := ⟨(.type "tuple"), .none, (.seq #[] 0), #[]⟩
noncomputable def o185 (P : Params) : Obj := ⟨.none, .none, (.fields #[]), #[]⟩
noncomputable def o186 (P : Params) : Obj := ⟨(.type "tuple"), .none, (.seq #[(.str "self" 440), (.str "item" 441), (.str "identifiers" 442), (.str "cost" 443)] 0), #[]⟩
noncomputable def o187 (P : Params) : Obj := ⟨(.type "tuple"), .none, (.seq #[] 0), #[]⟩
noncomputable def o188 (P : Params) : Obj := ⟨.none, .none, .func (fd (dC 7 2) fun a b sc => ⟨"test", "FixedWindowRateLimiter.test", a, .stmts b, sc, 0, [], .none, .none, .none, .none, .none, .none, .none, 0⟩), #[]⟩
noncomputable def o189 (P : Params) : Obj := ⟨(.type "code"), .none, (.fields #[(.str "test" 437), (.str "FixedWindowRateLimiter.test" 438), (.str "/claim/cut.py" 439), (.int 92 0), (.int 4 0), (.int 0 0), (.int 0 0), (.int 3 0), (.ref 184), (.bool true), (.int 181 0), (.ref 185), .none, (.ref 186), (.ref 187), (.ref 188), (.int 444 0), (.int 92 0), (.str "/claim/cut.py" 445)]), #[]⟩
noncomputable def o190 (P : Params) : Obj := ⟨(.type "function"), .none, .func (fd (dC 7 2) fun a b sc => ⟨"test", "FixedWindowRateLimiter.test", a, .stmts b, sc, 3, [], (.ref 183), .none, (.str (docS (dC 7 2)) 446), (.str "limits.strategies" 369), .none, (.ref 189), .none, 0⟩), #[]⟩
noncomputable def o191 (P : Params) : Obj := ⟨(.type "tuple"), .none, (.seq #[] 0), #[]⟩
noncomputable def o192 (P : Params) : Obj := ⟨(.type "tuple"), .none, (.seq #[(.ref 191)] 0), #[]⟩
noncomputable def o193 (P : Params) : Obj := ⟨(.type "tuple"), .none, (.seq #[] 0), #[]⟩
noncomputable def o194 (P : Params) : Obj := ⟨.none, .none, (.fields #[]), #[]⟩
noncomputable def o195 (P : Params) : Obj := ⟨(.type "tuple"), .none, (.seq #[(.str "self" 451), (.str "item" 452), (.str "identifiers" 453), (.str "remaining" 454), (.str "reset" 455)] 0), #[]⟩
noncomputable def o196 (P : Params) : Obj := ⟨(.type "tuple"), .none, (.seq #[] 0), #[]⟩
noncomputable def o197 (P : Params) : Obj := ⟨.none, .none, .func (fd (dC 7 3) fun a b sc => ⟨"get_window_stats", "FixedWindowRateLimiter.get_window_stats", a, .stmts b, sc, 0, [], .none, .none, .none, .none, .none, .none, .none, 0⟩), #[]⟩
noncomputable def o198 (P : Params) : Obj := ⟨(.type "code"), .none, (.fields #[(.str "get_window_stats" 448), (.str "FixedWindowRateLimiter.get_window_stats" 449), (.str "/claim/cut.py" 450), (.int 105 0), (.int 3 0), (.int 0 0), (.int 0 0), (.int 3 0), (.ref 193), (.bool true), (.int 181 0), (.ref 194), .none, (.ref 195), (.ref 196), (.ref 197), (.int 456 0), (.int 105 0), (.str "/claim/cut.py" 457)]), #[]⟩
noncomputable def o199 (P : Params) : Obj := ⟨(.type "function"), .none, .func (fd (dC 7 3) fun a b sc => ⟨"get_window_stats", "FixedWindowRateLimiter.get_window_stats", a, .stmts b, sc, 3, [], (.ref 192), .none, (.str (docS (dC 7 3)) 458), (.str "limits.strategies" 369), .none, (.ref 198), .none, 0⟩), #[]⟩
noncomputable def o200 (P : Params) : Obj := ⟨(.type "tuple"), .none, (.seq #[] 0), #[]⟩
noncomputable def o201 (P : Params) : Obj := ⟨(.type "dict"), .none, (.dict #[⟨(PyData.keyHash P "__module__"), (.str "__module__" 416), (.str "limits.strategies" 369)⟩, ⟨(PyData.keyHash P "__firstlineno__"), (.str "__firstlineno__" 420), (.int 74 419)⟩, ⟨(PyData.keyHash P "__doc__"), (.str "__doc__" 422), (.str (docS (dT 7)) 421)⟩, ⟨(PyData.keyHash P "hit"), (.str "hit" 435), (.ref 181)⟩, ⟨(PyData.keyHash P "test"), (.str "test" 447), (.ref 190)⟩, ⟨(PyData.keyHash P "get_window_stats"), (.str "get_window_stats" 459), (.ref 199)⟩, ⟨(PyData.keyHash P "__static_attributes__"), (.str "__static_attributes__" 460), (.ref 200)⟩] 1), #[]⟩
noncomputable def o202 (P : Params) : Obj := ⟨(.type "type"), .none, (.cls ⟨"FixedWindowRateLimiter", [(.ref 161)], [(.ref 202), (.ref 161), (.type "object")], 201, "FixedWindowRateLimiter", true, [], [], false, .none, false⟩), #[(.some (.ref 166)), .none, (.some (.str "FixedWindowRateLimiter" 409)), (.some (.str "FixedWindowRateLimiter" 417)), (.some (.builtin "object.__new__")), (.some (.bool true))]⟩
noncomputable def o203 (P : Params) : Obj := ⟨(.type "super"), .none, (.fields #[(.ref 202), (.ref 202), (.ref 202)]), #[]⟩
noncomputable def o204 (P : Params) : Obj := ⟨(.type "builtin_function_or_method"), .none, (.fields #[(.builtin "object.__init_subclass__"), (.ref 202)]), #[]⟩
noncomputable def o205 (P : Params) : Obj := ⟨(.type "tuple"), .none, (.seq #[] 0), #[]⟩
noncomputable def o206 (P : Params) : Obj := ⟨(.type "builtin_function_or_method"), .none, (.fields #[(.builtin "type.__prepare__"), (.type "type")]), #[]⟩
noncomputable def o207 (P : Params) : Obj := ⟨(.type "dict"), .none, (.dict #[⟨(PyData.keyHash P "__module__"), (.str "__module__" 472), (.str "limits.limits" 463)⟩, ⟨(PyData.keyHash P "__qualname__"), (.str "__qualname__" 474), (.str "_tuplegetter" 473)⟩, ⟨(PyData.keyHash P "__firstlineno__"), (.str "__firstlineno__" 476), (.int 118 475)⟩, ⟨(PyData.keyHash P "__init__"), (.str "__init__" 485), (.ref 218)⟩, ⟨(PyData.keyHash P "__get__"), (.str "__get__" 494), (.ref 226)⟩, ⟨(PyData.keyHash P "__set__"), (.str "__set__" 503), (.ref 233)⟩, ⟨(PyData.keyHash P "__delete__"), (.str "__delete__" 511), (.ref 240)⟩, ⟨(PyData.keyHash P "__static_attributes__"), (.str "__static_attributes__" 514), (.ref 241)⟩] 8), #[]⟩
noncomputable def o208 (P : Params) : Obj := ⟨(.type "tuple"), .none, (.seq #[] 0), #[]⟩
noncomputable def o209 (P : Params) : Obj := ⟨.none, .none, (.fields #[(.int 120 0), (.int 4 0), (.ref 217), (.int 124 0), (.int 4 0), (.ref 225), (.int 131 0), (.int 4 0), (.ref 232), (.int 134 0), (.int 4 0), (.ref 239)]), #[]⟩
noncomputable def o210 (P : Params) : Obj := ⟨(.type "code"), .none, (.fields #[(.str "_tuplegetter" 467), (.str "_tuplegetter" 468), (.str "/claim/cut.py" 469), (.int 118 0), (.int 0 0), (.int 0 0), (.int 0 0), (.int 0 0), (.ref 208), (.bool false), (.int 181 0), (.ref 209), .none, .none, .none, .none, (.int 470 0), (.int 118 0), (.str "/claim/cut.py" 471)]), #[]⟩
noncomputable def o211 (P : Params) : Obj := ⟨(.type "frame"), .none, .plain, #[(.some (.ref 210)), (.some (.ref 3)), (.some (.ref 207)), .none, (.some (.str "limits.limits" 463)), .none, (.some (.ref 0))]⟩
noncomputable def o212 (P : Params) : Obj := ⟨(.type "tuple"), .none, (.seq #[] 0), #[]⟩
noncomputable def o213 (P : Params) : Obj := ⟨.none, .none, (.fields #[]), #[]⟩
noncomputable def o214 (P : Params) : Obj := ⟨(.type "tuple"), .none, (.seq #[(.str "self" 480), (.str "index" 481), (.str "doc" 482)] 0), #[]⟩
noncomputable def o215 (P : Params) : Obj := ⟨(.type "tuple"), .none, (.seq #[] 0), #[]⟩
noncomputable def o216 (P : Params) : Obj := ⟨.none, .none, .func (fd (dC 9 0) fun a b sc => ⟨"__init__", "_tuplegetter.__init__", a, .stmts b, sc, 0, [], .none, .none, .none, .none, .none, .none, .none, 0⟩), #[]⟩
noncomputable def o217 (P : Params) : Obj := ⟨(.type "code"), .none, (.fields #[(.str "__init__" 477), (.str "_tuplegetter.__init__" 478), (.str "/claim/cut.py" 479), (.int 120 0), (.int 3 0), (.int 0 0), (.int 0 0), (.int 3 0), (.ref 212), (.bool true), (.int 181 0), (.ref 213), .none, (.ref 214), (.ref 215), (.ref 216), (.int 483 0), (.int 120 0), (.str "/claim/cut.py" 484)]), #[]⟩
noncomputable def o218 (P : Params) : Obj := ⟨(.type "function"), .none, .func (fd (dC 9 0) fun a b sc => ⟨"__init__", "_tuplegetter.__init__", a, .stmts b, sc, 3, [], .none, .none, .none, (.str "limits.limits" 463), .none, (.ref 217), .none, 0⟩), #[]⟩
noncomputable def o219 (P : Params) : Obj := ⟨(.type "tuple"), .none, (.seq #[.none] 0), #[]⟩
noncomputable def o220 (P : Params) : Obj := ⟨(.type "tuple"), .none, (.seq #[] 0), #[]⟩
noncomputable def o221 (P : Params) : Obj := ⟨.none, .none, (.fields #[]), #[]⟩
noncomputable def o222 (P : Params) : Obj := ⟨(.type "tuple"), .none, (.seq #[(.str "self" 489), (.str "obj" 490), (.str "objtype" 491)] 0), #[]⟩
noncomputable def o223 (P : Params) : Obj := ⟨(.type "tuple"), .none, (.seq #[] 0), #[]⟩
noncomputable def o224 (P : Params) : Obj := ⟨.none, .none, .func (fd (dC 9 1) fun a b sc => ⟨"__get__", "_tuplegetter.__get__", a, .stmts b, sc, 0, [], .none, .none, .none, .none, .none, .none, .none, 0⟩), #[]⟩
noncomputable def o225 (P : Params) : Obj := ⟨(.type "code"), .none, (.fields #[(.str "__get__" 486), (.str "_tuplegetter.__get__" 487), (.str "/claim/cut.py" 488), (.int 124 0), (.int 3 0), (.int 0 0), (.int 0 0), (.int 3 0), (.ref 220), (.bool true), (.int 181 0), (.ref 221), .none, (.ref 222), (.ref 223), (.ref 224), (.int 492 0), (.int 124 0), (.str "/claim/cut.py" 493)]), #[]⟩
noncomputable def o226 (P : Params) : Obj := ⟨(.type "function"), .none, .func (fd (dC 9 1) fun a b sc => ⟨"__get__", "_tuplegetter.__get__", a, .stmts b, sc, 3, [], (.ref 219), .none, .none, (.str "limits.limits" 463), .none, (.ref 225), .none, 0⟩), #[]⟩
noncomputable def o227 (P : Params) : Obj := ⟨(.type "tuple"), .none, (.seq #[] 0), #[]⟩
noncomputable def o228 (P : Params) : Obj := ⟨.none, .none, (.fields #[]), #[]⟩
noncomputable def o229 (P : Params) : Obj := ⟨(.type "tuple"), .none, (.seq #[(.str "self" 498), (.str "obj" 499), (.str "value" 500)] 0), #[]⟩
noncomputable def o230 (P : Params) : Obj := ⟨(.type "tuple"), .none, (.seq #[] 0), #[]⟩
noncomputable def o231 (P : Params) : Obj := ⟨.none, .none, .func (fd (dC 9 2) fun a b sc => ⟨"__set__", "_tuplegetter.__set__", a, .stmts b, sc, 0, [], .none, .none, .none, .none, .none, .none, .none, 0⟩), #[]⟩
noncomputable def o232 (P : Params) : Obj := ⟨(.type "code"), .none, (.fields #[(.str "__set__" 495), (.str "_tuplegetter.__set__" 496), (.str "/claim/cut.py" 497), (.int 131 0), (.int 3 0), (.int 0 0), (.int 0 0), (.int 3 0), (.ref 227), (.bool true), (.int 181 0), (.ref 228), .none, (.ref 229), (.ref 230), (.ref 231), (.int 501 0), (.int 131 0), (.str "/claim/cut.py" 502)]), #[]⟩
noncomputable def o233 (P : Params) : Obj := ⟨(.type "function"), .none, .func (fd (dC 9 2) fun a b sc => ⟨"__set__", "_tuplegetter.__set__", a, .stmts b, sc, 3, [], .none, .none, .none, (.str "limits.limits" 463), .none, (.ref 232), .none, 0⟩), #[]⟩
noncomputable def o234 (P : Params) : Obj := ⟨(.type "tuple"), .none, (.seq #[] 0), #[]⟩
noncomputable def o235 (P : Params) : Obj := ⟨.none, .none, (.fields #[]), #[]⟩
noncomputable def o236 (P : Params) : Obj := ⟨(.type "tuple"), .none, (.seq #[(.str "self" 507), (.str "obj" 508)] 0), #[]⟩
noncomputable def o237 (P : Params) : Obj := ⟨(.type "tuple"), .none, (.seq #[] 0), #[]⟩
noncomputable def o238 (P : Params) : Obj := ⟨.none, .none, .func (fd (dC 9 3) fun a b sc => ⟨"__delete__", "_tuplegetter.__delete__", a, .stmts b, sc, 0, [], .none, .none, .none, .none, .none, .none, .none, 0⟩), #[]⟩
noncomputable def o239 (P : Params) : Obj := ⟨(.type "code"), .none, (.fields #[(.str "__delete__" 504), (.str "_tuplegetter.__delete__" 505), (.str "/claim/cut.py" 506), (.int 134 0), (.int 2 0), (.int 0 0), (.int 0 0), (.int 3 0), (.ref 234), (.bool true), (.int 181 0), (.ref 235), .none, (.ref 236), (.ref 237), (.ref 238), (.int 509 0), (.int 134 0), (.str "/claim/cut.py" 510)]), #[]⟩
noncomputable def o240 (P : Params) : Obj := ⟨(.type "function"), .none, .func (fd (dC 9 3) fun a b sc => ⟨"__delete__", "_tuplegetter.__delete__", a, .stmts b, sc, 3, [], .none, .none, .none, (.str "limits.limits" 463), .none, (.ref 239), .none, 0⟩), #[]⟩
noncomputable def o241 (P : Params) : Obj := ⟨(.type "tuple"), .none, (.seq #[(.str "__doc__" 512), (.str "index" 513)] 0), #[]⟩
noncomputable def o242 (P : Params) : Obj := ⟨(.type "dict"), .none, (.dict #[⟨(PyData.keyHash P "__module__"), (.str "__module__" 472), (.str "limits.limits" 463)⟩, ⟨(PyData.keyHash P "__firstlineno__"), (.str "__firstlineno__" 476), (.int 118 475)⟩, ⟨(PyData.keyHash P "__init__"), (.str "__init__" 485), (.ref 218)⟩, ⟨(PyData.keyHash P "__get__"), (.str "__get__" 494), (.ref 226)⟩, ⟨(PyData.keyHash P "__set__"), (.str "__set__" 503), (.ref 233)⟩, ⟨(PyData.keyHash P "__delete__"), (.str "__delete__" 511), (.ref 240)⟩, ⟨(PyData.keyHash P "__static_attributes__"), (.str "__static_attributes__" 514), (.ref 241)⟩, ⟨(PyData.keyHash P "__dict__"), (.str "__dict__" 516), (.ref 244)⟩, ⟨(PyData.keyHash P "__weakref__"), (.str "__weakref__" 518), (.ref 245)⟩, ⟨(PyData.keyHash P "__doc__"), (.str "__doc__" 519), .none⟩] 4), #[]⟩
noncomputable def o243 (P : Params) : Obj := ⟨(.type "type"), .none, (.cls ⟨"_tuplegetter", [(.type "object")], [(.ref 243), (.type "object")], 242, "_tuplegetter", true, [], [], false, .none, false⟩), #[.none, .none, (.some (.str "_tuplegetter" 465)), (.some (.str "_tuplegetter" 473)), (.some (.builtin "object.__new__")), (.some (.bool true))]⟩
noncomputable def o244 (P : Params) : Obj := ⟨(.type "getset_descriptor"), .none, (.fields #[(.str "__dict__" 515), (.ref 243), (.builtin "function.__dict__"), (.builtin "function.__dict__#set")]), #[]⟩
noncomputable def o245 (P : Params) : Obj := ⟨(.type "getset_descriptor"), .none, (.fields #[(.str "__weakref__" 517), (.ref 243), (.builtin "ExceptionGroup.__weakref__"), .none]), #[]⟩
noncomputable def o246 (P : Params) : Obj := ⟨(.type "super"), .none, (.fields #[(.ref 243), (.ref 243), (.ref 243)]), #[]⟩
noncomputable def o247 (P : Params) : Obj := ⟨(.type "builtin_function_or_method"), .none, (.fields #[(.builtin "object.__init_subclass__"), (.ref 243)]), #[]⟩
noncomputable def o248 (P : Params) : Obj := ⟨(.type "tuple"), .none, (.seq #[] 0), #[]⟩
noncomputable def o249 (P : Params) : Obj := ⟨.none, .none, (.fields #[]), #[]⟩
noncomputable def o250 (P : Params) : Obj := ⟨(.type "tuple"), .none, (.seq #[(.str "value" 526)] 0), #[]⟩
noncomputable def o251 (P : Params) : Obj := ⟨(.type "tuple"), .none, (.seq #[] 0), #[]⟩
noncomputable def o252 (P : Params) : Obj := ⟨.none, .none, .func (fd (dT 11) fun a b sc => ⟨"safe_string", "safe_string", a, .stmts b, sc, 0, [], .none, .none, .none, .none, .none, .none, .none, 0⟩), #[]⟩
noncomputable def o253 (P : Params) : Obj := ⟨(.type "code"), .none, (.fields #[(.str "safe_string" 523), (.str "safe_string" 524), (.str "/claim/cut.py" 525), (.int 137 0), (.int 1 0), (.int 0 0), (.int 0 0), (.int 3 0), (.ref 248), (.bool true), (.int 181 0), (.ref 249), .none, (.ref 250), (.ref 251), (.ref 252), (.int 527 0), (.int 137 0), (.str "/claim/cut.py" 528)]), #[]⟩
noncomputable def o254 (P : Params) : Obj := ⟨(.type "function"), .none, .func (fd (dT 11) fun a b sc => ⟨"safe_string", "safe_string", a, .stmts b, sc, 3, [], .none, .none, (.str (docS (dT 11)) 529), (.str "limits.limits" 463), .none, (.ref 253), .none, 0⟩), #[]⟩
noncomputable def o255 (P : Params) : Obj := ⟨(.type "tuple"), .none, (.seq #[(.type "tuple")] 0), #[]⟩
noncomputable def o256 (P : Params) : Obj := ⟨(.type "builtin_function_or_method"), .none, (.fields #[(.builtin "type.__prepare__"), (.type "type")]), #[]⟩
noncomputable def o257 (P : Params) : Obj := ⟨(.type "dict"), .none, (.dict #[⟨(PyData.keyHash P "__module__"), (.str "__module__" 538), (.str "limits.limits" 463)⟩, ⟨(PyData.keyHash P "__qualname__"), (.str "__qualname__" 540), (.str "Granularity" 539)⟩, ⟨(PyData.keyHash P "__firstlineno__"), (.str "__firstlineno__" 542), (.int 144 541)⟩, ⟨(PyData.keyHash P "__doc__"), (.str "__doc__" 544), (.str "Granularity(seconds, name)" 543)⟩, ⟨(PyData.keyHash P "__slots__"), (.str "__slots__" 546), (.ref 263)⟩, ⟨(PyData.keyHash P "_fields"), (.str "_fields" 549), (.ref 264)⟩, ⟨(PyData.keyHash P "_field_defaults"), (.str "_field_defaults" 550), (.ref 265)⟩, ⟨(PyData.keyHash P "__new__"), (.str "__new__" 560), (.ref 272)⟩, ⟨(PyData.keyHash P "_make"), (.str "_make" 582), (.ref 281)⟩, ⟨(PyData.keyHash P "_replace"), (.str "_replace" 593), (.ref 290)⟩, ⟨(PyData.keyHash P "__replace__"), (.str "__replace__" 594), (.ref 290)⟩, ⟨(PyData.keyHash P "__repr__"), (.str "__repr__" 602), (.ref 297)⟩, ⟨(PyData.keyHash P "_asdict"), (.str "_asdict" 609), (.ref 304)⟩, ⟨(PyData.keyHash P "__getnewargs__"), (.str "__getnewargs__" 617), (.ref 311)⟩, ⟨(PyData.keyHash P "__match_args__"), (.str "__match_args__" 620), (.ref 312)⟩, ⟨(PyData.keyHash P "seconds"), (.str "seconds" 630), (.ref 314)⟩, ⟨(PyData.keyHash P "name"), (.str "name" 640), (.ref 317)⟩, ⟨(PyData.keyHash P "__static_attributes__"), (.str "__static_attributes__" 641), (.ref 319)⟩, ⟨(PyData.keyHash P "__classcell__"), (.str "__classcell__" 642), (.ref 258)⟩] 19), #[]⟩
noncomputable def o258 (P : Params) : Obj := ⟨(.type "cell"), .none, (.cell (.some (.ref 322))), #[]⟩
noncomputable def o259 (P : Params) : Obj := ⟨(.type "tuple"), .none, (.seq #[] 0), #[]⟩
noncomputable def o260 (P : Params) : Obj := ⟨.none, .none, (.fields #[(.int 150 0), (.int 4 0), (.ref 271), (.int 155 0), (.int 4 0), (.ref 278), (.int 162 0), (.int 4 0), (.ref 289), (.int 173 0), (.int 4 0), (.ref 296), (.int 177 0), (.int 4 0), (.ref 303), (.int 180 0), (.int 4 0), (.ref 310)]), #[]⟩
noncomputable def o261 (P : Params) : Obj := ⟨(.type "code"), .none, (.fields #[(.str "Granularity" 533), (.str "Granularity" 534), (.str "/claim/cut.py" 535), (.int 144 0), (.int 0 0), (.int 0 0), (.int 0 0), (.int 0 0), (.ref 259), (.bool false), (.int 181 0), (.ref 260), .none, .none, .none, .none, (.int 536 0), (.int 144 0), (.str "/claim/cut.py" 537)]), #[]⟩
noncomputable def o262 (P : Params) : Obj := ⟨(.type "frame"), .none, .plain, #[(.some (.ref 261)), (.some (.ref 3)), (.some (.ref 257)), .none, (.some (.str "limits.limits" 463)), .none, (.some (.ref 0))]⟩
noncomputable def o263 (P : Params) : Obj := ⟨(.type "tuple"), .none, (.seq #[] 0), #[]⟩
noncomputable def o264 (P : Params) : Obj := ⟨(.type "tuple"), .none, (.seq #[(.str "seconds" 547), (.str "name" 548)] 0), #[]⟩
noncomputable def o265 (P : Params) : Obj := ⟨(.type "dict"), .none, (.dict #[] 0), #[]⟩
noncomputable def o266 (P : Params) : Obj := ⟨(.type "tuple"), .none, (.seq #[] 0), #[]⟩
noncomputable def o267 (P : Params) : Obj := ⟨.none, .none, (.fields #[]), #[]⟩
noncomputable def o268 (P : Params) : Obj := ⟨(.type "tuple"), .none, (.seq #[(.str "_cls" 554), (.str "seconds" 555), (.str "name" 556)] 0), #[]⟩
noncomputable def o269 (P : Params) : Obj := ⟨(.type "tuple"), .none, (.seq #[] 0), #[]⟩
noncomputable def o270 (P : Params) : Obj := ⟨.none, .none, .func (fd (dC 12 4) fun a b sc => ⟨"__new__", "Granularity.__new__", a, .stmts b, sc, 0, [], .none, .none, .none, .none, .none, .none, .none, 0⟩), #[]⟩
noncomputable def o271 (P : Params) : Obj := ⟨(.type "code"), .none, (.fields #[(.str "__new__" 551), (.str "Granularity.__new__" 552), (.str "/claim/cut.py" 553), (.int 150 0), (.int 3 0), (.int 0 0), (.int 0 0), (.int 3 0), (.ref 266), (.bool true), (.int 181 0), (.ref 267), .none, (.ref 268), (.ref 269), (.ref 270), (.int 557 0), (.int 150 0), (.str "/claim/cut.py" 558)]), #[]⟩
noncomputable def o272 (P : Params) : Obj := ⟨(.type "function"), .none, .func (fd (dC 12 4) fun a b sc => ⟨"__new__", "Granularity.__new__", a, .stmts b, sc, 3, [], .none, .none, (.str (docS (dC 12 4)) 559), (.str "limits.limits" 463), .none, (.ref 271), .none, 0⟩), #[]⟩
noncomputable def o273 (P : Params) : Obj := ⟨(.type "tuple"), .none, (.seq #[] 0), #[]⟩
noncomputable def o274 (P : Params) : Obj := ⟨.none, .none, (.fields #[]), #[]⟩
noncomputable def o275 (P : Params) : Obj := ⟨(.type "tuple"), .none, (.seq #[(.str "cls" 564), (.str "iterable" 565), (.str "result" 566)] 0), #[]⟩
noncomputable def o276 (P : Params) : Obj := ⟨(.type "tuple"), .none, (.seq #[] 0), #[]⟩
noncomputable def o277 (P : Params) : Obj := ⟨.none, .none, .func (fd (dC 12 5) fun a b sc => ⟨"_make", "Granularity._make", a, .stmts b, sc, 0, [], .none, .none, .none, .none, .none, .none, .none, 0⟩), #[]⟩
noncomputable def o278 (P : Params) : Obj := ⟨(.type "code"), .none, (.fields #[(.str "_make" 561), (.str "Granularity._make" 562), (.str "/claim/cut.py" 563), (.int 154 0), (.int 2 0), (.int 0 0), (.int 0 0), (.int 3 0), (.ref 273), (.bool true), (.int 181 0), (.ref 274), .none, (.ref 275), (.ref 276), (.ref 277), (.int 567 0), (.int 154 0), (.str "/claim/cut.py" 568)]), #[]⟩
noncomputable def o279 (P : Params) : Obj := ⟨(.type "function"), .none, .func (fd (dC 12 5) fun a b sc => ⟨"_make", "Granularity._make", a, .stmts b, sc, 3, [], .none, .none, (.str (docS (dC 12 5)) 569), (.str "limits.limits" 463), (.some 282), (.ref 278), .none, 0⟩), #[]⟩
noncomputable def o280 (P : Params) : Obj := ⟨(.type "dict"), .none, (.dict #[⟨(PyData.keyHash P "__module__"), (.str "__module__" 571), (.str "limits.limits" 463)⟩, ⟨(PyData.keyHash P "__name__"), (.str "__name__" 574), (.str "_make" 573)⟩, ⟨(PyData.keyHash P "__qualname__"), (.str "__qualname__" 577), (.str "Granularity._make" 576)⟩, ⟨(PyData.keyHash P "__doc__"), (.str "__doc__" 579), (.str (docS (dC 12 5)) 569)⟩, ⟨(PyData.keyHash P "__annotations__"), (.str "__annotations__" 581), (.ref 282)⟩] 5), #[]⟩
noncomputable def o281 (P : Params) : Obj := ⟨(.type "classmethod"), (.some 280), (.fields #[(.ref 279), (.bool false)]), #[]⟩
noncomputable def o282 (P : Params) : Obj := ⟨(.type "dict"), .none, (.dict #[] 0), #[]⟩
noncomputable def o283 (P : Params) : Obj := ⟨(.type "tuple"), .none, (.seq #[(.ref 258)] 0), #[]⟩
noncomputable def o284 (P : Params) : Obj := ⟨(.type "tuple"), .none, (.seq #[(.str "__class__" 586)] 0), #[]⟩
noncomputable def o285 (P : Params) : Obj := ⟨.none, .none, (.fields #[]), #[]⟩
noncomputable def o286 (P : Params) : Obj := ⟨(.type "tuple"), .none, (.seq #[(.str "self" 587), (.str "kwds" 588), (.str "result" 589)] 0), #[]⟩
noncomputable def o287 (P : Params) : Obj := ⟨(.type "tuple"), .none, (.seq #[] 0), #[]⟩
noncomputable def o288 (P : Params) : Obj := ⟨.none, .none, .func (fd (dC 12 6) fun a b sc => ⟨"_replace", "Granularity._replace", a, .stmts b, sc, 0, [], .none, .none, .none, .none, .none, .none, .none, 0⟩), #[]⟩
noncomputable def o289 (P : Params) : Obj := ⟨(.type "code"), .none, (.fields #[(.str "_replace" 583), (.str "Granularity._replace" 584), (.str "/claim/cut.py" 585), (.int 162 0), (.int 1 0), (.int 1 0), (.int 0 0), (.int 11 0), (.ref 284), (.bool true), (.int 181 0), (.ref 285), .none, (.ref 286), (.ref 287), (.ref 288), (.int 590 0), (.int 162 0), (.str "/claim/cut.py" 591)]), #[]⟩
noncomputable def o290 (P : Params) : Obj := ⟨(.type "function"), .none, .func (fd (dC 12 6) fun a b sc => ⟨"_replace", "Granularity._replace", a, .stmts b, sc, 3, [("__class__", 258)], .none, .none, (.str (docS (dC 12 6)) 592), (.str "limits.limits" 463), .none, (.ref 289), (.ref 283), 0⟩), #[]⟩
noncomputable def o291 (P : Params) : Obj := ⟨(.type "tuple"), .none, (.seq #[] 0), #[]⟩
noncomputable def o292 (P : Params) : Obj := ⟨.none, .none, (.fields #[]), #[]⟩
noncomputable def o293 (P : Params) : Obj := ⟨(.type "tuple"), .none, (.seq #[(.str "self" 598)] 0), #[]⟩
noncomputable def o294 (P : Params) : Obj := ⟨(.type "tuple"), .none, (.seq #[] 0), #[]⟩
noncomputable def o295 (P : Params) : Obj := ⟨.none, .none, .func (fd (dC 12 8) fun a b sc => ⟨"__repr__", "Granularity.__repr__", a, .stmts b, sc, 0, [], .none, .none, .none, .none, .none, .none, .none, 0⟩), #[]⟩
noncomputable def o296 (P : Params) : Obj := ⟨(.type "code"), .none, (.fields #[(.str "__repr__" 595), (.str "Granularity.__repr__" 596), (.str "/claim/cut.py" 597), (.int 173 0), (.int 1 0), (.int 0 0), (.int 0 0), (.int 3 0), (.ref 291), (.bool true), (.int 181 0), (.ref 292), .none, (.ref 293), (.ref 294), (.ref 295), (.int 599 0), (.int 173 0), (.str "/claim/cut.py" 600)]), #[]⟩
noncomputable def o297 (P : Params) : Obj := ⟨(.type "function"), .none, .func (fd (dC 12 8) fun a b sc => ⟨"__repr__", "Granularity.__repr__", a, .stmts b, sc, 3, [], .none, .none, (.str (docS (dC 4 8)) 601), (.str "limits.limits" 463), .none, (.ref 296), .none, 0⟩), #[]⟩
noncomputable def o298 (P : Params) : Obj := ⟨(.type "tuple"), .none, (.seq #[] 0), #[]⟩
noncomputable def o299 (P : Params) : Obj := ⟨.none, .none, (.fields #[]), #[]⟩
noncomputable def o300 (P : Params) : Obj := ⟨(.type "tuple"), .none, (.seq #[(.str "self" 606)] 0), #[]⟩
noncomputable def o301 (P : Params) : Obj := ⟨(.type "tuple"), .none, (.seq #[] 0), #[]⟩
noncomputable def o302 (P : Params) : Obj := ⟨.none, .none, .func (fd (dC 12 9) fun a b sc => ⟨"_asdict", "Granularity._asdict", a, .stmts b, sc, 0, [], .none, .none, .none, .none, .none, .none, .none, 0⟩), #[]⟩
noncomputable def o303 (P : Params) : Obj := ⟨(.type "code"), .none, (.fields #[(.str "_asdict" 603), (.str "Granularity._asdict" 604), (.str "/claim/cut.py" 605), (.int 177 0), (.int 1 0), (.int 0 0), (.int 0 0), (.int 3 0), (.ref 298), (.bool true), (.int 181 0), (.ref 299), .none, (.ref 300), (.ref 301), (.ref 302), (.int 607 0), (.int 177 0), (.str "/claim/cut.py" 608)]), #[]⟩
noncomputable def o304 (P : Params) : Obj := ⟨(.type "function"), .none, .func (fd (dC 12 9) fun a b sc => ⟨"_asdict", "Granularity._asdict", a, .stmts b, sc, 3, [], .none, .none, .none, (.str "limits.limits" 463), .none, (.ref 303), .none, 0⟩), #[]⟩
noncomputable def o305 (P : Params) : Obj := ⟨(.type "tuple"), .none, (.seq #[] 0), #[]⟩
noncomputable def o306 (P : Params) : Obj := ⟨.none, .none, (.fields #[]), #[]⟩
noncomputable def o307 (P : Params) : Obj := ⟨(.type "tuple"), .none, (.seq #[(.str "self" 613)] 0), #[]⟩
noncomputable def o308 (P : Params) : Obj := ⟨(.type "tuple"), .none, (.seq #[] 0), #[]⟩
noncomputable def o309 (P : Params) : Obj := ⟨.none, .none, .func (fd (dC 12 10) fun a b sc => ⟨"__getnewargs__", "Granularity.__getnewargs__", a, .stmts b, sc, 0, [], .none, .none, .none, .none, .none, .none, .none, 0⟩), #[]⟩
noncomputable def o310 (P : Params) : Obj := ⟨(.type "code"), .none, (.fields #[(.str "__getnewargs__" 610), (.str "Granularity.__getnewargs__" 611), (.str "/claim/cut.py" 612), (.int 180 0), (.int 1 0), (.int 0 0), (.int 0 0), (.int 3 0), (.ref 305), (.bool true), (.int 181 0), (.ref 306), .none, (.ref 307), (.ref 308), (.ref 309), (.int 614 0), (.int 180 0), (.str "/claim/cut.py" 615)]), #[]⟩
noncomputable def o311 (P : Params) : Obj := ⟨(.type "function"), .none, .func (fd (dC 12 10) fun a b sc => ⟨"__getnewargs__", "Granularity.__getnewargs__", a, .stmts b, sc, 3, [], .none, .none, (.str (docS (dC 4 10)) 616), (.str "limits.limits" 463), .none, (.ref 310), .none, 0⟩), #[]⟩
noncomputable def o312 (P : Params) : Obj := ⟨(.type "tuple"), .none, (.seq #[(.str "seconds" 618), (.str "name" 619)] 0), #[]⟩
noncomputable def o313 (P : Params) : Obj := ⟨(.type "dict"), .none, (.dict #[⟨(PyData.keyHash P "index"), (.str "index" 627), (.int 0 621)⟩, ⟨(PyData.keyHash P "__doc__"), (.str "__doc__" 629), (.str "Alias for field number 0" 622)⟩] 2), #[]⟩
noncomputable def o314 (P : Params) : Obj := ⟨(.ref 243), (.some 313), .plain, #[]⟩
noncomputable def o315 (P : Params) : Obj := ⟨(.type "frame"), .none, (.dict #[⟨(PyData.keyHash P "self"), (.str "self" 623), (.ref 314)⟩, ⟨(PyData.keyHash P "index"), (.str "index" 624), (.int 0 621)⟩, ⟨(PyData.keyHash P "doc"), (.str "doc" 625), (.str "Alias for field number 0" 622)⟩] 3), #[]⟩
noncomputable def o316 (P : Params) : Obj := ⟨(.type "dict"), .none, (.dict #[⟨(PyData.keyHash P "index"), (.str "index" 637), (.int 1 631)⟩, ⟨(PyData.keyHash P "__doc__"), (.str "__doc__" 639), (.str "Alias for field number 1" 632)⟩] 2), #[]⟩
noncomputable def o317 (P : Params) : Obj := ⟨(.ref 243), (.some 316), .plain, #[]⟩
noncomputable def o318 (P : Params) : Obj := ⟨(.type "frame"), .none, (.dict #[⟨(PyData.keyHash P "self"), (.str "self" 633), (.ref 317)⟩, ⟨(PyData.keyHash P "index"), (.str "index" 634), (.int 1 631)⟩, ⟨(PyData.keyHash P "doc"), (.str "doc" 635), (.str "Alias for field number 1" 632)⟩] 3), #[]⟩
noncomputable def o319 (P : Params) : Obj := ⟨(.type "tuple"), .none, (.seq #[] 0), #[]⟩
noncomputable def o320 (P : Params) : Obj := ⟨(.type "list"), .none, (.seq #[] 0), #[]⟩
noncomputable def o321 (P : Params) : Obj := ⟨(.type "dict"), .none, (.dict #[⟨(PyData.keyHash P "__module__"), (.str "__module__" 538), (.str "limits.limits" 463)⟩, ⟨(PyData.keyHash P "__firstlineno__"), (.str "__firstlineno__" 542), (.int 144 541)⟩, ⟨(PyData.keyHash P "__doc__"), (.str "__doc__" 544), (.str "Granularity(seconds, name)" 543)⟩, ⟨(PyData.keyHash P "__slots__"), (.str "__slots__" 546), (.ref 263)⟩, ⟨(PyData.keyHash P "_fields"), (.str "_fields" 549), (.ref 264)⟩, ⟨(PyData.keyHash P "_field_defaults"), (.str "_field_defaults" 550), (.ref 265)⟩, ⟨(PyData.keyHash P "__new__"), (.str "__new__" 560), (.ref 323)⟩, ⟨(PyData.keyHash P "_make"), (.str "_make" 582), (.ref 281)⟩, ⟨(PyData.keyHash P "_replace"), (.str "_replace" 593), (.ref 290)⟩, ⟨(PyData.keyHash P "__replace__"), (.str "__replace__" 594), (.ref 290)⟩, ⟨(PyData.keyHash P "__repr__"), (.str "__repr__" 602), (.ref 297)⟩, ⟨(PyData.keyHash P "_asdict"), (.str "_asdict" 609), (.ref 304)⟩, ⟨(PyData.keyHash P "__getnewargs__"), (.str "__getnewargs__" 617), (.ref 311)⟩, ⟨(PyData.keyHash P "__match_args__"), (.str "__match_args__" 620), (.ref 312)⟩, ⟨(PyData.keyHash P "seconds"), (.str "seconds" 630), (.ref 314)⟩, ⟨(PyData.keyHash P "name"), (.str "name" 640), (.ref 317)⟩, ⟨(PyData.keyHash P "__static_attributes__"), (.str "__static_attributes__" 641), (.ref 319)⟩] 2), #[]⟩
noncomputable def o322 (P : Params) : Obj := ⟨(.type "type"), .none, (.cls ⟨"Granularity", [(.type "tuple")], [(.ref 322), (.type "tuple"), (.type "object")], 321, "Granularity", false, [], [], false, .none, false⟩), #[(.some (.ref 255)), .none, (.some (.str "Granularity" 531)), (.some (.str "Granularity" 539)), (.some .none), (.some (.bool false))]⟩
noncomputable def o323 (P : Params) : Obj := ⟨(.type "staticmethod"), .none, (.fields #[(.ref 272)]), #[]⟩
noncomputable def o324 (P : Params) : Obj := ⟨(.type "super"), .none, (.fields #[(.ref 322), (.ref 322), (.ref 322)]), #[]⟩
noncomputable def o325 (P : Params) : Obj := ⟨(.type "builtin_function_or_method"), .none, (.fields #[(.builtin "object.__init_subclass__"), (.ref 322)]), #[]⟩
noncomputable def o326 (P : Params) : Obj := ⟨(.type "tuple"), .none, (.seq #[] 0), #[]⟩
noncomputable def o327 (P : Params) : Obj := ⟨(.type "builtin_function_or_method"), .none, (.fields #[(.builtin "type.__prepare__"), (.type "type")]), #[]⟩
noncomputable def o328 (P : Params) : Obj := ⟨(.type "dict"), .none, (.dict #[⟨(PyData.keyHash P "__module__"), (.str "__module__" 653), (.str "limits.limits" 463)⟩, ⟨(PyData.keyHash P "__qualname__"), (.str "__qualname__" 655), (.str "RateLimitItem" 654)⟩, ⟨(PyData.keyHash P "__firstlineno__"), (.str "__firstlineno__" 657), (.int 186 656)⟩, ⟨(PyData.keyHash P "__doc__"), (.str "__doc__" 659), (.str (docS (dT 13)) 658)⟩, ⟨(PyData.keyHash P "__init__"), (.str "__init__" 673), (.ref 340)⟩, ⟨(PyData.keyHash P "check_granularity_string"), (.str "check_granularity_string" 693), (.ref 349)⟩, ⟨(PyData.keyHash P "get_expiry"), (.str "get_expiry" 701), (.ref 357)⟩, ⟨(PyData.keyHash P "key_for"), (.str "key_for" 708), (.ref 364)⟩, ⟨(PyData.keyHash P "__eq__"), (.str "__eq__" 716), (.ref 371)⟩, ⟨(PyData.keyHash P "__repr__"), (.str "__repr__" 723), (.ref 378)⟩, ⟨(PyData.keyHash P "__lt__"), (.str "__lt__" 731), (.ref 385)⟩, ⟨(PyData.keyHash P "__static_attributes__"), (.str "__static_attributes__" 735), (.ref 386)⟩] 12), #[]⟩
noncomputable def o329 (P : Params) : Obj := ⟨(.type "tuple"), .none, (.seq #[] 0), #[]⟩
noncomputable def o330 (P : Params) : Obj := ⟨.none, .none, (.fields #[(.int 198 0), (.int 4 0), (.ref 339), (.int 204 0), (.int 4 0), (.ref 346), (.int 207 0), (.int 4 0), (.ref 356), (.int 213 0), (.int 4 0), (.ref 363), (.int 225 0), (.int 4 0), (.ref 370), (.int 230 0), (.int 4 0), (.ref 377), (.int 233 0), (.int 4 0), (.ref 384)]), #[]⟩
noncomputable def o331 (P : Params) : Obj := ⟨(.type "code"), .none, (.fields #[(.str "RateLimitItem" 648), (.str "RateLimitItem" 649), (.str "/claim/cut.py" 650), (.int 186 0), (.int 0 0), (.int 0 0), (.int 0 0), (.int 0 0), (.ref 329), (.bool false), (.int 181 0), (.ref 330), .none, .none, .none, .none, (.int 651 0), (.int 186 0), (.str "/claim/cut.py" 652)]), #[]⟩
noncomputable def o332 (P : Params) : Obj := ⟨(.type "frame"), .none, .plain, #[(.some (.ref 331)), (.some (.ref 3)), (.some (.ref 328)), .none, (.some (.str "limits.limits" 463)), .none, (.some (.ref 0))]⟩
noncomputable def o333 (P : Params) : Obj := ⟨(.type "tuple"), .none, (.seq #[(.int 1 662), (.str "LIMITER" 663)] 0), #[]⟩
noncomputable def o334 (P : Params) : Obj := ⟨(.type "tuple"), .none, (.seq #[] 0), #[]⟩
noncomputable def o335 (P : Params) : Obj := ⟨.none, .none, (.fields #[]), #[]⟩
noncomputable def o336 (P : Params) : Obj := ⟨(.type "tuple"), .none, (.seq #[(.str "self" 667), (.str "amount" 668), (.str "multiples" 669), (.str "namespace" 670)] 0), #[]⟩
noncomputable def o337 (P : Params) : Obj := ⟨(.type "tuple"), .none, (.seq #[] 0), #[]⟩
noncomputable def o338 (P : Params) : Obj := ⟨.none, .none, .func (fd (dC 13 2) fun a b sc => ⟨"__init__", "RateLimitItem.__init__", a, .stmts b, sc, 0, [], .none, .none, .none, .none, .none, .none, .none, 0⟩), #[]⟩
noncomputable def o339 (P : Params) : Obj := ⟨(.type "code"), .none, (.fields #[(.str "__init__" 664), (.str "RateLimitItem.__init__" 665), (.str "/claim/cut.py" 666), (.int 198 0), (.int 4 0), (.int 0 0), (.int 0 0), (.int 3 0), (.ref 334), (.bool true), (.int 181 0), (.ref 335), .none, (.ref 336), (.ref 337), (.ref 338), (.int 671 0), (.int 198 0), (.str "/claim/cut.py" 672)]), #[]⟩
noncomputable def o340 (P : Params) : Obj := ⟨(.type "function"), .none, .func (fd (dC 13 2) fun a b sc => ⟨"__init__", "RateLimitItem.__init__", a, .stmts b, sc, 3, [], (.ref 333), .none, .none, (.str "limits.limits" 463), .none, (.ref 339), .none, 0⟩), #[]⟩
noncomputable def o341 (P : Params) : Obj := ⟨(.type "tuple"), .none, (.seq #[] 0), #[]⟩
noncomputable def o342 (P : Params) : Obj := ⟨.none, .none, (.fields #[]), #[]⟩
noncomputable def o343 (P : Params) : Obj := ⟨(.type "tuple"), .none, (.seq #[(.str "cls" 677), (.str "granularity_string" 678)] 0), #[]⟩
noncomputable def o344 (P : Params) : Obj := ⟨(.type "tuple"), .none, (.seq #[] 0), #[]⟩
noncomputable def o345 (P : Params) : Obj := ⟨.none, .none, .func (fd (dC 13 3) fun a b sc => ⟨"check_granularity_string", "RateLimitItem.check_granularity_string", a, .stmts b, sc, 0, [], .none, .none, .none, .none, .none, .none, .none, 0⟩), #[]⟩
noncomputable def o346 (P : Params) : Obj := ⟨(.type "code"), .none, (.fields #[(.str "check_granularity_string" 674), (.str "RateLimitItem.check_granularity_string" 675), (.str "/claim/cut.py" 676), (.int 203 0), (.int 2 0), (.int 0 0), (.int 0 0), (.int 3 0), (.ref 341), (.bool true), (.int 181 0), (.ref 342), .none, (.ref 343), (.ref 344), (.ref 345), (.int 679 0), (.int 203 0), (.str "/claim/cut.py" 680)]), #[]⟩
noncomputable def o347 (P : Params) : Obj := ⟨(.type "function"), .none, .func (fd (dC 13 3) fun a b sc => ⟨"check_granularity_string", "RateLimitItem.check_granularity_string", a, .stmts b, sc, 3, [], .none, .none, .none, (.str "limits.limits" 463), (.some 350), (.ref 346), .none, 0⟩), #[]⟩
noncomputable def o348 (P : Params) : Obj := ⟨(.type "dict"), .none, (.dict #[⟨(PyData.keyHash P "__module__"), (.str "__module__" 682), (.str "limits.limits" 463)⟩, ⟨(PyData.keyHash P "__name__"), (.str "__name__" 685), (.str "check_granularity_string" 684)⟩, ⟨(PyData.keyHash P "__qualname__"), (.str "__qualname__" 688), (.str "RateLimitItem.check_granularity_string" 687)⟩, ⟨(PyData.keyHash P "__doc__"), (.str "__doc__" 690), .none⟩, ⟨(PyData.keyHash P "__annotations__"), (.str "__annotations__" 692), (.ref 350)⟩] 5), #[]⟩
noncomputable def o349 (P : Params) : Obj := ⟨(.type "classmethod"), (.some 348), (.fields #[(.ref 347), (.bool false)]), #[]⟩
noncomputable def o350 (P : Params) : Obj := ⟨(.type "dict"), .none, (.dict #[] 0), #[]⟩
noncomputable def o351 (P : Params) : Obj := ⟨(.type "tuple"), .none, (.seq #[] 0), #[]⟩
noncomputable def o352 (P : Params) : Obj := ⟨.none, .none, (.fields #[]), #[]⟩
noncomputable def o353 (P : Params) : Obj := ⟨(.type "tuple"), .none, (.seq #[(.str "self" 697)] 0), #[]⟩
noncomputable def o354 (P : Params) : Obj := ⟨(.type "tuple"), .none, (.seq #[] 0), #[]⟩
noncomputable def o355 (P : Params) : Obj := ⟨.none, .none, .func (fd (dC 13 4) fun a b sc => ⟨"get_expiry", "RateLimitItem.get_expiry", a, .stmts b, sc, 0, [], .none, .none, .none, .none, .none, .none, .none, 0⟩), #[]⟩
noncomputable def o356 (P : Params) : Obj := ⟨(.type "code"), .none, (.fields #[(.str "get_expiry" 694), (.str "RateLimitItem.get_expiry" 695), (.str "/claim/cut.py" 696), (.int 207 0), (.int 1 0), (.int 0 0), (.int 0 0), (.int 3 0), (.ref 351), (.bool true), (.int 181 0), (.ref 352), .none, (.ref 353), (.ref 354), (.ref 355), (.int 698 0), (.int 207 0), (.str "/claim/cut.py" 699)]), #[]⟩
noncomputable def o357 (P : Params) : Obj := ⟨(.type "function"), .none, .func (fd (dC 13 4) fun a b sc => ⟨"get_expiry", "RateLimitItem.get_expiry", a, .stmts b, sc, 3, [], .none, .none, (.str (docS (dC 13 4)) 700), (.str "limits.limits" 463), .none, (.ref 356), .none, 0⟩), #[]⟩
noncomputable def o358 (P : Params) : Obj := ⟨(.type "tuple"), .none, (.seq #[] 0), #[]⟩
noncomputable def o359 (P : Params) : Obj := ⟨(.type "tuple"), .none, (.seq #[(.ref 358)] 0), #[]⟩
noncomputable def o360 (P : Params) : Obj := ⟨(.type "tuple"), .none, (.seq #[] 0), #[]⟩
noncomputable def o361 (P : Params) : Obj := ⟨.none, .none, (.fields #[]), #[]⟩
noncomputable def o362 (P : Params) : Obj := ⟨.none, .none, .func (fd (dC 13 5) fun a b sc => ⟨"key_for", "RateLimitItem.key_for", a, .stmts b, sc, 0, [], .none, .none, .none, .none, .none, .none, .none, 0⟩), #[]⟩
noncomputable def o363 (P : Params) : Obj := ⟨(.type "code"), .none, (.fields #[(.str "key_for" 702), (.str "RateLimitItem.key_for" 703), (.str "/claim/cut.py" 704), (.int 213 0), (.int 2 0), (.int 0 0), (.int 0 0), (.int 3 0), (.ref 360), (.bool true), (.int 181 0), (.ref 361), .none, .none, .none, (.ref 362), (.int 705 0), (.int 213 0), (.str "/claim/cut.py" 706)]), #[]⟩
noncomputable def o364 (P : Params) : Obj := ⟨(.type "function"), .none, .func (fd (dC 13 5) fun a b sc => ⟨"key_for", "RateLimitItem.key_for", a, .stmts b, sc, 3, [], (.ref 359), .none, (.str (docS (dC 13 5)) 707), (.str "limits.limits" 463), .none, (.ref 363), .none, 0⟩), #[]⟩
noncomputable def o365 (P : Params) : Obj := ⟨(.type "tuple"), .none, (.seq #[] 0), #[]⟩
noncomputable def o366 (P : Params) : Obj := ⟨.none, .none, (.fields #[]), #[]⟩
noncomputable def o367 (P : Params) : Obj := ⟨(.type "tuple"), .none, (.seq #[(.str "self" 712), (.str "other" 713)] 0), #[]⟩
noncomputable def o368 (P : Params) : Obj := ⟨(.type "tuple"), .none, (.seq #[] 0), #[]⟩
noncomputable def o369 (P : Params) : Obj := ⟨.none, .none, .func (fd (dC 13 6) fun a b sc => ⟨"__eq__", "RateLimitItem.__eq__", a, .stmts b, sc, 0, [], .none, .none, .none, .none, .none, .none, .none, 0⟩), #[]⟩
noncomputable def o370 (P : Params) : Obj := ⟨(.type "code"), .none, (.fields #[(.str "__eq__" 709), (.str "RateLimitItem.__eq__" 710), (.str "/claim/cut.py" 711), (.int 225 0), (.int 2 0), (.int 0 0), (.int 0 0), (.int 3 0), (.ref 365), (.bool true), (.int 181 0), (.ref 366), .none, (.ref 367), (.ref 368), (.ref 369), (.int 714 0), (.int 225 0), (.str "/claim/cut.py" 715)]), #[]⟩
noncomputable def o371 (P : Params) : Obj := ⟨(.type "function"), .none, .func (fd (dC 13 6) fun a b sc => ⟨"__eq__", "RateLimitItem.__eq__", a, .stmts b, sc, 3, [], .none, .none, .none, (.str "limits.limits" 463), .none, (.ref 370), .none, 0⟩), #[]⟩
noncomputable def o372 (P : Params) : Obj := ⟨(.type "tuple"), .none, (.seq #[] 0), #[]⟩
noncomputable def o373 (P : Params) : Obj := ⟨.none, .none, (.fields #[]), #[]⟩
noncomputable def o374 (P : Params) : Obj := ⟨(.type "tuple"), .none, (.seq #[(.str "self" 720)] 0), #[]⟩
noncomputable def o375 (P : Params) : Obj := ⟨(.type "tuple"), .none, (.seq #[] 0), #[]⟩
noncomputable def o376 (P : Params) : Obj := ⟨.none, .none, .func (fd (dC 13 7) fun a b sc => ⟨"__repr__", "RateLimitItem.__repr__", a, .stmts b, sc, 0, [], .none, .none, .none, .none, .none, .none, .none, 0⟩), #[]⟩
noncomputable def o377 (P : Params) : Obj := ⟨(.type "code"), .none, (.fields #[(.str "__repr__" 717), (.str "RateLimitItem.__repr__" 718), (.str "/claim/cut.py" 719), (.int 230 0), (.int 1 0), (.int 0 0), (.int 0 0), (.int 3 0), (.ref 372), (.bool true), (.int 181 0), (.ref 373), .none, (.ref 374), (.ref 375), (.ref 376), (.int 721 0), (.int 230 0), (.str "/claim/cut.py" 722)]), #[]⟩
noncomputable def o378 (P : Params) : Obj := ⟨(.type "function"), .none, .func (fd (dC 13 7) fun a b sc => ⟨"__repr__", "RateLimitItem.__repr__", a, .stmts b, sc, 3, [], .none, .none, .none, (.str "limits.limits" 463), .none, (.ref 377), .none, 0⟩), #[]⟩
noncomputable def o379 (P : Params) : Obj := ⟨(.type "tuple"), .none, (.seq #[] 0), #[]⟩
noncomputable def o380 (P : Params) : Obj := ⟨.none, .none, (.fields #[]), #[]⟩
noncomputable def o381 (P : Params) : Obj := ⟨(.type "tuple"), .none, (.seq #[(.str "self" 727), (.str "other" 728)] 0), #[]⟩
noncomputable def o382 (P : Params) : Obj := ⟨(.type "tuple"), .none, (.seq #[] 0), #[]⟩
noncomputable def o383 (P : Params) : Obj := ⟨.none, .none, .func (fd (dC 13 8) fun a b sc => ⟨"__lt__", "RateLimitItem.__lt__", a, .stmts b, sc, 0, [], .none, .none, .none, .none, .none, .none, .none, 0⟩), #[]⟩
noncomputable def o384 (P : Params) : Obj := ⟨(.type "code"), .none, (.fields #[(.str "__lt__" 724), (.str "RateLimitItem.__lt__" 725), (.str "/claim/cut.py" 726), (.int 233 0), (.int 2 0), (.int 0 0), (.int 0 0), (.int 3 0), (.ref 379), (.bool true), (.int 181 0), (.ref 380), .none, (.ref 381), (.ref 382), (.ref 383), (.int 729 0), (.int 233 0), (.str "/claim/cut.py" 730)]), #[]⟩
noncomputable def o385 (P : Params) : Obj := ⟨(.type "function"), .none, .func (fd (dC 13 8) fun a b sc => ⟨"__lt__", "RateLimitItem.__lt__", a, .stmts b, sc, 3, [], .none, .none, .none, (.str "limits.limits" 463), .none, (.ref 384), .none, 0⟩), #[]⟩
noncomputable def o386 (P : Params) : Obj := ⟨(.type "tuple"), .none, (.seq #[(.str "amount" 732), (.str "multiples" 733), (.str "namespace" 734)] 0), #[]⟩
noncomputable def o387 (P : Params) : Obj := ⟨(.type "dict"), .none, (.dict #[⟨(PyData.keyHash P "__module__"), (.str "__module__" 653), (.str "limits.limits" 463)⟩, ⟨(PyData.keyHash P "__firstlineno__"), (.str "__firstlineno__" 657), (.int 186 656)⟩, ⟨(PyData.keyHash P "__doc__"), (.str "__doc__" 659), (.str (docS (dT 13)) 658)⟩, ⟨(PyData.keyHash P "__init__"), (.str "__init__" 673), (.ref 340)⟩, ⟨(PyData.keyHash P "check_granularity_string"), (.str "check_granularity_string" 693), (.ref 349)⟩, ⟨(PyData.keyHash P "get_expiry"), (.str "get_expiry" 701), (.ref 357)⟩, ⟨(PyData.keyHash P "key_for"), (.str "key_for" 708), (.ref 364)⟩, ⟨(PyData.keyHash P "__eq__"), (.str "__eq__" 716), (.ref 371)⟩, ⟨(PyData.keyHash P "__repr__"), (.str "__repr__" 723), (.ref 378)⟩, ⟨(PyData.keyHash P "__lt__"), (.str "__lt__" 731), (.ref 385)⟩, ⟨(PyData.keyHash P "__static_attributes__"), (.str "__static_attributes__" 735), (.ref 386)⟩, ⟨(PyData.keyHash P "__dict__"), (.str "__dict__" 737), (.ref 389)⟩, ⟨(PyData.keyHash P "__weakref__"), (.str "__weakref__" 739), (.ref 390)⟩, ⟨(PyData.keyHash P "__hash__"), (.str "__hash__" 740), .none⟩] 4), #[]⟩
noncomputable def o388 (P : Params) : Obj := ⟨(.type "type"), .none, (.cls ⟨"RateLimitItem", [(.type "object")], [(.ref 388), (.type "object")], 387, "RateLimitItem", true, [], [(.ref 407), (.ref 424)], false, .none, false⟩), #[.none, .none, (.some (.str "RateLimitItem" 646)), (.some (.str "RateLimitItem" 654)), (.some (.builtin "object.__new__")), (.some (.bool true))]⟩
noncomputable def o389 (P : Params) : Obj := ⟨(.type "getset_descriptor"), .none, (.fields #[(.str "__dict__" 736), (.ref 388), (.builtin "function.__dict__"), (.builtin "function.__dict__#set")]), #[]⟩
noncomputable def o390 (P : Params) : Obj := ⟨(.type "getset_descriptor"), .none, (.fields #[(.str "__weakref__" 738), (.ref 388), (.builtin "ExceptionGroup.__weakref__"), .none]), #[]⟩
noncomputable def o391 (P : Params) : Obj := ⟨(.type "super"), .none, (.fields #[(.ref 388), (.ref 388), (.ref 388)]), #[]⟩
noncomputable def o392 (P : Params) : Obj := ⟨(.type "builtin_function_or_method"), .none, (.fields #[(.builtin "object.__init_subclass__"), (.ref 388)]), #[]⟩
noncomputable def o393 (P : Params) : Obj := ⟨(.type "tuple"), .none, (.seq #[(.ref 388)] 0), #[]⟩
noncomputable def o394 (P : Params) : Obj := ⟨(.type "builtin_function_or_method"), .none, (.fields #[(.builtin "type.__prepare__"), (.type "type")]), #[]⟩
noncomputable def o395 (P : Params) : Obj := ⟨(.type "dict"), .none, (.dict #[⟨(PyData.keyHash P "__module__"), (.str "__module__" 750), (.str "limits.limits" 463)⟩, ⟨(PyData.keyHash P "__qualname__"), (.str "__qualname__" 752), (.str "RateLimitItemPerMinute" 751)⟩, ⟨(PyData.keyHash P "__firstlineno__"), (.str "__firstlineno__" 754), (.int 235 753)⟩, ⟨(PyData.keyHash P "__doc__"), (.str "__doc__" 756), (.str (docS (dT 14)) 755)⟩, ⟨(PyData.keyHash P "GRANULARITY"), (.str "GRANULARITY" 766), (.ref 404)⟩, ⟨(PyData.keyHash P "__static_attributes__"), (.str "__static_attributes__" 768), (.ref 405)⟩] 6), #[]⟩
noncomputable def o396 (P : Params) : Obj := ⟨(.type "tuple"), .none, (.seq #[] 0), #[]⟩
noncomputable def o397 (P : Params) : Obj := ⟨.none, .none, (.fields #[]), #[]⟩
noncomputable def o398 (P : Params) : Obj := ⟨(.type "code"), .none, (.fields #[(.str "RateLimitItemPerMinute" 745), (.str "RateLimitItemPerMinute" 746), (.str "/claim/cut.py" 747), (.int 235 0), (.int 0 0), (.int 0 0), (.int 0 0), (.int 0 0), (.ref 396), (.bool false), (.int 181 0), (.ref 397), .none, .none, .none, .none, (.int 748 0), (.int 235 0), (.str "/claim/cut.py" 749)]), #[]⟩
noncomputable def o399 (P : Params) : Obj := ⟨(.type "frame"), .none, .plain, #[(.some (.ref 398)), (.some (.ref 3)), (.some (.ref 395)), .none, (.some (.str "limits.limits" 463)), .none, (.some (.ref 0))]⟩
noncomputable def o400 (P : Params) : Obj := ⟨(.type "frame"), .none, (.dict #[⟨(PyData.keyHash P "_cls"), (.str "_cls" 761), (.ref 322)⟩, ⟨(PyData.keyHash P "seconds"), (.str "seconds" 762), (.int 60 758)⟩, ⟨(PyData.keyHash P "name"), (.str "name" 763), (.str "minute" 759)⟩] 3), #[]⟩
noncomputable def o401 (P : Params) : Obj := ⟨(.type "tuple"), .none, (.seq #[(.int 60 758), (.str "minute" 759)] 0), #[]⟩
noncomputable def o402 (P : Params) : Obj := ⟨(.type "list"), .none, (.seq #[(.int 60 758), (.str "minute" 759)] 1), #[]⟩
noncomputable def o403 (P : Params) : Obj := ⟨(.type "dict"), .none, (.dict #[] 0), #[]⟩
noncomputable def o404 (P : Params) : Obj := ⟨(.ref 322), (.some 403), (.seq #[(.int 60 758), (.str "minute" 759)] 0), #[]⟩
noncomputable def o405 (P : Params) : Obj := ⟨(.type "tuple"), .none, (.seq #[] 0), #[]⟩
noncomputable def o406 (P : Params) : Obj := ⟨(.type "dict"), .none, (.dict #[⟨(PyData.keyHash P "__module__"), (.str "__module__" 750), (.str "limits.limits" 463)⟩, ⟨(PyData.keyHash P "__firstlineno__"), (.str "__firstlineno__" 754), (.int 235 753)⟩, ⟨(PyData.keyHash P "__doc__"), (.str "__doc__" 756), (.str (docS (dT 14)) 755)⟩, ⟨(PyData.keyHash P "GRANULARITY"), (.str "GRANULARITY" 766), (.ref 404)⟩, ⟨(PyData.keyHash P "__static_attributes__"), (.str "__static_attributes__" 768), (.ref 405)⟩] 1), #[]⟩
noncomputable def o407 (P : Params) : Obj := ⟨(.type "type"), .none, (.cls ⟨"RateLimitItemPerMinute", [(.ref 388)], [(.ref 407), (.ref 388), (.type "object")], 406, "RateLimitItemPerMinute", true, [], [], false, .none, false⟩), #[(.some (.ref 393)), .none, (.some (.str "RateLimitItemPerMinute" 743)), (.some (.str "RateLimitItemPerMinute" 751)), (.some (.builtin "object.__new__")), (.some (.bool true))]⟩
noncomputable def o408 (P : Params) : Obj := ⟨(.type "super"), .none, (.fields #[(.ref 407), (.ref 407), (.ref 407)]), #[]⟩
noncomputable def o409 (P : Params) : Obj := ⟨(.type "builtin_function_or_method"), .none, (.fields #[(.builtin "object.__init_subclass__"), (.ref 407)]), #[]⟩
noncomputable def o410 (P : Params) : Obj := ⟨(.type "tuple"), .none, (.seq #[(.ref 388)] 0), #[]⟩
noncomputable def o411 (P : Params) : Obj := ⟨(.type "builtin_function_or_method"), .none, (.fields #[(.builtin "type.__prepare__"), (.type "type")]), #[]⟩
noncomputable def o412 (P : Params) : Obj := ⟨(.type "dict"), .none, (.dict #[⟨(PyData.keyHash P "__module__"), (.str "__module__" 778), (.str "limits.limits" 463)⟩, ⟨(PyData.keyHash P "__qualname__"), (.str "__qualname__" 780), (.str "RateLimitItemPerSecond" 779)⟩, ⟨(PyData.keyHash P "__firstlineno__"), (.str "__firstlineno__" 782), (.int 241 781)⟩, ⟨(PyData.keyHash P "__doc__"), (.str "__doc__" 784), (.str (docS (dT 15)) 783)⟩, ⟨(PyData.keyHash P "GRANULARITY"), (.str "GRANULARITY" 794), (.ref 421)⟩, ⟨(PyData.keyHash P "__static_attributes__"), (.str "__static_attributes__" 796), (.ref 422)⟩] 6), #[]⟩
noncomputable def o413 (P : Params) : Obj := ⟨(.type "tuple"), .none, (.seq #[] 0), #[]⟩
noncomputable def o414 (P : Params) : Obj := ⟨.none, .none, (.fields #[]), #[]⟩
noncomputable def o415 (P : Params) : Obj := ⟨(.type "code"), .none, (.fields #[(.str "RateLimitItemPerSecond" 773), (.str "RateLimitItemPerSecond" 774), (.str "/claim/cut.py" 775), (.int 241 0), (.int 0 0), (.int 0 0), (.int 0 0), (.int 0 0), (.ref 413), (.bool false), (.int 181 0), (.ref 414), .none, .none, .none, .none, (.int 776 0), (.int 241 0), (.str "/claim/cut.py" 777)]), #[]⟩
noncomputable def o416 (P : Params) : Obj := ⟨(.type "frame"), .none, .plain, #[(.some (.ref 415)), (.some (.ref 3)), (.some (.ref 412)), .none, (.some (.str "limits.limits" 463)), .none, (.some (.ref 0))]⟩
noncomputable def o417 (P : Params) : Obj := ⟨(.type "frame"), .none, (.dict #[⟨(PyData.keyHash P "_cls"), (.str "_cls" 789), (.ref 322)⟩, ⟨(PyData.keyHash P "seconds"), (.str "seconds" 790), (.int 1 786)⟩, ⟨(PyData.keyHash P "name"), (.str "name" 791), (.str "second" 787)⟩] 3), #[]⟩
noncomputable def o418 (P : Params) : Obj := ⟨(.type "tuple"), .none, (.seq #[(.int 1 786), (.str "second" 787)] 0), #[]⟩
noncomputable def o419 (P : Params) : Obj := ⟨(.type "list"), .none, (.seq #[(.int 1 786), (.str "second" 787)] 1), #[]⟩
noncomputable def o420 (P : Params) : Obj := ⟨(.type "dict"), .none, (.dict #[] 0), #[]⟩
noncomputable def o421 (P : Params) : Obj := ⟨(.ref 322), (.some 420), (.seq #[(.int 1 786), (.str "second" 787)] 0), #[]⟩
noncomputable def o422 (P : Params) : Obj := ⟨(.type "tuple"), .none, (.seq #[] 0), #[]⟩
noncomputable def o423 (P : Params) : Obj := ⟨(.type "dict"), .none, (.dict #[⟨(PyData.keyHash P "__module__"), (.str "__module__" 778), (.str "limits.limits" 463)⟩, ⟨(PyData.keyHash P "__firstlineno__"), (.str "__firstlineno__" 782), (.int 241 781)⟩, ⟨(PyData.keyHash P "__doc__"), (.str "__doc__" 784), (.str (docS (dT 15)) 783)⟩, ⟨(PyData.keyHash P "GRANULARITY"), (.str "GRANULARITY" 794), (.ref 421)⟩, ⟨(PyData.keyHash P "__static_attributes__"), (.str "__static_attributes__" 796), (.ref 422)⟩] 1), #[]⟩
noncomputable def o424 (P : Params) : Obj := ⟨(.type "type"), .none, (.cls ⟨"RateLimitItemPerSecond", [(.ref 388)], [(.ref 424), (.ref 388), (.type "object")], 423, "RateLimitItemPerSecond", true, [], [], false, .none, false⟩), #[(.some (.ref 410)), .none, (.some (.str "RateLimitItemPerSecond" 771)), (.some (.str "RateLimitItemPerSecond" 779)), (.some (.builtin "object.__new__")), (.some (.bool true))]⟩
noncomputable def o425 (P : Params) : Obj := ⟨(.type "super"), .none, (.fields #[(.ref 424), (.ref 424), (.ref 424)]), #[]⟩
noncomputable def o426 (P : Params) : Obj := ⟨(.type "builtin_function_or_method"), .none, (.fields #[(.builtin "object.__init_subclass__"), (.ref 424)]), #[]⟩
noncomputable def o427 (P : Params) : Obj := ⟨(.type "tuple"), .none, (.seq #[] 0), #[]⟩
noncomputable def o428 (P : Params) : Obj := ⟨(.type "builtin_function_or_method"), .none, (.fields #[(.builtin "type.__prepare__"), (.type "type")]), #[]⟩
noncomputable def o429 (P : Params) : Obj := ⟨(.type "dict"), .none, (.dict #[⟨(PyData.keyHash P "__module__"), (.str "__module__" 808), (.str "limits.storage.base" 799)⟩, ⟨(PyData.keyHash P "__qualname__"), (.str "__qualname__" 810), (.str "TimestampedSlidingWindow" 809)⟩, ⟨(PyData.keyHash P "__firstlineno__"), (.str "__firstlineno__" 812), (.int 248 811)⟩, ⟨(PyData.keyHash P "__doc__"), (.str "__doc__" 814), (.str (docS (dT 17)) 813)⟩, ⟨(PyData.keyHash P "sliding_window_keys"), (.str "sliding_window_keys" 837), (.ref 442)⟩, ⟨(PyData.keyHash P "__static_attributes__"), (.str "__static_attributes__" 838), (.ref 444)⟩] 6), #[]⟩
noncomputable def o430 (P : Params) : Obj := ⟨(.type "tuple"), .none, (.seq #[] 0), #[]⟩
noncomputable def o431 (P : Params) : Obj := ⟨.none, .none, (.fields #[(.int 252 0), (.int 4 0), (.ref 439)]), #[]⟩
noncomputable def o432 (P : Params) : Obj := ⟨(.type "code"), .none, (.fields #[(.str "TimestampedSlidingWindow" 803), (.str "TimestampedSlidingWindow" 804), (.str "/claim/cut.py" 805), (.int 248 0), (.int 0 0), (.int 0 0), (.int 0 0), (.int 0 0), (.ref 430), (.bool false), (.int 181 0), (.ref 431), .none, .none, .none, .none, (.int 806 0), (.int 248 0), (.str "/claim/cut.py" 807)]), #[]⟩
noncomputable def o433 (P : Params) : Obj := ⟨(.type "frame"), .none, .plain, #[(.some (.ref 432)), (.some (.ref 3)), (.some (.ref 429)), .none, (.some (.str "limits.storage.base" 799)), .none, (.some (.ref 0))]⟩
noncomputable def o434 (P : Params) : Obj := ⟨(.type "tuple"), .none, (.seq #[] 0), #[]⟩
noncomputable def o435 (P : Params) : Obj := ⟨.none, .none, (.fields #[]), #[]⟩
noncomputable def o436 (P : Params) : Obj := ⟨(.type "tuple"), .none, (.seq #[(.str "cls" 819), (.str "key" 820), (.str "expiry" 821), (.str "at" 822)] 0), #[]⟩
noncomputable def o437 (P : Params) : Obj := ⟨(.type "tuple"), .none, (.seq #[] 0), #[]⟩
noncomputable def o438 (P : Params) : Obj := ⟨.none, .none, .func (fd (dC 17 1) fun a b sc => ⟨"sliding_window_keys", "TimestampedSlidingWindow.sliding_window_keys", a, .stmts b, sc, 0, [], .none, .none, .none, .none, .none, .none, .none, 0⟩), #[]⟩
noncomputable def o439 (P : Params) : Obj := ⟨(.type "code"), .none, (.fields #[(.str "sliding_window_keys" 816), (.str "TimestampedSlidingWindow.sliding_window_keys" 817), (.str "/claim/cut.py" 818), (.int 251 0), (.int 4 0), (.int 0 0), (.int 0 0), (.int 3 0), (.ref 434), (.bool true), (.int 181 0), (.ref 435), .none, (.ref 436), (.ref 437), (.ref 438), (.int 823 0), (.int 251 0), (.str "/claim/cut.py" 824)]), #[]⟩
noncomputable def o440 (P : Params) : Obj := ⟨(.type "function"), .none, .func (fd (dC 17 1) fun a b sc => ⟨"sliding_window_keys", "TimestampedSlidingWindow.sliding_window_keys", a, .stmts b, sc, 3, [], .none, .none, .none, (.str "limits.storage.base" 799), (.some 443), (.ref 439), .none, 0⟩), #[]⟩
noncomputable def o441 (P : Params) : Obj := ⟨(.type "dict"), .none, (.dict #[⟨(PyData.keyHash P "__module__"), (.str "__module__" 826), (.str "limits.storage.base" 799)⟩, ⟨(PyData.keyHash P "__name__"), (.str "__name__" 829), (.str "sliding_window_keys" 828)⟩, ⟨(PyData.keyHash P "__qualname__"), (.str "__qualname__" 832), (.str "TimestampedSlidingWindow.sliding_window_keys" 831)⟩, ⟨(PyData.keyHash P "__doc__"), (.str "__doc__" 834), .none⟩, ⟨(PyData.keyHash P "__annotations__"), (.str "__annotations__" 836), (.ref 443)⟩] 5), #[]⟩
noncomputable def o442 (P : Params) : Obj := ⟨(.type "classmethod"), (.some 441), (.fields #[(.ref 440), (.bool false)]), #[]⟩
noncomputable def o443 (P : Params) : Obj := ⟨(.type "dict"), .none, (.dict #[] 0), #[]⟩
noncomputable def o444 (P : Params) : Obj := ⟨(.type "tuple"), .none, (.seq #[] 0), #[]⟩
noncomputable def o445 (P : Params) : Obj := ⟨(.type "dict"), .none, (.dict #[⟨(PyData.keyHash P "__module__"), (.str "__module__" 808), (.str "limits.storage.base" 799)⟩, ⟨(PyData.keyHash P "__firstlineno__"), (.str "__firstlineno__" 812), (.int 248 811)⟩, ⟨(PyData.keyHash P "__doc__"), (.str "__doc__" 814), (.str (docS (dT 17)) 813)⟩, ⟨(PyData.keyHash P "sliding_window_keys"), (.str "sliding_window_keys" 837), (.ref 442)⟩, ⟨(PyData.keyHash P "__static_attributes__"), (.str "__static_attributes__" 838), (.ref 444)⟩, ⟨(PyData.keyHash P "__dict__"), (.str "__dict__" 840), (.ref 447)⟩, ⟨(PyData.keyHash P "__weakref__"), (.str "__weakref__" 842), (.ref 448)⟩] 3), #[]⟩
noncomputable def o446 (P : Params) : Obj := ⟨(.type "type"), .none, (.cls ⟨"TimestampedSlidingWindow", [(.type "object")], [(.ref 446), (.type "object")], 445, "TimestampedSlidingWindow", true, [], [(.ref 576)], false, .none, false⟩), #[.none, .none, (.some (.str "TimestampedSlidingWindow" 801)), (.some (.str "TimestampedSlidingWindow" 809)), (.some (.builtin "object.__new__")), (.some (.bool true))]⟩
noncomputable def o447 (P : Params) : Obj := ⟨(.type "getset_descriptor"), .none, (.fields #[(.str "__dict__" 839), (.ref 446), (.builtin "function.__dict__"), (.builtin "function.__dict__#set")]), #[]⟩
noncomputable def o448 (P : Params) : Obj := ⟨(.type "getset_descriptor"), .none, (.fields #[(.str "__weakref__" 841), (.ref 446), (.builtin "ExceptionGroup.__weakref__"), .none]), #[]⟩
noncomputable def o449 (P : Params) : Obj := ⟨(.type "super"), .none, (.fields #[(.ref 446), (.ref 446), (.ref 446)]), #[]⟩
noncomputable def o450 (P : Params) : Obj := ⟨(.type "builtin_function_or_method"), .none, (.fields #[(.builtin "object.__init_subclass__"), (.ref 446)]), #[]⟩
noncomputable def o451 (P : Params) : Obj := ⟨(.type "tuple"), .none, (.seq #[] 0), #[]⟩
noncomputable def o452 (P : Params) : Obj := ⟨.none, .none, (.fields #[]), #[]⟩
noncomputable def o453 (P : Params) : Obj := ⟨(.type "tuple"), .none, (.seq #[(.str "rows" 850), (.str "x" 851), (.str "key" 852), (.str "lo" 853), (.str "hi" 854), (.str "mid" 855)] 0), #[]⟩
noncomputable def o454 (P : Params) : Obj := ⟨(.type "tuple"), .none, (.seq #[] 0), #[]⟩
noncomputable def o455 (P : Params) : Obj := ⟨.none, .none, .func (fd (dT 19) fun a b sc => ⟨"bisect_left", "bisect_left", a, .stmts b, sc, 0, [], .none, .none, .none, .none, .none, .none, .none, 0⟩), #[]⟩
noncomputable def o456 (P : Params) : Obj := ⟨(.type "code"), .none, (.fields #[(.str "bisect_left" 847), (.str "bisect_left" 848), (.str "/claim/cut.py" 849), (.int 255 0), (.int 3 0), (.int 0 0), (.int 0 0), (.int 3 0), (.ref 451), (.bool true), (.int 181 0), (.ref 452), .none, (.ref 453), (.ref 454), (.ref 455), (.int 856 0), (.int 255 0), (.str "/claim/cut.py" 857)]), #[]⟩
noncomputable def o457 (P : Params) : Obj := ⟨(.type "function"), .none, .func (fd (dT 19) fun a b sc => ⟨"bisect_left", "bisect_left", a, .stmts b, sc, 3, [], .none, .none, (.str (docS (dT 19)) 858), (.str "limits.storage.memory" 845), .none, (.ref 456), .none, 0⟩), #[]⟩
noncomputable def o458 (P : Params) : Obj := ⟨(.type "tuple"), .none, (.seq #[(.ref 446)] 0), #[]⟩
noncomputable def o459 (P : Params) : Obj := ⟨(.type "builtin_function_or_method"), .none, (.fields #[(.builtin "type.__prepare__"), (.type "type")]), #[]⟩
noncomputable def o460 (P : Params) : Obj := ⟨(.type "dict"), .none, (.dict #[⟨(PyData.keyHash P "__module__"), (.str "__module__" 867), (.str "limits.storage.memory" 845)⟩, ⟨(PyData.keyHash P "__qualname__"), (.str "__qualname__" 869), (.str "MemoryStorage" 868)⟩, ⟨(PyData.keyHash P "__firstlineno__"), (.str "__firstlineno__" 871), (.int 266 870)⟩, ⟨(PyData.keyHash P "__doc__"), (.str "__doc__" 873), (.str (docS (dT 20)) 872)⟩, ⟨(PyData.keyHash P "__init__"), (.str "__init__" 882), (.ref 471)⟩, ⟨(PyData.keyHash P "expire_events"), (.str "expire_events" 892), (.ref 478)⟩, ⟨(PyData.keyHash P "incr"), (.str "incr" 904), (.ref 486)⟩, ⟨(PyData.keyHash P "decr"), (.str "decr" 914), (.ref 494)⟩, ⟨(PyData.keyHash P "get"), (.str "get" 923), (.ref 501)⟩, ⟨(PyData.keyHash P "clear"), (.str "clear" 932), (.ref 508)⟩, ⟨(PyData.keyHash P "acquire_entry"), (.str "acquire_entry" 944), (.ref 516)⟩, ⟨(PyData.keyHash P "get_expiry"), (.str "get_expiry" 953), (.ref 523)⟩, ⟨(PyData.keyHash P "get_moving_window"), (.str "get_moving_window" 963), (.ref 530)⟩, ⟨(PyData.keyHash P "acquire_sliding_window_entry"), (.str "acquire_sliding_window_entry" 975), (.ref 538)⟩, ⟨(PyData.keyHash P "_get_sliding_window_info"), (.str "_get_sliding_window_info" 986), (.ref 545)⟩, ⟨(PyData.keyHash P "get_sliding_window"), (.str "get_sliding_window" 995), (.ref 552)⟩, ⟨(PyData.keyHash P "clear_sliding_window"), (.str "clear_sliding_window" 1004), (.ref 559)⟩, ⟨(PyData.keyHash P "check"), (.str "check" 1011), (.ref 566)⟩, ⟨(PyData.keyHash P "reset"), (.str "reset" 1019), (.ref 573)⟩, ⟨(PyData.keyHash P "__static_attributes__"), (.str "__static_attributes__" 1024), (.ref 574)⟩] 20), #[]⟩
noncomputable def o461 (P : Params) : Obj := ⟨(.type "tuple"), .none, (.seq #[] 0), #[]⟩
noncomputable def o462 (P : Params) : Obj := ⟨.none, .none, (.fields #[(.int 274 0), (.int 4 0), (.ref 470), (.int 280 0), (.int 4 0), (.ref 477), (.int 291 0), (.int 4 0), (.ref 485), (.int 305 0), (.int 4 0), (.ref 493), (.int 308 0), (.int 4 0), (.ref 500), (.int 317 0), (.int 4 0), (.ref 507), (.int 325 0), (.int 4 0), (.ref 515), (.int 328 0), (.int 4 0), (.ref 522), (.int 334 0), (.int 4 0), (.ref 529), (.int 337 0), (.int 4 0), (.ref 537), (.int 340 0), (.int 4 0), (.ref 544), (.int 343 0), (.int 4 0), (.ref 551), (.int 346 0), (.int 4 0), (.ref 558), (.int 349 0), (.int 4 0), (.ref 565), (.int 352 0), (.int 4 0), (.ref 572)]), #[]⟩
noncomputable def o463 (P : Params) : Obj := ⟨(.type "code"), .none, (.fields #[(.str "MemoryStorage" 862), (.str "MemoryStorage" 863), (.str "/claim/cut.py" 864), (.int 266 0), (.int 0 0), (.int 0 0), (.int 0 0), (.int 0 0), (.ref 461), (.bool false), (.int 181 0), (.ref 462), .none, .none, .none, .none, (.int 865 0), (.int 266 0), (.str "/claim/cut.py" 866)]), #[]⟩
noncomputable def o464 (P : Params) : Obj := ⟨(.type "frame"), .none, .plain, #[(.some (.ref 463)), (.some (.ref 3)), (.some (.ref 460)), .none, (.some (.str "limits.storage.memory" 845)), .none, (.some (.ref 0))]⟩
noncomputable def o465 (P : Params) : Obj := ⟨(.type "tuple"), .none, (.seq #[] 0), #[]⟩
noncomputable def o466 (P : Params) : Obj := ⟨.none, .none, (.fields #[]), #[]⟩
noncomputable def o467 (P : Params) : Obj := ⟨(.type "tuple"), .none, (.seq #[(.str "self" 878), (.str "clock" 879)] 0), #[]⟩
noncomputable def o468 (P : Params) : Obj := ⟨(.type "tuple"), .none, (.seq #[] 0), #[]⟩
noncomputable def o469 (P : Params) : Obj := ⟨.none, .none, .func (fd (dC 20 1) fun a b sc => ⟨"__init__", "MemoryStorage.__init__", a, .stmts b, sc, 0, [], .none, .none, .none, .none, .none, .none, .none, 0⟩), #[]⟩
noncomputable def o470 (P : Params) : Obj := ⟨(.type "code"), .none, (.fields #[(.str "__init__" 875), (.str "MemoryStorage.__init__" 876), (.str "/claim/cut.py" 877), (.int 274 0), (.int 2 0), (.int 0 0), (.int 0 0), (.int 3 0), (.ref 465), (.bool true), (.int 181 0), (.ref 466), .none, (.ref 467), (.ref 468), (.ref 469), (.int 880 0), (.int 274 0), (.str "/claim/cut.py" 881)]), #[]⟩
noncomputable def o471 (P : Params) : Obj := ⟨(.type "function"), .none, .func (fd (dC 20 1) fun a b sc => ⟨"__init__", "MemoryStorage.__init__", a, .stmts b, sc, 3, [], .none, .none, .none, (.str "limits.storage.memory" 845), .none, (.ref 470), .none, 0⟩), #[]⟩
noncomputable def o472 (P : Params) : Obj := ⟨(.type "tuple"), .none, (.seq #[] 0), #[]⟩
noncomputable def o473 (P : Params) : Obj := ⟨.none, .none, (.fields #[]), #[]⟩
noncomputable def o474 (P : Params) : Obj := ⟨(.type "tuple"), .none, (.seq #[(.str "self" 886), (.str "key" 887), (.str "events" 888), (.str "oldest" 889)] 0), #[]⟩
noncomputable def o475 (P : Params) : Obj := ⟨(.type "tuple"), .none, (.seq #[] 0), #[]⟩
noncomputable def o476 (P : Params) : Obj := ⟨.none, .none, .func (fd (dC 20 2) fun a b sc => ⟨"expire_events", "MemoryStorage.expire_events", a, .stmts b, sc, 0, [], .none, .none, .none, .none, .none, .none, .none, 0⟩), #[]⟩
noncomputable def o477 (P : Params) : Obj := ⟨(.type "code"), .none, (.fields #[(.str "expire_events" 883), (.str "MemoryStorage.expire_events" 884), (.str "/claim/cut.py" 885), (.int 280 0), (.int 1 0), (.int 0 0), (.int 0 0), (.int 3 0), (.ref 472), (.bool true), (.int 181 0), (.ref 473), .none, (.ref 474), (.ref 475), (.ref 476), (.int 890 0), (.int 280 0), (.str "/claim/cut.py" 891)]), #[]⟩
noncomputable def o478 (P : Params) : Obj := ⟨(.type "function"), .none, .func (fd (dC 20 2) fun a b sc => ⟨"expire_events", "MemoryStorage.expire_events", a, .stmts b, sc, 3, [], .none, .none, .none, (.str "limits.storage.memory" 845), .none, (.ref 477), .none, 0⟩), #[]⟩
noncomputable def o479 (P : Params) : Obj := ⟨(.type "tuple"), .none, (.seq #[(.int 1 893)] 0), #[]⟩
noncomputable def o480 (P : Params) : Obj := ⟨(.type "tuple"), .none, (.seq #[] 0), #[]⟩
noncomputable def o481 (P : Params) : Obj := ⟨.none, .none, (.fields #[]), #[]⟩
noncomputable def o482 (P : Params) : Obj := ⟨(.type "tuple"), .none, (.seq #[(.str "self" 897), (.str "key" 898), (.str "expiry" 899), (.str "amount" 900)] 0), #[]⟩
noncomputable def o483 (P : Params) : Obj := ⟨(.type "tuple"), .none, (.seq #[] 0), #[]⟩
noncomputable def o484 (P : Params) : Obj := ⟨.none, .none, .func (fd (dC 20 3) fun a b sc => ⟨"incr", "MemoryStorage.incr", a, .stmts b, sc, 0, [], .none, .none, .none, .none, .none, .none, .none, 0⟩), #[]⟩
noncomputable def o485 (P : Params) : Obj := ⟨(.type "code"), .none, (.fields #[(.str "incr" 894), (.str "MemoryStorage.incr" 895), (.str "/claim/cut.py" 896), (.int 291 0), (.int 4 0), (.int 0 0), (.int 0 0), (.int 3 0), (.ref 480), (.bool true), (.int 181 0), (.ref 481), .none, (.ref 482), (.ref 483), (.ref 484), (.int 901 0), (.int 291 0), (.str "/claim/cut.py" 902)]), #[]⟩
noncomputable def o486 (P : Params) : Obj := ⟨(.type "function"), .none, .func (fd (dC 20 3) fun a b sc => ⟨"incr", "MemoryStorage.incr", a, .stmts b, sc, 3, [], (.ref 479), .none, (.str (docS (dC 20 3)) 903), (.str "limits.storage.memory" 845), .none, (.ref 485), .none, 0⟩), #[]⟩
noncomputable def o487 (P : Params) : Obj := ⟨(.type "tuple"), .none, (.seq #[(.int 1 905)] 0), #[]⟩
noncomputable def o488 (P : Params) : Obj := ⟨(.type "tuple"), .none, (.seq #[] 0), #[]⟩
noncomputable def o489 (P : Params) : Obj := ⟨.none, .none, (.fields #[]), #[]⟩
noncomputable def o490 (P : Params) : Obj := ⟨(.type "tuple"), .none, (.seq #[(.str "self" 909), (.str "key" 910), (.str "amount" 911)] 0), #[]⟩
noncomputable def o491 (P : Params) : Obj := ⟨(.type "tuple"), .none, (.seq #[] 0), #[]⟩
noncomputable def o492 (P : Params) : Obj := ⟨.none, .none, .func (fd (dC 20 4) fun a b sc => ⟨"decr", "MemoryStorage.decr", a, .stmts b, sc, 0, [], .none, .none, .none, .none, .none, .none, .none, 0⟩), #[]⟩
noncomputable def o493 (P : Params) : Obj := ⟨(.type "code"), .none, (.fields #[(.str "decr" 906), (.str "MemoryStorage.decr" 907), (.str "/claim/cut.py" 908), (.int 305 0), (.int 3 0), (.int 0 0), (.int 0 0), (.int 3 0), (.ref 488), (.bool true), (.int 181 0), (.ref 489), .none, (.ref 490), (.ref 491), (.ref 492), (.int 912 0), (.int 305 0), (.str "/claim/cut.py" 913)]), #[]⟩
noncomputable def o494 (P : Params) : Obj := ⟨(.type "function"), .none, .func (fd (dC 20 4) fun a b sc => ⟨"decr", "MemoryStorage.decr", a, .stmts b, sc, 3, [], (.ref 487), .none, .none, (.str "limits.storage.memory" 845), .none, (.ref 493), .none, 0⟩), #[]⟩
noncomputable def o495 (P : Params) : Obj := ⟨(.type "tuple"), .none, (.seq #[] 0), #[]⟩
noncomputable def o496 (P : Params) : Obj := ⟨.none, .none, (.fields #[]), #[]⟩
noncomputable def o497 (P : Params) : Obj := ⟨(.type "tuple"), .none, (.seq #[(.str "self" 918), (.str "key" 919)] 0), #[]⟩
noncomputable def o498 (P : Params) : Obj := ⟨(.type "tuple"), .none, (.seq #[] 0), #[]⟩
noncomputable def o499 (P : Params) : Obj := ⟨.none, .none, .func (fd (dC 20 5) fun a b sc => ⟨"get", "MemoryStorage.get", a, .stmts b, sc, 0, [], .none, .none, .none, .none, .none, .none, .none, 0⟩), #[]⟩
noncomputable def o500 (P : Params) : Obj := ⟨(.type "code"), .none, (.fields #[(.str "get" 915), (.str "MemoryStorage.get" 916), (.str "/claim/cut.py" 917), (.int 308 0), (.int 2 0), (.int 0 0), (.int 0 0), (.int 3 0), (.ref 495), (.bool true), (.int 181 0), (.ref 496), .none, (.ref 497), (.ref 498), (.ref 499), (.int 920 0), (.int 308 0), (.str "/claim/cut.py" 921)]), #[]⟩
noncomputable def o501 (P : Params) : Obj := ⟨(.type "function"), .none, .func (fd (dC 20 5) fun a b sc => ⟨"get", "MemoryStorage.get", a, .stmts b, sc, 3, [], .none, .none, (.str (docS (dC 20 5)) 922), (.str "limits.storage.memory" 845), .none, (.ref 500), .none, 0⟩), #[]⟩
noncomputable def o502 (P : Params) : Obj := ⟨(.type "tuple"), .none, (.seq #[] 0), #[]⟩
noncomputable def o503 (P : Params) : Obj := ⟨.none, .none, (.fields #[]), #[]⟩
noncomputable def o504 (P : Params) : Obj := ⟨(.type "tuple"), .none, (.seq #[(.str "self" 927), (.str "key" 928)] 0), #[]⟩
noncomputable def o505 (P : Params) : Obj := ⟨(.type "tuple"), .none, (.seq #[] 0), #[]⟩
noncomputable def o506 (P : Params) : Obj := ⟨.none, .none, .func (fd (dC 20 6) fun a b sc => ⟨"clear", "MemoryStorage.clear", a, .stmts b, sc, 0, [], .none, .none, .none, .none, .none, .none, .none, 0⟩), #[]⟩
noncomputable def o507 (P : Params) : Obj := ⟨(.type "code"), .none, (.fields #[(.str "clear" 924), (.str "MemoryStorage.clear" 925), (.str "/claim/cut.py" 926), (.int 317 0), (.int 2 0), (.int 0 0), (.int 0 0), (.int 3 0), (.ref 502), (.bool true), (.int 181 0), (.ref 503), .none, (.ref 504), (.ref 505), (.ref 506), (.int 929 0), (.int 317 0), (.str "/claim/cut.py" 930)]), #[]⟩
noncomputable def o508 (P : Params) : Obj := ⟨(.type "function"), .none, .func (fd (dC 20 6) fun a b sc => ⟨"clear", "MemoryStorage.clear", a, .stmts b, sc, 3, [], .none, .none, (.str (docS (dC 20 6)) 931), (.str "limits.storage.memory" 845), .none, (.ref 507), .none, 0⟩), #[]⟩
noncomputable def o509 (P : Params) : Obj := ⟨(.type "tuple"), .none, (.seq #[(.int 1 933)] 0), #[]⟩
noncomputable def o510 (P : Params) : Obj := ⟨(.type "tuple"), .none, (.seq #[] 0), #[]⟩
noncomputable def o511 (P : Params) : Obj := ⟨.none, .none, (.fields #[]), #[]⟩
noncomputable def o512 (P : Params) : Obj := ⟨(.type "tuple"), .none, (.seq #[(.str "self" 937), (.str "key" 938), (.str "limit" 939), (.str "expiry" 940), (.str "amount" 941)] 0), #[]⟩
noncomputable def o513 (P : Params) : Obj := ⟨(.type "tuple"), .none, (.seq #[] 0), #[]⟩
noncomputable def o514 (P : Params) : Obj := ⟨.none, .none, .func (fd (dC 20 7) fun a b sc => ⟨"acquire_entry", "MemoryStorage.acquire_entry", a, .stmts b, sc, 0, [], .none, .none, .none, .none, .none, .none, .none, 0⟩), #[]⟩
noncomputable def o515 (P : Params) : Obj := ⟨(.type "code"), .none, (.fields #[(.str "acquire_entry" 934), (.str "MemoryStorage.acquire_entry" 935), (.str "/claim/cut.py" 936), (.int 325 0), (.int 5 0), (.int 0 0), (.int 0 0), (.int 3 0), (.ref 510), (.bool true), (.int 181 0), (.ref 511), .none, (.ref 512), (.ref 513), (.ref 514), (.int 942 0), (.int 325 0), (.str "/claim/cut.py" 943)]), #[]⟩
noncomputable def o516 (P : Params) : Obj := ⟨(.type "function"), .none, .func (fd (dC 20 7) fun a b sc => ⟨"acquire_entry", "MemoryStorage.acquire_entry", a, .stmts b, sc, 3, [], (.ref 509), .none, .none, (.str "limits.storage.memory" 845), .none, (.ref 515), .none, 0⟩), #[]⟩
noncomputable def o517 (P : Params) : Obj := ⟨(.type "tuple"), .none, (.seq #[] 0), #[]⟩
noncomputable def o518 (P : Params) : Obj := ⟨.none, .none, (.fields #[]), #[]⟩
noncomputable def o519 (P : Params) : Obj := ⟨(.type "tuple"), .none, (.seq #[(.str "self" 948), (.str "key" 949)] 0), #[]⟩
noncomputable def o520 (P : Params) : Obj := ⟨(.type "tuple"), .none, (.seq #[] 0), #[]⟩
noncomputable def o521 (P : Params) : Obj := ⟨.none, .none, .func (fd (dC 20 8) fun a b sc => ⟨"get_expiry", "MemoryStorage.get_expiry", a, .stmts b, sc, 0, [], .none, .none, .none, .none, .none, .none, .none, 0⟩), #[]⟩
noncomputable def o522 (P : Params) : Obj := ⟨(.type "code"), .none, (.fields #[(.str "get_expiry" 945), (.str "MemoryStorage.get_expiry" 946), (.str "/claim/cut.py" 947), (.int 328 0), (.int 2 0), (.int 0 0), (.int 0 0), (.int 3 0), (.ref 517), (.bool true), (.int 181 0), (.ref 518), .none, (.ref 519), (.ref 520), (.ref 521), (.int 950 0), (.int 328 0), (.str "/claim/cut.py" 951)]), #[]⟩
noncomputable def o523 (P : Params) : Obj := ⟨(.type "function"), .none, .func (fd (dC 20 8) fun a b sc => ⟨"get_expiry", "MemoryStorage.get_expiry", a, .stmts b, sc, 3, [], .none, .none, (.str (docS (dC 20 8)) 952), (.str "limits.storage.memory" 845), .none, (.ref 522), .none, 0⟩), #[]⟩
noncomputable def o524 (P : Params) : Obj := ⟨(.type "tuple"), .none, (.seq #[] 0), #[]⟩
noncomputable def o525 (P : Params) : Obj := ⟨.none, .none, (.fields #[]), #[]⟩
noncomputable def o526 (P : Params) : Obj := ⟨(.type "tuple"), .none, (.seq #[(.str "self" 957), (.str "key" 958), (.str "limit" 959), (.str "expiry" 960)] 0), #[]⟩
noncomputable def o527 (P : Params) : Obj := ⟨(.type "tuple"), .none, (.seq #[] 0), #[]⟩
noncomputable def o528 (P : Params) : Obj := ⟨.none, .none, .func (fd (dC 20 9) fun a b sc => ⟨"get_moving_window", "MemoryStorage.get_moving_window", a, .stmts b, sc, 0, [], .none, .none, .none, .none, .none, .none, .none, 0⟩), #[]⟩
noncomputable def o529 (P : Params) : Obj := ⟨(.type "code"), .none, (.fields #[(.str "get_moving_window" 954), (.str "MemoryStorage.get_moving_window" 955), (.str "/claim/cut.py" 956), (.int 334 0), (.int 4 0), (.int 0 0), (.int 0 0), (.int 3 0), (.ref 524), (.bool true), (.int 181 0), (.ref 525), .none, (.ref 526), (.ref 527), (.ref 528), (.int 961 0), (.int 334 0), (.str "/claim/cut.py" 962)]), #[]⟩
noncomputable def o530 (P : Params) : Obj := ⟨(.type "function"), .none, .func (fd (dC 20 9) fun a b sc => ⟨"get_moving_window", "MemoryStorage.get_moving_window", a, .stmts b, sc, 3, [], .none, .none, .none, (.str "limits.storage.memory" 845), .none, (.ref 529), .none, 0⟩), #[]⟩
noncomputable def o531 (P : Params) : Obj := ⟨(.type "tuple"), .none, (.seq #[(.int 1 964)] 0), #[]⟩
noncomputable def o532 (P : Params) : Obj := ⟨(.type "tuple"), .none, (.seq #[] 0), #[]⟩
noncomputable def o533 (P : Params) : Obj := ⟨.none, .none, (.fields #[]), #[]⟩
noncomputable def o534 (P : Params) : Obj := ⟨(.type "tuple"), .none, (.seq #[(.str "self" 968), (.str "key" 969), (.str "limit" 970), (.str "expiry" 971), (.str "amount" 972)] 0), #[]⟩
noncomputable def o535 (P : Params) : Obj := ⟨(.type "tuple"), .none, (.seq #[] 0), #[]⟩
noncomputable def o536 (P : Params) : Obj := ⟨.none, .none, .func (fd (dC 20 10) fun a b sc => ⟨"acquire_sliding_window_entry", "MemoryStorage.acquire_sliding_window_entry", a, .stmts b, sc, 0, [], .none, .none, .none, .none, .none, .none, .none, 0⟩), #[]⟩
noncomputable def o537 (P : Params) : Obj := ⟨(.type "code"), .none, (.fields #[(.str "acquire_sliding_window_entry" 965), (.str "MemoryStorage.acquire_sliding_window_entry" 966), (.str "/claim/cut.py" 967), (.int 337 0), (.int 5 0), (.int 0 0), (.int 0 0), (.int 3 0), (.ref 532), (.bool true), (.int 181 0), (.ref 533), .none, (.ref 534), (.ref 535), (.ref 536), (.int 973 0), (.int 337 0), (.str "/claim/cut.py" 974)]), #[]⟩
noncomputable def o538 (P : Params) : Obj := ⟨(.type "function"), .none, .func (fd (dC 20 10) fun a b sc => ⟨"acquire_sliding_window_entry", "MemoryStorage.acquire_sliding_window_entry", a, .stmts b, sc, 3, [], (.ref 531), .none, .none, (.str "limits.storage.memory" 845), .none, (.ref 537), .none, 0⟩), #[]⟩
noncomputable def o539 (P : Params) : Obj := ⟨(.type "tuple"), .none, (.seq #[] 0), #[]⟩
noncomputable def o540 (P : Params) : Obj := ⟨.none, .none, (.fields #[]), #[]⟩
noncomputable def o541 (P : Params) : Obj := ⟨(.type "tuple"), .none, (.seq #[(.str "self" 979), (.str "previous_key" 980), (.str "current_key" 981), (.str "expiry" 982), (.str "now" 983)] 0), #[]⟩
noncomputable def o542 (P : Params) : Obj := ⟨(.type "tuple"), .none, (.seq #[] 0), #[]⟩
noncomputable def o543 (P : Params) : Obj := ⟨.none, .none, .func (fd (dC 20 11) fun a b sc => ⟨"_get_sliding_window_info", "MemoryStorage._get_sliding_window_info", a, .stmts b, sc, 0, [], .none, .none, .none, .none, .none, .none, .none, 0⟩), #[]⟩
noncomputable def o544 (P : Params) : Obj := ⟨(.type "code"), .none, (.fields #[(.str "_get_sliding_window_info" 976), (.str "MemoryStorage._get_sliding_window_info" 977), (.str "/claim/cut.py" 978), (.int 340 0), (.int 5 0), (.int 0 0), (.int 0 0), (.int 3 0), (.ref 539), (.bool true), (.int 181 0), (.ref 540), .none, (.ref 541), (.ref 542), (.ref 543), (.int 984 0), (.int 340 0), (.str "/claim/cut.py" 985)]), #[]⟩
noncomputable def o545 (P : Params) : Obj := ⟨(.type "function"), .none, .func (fd (dC 20 11) fun a b sc => ⟨"_get_sliding_window_info", "MemoryStorage._get_sliding_window_info", a, .stmts b, sc, 3, [], .none, .none, .none, (.str "limits.storage.memory" 845), .none, (.ref 544), .none, 0⟩), #[]⟩
noncomputable def o546 (P : Params) : Obj := ⟨(.type "tuple"), .none, (.seq #[] 0), #[]⟩
noncomputable def o547 (P : Params) : Obj := ⟨.none, .none, (.fields #[]), #[]⟩
noncomputable def o548 (P : Params) : Obj := ⟨(.type "tuple"), .none, (.seq #[(.str "self" 990), (.str "key" 991), (.str "expiry" 992)] 0), #[]⟩
noncomputable def o549 (P : Params) : Obj := ⟨(.type "tuple"), .none, (.seq #[] 0), #[]⟩
noncomputable def o550 (P : Params) : Obj := ⟨.none, .none, .func (fd (dC 20 12) fun a b sc => ⟨"get_sliding_window", "MemoryStorage.get_sliding_window", a, .stmts b, sc, 0, [], .none, .none, .none, .none, .none, .none, .none, 0⟩), #[]⟩
noncomputable def o551 (P : Params) : Obj := ⟨(.type "code"), .none, (.fields #[(.str "get_sliding_window" 987), (.str "MemoryStorage.get_sliding_window" 988), (.str "/claim/cut.py" 989), (.int 343 0), (.int 3 0), (.int 0 0), (.int 0 0), (.int 3 0), (.ref 546), (.bool true), (.int 181 0), (.ref 547), .none, (.ref 548), (.ref 549), (.ref 550), (.int 993 0), (.int 343 0), (.str "/claim/cut.py" 994)]), #[]⟩
noncomputable def o552 (P : Params) : Obj := ⟨(.type "function"), .none, .func (fd (dC 20 12) fun a b sc => ⟨"get_sliding_window", "MemoryStorage.get_sliding_window", a, .stmts b, sc, 3, [], .none, .none, .none, (.str "limits.storage.memory" 845), .none, (.ref 551), .none, 0⟩), #[]⟩
noncomputable def o553 (P : Params) : Obj := ⟨(.type "tuple"), .none, (.seq #[] 0), #[]⟩
noncomputable def o554 (P : Params) : Obj := ⟨.none, .none, (.fields #[]), #[]⟩
noncomputable def o555 (P : Params) : Obj := ⟨(.type "tuple"), .none, (.seq #[(.str "self" 999), (.str "key" 1000), (.str "expiry" 1001)] 0), #[]⟩
noncomputable def o556 (P : Params) : Obj := ⟨(.type "tuple"), .none, (.seq #[] 0), #[]⟩
noncomputable def o557 (P : Params) : Obj := ⟨.none, .none, .func (fd (dC 20 13) fun a b sc => ⟨"clear_sliding_window", "MemoryStorage.clear_sliding_window", a, .stmts b, sc, 0, [], .none, .none, .none, .none, .none, .none, .none, 0⟩), #[]⟩
noncomputable def o558 (P : Params) : Obj := ⟨(.type "code"), .none, (.fields #[(.str "clear_sliding_window" 996), (.str "MemoryStorage.clear_sliding_window" 997), (.str "/claim/cut.py" 998), (.int 346 0), (.int 3 0), (.int 0 0), (.int 0 0), (.int 3 0), (.ref 553), (.bool true), (.int 181 0), (.ref 554), .none, (.ref 555), (.ref 556), (.ref 557), (.int 1002 0), (.int 346 0), (.str "/claim/cut.py" 1003)]), #[]⟩
noncomputable def o559 (P : Params) : Obj := ⟨(.type "function"), .none, .func (fd (dC 20 13) fun a b sc => ⟨"clear_sliding_window", "MemoryStorage.clear_sliding_window", a, .stmts b, sc, 3, [], .none, .none, .none, (.str "limits.storage.memory" 845), .none, (.ref 558), .none, 0⟩), #[]⟩
noncomputable def o560 (P : Params) : Obj := ⟨(.type "tuple"), .none, (.seq #[] 0), #[]⟩
noncomputable def o561 (P : Params) : Obj := ⟨.none, .none, (.fields #[]), #[]⟩
noncomputable def o562 (P : Params) : Obj := ⟨(.type "tuple"), .none, (.seq #[(.str "self" 1008)] 0), #[]⟩
noncomputable def o563 (P : Params) : Obj := ⟨(.type "tuple"), .none, (.seq #[] 0), #[]⟩
noncomputable def o564 (P : Params) : Obj := ⟨.none, .none, .func (fd (dC 20 14) fun a b sc => ⟨"check", "MemoryStorage.check", a, .stmts b, sc, 0, [], .none, .none, .none, .none, .none, .none, .none, 0⟩), #[]⟩
noncomputable def o565 (P : Params) : Obj := ⟨(.type "code"), .none, (.fields #[(.str "check" 1005), (.str "MemoryStorage.check" 1006), (.str "/claim/cut.py" 1007), (.int 349 0), (.int 1 0), (.int 0 0), (.int 0 0), (.int 3 0), (.ref 560), (.bool true), (.int 181 0), (.ref 561), .none, (.ref 562), (.ref 563), (.ref 564), (.int 1009 0), (.int 349 0), (.str "/claim/cut.py" 1010)]), #[]⟩
noncomputable def o566 (P : Params) : Obj := ⟨(.type "function"), .none, .func (fd (dC 20 14) fun a b sc => ⟨"check", "MemoryStorage.check", a, .stmts b, sc, 3, [], .none, .none, .none, (.str "limits.storage.memory" 845), .none, (.ref 565), .none, 0⟩), #[]⟩
noncomputable def o567 (P : Params) : Obj := ⟨(.type "tuple"), .none, (.seq #[] 0), #[]⟩
noncomputable def o568 (P : Params) : Obj := ⟨.none, .none, (.fields #[]), #[]⟩
noncomputable def o569 (P : Params) : Obj := ⟨(.type "tuple"), .none, (.seq #[(.str "self" 1015), (.str "num_items" 1016)] 0), #[]⟩
noncomputable def o570 (P : Params) : Obj := ⟨(.type "tuple"), .none, (.seq #[] 0), #[]⟩
noncomputable def o571 (P : Params) : Obj := ⟨.none, .none, .func (fd (dC 20 15) fun a b sc => ⟨"reset", "MemoryStorage.reset", a, .stmts b, sc, 0, [], .none, .none, .none, .none, .none, .none, .none, 0⟩), #[]⟩
noncomputable def o572 (P : Params) : Obj := ⟨(.type "code"), .none, (.fields #[(.str "reset" 1012), (.str "MemoryStorage.reset" 1013), (.str "/claim/cut.py" 1014), (.int 352 0), (.int 1 0), (.int 0 0), (.int 0 0), (.int 3 0), (.ref 567), (.bool true), (.int 181 0), (.ref 568), .none, (.ref 569), (.ref 570), (.ref 571), (.int 1017 0), (.int 352 0), (.str "/claim/cut.py" 1018)]), #[]⟩
noncomputable def o573 (P : Params) : Obj := ⟨(.type "function"), .none, .func (fd (dC 20 15) fun a b sc => ⟨"reset", "MemoryStorage.reset", a, .stmts b, sc, 3, [], .none, .none, .none, (.str "limits.storage.memory" 845), .none, (.ref 572), .none, 0⟩), #[]⟩
noncomputable def o574 (P : Params) : Obj := ⟨(.type "tuple"), .none, (.seq #[(.str "clock" 1020), (.str "events" 1021), (.str "expirations" 1022), (.str "storage" 1023)] 0), #[]⟩
noncomputable def o575 (P : Params) : Obj := ⟨(.type "dict"), .none, (.dict #[⟨(PyData.keyHash P "__module__"), (.str "__module__" 867), (.str "limits.storage.memory" 845)⟩, ⟨(PyData.keyHash P "__firstlineno__"), (.str "__firstlineno__" 871), (.int 266 870)⟩, ⟨(PyData.keyHash P "__doc__"), (.str "__doc__" 873), (.str (docS (dT 20)) 872)⟩, ⟨(PyData.keyHash P "__init__"), (.str "__init__" 882), (.ref 471)⟩, ⟨(PyData.keyHash P "expire_events"), (.str "expire_events" 892), (.ref 478)⟩, ⟨(PyData.keyHash P "incr"), (.str "incr" 904), (.ref 486)⟩, ⟨(PyData.keyHash P "decr"), (.str "decr" 914), (.ref 494)⟩, ⟨(PyData.keyHash P "get"), (.str "get" 923), (.ref 501)⟩, ⟨(PyData.keyHash P "clear"), (.str "clear" 932), (.ref 508)⟩, ⟨(PyData.keyHash P "acquire_entry"), (.str "acquire_entry" 944), (.ref 516)⟩, ⟨(PyData.keyHash P "get_expiry"), (.str "get_expiry" 953), (.ref 523)⟩, ⟨(PyData.keyHash P "get_moving_window"), (.str "get_moving_window" 963), (.ref 530)⟩, ⟨(PyData.keyHash P "acquire_sliding_window_entry"), (.str "acquire_sliding_window_entry" 975), (.ref 538)⟩, ⟨(PyData.keyHash P "_get_sliding_window_info"), (.str "_get_sliding_window_info" 986), (.ref 545)⟩, ⟨(PyData.keyHash P "get_sliding_window"), (.str "get_sliding_window" 995), (.ref 552)⟩, ⟨(PyData.keyHash P "clear_sliding_window"), (.str "clear_sliding_window" 1004), (.ref 559)⟩, ⟨(PyData.keyHash P "check"), (.str "check" 1011), (.ref 566)⟩, ⟨(PyData.keyHash P "reset"), (.str "reset" 1019), (.ref 573)⟩, ⟨(PyData.keyHash P "__static_attributes__"), (.str "__static_attributes__" 1024), (.ref 574)⟩] 1), #[]⟩
noncomputable def o576 (P : Params) : Obj := ⟨(.type "type"), .none, (.cls ⟨"MemoryStorage", [(.ref 446)], [(.ref 576), (.ref 446), (.type "object")], 575, "MemoryStorage", true, [], [], false, .none, false⟩), #[(.some (.ref 458)), .none, (.some (.str "MemoryStorage" 860)), (.some (.str "MemoryStorage" 868)), (.some (.builtin "object.__new__")), (.some (.bool true))]⟩
noncomputable def o577 (P : Params) : Obj := ⟨(.type "super"), .none, (.fields #[(.ref 576), (.ref 576), (.ref 576)]), #[]⟩
noncomputable def o578 (P : Params) : Obj := ⟨(.type "builtin_function_or_method"), .none, (.fields #[(.builtin "object.__init_subclass__"), (.ref 576)]), #[]⟩
noncomputable def o579 (P : Params) : Obj := ⟨(.type "tuple"), .none, (.seq #[] 0), #[]⟩
noncomputable def o580 (P : Params) : Obj := ⟨.none, .none, (.fields #[]), #[]⟩
noncomputable def o581 (P : Params) : Obj := ⟨(.type "tuple"), .none, (.seq #[] 0), #[]⟩
noncomputable def o582 (P : Params) : Obj := ⟨(.type "tuple"), .none, (.seq #[] 0), #[]⟩
noncomputable def o583 (P : Params) : Obj := ⟨.none, .none, .func (fd (dT 22) fun a b sc => ⟨"_law_names", "_law_names", a, .stmts b, sc, 0, [], .none, .none, .none, .none, .none, .none, .none, 0⟩), #[]⟩
noncomputable def o584 (P : Params) : Obj := ⟨(.type "code"), .none, (.fields #[(.str "_law_names" 1029), (.str "_law_names" 1030), (.str "/claim/cut.py" 1031), (.int 359 0), (.int 0 0), (.int 0 0), (.int 0 0), (.int 3 0), (.ref 579), (.bool true), (.int 181 0), (.ref 580), .none, (.ref 581), (.ref 582), (.ref 583), (.int 1032 0), (.int 359 0), (.str "/claim/cut.py" 1033)]), #[]⟩
noncomputable def o585 (P : Params) : Obj := ⟨(.type "function"), .none, .func (fd (dT 22) fun a b sc => ⟨"_law_names", "_law_names", a, .stmts b, sc, 3, [], .none, .none, .none, (.str "law_jb0021_01" 1027), .none, (.ref 584), .none, 0⟩), #[]⟩
noncomputable def o586 (P : Params) : Obj := ⟨(.type "tuple"), .none, (.seq #[] 0), #[]⟩
noncomputable def o587 (P : Params) : Obj := ⟨.none, .none, (.fields #[]), #[]⟩
noncomputable def o588 (P : Params) : Obj := ⟨(.type "tuple"), .none, (.seq #[(.str "held" 1038), (.str "key" 1039), (.str "now" 1040)] 0), #[]⟩
noncomputable def o589 (P : Params) : Obj := ⟨(.type "tuple"), .none, (.seq #[] 0), #[]⟩
noncomputable def o590 (P : Params) : Obj := ⟨.none, .none, .func (fd (dT 23) fun a b sc => ⟨"_law_live", "_law_live", a, .stmts b, sc, 0, [], .none, .none, .none, .none, .none, .none, .none, 0⟩), #[]⟩
noncomputable def o591 (P : Params) : Obj := ⟨(.type "code"), .none, (.fields #[(.str "_law_live" 1035), (.str "_law_live" 1036), (.str "/claim/cut.py" 1037), (.int 361 0), (.int 3 0), (.int 0 0), (.int 0 0), (.int 3 0), (.ref 586), (.bool true), (.int 181 0), (.ref 587), .none, (.ref 588), (.ref 589), (.ref 590), (.int 1041 0), (.int 361 0), (.str "/claim/cut.py" 1042)]), #[]⟩
noncomputable def o592 (P : Params) : Obj := ⟨(.type "function"), .none, .func (fd (dT 23) fun a b sc => ⟨"_law_live", "_law_live", a, .stmts b, sc, 3, [], .none, .none, .none, (.str "law_jb0021_01" 1027), .none, (.ref 591), .none, 0⟩), #[]⟩
noncomputable def o593 (P : Params) : Obj := ⟨(.type "tuple"), .none, (.seq #[] 0), #[]⟩
noncomputable def o594 (P : Params) : Obj := ⟨.none, .none, (.fields #[]), #[]⟩
noncomputable def o595 (P : Params) : Obj := ⟨(.type "tuple"), .none, (.seq #[(.str "script" 1047), (.str "first" 1048), (.str "store" 1049), (.str "limiter" 1050), (.str "sizes" 1051), (.str "items" 1052), (.str "held" 1053), (.str "n" 1054), (.str "which" 1055), (.str "amount" 1056), (.str "length" 1057), (.str "name" 1058), (.str "key" 1059), (.str "deed" 1060), (.str "cost" 1061), (.str "count" 1062), (.str "end" 1063), (.str "told" 1064), (.str "one" 1065)] 0), #[]⟩
noncomputable def o596 (P : Params) : Obj := ⟨(.type "tuple"), .none, (.seq #[(.str "now" 1066)] 0), #[]⟩
noncomputable def o597 (P : Params) : Obj := ⟨.none, .none, .func (fd (dT 24) fun a b sc => ⟨"law", "law", a, .stmts b, sc, 0, [], .none, .none, .none, .none, .none, .none, .none, 0⟩), #[]⟩
noncomputable def o598 (P : Params) : Obj := ⟨(.type "code"), .none, (.fields #[(.str "law" 1044), (.str "law" 1045), (.str "/claim/cut.py" 1046), (.int 365 0), (.int 1 0), (.int 0 0), (.int 0 0), (.int 3 0), (.ref 593), (.bool true), (.int 181 0), (.ref 594), .none, (.ref 595), (.ref 596), (.ref 597), (.int 1067 0), (.int 365 0), (.str "/claim/cut.py" 1068)]), #[]⟩
noncomputable def o599 (P : Params) : Obj := ⟨(.type "function"), .none, .func (fd (dT 24) fun a b sc => ⟨"law", "law", a, .stmts b, sc, 3, [], .none, .none, .none, (.str "law_jb0021_01" 1027), .none, (.ref 598), .none, 0⟩), #[]⟩
noncomputable def allO (P : Params) : List Obj := boot_o_0 P :: boot_o_1 P :: boot_o_2 P :: o3 P :: boot_o_4 P :: boot_o_5 P :: boot_o_6 P :: boot_o_7 P :: boot_o_8 P :: boot_o_9 P :: boot_o_10 P :: o11 P :: o12 P :: o13 P :: o14 P :: o15 P :: o16 P :: o17 P :: o18 P :: o19 P :: o20 P :: o21 P :: o22 P :: o23 P :: o24 P :: o25 P :: o26 P :: o27 P :: o28 P :: o29 P :: o30 P :: o31 P :: o32 P :: o33 P :: o34 P :: o35 P :: o36 P :: o37 P :: o38 P :: o39 P :: o40 P :: o41 P :: o42 P :: o43 P :: o44 P :: o45 P :: o46 P :: o47 P :: o48 P :: o49 P :: o50 P :: o51 P :: o52 P :: o53 P :: o54 P :: o55 P :: o56 P :: o57 P :: o58 P :: o59 P :: o60 P :: o61 P :: o62 P :: o63 P :: o64 P :: o65 P :: o66 P :: o67 P :: o68 P :: o69 P :: o70 P :: o71 P :: o72 P :: o73 P :: o74 P :: o75 P :: o76 P :: o77 P :: o78 P :: o79 P :: o80 P :: o81 P :: o82 P :: o83 P :: o84 P :: o85 P :: o86 P :: o87 P :: o88 P :: o89 P :: o90 P :: o91 P :: o92 P :: o93 P :: o94 P :: o95 P :: o96 P :: o97 P :: o98 P :: o99 P :: o100 P :: o101 P :: o102 P :: o103 P :: o104 P :: o105 P :: o106 P :: o107 P :: o108 P :: o109 P :: o110 P :: o111 P :: o112 P :: o113 P :: o114 P :: o115 P :: o116 P :: o117 P :: o118 P :: o119 P :: o120 P :: o121 P :: o122 P :: o123 P :: o124 P :: o125 P :: o126 P :: o127 P :: o128 P :: o129 P :: o130 P :: o131 P :: o132 P :: o133 P :: o134 P :: o135 P :: o136 P :: o137 P :: o138 P :: o139 P :: o140 P :: o141 P :: o142 P :: o143 P :: o144 P :: o145 P :: o146 P :: o147 P :: o148 P :: o149 P :: o150 P :: o151 P :: o152 P :: o153 P :: o154 P :: o155 P :: o156 P :: o157 P :: o158 P :: o159 P :: o160 P :: o161 P :: o162 P :: o163 P :: o164 P :: o165 P :: o166 P :: o167 P :: o168 P :: o169 P :: o170 P :: o171 P :: o172 P :: o173 P :: o174 P :: o175 P :: o176 P :: o177 P :: o178 P :: o179 P :: o180 P :: o181 P :: o182 P :: o183 P :: o184 P :: o185 P :: o186 P :: o187 P :: o188 P :: o189 P :: o190 P :: o191 P :: o192 P :: o193 P :: o194 P :: o195 P :: o196 P :: o197 P :: o198 P :: o199 P :: o200 P :: o201 P :: o202 P :: o203 P :: o204 P :: o205 P :: o206 P :: o207 P :: o208 P :: o209 P :: o210 P :: o211 P :: o212 P :: o213 P :: o214 P :: o215 P :: o216 P :: o217 P :: o218 P :: o219 P :: o220 P :: o221 P :: o222 P :: o223 P :: o224 P :: o225 P :: o226 P :: o227 P :: o228 P :: o229 P :: o230 P :: o231 P :: o232 P :: o233 P :: o234 P :: o235 P :: o236 P :: o237 P :: o238 P :: o239 P :: o240 P :: o241 P :: o242 P :: o243 P :: o244 P :: o245 P :: o246 P :: o247 P :: o248 P :: o249 P :: o250 P :: o251 P :: o252 P :: o253 P :: o254 P :: o255 P :: o256 P :: o257 P :: o258 P :: o259 P :: o260 P :: o261 P :: o262 P :: o263 P :: o264 P :: o265 P :: o266 P :: o267 P :: o268 P :: o269 P :: o270 P :: o271 P :: o272 P :: o273 P :: o274 P :: o275 P :: o276 P :: o277 P :: o278 P :: o279 P :: o280 P :: o281 P :: o282 P :: o283 P :: o284 P :: o285 P :: o286 P :: o287 P :: o288 P :: o289 P :: o290 P :: o291 P :: o292 P :: o293 P :: o294 P :: o295 P :: o296 P :: o297 P :: o298 P :: o299 P :: o300 P :: o301 P :: o302 P :: o303 P :: o304 P :: o305 P :: o306 P :: o307 P :: o308 P :: o309 P :: o310 P :: o311 P :: o312 P :: o313 P :: o314 P :: o315 P :: o316 P :: o317 P :: o318 P :: o319 P :: o320 P :: o321 P :: o322 P :: o323 P :: o324 P :: o325 P :: o326 P :: o327 P :: o328 P :: o329 P :: o330 P :: o331 P :: o332 P :: o333 P :: o334 P :: o335 P :: o336 P :: o337 P :: o338 P :: o339 P :: o340 P :: o341 P :: o342 P :: o343 P :: o344 P :: o345 P :: o346 P :: o347 P :: o348 P :: o349 P :: o350 P :: o351 P :: o352 P :: o353 P :: o354 P :: o355 P :: o356 P :: o357 P :: o358 P :: o359 P :: o360 P :: o361 P :: o362 P :: o363 P :: o364 P :: o365 P :: o366 P :: o367 P :: o368 P :: o369 P :: o370 P :: o371 P :: o372 P :: o373 P :: o374 P :: o375 P :: o376 P :: o377 P :: o378 P :: o379 P :: o380 P :: o381 P :: o382 P :: o383 P :: o384 P :: o385 P :: o386 P :: o387 P :: o388 P :: o389 P :: o390 P :: o391 P :: o392 P :: o393 P :: o394 P :: o395 P :: o396 P :: o397 P :: o398 P :: o399 P :: o400 P :: o401 P :: o402 P :: o403 P :: o404 P :: o405 P :: o406 P :: o407 P :: o408 P :: o409 P :: o410 P :: o411 P :: o412 P :: o413 P :: o414 P :: o415 P :: o416 P :: o417 P :: o418 P :: o419 P :: o420 P :: o421 P :: o422 P :: o423 P :: o424 P :: o425 P :: o426 P :: o427 P :: o428 P :: o429 P :: o430 P :: o431 P :: o432 P :: o433 P :: o434 P :: o435 P :: o436 P :: o437 P :: o438 P :: o439 P :: o440 P :: o441 P :: o442 P :: o443 P :: o444 P :: o445 P :: o446 P :: o447 P :: o448 P :: o449 P :: o450 P :: o451 P :: o452 P :: o453 P :: o454 P :: o455 P :: o456 P :: o457 P :: o458 P :: o459 P :: o460 P :: o461 P :: o462 P :: o463 P :: o464 P :: o465 P :: o466 P :: o467 P :: o468 P :: o469 P :: o470 P :: o471 P :: o472 P :: o473 P :: o474 P :: o475 P :: o476 P :: o477 P :: o478 P :: o479 P :: o480 P :: o481 P :: o482 P :: o483 P :: o484 P :: o485 P :: o486 P :: o487 P :: o488 P :: o489 P :: o490 P :: o491 P :: o492 P :: o493 P :: o494 P :: o495 P :: o496 P :: o497 P :: o498 P :: o499 P :: o500 P :: o501 P :: o502 P :: o503 P :: o504 P :: o505 P :: o506 P :: o507 P :: o508 P :: o509 P :: o510 P :: o511 P :: o512 P :: o513 P :: o514 P :: o515 P :: o516 P :: o517 P :: o518 P :: o519 P :: o520 P :: o521 P :: o522 P :: o523 P :: o524 P :: o525 P :: o526 P :: o527 P :: o528 P :: o529 P :: o530 P :: o531 P :: o532 P :: o533 P :: o534 P :: o535 P :: o536 P :: o537 P :: o538 P :: o539 P :: o540 P :: o541 P :: o542 P :: o543 P :: o544 P :: o545 P :: o546 P :: o547 P :: o548 P :: o549 P :: o550 P :: o551 P :: o552 P :: o553 P :: o554 P :: o555 P :: o556 P :: o557 P :: o558 P :: o559 P :: o560 P :: o561 P :: o562 P :: o563 P :: o564 P :: o565 P :: o566 P :: o567 P :: o568 P :: o569 P :: o570 P :: o571 P :: o572 P :: o573 P :: o574 P :: o575 P :: o576 P :: o577 P :: o578 P :: o579 P :: o580 P :: o581 P :: o582 P :: o583 P :: o584 P :: o585 P :: o586 P :: o587 P :: o588 P :: o589 P :: o590 P :: o591 P :: o592 P :: o593 P :: o594 P :: o595 P :: o596 P :: o597 P :: o598 P :: o599 P :: []
noncomputable def o12_a (P : Params) : Obj := ⟨.none, .none, (.fields #[]), #[]⟩
noncomputable def La (P : Params) : List Obj := ((((allO P).take 15).set 3 (boot_o_3 P)).set 12 (o12_a P))
noncomputable def o12_0 (P : Params) : Obj := ⟨.none, .none, (.fields #[]), #[]⟩
noncomputable def L0 (P : Params) : List Obj := ((((allO P).take 15).set 3 (boot_o_3 P)).set 12 (o12_0 P))
noncomputable def o3_1 (P : Params) : Obj := ⟨(.type "dict"), .none, (.dict #[⟨(PyData.keyHash P "__name__"), (.str "__name__" 165), (.str "limits.util" 194)⟩, ⟨(PyData.keyHash P "__doc__"), (.str "__doc__" 166), .none⟩, ⟨(PyData.keyHash P "__package__"), (.str "__package__" 167), .none⟩, ⟨(PyData.keyHash P "__loader__"), (.str "__loader__" 168), (.builtin "__main__.__loader__#opaque")⟩, ⟨(PyData.keyHash P "__spec__"), (.str "__spec__" 169), .none⟩, ⟨(PyData.keyHash P "__annotations__"), (.str "__annotations__" 170), (.ref 6)⟩, ⟨(PyData.keyHash P "__builtins__"), (.str "__builtins__" 171), (.ref 4)⟩, ⟨(PyData.keyHash P "__file__"), (.str "__file__" 173), (.str "/claim/cut.py" 172)⟩, ⟨(PyData.keyHash P "__cached__"), (.str "__cached__" 174), .none⟩, ⟨(PyData.keyHash P "_wall"), (.str "_wall" 193), (.ref 21)⟩, ⟨(PyData.keyHash P "_tuplegetter"), (.str "_tuplegetter" 252), (.ref 60)⟩, ⟨(PyData.keyHash P "tuplegetter_util"), (.str "tuplegetter_util" 253), (.ref 60)⟩] 12), #[]⟩
noncomputable def o12_1 (P : Params) : Obj := ⟨.none, .none, (.fields #[(.int 1 0), (.int 0 0), (.ref 20), (.int 5 0), (.int 0 0), (.ref 27)]), #[]⟩
noncomputable def L1 (P : Params) : List Obj := ((((allO P).take 65).set 3 (o3_1 P)).set 12 (o12_1 P))
noncomputable def o3_2 (P : Params) : Obj := ⟨(.type "dict"), .none, (.dict #[⟨(PyData.keyHash P "__name__"), (.str "__name__" 165), (.str "limits.strategies" 369)⟩, ⟨(PyData.keyHash P "__doc__"), (.str "__doc__" 166), .none⟩, ⟨(PyData.keyHash P "__package__"), (.str "__package__" 167), .none⟩, ⟨(PyData.keyHash P "__loader__"), (.str "__loader__" 168), (.builtin "__main__.__loader__#opaque")⟩, ⟨(PyData.keyHash P "__spec__"), (.str "__spec__" 169), .none⟩, ⟨(PyData.keyHash P "__annotations__"), (.str "__annotations__" 170), (.ref 6)⟩, ⟨(PyData.keyHash P "__builtins__"), (.str "__builtins__" 171), (.ref 4)⟩, ⟨(PyData.keyHash P "__file__"), (.str "__file__" 173), (.str "/claim/cut.py" 172)⟩, ⟨(PyData.keyHash P "__cached__"), (.str "__cached__" 174), .none⟩, ⟨(PyData.keyHash P "_wall"), (.str "_wall" 193), (.ref 21)⟩, ⟨(PyData.keyHash P "_tuplegetter"), (.str "_tuplegetter" 252), (.ref 60)⟩, ⟨(PyData.keyHash P "tuplegetter_util"), (.str "tuplegetter_util" 253), (.ref 60)⟩, ⟨(PyData.keyHash P "WindowStats"), (.str "WindowStats" 368), (.ref 132)⟩] 13), #[]⟩
noncomputable def o12_2 (P : Params) : Obj := ⟨.none, .none, (.fields #[(.int 1 0), (.int 0 0), (.ref 20), (.int 5 0), (.int 0 0), (.ref 27), (.int 24 0), (.int 0 0), (.ref 71)]), #[]⟩
noncomputable def L2 (P : Params) : List Obj := ((((allO P).take 136).set 3 (o3_2 P)).set 12 (o12_2 P))
noncomputable def o3_3 (P : Params) : Obj := ⟨(.type "dict"), .none, (.dict #[⟨(PyData.keyHash P "__name__"), (.str "__name__" 165), (.str "limits.limits" 463)⟩, ⟨(PyData.keyHash P "__doc__"), (.str "__doc__" 166), .none⟩, ⟨(PyData.keyHash P "__package__"), (.str "__package__" 167), .none⟩, ⟨(PyData.keyHash P "__loader__"), (.str "__loader__" 168), (.builtin "__main__.__loader__#opaque")⟩, ⟨(PyData.keyHash P "__spec__"), (.str "__spec__" 169), .none⟩, ⟨(PyData.keyHash P "__annotations__"), (.str "__annotations__" 170), (.ref 6)⟩, ⟨(PyData.keyHash P "__builtins__"), (.str "__builtins__" 171), (.ref 4)⟩, ⟨(PyData.keyHash P "__file__"), (.str "__file__" 173), (.str "/claim/cut.py" 172)⟩, ⟨(PyData.keyHash P "__cached__"), (.str "__cached__" 174), .none⟩, ⟨(PyData.keyHash P "_wall"), (.str "_wall" 193), (.ref 21)⟩, ⟨(PyData.keyHash P "_tuplegetter"), (.str "_tuplegetter" 252), (.ref 60)⟩, ⟨(PyData.keyHash P "tuplegetter_util"), (.str "tuplegetter_util" 253), (.ref 60)⟩, ⟨(PyData.keyHash P "WindowStats"), (.str "WindowStats" 368), (.ref 132)⟩, ⟨(PyData.keyHash P "RateLimiter"), (.str "RateLimiter" 408), (.ref 161)⟩, ⟨(PyData.keyHash P "FixedWindowRateLimiter"), (.str "FixedWindowRateLimiter" 462), (.ref 202)⟩] 15), #[]⟩
noncomputable def o12_3 (P : Params) : Obj := ⟨.none, .none, (.fields #[(.int 1 0), (.int 0 0), (.ref 20), (.int 5 0), (.int 0 0), (.ref 27), (.int 24 0), (.int 0 0), (.ref 71), (.int 67 0), (.int 0 0), (.ref 141), (.int 74 0), (.int 0 0), (.ref 171)]), #[]⟩
noncomputable def L3 (P : Params) : List Obj := ((((allO P).take 205).set 3 (o3_3 P)).set 12 (o12_3 P))
noncomputable def o3_4 (P : Params) : Obj := ⟨(.type "dict"), .none, (.dict #[⟨(PyData.keyHash P "__name__"), (.str "__name__" 165), (.str "limits.limits" 463)⟩, ⟨(PyData.keyHash P "__doc__"), (.str "__doc__" 166), .none⟩, ⟨(PyData.keyHash P "__package__"), (.str "__package__" 167), .none⟩, ⟨(PyData.keyHash P "__loader__"), (.str "__loader__" 168), (.builtin "__main__.__loader__#opaque")⟩, ⟨(PyData.keyHash P "__spec__"), (.str "__spec__" 169), .none⟩, ⟨(PyData.keyHash P "__annotations__"), (.str "__annotations__" 170), (.ref 6)⟩, ⟨(PyData.keyHash P "__builtins__"), (.str "__builtins__" 171), (.ref 4)⟩, ⟨(PyData.keyHash P "__file__"), (.str "__file__" 173), (.str "/claim/cut.py" 172)⟩, ⟨(PyData.keyHash P "__cached__"), (.str "__cached__" 174), .none⟩, ⟨(PyData.keyHash P "_wall"), (.str "_wall" 193), (.ref 21)⟩, ⟨(PyData.keyHash P "_tuplegetter"), (.str "_tuplegetter" 252), (.ref 243)⟩, ⟨(PyData.keyHash P "tuplegetter_util"), (.str "tuplegetter_util" 253), (.ref 60)⟩, ⟨(PyData.keyHash P "WindowStats"), (.str "WindowStats" 368), (.ref 132)⟩, ⟨(PyData.keyHash P "RateLimiter"), (.str "RateLimiter" 408), (.ref 161)⟩, ⟨(PyData.keyHash P "FixedWindowRateLimiter"), (.str "FixedWindowRateLimiter" 462), (.ref 202)⟩, ⟨(PyData.keyHash P "tuplegetter_limits"), (.str "tuplegetter_limits" 522), (.ref 243)⟩, ⟨(PyData.keyHash P "safe_string"), (.str "safe_string" 530), (.ref 254)⟩] 17), #[]⟩
noncomputable def o12_4 (P : Params) : Obj := ⟨.none, .none, (.fields #[(.int 1 0), (.int 0 0), (.ref 20), (.int 5 0), (.int 0 0), (.ref 27), (.int 24 0), (.int 0 0), (.ref 71), (.int 67 0), (.int 0 0), (.ref 141), (.int 74 0), (.int 0 0), (.ref 171), (.int 118 0), (.int 0 0), (.ref 210), (.int 137 0), (.int 0 0), (.ref 253)]), #[]⟩
noncomputable def L4 (P : Params) : List Obj := ((((allO P).take 255).set 3 (o3_4 P)).set 12 (o12_4 P))
noncomputable def o3_5 (P : Params) : Obj := ⟨(.type "dict"), .none, (.dict #[⟨(PyData.keyHash P "__name__"), (.str "__name__" 165), (.str "limits.limits" 463)⟩, ⟨(PyData.keyHash P "__doc__"), (.str "__doc__" 166), .none⟩, ⟨(PyData.keyHash P "__package__"), (.str "__package__" 167), .none⟩, ⟨(PyData.keyHash P "__loader__"), (.str "__loader__" 168), (.builtin "__main__.__loader__#opaque")⟩, ⟨(PyData.keyHash P "__spec__"), (.str "__spec__" 169), .none⟩, ⟨(PyData.keyHash P "__annotations__"), (.str "__annotations__" 170), (.ref 6)⟩, ⟨(PyData.keyHash P "__builtins__"), (.str "__builtins__" 171), (.ref 4)⟩, ⟨(PyData.keyHash P "__file__"), (.str "__file__" 173), (.str "/claim/cut.py" 172)⟩, ⟨(PyData.keyHash P "__cached__"), (.str "__cached__" 174), .none⟩, ⟨(PyData.keyHash P "_wall"), (.str "_wall" 193), (.ref 21)⟩, ⟨(PyData.keyHash P "_tuplegetter"), (.str "_tuplegetter" 252), (.ref 243)⟩, ⟨(PyData.keyHash P "tuplegetter_util"), (.str "tuplegetter_util" 253), (.ref 60)⟩, ⟨(PyData.keyHash P "WindowStats"), (.str "WindowStats" 368), (.ref 132)⟩, ⟨(PyData.keyHash P "RateLimiter"), (.str "RateLimiter" 408), (.ref 161)⟩, ⟨(PyData.keyHash P "FixedWindowRateLimiter"), (.str "FixedWindowRateLimiter" 462), (.ref 202)⟩, ⟨(PyData.keyHash P "tuplegetter_limits"), (.str "tuplegetter_limits" 522), (.ref 243)⟩, ⟨(PyData.keyHash P "safe_string"), (.str "safe_string" 530), (.ref 254)⟩, ⟨(PyData.keyHash P "Granularity"), (.str "Granularity" 645), (.ref 322)⟩] 18), #[]⟩
noncomputable def o12_5 (P : Params) : Obj := ⟨.none, .none, (.fields #[(.int 1 0), (.int 0 0), (.ref 20), (.int 5 0), (.int 0 0), (.ref 27), (.int 24 0), (.int 0 0), (.ref 71), (.int 67 0), (.int 0 0), (.ref 141), (.int 74 0), (.int 0 0), (.ref 171), (.int 118 0), (.int 0 0), (.ref 210), (.int 137 0), (.int 0 0), (.ref 253), (.int 144 0), (.int 0 0), (.ref 261)]), #[]⟩
noncomputable def L5 (P : Params) : List Obj := ((((allO P).take 326).set 3 (o3_5 P)).set 12 (o12_5 P))
noncomputable def o3_6 (P : Params) : Obj := ⟨(.type "dict"), .none, (.dict #[⟨(PyData.keyHash P "__name__"), (.str "__name__" 165), (.str "limits.limits" 463)⟩, ⟨(PyData.keyHash P "__doc__"), (.str "__doc__" 166), .none⟩, ⟨(PyData.keyHash P "__package__"), (.str "__package__" 167), .none⟩, ⟨(PyData.keyHash P "__loader__"), (.str "__loader__" 168), (.builtin "__main__.__loader__#opaque")⟩, ⟨(PyData.keyHash P "__spec__"), (.str "__spec__" 169), .none⟩, ⟨(PyData.keyHash P "__annotations__"), (.str "__annotations__" 170), (.ref 6)⟩, ⟨(PyData.keyHash P "__builtins__"), (.str "__builtins__" 171), (.ref 4)⟩, ⟨(PyData.keyHash P "__file__"), (.str "__file__" 173), (.str "/claim/cut.py" 172)⟩, ⟨(PyData.keyHash P "__cached__"), (.str "__cached__" 174), .none⟩, ⟨(PyData.keyHash P "_wall"), (.str "_wall" 193), (.ref 21)⟩, ⟨(PyData.keyHash P "_tuplegetter"), (.str "_tuplegetter" 252), (.ref 243)⟩, ⟨(PyData.keyHash P "tuplegetter_util"), (.str "tuplegetter_util" 253), (.ref 60)⟩, ⟨(PyData.keyHash P "WindowStats"), (.str "WindowStats" 368), (.ref 132)⟩, ⟨(PyData.keyHash P "RateLimiter"), (.str "RateLimiter" 408), (.ref 161)⟩, ⟨(PyData.keyHash P "FixedWindowRateLimiter"), (.str "FixedWindowRateLimiter" 462), (.ref 202)⟩, ⟨(PyData.keyHash P "tuplegetter_limits"), (.str "tuplegetter_limits" 522), (.ref 243)⟩, ⟨(PyData.keyHash P "safe_string"), (.str "safe_string" 530), (.ref 254)⟩, ⟨(PyData.keyHash P "Granularity"), (.str "Granularity" 645), (.ref 322)⟩, ⟨(PyData.keyHash P "RateLimitItem"), (.str "RateLimitItem" 742), (.ref 388)⟩, ⟨(PyData.keyHash P "RateLimitItemPerMinute"), (.str "RateLimitItemPerMinute" 770), (.ref 407)⟩] 20), #[]⟩
noncomputable def o12_6 (P : Params) : Obj := ⟨.none, .none, (.fields #[(.int 1 0), (.int 0 0), (.ref 20), (.int 5 0), (.int 0 0), (.ref 27), (.int 24 0), (.int 0 0), (.ref 71), (.int 67 0), (.int 0 0), (.ref 141), (.int 74 0), (.int 0 0), (.ref 171), (.int 118 0), (.int 0 0), (.ref 210), (.int 137 0), (.int 0 0), (.ref 253), (.int 144 0), (.int 0 0), (.ref 261), (.int 186 0), (.int 0 0), (.ref 331), (.int 235 0), (.int 0 0), (.ref 398)]), #[]⟩
noncomputable def o388_6 (P : Params) : Obj := ⟨(.type "type"), .none, (.cls ⟨"RateLimitItem", [(.type "object")], [(.ref 388), (.type "object")], 387, "RateLimitItem", true, [], [(.ref 407)], false, .none, false⟩), #[.none, .none, (.some (.str "RateLimitItem" 646)), (.some (.str "RateLimitItem" 654)), (.some (.builtin "object.__new__")), (.some (.bool true))]⟩
noncomputable def L6 (P : Params) : List Obj := (((((allO P).take 410).set 3 (o3_6 P)).set 12 (o12_6 P)).set 388 (o388_6 P))
noncomputable def o3_7 (P : Params) : Obj := ⟨(.type "dict"), .none, (.dict #[⟨(PyData.keyHash P "__name__"), (.str "__name__" 165), (.str "limits.storage.memory" 845)⟩, ⟨(PyData.keyHash P "__doc__"), (.str "__doc__" 166), .none⟩, ⟨(PyData.keyHash P "__package__"), (.str "__package__" 167), .none⟩, ⟨(PyData.keyHash P "__loader__"), (.str "__loader__" 168), (.builtin "__main__.__loader__#opaque")⟩, ⟨(PyData.keyHash P "__spec__"), (.str "__spec__" 169), .none⟩, ⟨(PyData.keyHash P "__annotations__"), (.str "__annotations__" 170), (.ref 6)⟩, ⟨(PyData.keyHash P "__builtins__"), (.str "__builtins__" 171), (.ref 4)⟩, ⟨(PyData.keyHash P "__file__"), (.str "__file__" 173), (.str "/claim/cut.py" 172)⟩, ⟨(PyData.keyHash P "__cached__"), (.str "__cached__" 174), .none⟩, ⟨(PyData.keyHash P "_wall"), (.str "_wall" 193), (.ref 21)⟩, ⟨(PyData.keyHash P "_tuplegetter"), (.str "_tuplegetter" 252), (.ref 243)⟩, ⟨(PyData.keyHash P "tuplegetter_util"), (.str "tuplegetter_util" 253), (.ref 60)⟩, ⟨(PyData.keyHash P "WindowStats"), (.str "WindowStats" 368), (.ref 132)⟩, ⟨(PyData.keyHash P "RateLimiter"), (.str "RateLimiter" 408), (.ref 161)⟩, ⟨(PyData.keyHash P "FixedWindowRateLimiter"), (.str "FixedWindowRateLimiter" 462), (.ref 202)⟩, ⟨(PyData.keyHash P "tuplegetter_limits"), (.str "tuplegetter_limits" 522), (.ref 243)⟩, ⟨(PyData.keyHash P "safe_string"), (.str "safe_string" 530), (.ref 254)⟩, ⟨(PyData.keyHash P "Granularity"), (.str "Granularity" 645), (.ref 322)⟩, ⟨(PyData.keyHash P "RateLimitItem"), (.str "RateLimitItem" 742), (.ref 388)⟩, ⟨(PyData.keyHash P "RateLimitItemPerMinute"), (.str "RateLimitItemPerMinute" 770), (.ref 407)⟩, ⟨(PyData.keyHash P "RateLimitItemPerSecond"), (.str "RateLimitItemPerSecond" 798), (.ref 424)⟩, ⟨(PyData.keyHash P "TimestampedSlidingWindow"), (.str "TimestampedSlidingWindow" 844), (.ref 446)⟩, ⟨(PyData.keyHash P "bisect_left"), (.str "bisect_left" 859), (.ref 457)⟩] 23), #[]⟩
noncomputable def o12_7 (P : Params) : Obj := ⟨.none, .none, (.fields #[(.int 1 0), (.int 0 0), (.ref 20), (.int 5 0), (.int 0 0), (.ref 27), (.int 24 0), (.int 0 0), (.ref 71), (.int 67 0), (.int 0 0), (.ref 141), (.int 74 0), (.int 0 0), (.ref 171), (.int 118 0), (.int 0 0), (.ref 210), (.int 137 0), (.int 0 0), (.ref 253), (.int 144 0), (.int 0 0), (.ref 261), (.int 186 0), (.int 0 0), (.ref 331), (.int 235 0), (.int 0 0), (.ref 398), (.int 241 0), (.int 0 0), (.ref 415), (.int 248 0), (.int 0 0), (.ref 432), (.int 255 0), (.int 0 0), (.ref 456)]), #[]⟩
noncomputable def o446_7 (P : Params) : Obj := ⟨(.type "type"), .none, (.cls ⟨"TimestampedSlidingWindow", [(.type "object")], [(.ref 446), (.type "object")], 445, "TimestampedSlidingWindow", true, [], [], false, .none, false⟩), #[.none, .none, (.some (.str "TimestampedSlidingWindow" 801)), (.some (.str "TimestampedSlidingWindow" 809)), (.some (.builtin "object.__new__")), (.some (.bool true))]⟩
noncomputable def L7 (P : Params) : List Obj := (((((allO P).take 458).set 3 (o3_7 P)).set 12 (o12_7 P)).set 446 (o446_7 P))
noncomputable def K (P : Params) : Frag := (nat_lit 2, boot_o_2 P) :: (nat_lit 3, o3 P) :: (nat_lit 15, o15 P) :: (nat_lit 17, o17 P) :: (nat_lit 18, o18 P) :: (nat_lit 20, o20 P) :: (nat_lit 21, o21 P) :: (nat_lit 29, o29 P) :: (nat_lit 31, o31 P) :: (nat_lit 32, o32 P) :: (nat_lit 34, o34 P) :: (nat_lit 35, o35 P) :: (nat_lit 36, o36 P) :: (nat_lit 37, o37 P) :: (nat_lit 39, o39 P) :: (nat_lit 40, o40 P) :: (nat_lit 42, o42 P) :: (nat_lit 43, o43 P) :: (nat_lit 44, o44 P) :: (nat_lit 46, o46 P) :: (nat_lit 47, o47 P) :: (nat_lit 49, o49 P) :: (nat_lit 50, o50 P) :: (nat_lit 51, o51 P) :: (nat_lit 53, o53 P) :: (nat_lit 54, o54 P) :: (nat_lit 56, o56 P) :: (nat_lit 57, o57 P) :: (nat_lit 58, o58 P) :: (nat_lit 59, o59 P) :: (nat_lit 60, o60 P) :: (nat_lit 61, o61 P) :: (nat_lit 62, o62 P) :: (nat_lit 65, o65 P) :: (nat_lit 68, o68 P) :: (nat_lit 73, o73 P) :: (nat_lit 74, o74 P) :: (nat_lit 75, o75 P) :: (nat_lit 76, o76 P) :: (nat_lit 78, o78 P) :: (nat_lit 79, o79 P) :: (nat_lit 81, o81 P) :: (nat_lit 82, o82 P) :: (nat_lit 83, o83 P) :: (nat_lit 85, o85 P) :: (nat_lit 86, o86 P) :: (nat_lit 88, o88 P) :: (nat_lit 89, o89 P) :: (nat_lit 90, o90 P) :: (nat_lit 91, o91 P) :: (nat_lit 92, o92 P) :: (nat_lit 93, o93 P) :: (nat_lit 94, o94 P) :: (nat_lit 96, o96 P) :: (nat_lit 97, o97 P) :: (nat_lit 99, o99 P) :: (nat_lit 100, o100 P) :: (nat_lit 101, o101 P) :: (nat_lit 103, o103 P) :: (nat_lit 104, o104 P) :: (nat_lit 106, o106 P) :: (nat_lit 107, o107 P) :: (nat_lit 108, o108 P) :: (nat_lit 110, o110 P) :: (nat_lit 111, o111 P) :: (nat_lit 113, o113 P) :: (nat_lit 114, o114 P) :: (nat_lit 115, o115 P) :: (nat_lit 117, o117 P) :: (nat_lit 118, o118 P) :: (nat_lit 120, o120 P) :: (nat_lit 121, o121 P) :: (nat_lit 122, o122 P) :: (nat_lit 123, o123 P) :: (nat_lit 124, o124 P) :: (nat_lit 126, o126 P) :: (nat_lit 127, o127 P) :: (nat_lit 129, o129 P) :: (nat_lit 131, o131 P) :: (nat_lit 132, o132 P) :: (nat_lit 133, o133 P) :: (nat_lit 143, o143 P) :: (nat_lit 145, o145 P) :: (nat_lit 146, o146 P) :: (nat_lit 148, o148 P) :: (nat_lit 149, o149 P) :: (nat_lit 150, o150 P) :: (nat_lit 151, o151 P) :: (nat_lit 152, o152 P) :: (nat_lit 154, o154 P) :: (nat_lit 155, o155 P) :: (nat_lit 157, o157 P) :: (nat_lit 158, o158 P) :: (nat_lit 159, o159 P) :: (nat_lit 160, o160 P) :: (nat_lit 161, o161 P) :: (nat_lit 162, o162 P) :: (nat_lit 163, o163 P) :: (nat_lit 166, o166 P) :: (nat_lit 173, o173 P) :: (nat_lit 174, o174 P) :: (nat_lit 175, o175 P) :: (nat_lit 177, o177 P) :: (nat_lit 178, o178 P) :: (nat_lit 180, o180 P) :: (nat_lit 181, o181 P) :: (nat_lit 182, o182 P) :: (nat_lit 183, o183 P) :: (nat_lit 184, o184 P) :: (nat_lit 186, o186 P) :: (nat_lit 187, o187 P) :: (nat_lit 189, o189 P) :: (nat_lit 190, o190 P) :: (nat_lit 191, o191 P) :: (nat_lit 192, o192 P) :: (nat_lit 193, o193 P) :: (nat_lit 195, o195 P) :: (nat_lit 196, o196 P) :: (nat_lit 198, o198 P) :: (nat_lit 199, o199 P) :: (nat_lit 200, o200 P) :: (nat_lit 201, o201 P) :: (nat_lit 202, o202 P) :: (nat_lit 212, o212 P) :: (nat_lit 214, o214 P) :: (nat_lit 215, o215 P) :: (nat_lit 217, o217 P) :: (nat_lit 218, o218 P) :: (nat_lit 219, o219 P) :: (nat_lit 220, o220 P) :: (nat_lit 222, o222 P) :: (nat_lit 223, o223 P) :: (nat_lit 225, o225 P) :: (nat_lit 226, o226 P) :: (nat_lit 227, o227 P) :: (nat_lit 229, o229 P) :: (nat_lit 230, o230 P) :: (nat_lit 232, o232 P) :: (nat_lit 233, o233 P) :: (nat_lit 234, o234 P) :: (nat_lit 236, o236 P) :: (nat_lit 237, o237 P) :: (nat_lit 239, o239 P) :: (nat_lit 240, o240 P) :: (nat_lit 241, o241 P) :: (nat_lit 242, o242 P) :: (nat_lit 243, o243 P) :: (nat_lit 244, o244 P) :: (nat_lit 245, o245 P) :: (nat_lit 248, o248 P) :: (nat_lit 250, o250 P) :: (nat_lit 251, o251 P) :: (nat_lit 253, o253 P) :: (nat_lit 254, o254 P) :: (nat_lit 255, o255 P) :: (nat_lit 258, o258 P) :: (nat_lit 263, o263 P) :: (nat_lit 264, o264 P) :: (nat_lit 265, o265 P) :: (nat_lit 266, o266 P) :: (nat_lit 268, o268 P) :: (nat_lit 269, o269 P) :: (nat_lit 271, o271 P) :: (nat_lit 272, o272 P) :: (nat_lit 273, o273 P) :: (nat_lit 275, o275 P) :: (nat_lit 276, o276 P) :: (nat_lit 278, o278 P) :: (nat_lit 279, o279 P) :: (nat_lit 280, o280 P) :: (nat_lit 281, o281 P) :: (nat_lit 282, o282 P) :: (nat_lit 283, o283 P) :: (nat_lit 284, o284 P) :: (nat_lit 286, o286 P) :: (nat_lit 287, o287 P) :: (nat_lit 289, o289 P) :: (nat_lit 290, o290 P) :: (nat_lit 291, o291 P) :: (nat_lit 293, o293 P) :: (nat_lit 294, o294 P) :: (nat_lit 296, o296 P) :: (nat_lit 297, o297 P) :: (nat_lit 298, o298 P) :: (nat_lit 300, o300 P) :: (nat_lit 301, o301 P) :: (nat_lit 303, o303 P) :: (nat_lit 304, o304 P) :: (nat_lit 305, o305 P) :: (nat_lit 307, o307 P) :: (nat_lit 308, o308 P) :: (nat_lit 310, o310 P) :: (nat_lit 311, o311 P) :: (nat_lit 312, o312 P) :: (nat_lit 313, o313 P) :: (nat_lit 314, o314 P) :: (nat_lit 316, o316 P) :: (nat_lit 317, o317 P) :: (nat_lit 319, o319 P) :: (nat_lit 321, o321 P) :: (nat_lit 322, o322 P) :: (nat_lit 323, o323 P) :: (nat_lit 333, o333 P) :: (nat_lit 334, o334 P) :: (nat_lit 336, o336 P) :: (nat_lit 337, o337 P) :: (nat_lit 339, o339 P) :: (nat_lit 340, o340 P) :: (nat_lit 341, o341 P) :: (nat_lit 343, o343 P) :: (nat_lit 344, o344 P) :: (nat_lit 346, o346 P) :: (nat_lit 347, o347 P) :: (nat_lit 348, o348 P) :: (nat_lit 349, o349 P) :: (nat_lit 350, o350 P) :: (nat_lit 351, o351 P) :: (nat_lit 353, o353 P) :: (nat_lit 354, o354 P) :: (nat_lit 356, o356 P) :: (nat_lit 357, o357 P) :: (nat_lit 358, o358 P) :: (nat_lit 359, o359 P) :: (nat_lit 360, o360 P) :: (nat_lit 363, o363 P) :: (nat_lit 364, o364 P) :: (nat_lit 365, o365 P) :: (nat_lit 367, o367 P) :: (nat_lit 368, o368 P) :: (nat_lit 370, o370 P) :: (nat_lit 371, o371 P) :: (nat_lit 372, o372 P) :: (nat_lit 374, o374 P) :: (nat_lit 375, o375 P) :: (nat_lit 377, o377 P) :: (nat_lit 378, o378 P) :: (nat_lit 379, o379 P) :: (nat_lit 381, o381 P) :: (nat_lit 382, o382 P) :: (nat_lit 384, o384 P) :: (nat_lit 385, o385 P) :: (nat_lit 386, o386 P) :: (nat_lit 387, o387 P) :: (nat_lit 388, o388 P) :: (nat_lit 389, o389 P) :: (nat_lit 390, o390 P) :: (nat_lit 393, o393 P) :: (nat_lit 403, o403 P) :: (nat_lit 404, o404 P) :: (nat_lit 405, o405 P) :: (nat_lit 406, o406 P) :: (nat_lit 407, o407 P) :: (nat_lit 410, o410 P) :: (nat_lit 420, o420 P) :: (nat_lit 421, o421 P) :: (nat_lit 422, o422 P) :: (nat_lit 423, o423 P) :: (nat_lit 424, o424 P) :: (nat_lit 434, o434 P) :: (nat_lit 436, o436 P) :: (nat_lit 437, o437 P) :: (nat_lit 439, o439 P) :: (nat_lit 440, o440 P) :: (nat_lit 441, o441 P) :: (nat_lit 442, o442 P) :: (nat_lit 443, o443 P) :: (nat_lit 444, o444 P) :: (nat_lit 445, o445 P) :: (nat_lit 446, o446 P) :: (nat_lit 447, o447 P) :: (nat_lit 448, o448 P) :: (nat_lit 451, o451 P) :: (nat_lit 453, o453 P) :: (nat_lit 454, o454 P) :: (nat_lit 456, o456 P) :: (nat_lit 457, o457 P) :: (nat_lit 458, o458 P) :: (nat_lit 465, o465 P) :: (nat_lit 467, o467 P) :: (nat_lit 468, o468 P) :: (nat_lit 470, o470 P) :: (nat_lit 471, o471 P) :: (nat_lit 472, o472 P) :: (nat_lit 474, o474 P) :: (nat_lit 475, o475 P) :: (nat_lit 477, o477 P) :: (nat_lit 478, o478 P) :: (nat_lit 479, o479 P) :: (nat_lit 480, o480 P) :: (nat_lit 482, o482 P) :: (nat_lit 483, o483 P) :: (nat_lit 485, o485 P) :: (nat_lit 486, o486 P) :: (nat_lit 487, o487 P) :: (nat_lit 488, o488 P) :: (nat_lit 490, o490 P) :: (nat_lit 491, o491 P) :: (nat_lit 493, o493 P) :: (nat_lit 494, o494 P) :: (nat_lit 495, o495 P) :: (nat_lit 497, o497 P) :: (nat_lit 498, o498 P) :: (nat_lit 500, o500 P) :: (nat_lit 501, o501 P) :: (nat_lit 502, o502 P) :: (nat_lit 504, o504 P) :: (nat_lit 505, o505 P) :: (nat_lit 507, o507 P) :: (nat_lit 508, o508 P) :: (nat_lit 509, o509 P) :: (nat_lit 510, o510 P) :: (nat_lit 512, o512 P) :: (nat_lit 513, o513 P) :: (nat_lit 515, o515 P) :: (nat_lit 516, o516 P) :: (nat_lit 517, o517 P) :: (nat_lit 519, o519 P) :: (nat_lit 520, o520 P) :: (nat_lit 522, o522 P) :: (nat_lit 523, o523 P) :: (nat_lit 524, o524 P) :: (nat_lit 526, o526 P) :: (nat_lit 527, o527 P) :: (nat_lit 529, o529 P) :: (nat_lit 530, o530 P) :: (nat_lit 531, o531 P) :: (nat_lit 532, o532 P) :: (nat_lit 534, o534 P) :: (nat_lit 535, o535 P) :: (nat_lit 537, o537 P) :: (nat_lit 538, o538 P) :: (nat_lit 539, o539 P) :: (nat_lit 541, o541 P) :: (nat_lit 542, o542 P) :: (nat_lit 544, o544 P) :: (nat_lit 545, o545 P) :: (nat_lit 546, o546 P) :: (nat_lit 548, o548 P) :: (nat_lit 549, o549 P) :: (nat_lit 551, o551 P) :: (nat_lit 552, o552 P) :: (nat_lit 553, o553 P) :: (nat_lit 555, o555 P) :: (nat_lit 556, o556 P) :: (nat_lit 558, o558 P) :: (nat_lit 559, o559 P) :: (nat_lit 560, o560 P) :: (nat_lit 562, o562 P) :: (nat_lit 563, o563 P) :: (nat_lit 565, o565 P) :: (nat_lit 566, o566 P) :: (nat_lit 567, o567 P) :: (nat_lit 569, o569 P) :: (nat_lit 570, o570 P) :: (nat_lit 572, o572 P) :: (nat_lit 573, o573 P) :: (nat_lit 574, o574 P) :: (nat_lit 575, o575 P) :: (nat_lit 576, o576 P) :: (nat_lit 579, o579 P) :: (nat_lit 581, o581 P) :: (nat_lit 582, o582 P) :: (nat_lit 584, o584 P) :: (nat_lit 585, o585 P) :: (nat_lit 586, o586 P) :: (nat_lit 588, o588 P) :: (nat_lit 589, o589 P) :: (nat_lit 591, o591 P) :: (nat_lit 592, o592 P) :: (nat_lit 593, o593 P) :: (nat_lit 595, o595 P) :: (nat_lit 596, o596 P) :: (nat_lit 598, o598 P) :: (nat_lit 599, o599 P) :: []
def as : List Addr := nat_lit 2 :: nat_lit 3 :: nat_lit 15 :: nat_lit 17 :: nat_lit 18 :: nat_lit 20 :: nat_lit 21 :: nat_lit 29 :: nat_lit 31 :: nat_lit 32 :: nat_lit 34 :: nat_lit 35 :: nat_lit 36 :: nat_lit 37 :: nat_lit 39 :: nat_lit 40 :: nat_lit 42 :: nat_lit 43 :: nat_lit 44 :: nat_lit 46 :: nat_lit 47 :: nat_lit 49 :: nat_lit 50 :: nat_lit 51 :: nat_lit 53 :: nat_lit 54 :: nat_lit 56 :: nat_lit 57 :: nat_lit 58 :: nat_lit 59 :: nat_lit 60 :: nat_lit 61 :: nat_lit 62 :: nat_lit 65 :: nat_lit 68 :: nat_lit 73 :: nat_lit 74 :: nat_lit 75 :: nat_lit 76 :: nat_lit 78 :: nat_lit 79 :: nat_lit 81 :: nat_lit 82 :: nat_lit 83 :: nat_lit 85 :: nat_lit 86 :: nat_lit 88 :: nat_lit 89 :: nat_lit 90 :: nat_lit 91 :: nat_lit 92 :: nat_lit 93 :: nat_lit 94 :: nat_lit 96 :: nat_lit 97 :: nat_lit 99 :: nat_lit 100 :: nat_lit 101 :: nat_lit 103 :: nat_lit 104 :: nat_lit 106 :: nat_lit 107 :: nat_lit 108 :: nat_lit 110 :: nat_lit 111 :: nat_lit 113 :: nat_lit 114 :: nat_lit 115 :: nat_lit 117 :: nat_lit 118 :: nat_lit 120 :: nat_lit 121 :: nat_lit 122 :: nat_lit 123 :: nat_lit 124 :: nat_lit 126 :: nat_lit 127 :: nat_lit 129 :: nat_lit 131 :: nat_lit 132 :: nat_lit 133 :: nat_lit 143 :: nat_lit 145 :: nat_lit 146 :: nat_lit 148 :: nat_lit 149 :: nat_lit 150 :: nat_lit 151 :: nat_lit 152 :: nat_lit 154 :: nat_lit 155 :: nat_lit 157 :: nat_lit 158 :: nat_lit 159 :: nat_lit 160 :: nat_lit 161 :: nat_lit 162 :: nat_lit 163 :: nat_lit 166 :: nat_lit 173 :: nat_lit 174 :: nat_lit 175 :: nat_lit 177 :: nat_lit 178 :: nat_lit 180 :: nat_lit 181 :: nat_lit 182 :: nat_lit 183 :: nat_lit 184 :: nat_lit 186 :: nat_lit 187 :: nat_lit 189 :: nat_lit 190 :: nat_lit 191 :: nat_lit 192 :: nat_lit 193 :: nat_lit 195 :: nat_lit 196 :: nat_lit 198 :: nat_lit 199 :: nat_lit 200 :: nat_lit 201 :: nat_lit 202 :: nat_lit 212 :: nat_lit 214 :: nat_lit 215 :: nat_lit 217 :: nat_lit 218 :: nat_lit 219 :: nat_lit 220 :: nat_lit 222 :: nat_lit 223 :: nat_lit 225 :: nat_lit 226 :: nat_lit 227 :: nat_lit 229 :: nat_lit 230 :: nat_lit 232 :: nat_lit 233 :: nat_lit 234 :: nat_lit 236 :: nat_lit 237 :: nat_lit 239 :: nat_lit 240 :: nat_lit 241 :: nat_lit 242 :: nat_lit 243 :: nat_lit 244 :: nat_lit 245 :: nat_lit 248 :: nat_lit 250 :: nat_lit 251 :: nat_lit 253 :: nat_lit 254 :: nat_lit 255 :: nat_lit 258 :: nat_lit 263 :: nat_lit 264 :: nat_lit 265 :: nat_lit 266 :: nat_lit 268 :: nat_lit 269 :: nat_lit 271 :: nat_lit 272 :: nat_lit 273 :: nat_lit 275 :: nat_lit 276 :: nat_lit 278 :: nat_lit 279 :: nat_lit 280 :: nat_lit 281 :: nat_lit 282 :: nat_lit 283 :: nat_lit 284 :: nat_lit 286 :: nat_lit 287 :: nat_lit 289 :: nat_lit 290 :: nat_lit 291 :: nat_lit 293 :: nat_lit 294 :: nat_lit 296 :: nat_lit 297 :: nat_lit 298 :: nat_lit 300 :: nat_lit 301 :: nat_lit 303 :: nat_lit 304 :: nat_lit 305 :: nat_lit 307 :: nat_lit 308 :: nat_lit 310 :: nat_lit 311 :: nat_lit 312 :: nat_lit 313 :: nat_lit 314 :: nat_lit 316 :: nat_lit 317 :: nat_lit 319 :: nat_lit 321 :: nat_lit 322 :: nat_lit 323 :: nat_lit 333 :: nat_lit 334 :: nat_lit 336 :: nat_lit 337 :: nat_lit 339 :: nat_lit 340 :: nat_lit 341 :: nat_lit 343 :: nat_lit 344 :: nat_lit 346 :: nat_lit 347 :: nat_lit 348 :: nat_lit 349 :: nat_lit 350 :: nat_lit 351 :: nat_lit 353 :: nat_lit 354 :: nat_lit 356 :: nat_lit 357 :: nat_lit 358 :: nat_lit 359 :: nat_lit 360 :: nat_lit 363 :: nat_lit 364 :: nat_lit 365 :: nat_lit 367 :: nat_lit 368 :: nat_lit 370 :: nat_lit 371 :: nat_lit 372 :: nat_lit 374 :: nat_lit 375 :: nat_lit 377 :: nat_lit 378 :: nat_lit 379 :: nat_lit 381 :: nat_lit 382 :: nat_lit 384 :: nat_lit 385 :: nat_lit 386 :: nat_lit 387 :: nat_lit 388 :: nat_lit 389 :: nat_lit 390 :: nat_lit 393 :: nat_lit 403 :: nat_lit 404 :: nat_lit 405 :: nat_lit 406 :: nat_lit 407 :: nat_lit 410 :: nat_lit 420 :: nat_lit 421 :: nat_lit 422 :: nat_lit 423 :: nat_lit 424 :: nat_lit 434 :: nat_lit 436 :: nat_lit 437 :: nat_lit 439 :: nat_lit 440 :: nat_lit 441 :: nat_lit 442 :: nat_lit 443 :: nat_lit 444 :: nat_lit 445 :: nat_lit 446 :: nat_lit 447 :: nat_lit 448 :: nat_lit 451 :: nat_lit 453 :: nat_lit 454 :: nat_lit 456 :: nat_lit 457 :: nat_lit 458 :: nat_lit 465 :: nat_lit 467 :: nat_lit 468 :: nat_lit 470 :: nat_lit 471 :: nat_lit 472 :: nat_lit 474 :: nat_lit 475 :: nat_lit 477 :: nat_lit 478 :: nat_lit 479 :: nat_lit 480 :: nat_lit 482 :: nat_lit 483 :: nat_lit 485 :: nat_lit 486 :: nat_lit 487 :: nat_lit 488 :: nat_lit 490 :: nat_lit 491 :: nat_lit 493 :: nat_lit 494 :: nat_lit 495 :: nat_lit 497 :: nat_lit 498 :: nat_lit 500 :: nat_lit 501 :: nat_lit 502 :: nat_lit 504 :: nat_lit 505 :: nat_lit 507 :: nat_lit 508 :: nat_lit 509 :: nat_lit 510 :: nat_lit 512 :: nat_lit 513 :: nat_lit 515 :: nat_lit 516 :: nat_lit 517 :: nat_lit 519 :: nat_lit 520 :: nat_lit 522 :: nat_lit 523 :: nat_lit 524 :: nat_lit 526 :: nat_lit 527 :: nat_lit 529 :: nat_lit 530 :: nat_lit 531 :: nat_lit 532 :: nat_lit 534 :: nat_lit 535 :: nat_lit 537 :: nat_lit 538 :: nat_lit 539 :: nat_lit 541 :: nat_lit 542 :: nat_lit 544 :: nat_lit 545 :: nat_lit 546 :: nat_lit 548 :: nat_lit 549 :: nat_lit 551 :: nat_lit 552 :: nat_lit 553 :: nat_lit 555 :: nat_lit 556 :: nat_lit 558 :: nat_lit 559 :: nat_lit 560 :: nat_lit 562 :: nat_lit 563 :: nat_lit 565 :: nat_lit 566 :: nat_lit 567 :: nat_lit 569 :: nat_lit 570 :: nat_lit 572 :: nat_lit 573 :: nat_lit 574 :: nat_lit 575 :: nat_lit 576 :: nat_lit 579 :: nat_lit 581 :: nat_lit 582 :: nat_lit 584 :: nat_lit 585 :: nat_lit 586 :: nat_lit 588 :: nat_lit 589 :: nat_lit 591 :: nat_lit 592 :: nat_lit 593 :: nat_lit 595 :: nat_lit 596 :: nat_lit 598 :: nat_lit 599 :: []
noncomputable def mkT (l : List Obj) : Nat → BT → BT := @List.rec Obj (fun _ => Nat → BT → BT) (fun _ t => t) (fun o _ ih n t => ih (n + 1) (t.ins n o)) l
noncomputable def envP (p : Program) : Env := { scope := p.main.scope, locals := mainNs, globals := mainNs, cells := [], code := .ref 13, frame := some 14 }
noncomputable def cP (p : Program) : Code := .body (behindTheImports p) (envP p)
def lf : Life := ⟨[], [], [], 0, [], [], false, #[], [], 0, false, false, false, 0, [2000, 10, 10], false, 0, true, [], [], 0, false⟩
def ann : Option Value := some (.ref 6)
def tf : List Frame := [topFrame ⟨0, 0, 0, 0⟩]
noncomputable def sT (l : Params → List Obj) (n tk : Nat) (w : World) (os : OsState) : SharedT := ⟨mkT (l w.params) 0 .nil, n, lf, ⟨[]⟩, ⟨0, 0, 0, 0⟩, tk, os⟩
noncomputable def sL (l : Params → List Obj) (tk : Nat) (w : World) (os : OsState) : Shared := ⟨⟨⟨l w.params⟩, lf⟩, ⟨[]⟩, ⟨0, 0, 0, 0⟩, tk, os⟩
theorem top_pre (w : World) (os : OsState) : topGo treeTable pw w 11 ann 12 ⟨boot_heap w.params, ⟨[]⟩, boot_drawn, boot_toks, os⟩ (topStub pw) = some ((sL La 187 w os), ⟨denote treeTable (cP pw), cP pw, ⟨0, 0, 0, 0⟩, tf⟩) := by
  rw [te15667345088766844465, te11892475500146522536, te14364793385576792824, pwE]
  kernel_rfl
theorem top_block (w : World) (os : OsState) : segRun treeTable pw w 11 ann 1 1 (sL La 187 w os) (blockOf (behindTheImports pw) (envP pw) (cP pw) ⟨0, 0, 0, 0⟩ tf) = some (.next, SharedT.abs (sT L0 15 187 w os), cP pw, ⟨0, 0, 0, 0⟩) := by
  rw [te14374325043358763698, te14364793385576792824, pwE]
  kernel_rfl
theorem top_run0 (w : World) (os : OsState) : segRunT treeTable pw w 11 ann 1 372 (sT L0 15 187 w os) (piecesOf (List.take 4 (List.drop 0 (behindTheImports pw))) (envP pw) (cP pw) ⟨0, 0, 0, 0⟩ tf) = some (.next, (sT L1 65 254 w os), cP pw, ⟨23, 0, 23, 16⟩) := by
  rw [te10110043849684766642, te14364793385576792824, pwE]
  kernel_rfl
theorem top_run1 (w : World) (os : OsState) : segRunT treeTable pw w 11 ann 1 909 (sT L1 65 254 w os) (piecesOf (List.take 2 (List.drop 4 (behindTheImports pw))) (envP pw) (cP pw) ⟨23, 0, 23, 16⟩ tf) = some (.next, (sT L2 136 371 w os), cP pw, ⟨66, 0, 66, 8⟩) := by
  rw [te10110043849684766642, te14364793385576792824, pwE]
  kernel_rfl
theorem top_run2 (w : World) (os : OsState) : segRunT treeTable pw w 11 ann 1 601 (sT L2 136 371 w os) (piecesOf (List.take 3 (List.drop 6 (behindTheImports pw))) (envP pw) (cP pw) ⟨66, 0, 66, 8⟩ tf) = some (.next, (sT L3 205 465 w os), cP pw, ⟨117, 0, 117, 8⟩) := by
  rw [te10110043849684766642, te14364793385576792824, pwE]
  kernel_rfl
theorem top_run3 (w : World) (os : OsState) : segRunT treeTable pw w 11 ann 1 364 (sT L3 205 465 w os) (piecesOf (List.take 3 (List.drop 9 (behindTheImports pw))) (envP pw) (cP pw) ⟨117, 0, 117, 8⟩ tf) = some (.next, (sT L4 255 531 w os), cP pw, ⟨137, 0, 143, 21⟩) := by
  rw [te10110043849684766642, te14364793385576792824, pwE]
  kernel_rfl
theorem top_run4 (w : World) (os : OsState) : segRunT treeTable pw w 11 ann 1 900 (sT L4 255 531 w os) (piecesOf (List.take 1 (List.drop 12 (behindTheImports pw))) (envP pw) (cP pw) ⟨137, 0, 143, 21⟩ tf) = some (.next, (sT L5 326 646 w os), cP pw, ⟨144, 0, 185, 60⟩) := by
  rw [te10110043849684766642, te14364793385576792824, pwE]
  kernel_rfl
theorem top_run5 (w : World) (os : OsState) : segRunT treeTable pw w 11 ann 1 925 (sT L5 326 646 w os) (piecesOf (List.take 2 (List.drop 13 (behindTheImports pw))) (envP pw) (cP pw) ⟨144, 0, 185, 60⟩ tf) = some (.next, (sT L6 410 771 w os), cP pw, ⟨235, 0, 240, 14⟩) := by
  rw [te10110043849684766642, te14364793385576792824, pwE]
  kernel_rfl
theorem top_run6 (w : World) (os : OsState) : segRunT treeTable pw w 11 ann 1 773 (sT L6 410 771 w os) (piecesOf (List.take 5 (List.drop 15 (behindTheImports pw))) (envP pw) (cP pw) ⟨235, 0, 240, 14⟩ tf) = some (.next, (sT L7 458 860 w os), cP pw, ⟨255, 0, 265, 13⟩) := by
  rw [te10110043849684766642, te14364793385576792824, pwE]
  kernel_rfl
theorem top_run7 (w : World) (os : OsState) : segRunT treeTable pw w 11 ann 1 846 (sT L7 458 860 w os) (piecesOf (List.take 5 (List.drop 20 (behindTheImports pw))) (envP pw) (cP pw) ⟨255, 0, 265, 13⟩ tf) = some (.next, (sT allO 600 1070 w os), cP pw, ⟨365, 0, 415, 15⟩) := by
  rw [te10110043849684766642, te14364793385576792824, pwE]
  kernel_rfl
theorem top_fin (w : World) (os : OsState) : topRun treeTable pw w 11 ann 2 (SharedT.abs (sT allO 600 1070 w os)) ⟨doneF .next, cP pw, ⟨365, 0, 415, 15⟩, tf⟩ = some (sL allO 1070 w os) := by
  rw [te14082659384304107361, te14364793385576792824, pwE]
  kernel_rfl
theorem top_split : behindTheImports pw = (List.take 4 (List.drop 0 (behindTheImports pw))) ++ ((List.take 2 (List.drop 4 (behindTheImports pw))) ++ ((List.take 3 (List.drop 6 (behindTheImports pw))) ++ ((List.take 3 (List.drop 9 (behindTheImports pw))) ++ ((List.take 1 (List.drop 12 (behindTheImports pw))) ++ ((List.take 2 (List.drop 13 (behindTheImports pw))) ++ ((List.take 5 (List.drop 15 (behindTheImports pw))) ++ ((List.take 5 (List.drop 20 (behindTheImports pw))) ++ []))))))) := by kernel_rfl
theorem top_runAll (w : World) (os : OsState) : topRun treeTable pw w 11 ann (12 + (1 + (372 + (909 + (601 + (364 + (900 + (925 + (773 + (846 + 2)))))))))) ⟨boot_heap w.params, ⟨[]⟩, boot_drawn, boot_toks, os⟩ (topStub pw) = some (sL allO 1070 w os) := by
  have k8 := piece_nil (env := envP pw) (top_fin w os)
  have k7 := piece_app (segRun_of (top_run7 w os)) k8
  have k6 := piece_app (segRun_of (top_run6 w os)) k7
  have k5 := piece_app (segRun_of (top_run5 w os)) k6
  have k4 := piece_app (segRun_of (top_run4 w os)) k5
  have k3 := piece_app (segRun_of (top_run3 w os)) k4
  have k2 := piece_app (segRun_of (top_run2 w os)) k3
  have k1 := piece_app (segRun_of (top_run1 w os)) k2
  have k0 := piece_app (segRun_of (top_run0 w os)) k1
  rw [← top_split] at k0
  exact go_top (top_pre w os) (piece_block (top_block w os) k0)
def keepL : List Nat := [0, 2, 3, 4, 6, 7, 9, 10, 11, 12, 13, 14, 15, 17, 19, 20, 22, 23, 24]
noncomputable def vw : Program := view pw keepL
def loose : List Str := [Str.ofString "_tuplegetter", Str.ofString "tuplegetter_util", Str.ofString "WindowStats", Str.ofString "RateLimiter", Str.ofString "FixedWindowRateLimiter", Str.ofString "tuplegetter_limits", Str.ofString "Granularity", Str.ofString "RateLimitItem", Str.ofString "RateLimitItemPerMinute", Str.ofString "RateLimitItemPerSecond", Str.ofString "TimestampedSlidingWindow", Str.ofString "MemoryStorage"]
theorem top_size (w : World) : ((boot_heap w.params).isNs mainGlobals && (Array.mk ([] : List GenState)).size == 0, (boot_heap w.params).objs.size, (boot_heap w.params).nsMap mainGlobals "__annotations__") = (true, 11, ann) := by
  rw [te8920871248978507458]
  kernel_rfl
theorem top_open (w : World) : (fencedOpening treeTable pw w 11490).map (fun s => (s.heap, s.gens, s.drawn, s.toks)) = some (boot_heap w.params, Array.mk [], boot_drawn, boot_toks) :=
  boot_open (p := pw) (N := 11490) (by kernel_rfl) (by decide +kernel) (fun s => by kernel_rfl) w
theorem top_look1 (w : World) (os : OsState) : (staticsOk (importedModules pw.main.body) (boot_heap w.params) ⟨⟨allO w.params⟩, lf⟩ && namesBound pw ⟨⟨allO w.params⟩, lf⟩ && gensDone (sL allO 1070 w os) && laidKept (boot_heap w.params) ⟨⟨allO w.params⟩, lf⟩) = true := by
  rw [te5923862056798008813, pwE]
  kernel_rfl
theorem top_look2 (w : World) (os : OsState) : openSeen (view pw keepL) loose (importedModules pw.main.body) (fun s => xlAt (view pw keepL) [] s && recOk [] s) true (sL allO 1070 w os) = openGood (view pw keepL) loose := by
  rw [te4187177175401517315, te5923862056798008813, pwE]
  kernel_rfl
theorem kE (P : Params) : as = (K P).map (·.1) := by kernel_rfl
theorem top_look3 (w : World) (os : OsState) : (kmHook K as kE [473, 594]).obs (sL allO 1070 w os) = (kmHook K as kE [473, 594]).val w := by
  kernel_rfl
theorem top_left : LeftO pw vw loose (fun s => xlAt vw [] s && recOk [] s) (kmHook K as kE [473, 594]).obs (kmHook K as kE [473, 594]).val 11490 :=
  LeftO.of_pieces (H₀ := boot_heap) (H₁ := fun P => ⟨⟨allO P⟩, lf⟩) (gs₀ := Array.mk []) (gs₁ := Array.mk []) (d₀ := boot_drawn) (d₁ := ⟨0, 0, 0, 0⟩) (k₀ := boot_toks) (k₁ := 1070) (m₀ := 11) (ann := ann) top_open top_size top_runAll (by decide +kernel)
    fun w => funext fun os => Prod.ext (top_look1 w os) (Prod.ext (top_look2 w os) (top_look3 w os))
end Jb
namespace Jb
open PySem PySem.W PySem.Calls PyProof.Rows PyProof.V PySem.Spec
section
variable {prog : Program} {w : World} {A : Around} {E : Value → Shared → Prop} {s : Shared} {h₀ : Heap} {L d : Addr} {m : Str → Option Value} {news : List (Addr × Obj)} {u : Obj → List (Addr × Obj)} {o : Obj} {kvs : List (Str × Value)} {c : List (Str × Int)} {k : Str} {tk : Tok}
theorem del_not {c : List (Str × Int)} {k : Str} (h : kdpHas c k = false) : kdzDel c k = c := by
  unfold kdzDel kdpHas at *
  rw [List.filter_eq_self]
  intro p hp
  rw [List.any_eq_false] at h
  simpa using h p hp
theorem updF_same {d : Addr} {o : Obj} {l : List (Addr × Obj)} {g : Obj → List (Addr × Obj)} (U : UpdF d o l g) : g o = l := by
  obtain ⟨pre, post, rfl, hg, _, _⟩ := U.split
  rw [hg]
/-- d.pop(k, x), the key there or not -/
theorem pop_any {dflt : Value} {Q : Value → Shared → Prop} (F : Fr h₀ L s.heap m) (N : News h₀ L s.heap news) (U : UpdF d o news u) (lo : (d == sysModules) = false)
    (hd : o.IsDictOf (PySem.strKind prog w) kvs) (hf : FlatPairs PyData.str kvs (kdpD c)) (hc : c.length ≤ 16777216)
    (h : ∀ h' o' kvs' v, Fr h₀ L h' m → News h₀ L h' (u o') → o'.IsDictOf (PySem.strKind prog w) kvs' → FlatPairs PyData.str kvs' (kdpD (kdzDel c k)) → Q v { s with heap := h', toks := s.toks + 1 }) :
    wpAny (model prog w) A (call (.builtin "dict.pop") [.ref d, .str k tk, dflt]) Q E s := by
  cases hk : kdpHas c k with
  | true => exact kdz_pop (more := [dflt]) (.inr ⟨_, rfl⟩) (PySem.F.args_dict_pop_3 _ _ _) F N U hd hf hk hc fun h' o' kvs' t F' N' a b => h h' o' kvs' _ F' N' a b
  | false =>
    have hm : (d, o) ∈ news := by
      obtain ⟨pre, post, rfl, _, _, _⟩ := U.split
      exact List.mem_append_right _ (.head _)
    refine kt_pop_default (enc := PyData.str) PyProof.V.same_str (strKind_is _ _ _ _) (by rfl) (TabAt.ofNews N hm lo hd hf) (PySem.F.args_dict_pop_3 _ _ _) (kdpD_none hk) ?_
    exact h s.heap o kvs dflt F (by rw [updF_same U]; exact N) hd (by rw [del_not hk]; exact hf)
end
theorem find_put (c : List (Str × Int)) (k : Str) (v : Int) : (kdpPut c k v).find? (fun p => decide (p.1 = k)) = some (k, v) := by
  unfold kdpPut
  by_cases hc : (c.any fun p => decide (p.1 = k)) = true
  · rw [if_pos hc]
    induction c with
    | nil => cases hc
    | cons p c ih =>
      by_cases hp : p.1 = k
      · simp [hp]
      · have hc' : (c.any fun p => decide (p.1 = k)) = true := by simpa [hp] using hc
        simpa [hp] using ih hc'
  · rw [if_neg hc]
    have hn : c.find? (fun p => decide (p.1 = k)) = none := by
      rw [List.find?_eq_none]
      intro p hp hk
      exact hc (List.any_eq_true.mpr ⟨p, hp, hk⟩)
    rw [List.find?_append, hn]
    simp
theorem look_put (c : List (Str × Int)) (k : Str) (v d : Int) : kdpLook (kdpPut c k v) k d = v := by
  unfold kdpLook
  rw [find_put]
  rfl
/-- what a call of a def gives back, in every frame of a caller -/
def Tell (w : World) (d : Nat) (f : Addr) (vs : List Value) (kw : List (Str × Value)) (news : List (Addr × Obj)) (R : Value → List (Addr × Obj) → Prop) : Prop :=
  ∀ (p : Program) (loose : List Str) (mean : ExcName → Option Value) (mg mb : Str → Option Value) (dp un : Nat) (gd : Option (List Code)) (cn : Str) (cs : Scope) (a : Addr) (ccd : Value) (cl : List (Str × Addr)) (outer : List Env) (A₀ : Around) (base h₀ : Heap) (L : Addr) (m : Str → Option Value) (s : Shared) (Q E : Value → Shared → Prop),
    Below A₀ base outer h₀ → Fr h₀ L s.heap m → (K w.params).In h₀ → News h₀ L s.heap news → Top p loose mean mg mb h₀ → cs.kind = .function → dp + d < recursionLimit → un + 8 * d < cLine →
    (∀ v news' h' tk', R v news' → Fr h₀ L h' m → News h₀ L h' news' → Q v { s with heap := h', toks := tk' }) →
    wpAny (model PySem.Challenge.rw_jb0021_01.row.prog w) (ktrTop dp un gd cn cs L a ccd cl outer) (call (.ref f) vs kw) Q E s
theorem Tell.use {w : World} {d : Nat} {f : Addr} {vs : List Value} {kw : List (Str × Value)} {news : List (Addr × Obj)} {R : Value → List (Addr × Obj) → Prop} (C : Tell w d f vs kw news R)
    {p : Program} {loose : List Str} {mean : ExcName → Option Value} {mg mb : Str → Option Value} {dp un : Nat} {gd : Option (List Code)} {cn : Str} {cs : Scope} {a : Addr} {ccd : Value} {cl : List (Str × Addr)} {outer : List Env} {A₀ : Around} {base h₀ : Heap} {L : Addr} {m : Str → Option Value} {s : Shared} {Q E : Value → Shared → Prop}
    (B : Below A₀ base outer h₀) (F : Fr h₀ L s.heap m) (X : (K w.params).In h₀) (N : News h₀ L s.heap news) (T : Top p loose mean mg mb h₀) (hk : cs.kind = .function) (hd : dp + d < recursionLimit) (hu : un + 8 * d < cLine)
    (h : ∀ v news' h' tk', R v news' → Fr h₀ L h' m → News h₀ L h' news' → Q v { s with heap := h', toks := tk' }) :
    wpAny (model PySem.Challenge.rw_jb0021_01.row.prog w) (ktrTop dp un gd cn cs L a ccd cl outer) (call (.ref f) vs kw) Q E s :=
  C p loose mean mg mb dp un gd cn cs a ccd cl outer A₀ base h₀ L m s Q E B F X N T hk hd hu h
theorem Tell.mono {w : World} {d d' : Nat} {f : Addr} {vs : List Value} {kw : List (Str × Value)} {news news' : List (Addr × Obj)} {R R' : Value → List (Addr × Obj) → Prop} (C : Tell w d f vs kw news R) (hd : d ≤ d') (hn : ∀ p ∈ news, p ∈ news')
    (hR : ∀ v l, R v l → ∃ l', R' v l' ∧ ∀ p ∈ l', p ∈ l) : Tell w d' f vs kw news' R' := by
  intro p loose mean mg mb dp un gd cn cs a ccd cl outer A₀ base h₀ L m s Q E B F X N T hk hdp hu h
  refine C.use B F X (fun p hp => N p (hn p hp)) T hk (by omega) (by omega) fun v l h' tk' hr F' N' => ?_
  obtain ⟨l', r', hs⟩ := hR v l hr
  exact h v l' h' tk' r' F' fun p hp => N' p (hs p hp)
/-- a dict of strs to ints -/
def Dct (w : World) (o : Obj) (c : List (Str × Int)) : Prop := ∃ kvs, o.IsDictOf (PySem.strKind PySem.Challenge.rw_jb0021_01.row.prog w) kvs ∧ FlatPairs PyData.str kvs (kdpD c)
/-- the store's addresses -/
structure Fx where
  st : Nat
  std : Nat
  sd : Nat
  ed : Nat
  vd : Nat
  nl : Nat
  f : Nat
  t1 : Tok
  t2 : Tok
  t3 : Tok
  t4 : Tok
abbrev stdO (w : World) (x : Fx) : Obj := dictOf [⟨PyData.keyHash w.params (Str.ofString "clock"), .str (Str.ofString "clock") x.t1, .ref x.f⟩, ⟨PyData.keyHash w.params (Str.ofString "storage"), .str (Str.ofString "storage") x.t2, .ref x.sd⟩, ⟨PyData.keyHash w.params (Str.ofString "expirations"), .str (Str.ofString "expirations") x.t3, .ref x.ed⟩, ⟨PyData.keyHash w.params (Str.ofString "events"), .str (Str.ofString "events") x.t4, .ref x.vd⟩] 4
abbrev M (x : Fx) (oS oE oV : Obj) (now : Int) (t : Tok) (n : Nat) (rest : List (Addr × Obj)) : List (Addr × Obj) := (x.sd, oS) :: (x.ed, oE) :: (x.vd, oV) :: (x.nl, listOf #[.int now t] n) :: rest
/-- the clock, called -/
def Clk (w : World) (x : Fx) (rest : List (Addr × Obj)) : Prop := ∀ (news : List (Addr × Obj)) (now : Int) (t : Tok) (n : Nat), (∀ p ∈ rest, p ∈ news) → (x.nl, listOf #[.int now t] n) ∈ news → Tell w 1 x.f [] [] news fun v news' => v = .int now t ∧ news' = news
theorem callWith_f0 {M : Model} {A : Around} {E : Value → Shared → Prop} {s : Shared} {env : Env} {pos : Pos} {Q : Value → Shared → Prop} {f : Addr} {c : Value} {od : Option Addr} {fd : FuncData} {sl : Array (Option Value)}
    (ho : s.heap.get? f = some ⟨c, od, .func fd, sl⟩) (h : wpAny M A (call (.ref f) []) Q E s) : wpAny M A (callWith pos (.ref f) [] (backTo pos (starEach [] env)) []) Q E s :=
  callWith_of (P := fun h => h.get? f = some ⟨c, od, .func fd, sl⟩) rfl (fun h X => ⟨.frame, .inl rfl, (Looks.ld (part := none) X).andThen .now⟩) (evalArgs_nil3 ⟨ho, h⟩)
structure Sto (w : World) (x : Fx) (rest : List (Addr × Obj)) : Prop where
  hst : (x.st, instObj 576 x.std) ∈ rest
  hstd : (x.std, stdO w x) ∈ rest
  hoff : OwnOff rest [x.sd, x.ed, x.vd, x.nl]
  lo1 : (x.sd == sysModules) = false
  lo2 : (x.ed == sysModules) = false
  lo3 : (x.vd == sysModules) = false
  l1 : @LT.lt Nat _ x.nl x.sd ∧ @LT.lt Nat _ x.sd x.ed ∧ @LT.lt Nat _ x.ed x.vd
  hf : ∃ c od fd sl, (x.f, (⟨c, od, .func fd, sl⟩ : Obj)) ∈ rest
  clk : Clk w x rest
theorem off_app {a b : List (Addr × Obj)} {l : List Addr} (h : OwnOff a l) (h' : OwnOff b l) : OwnOff (a ++ b) l := fun p hp => (List.mem_append.mp hp).elim (h p) (h' p)
theorem Sto.app {w : World} {x : Fx} {rest : List (Addr × Obj)} (h : Sto w x rest) (pre : List (Addr × Obj)) (hp : OwnOff pre [x.sd, x.ed, x.vd, x.nl]) : Sto w x (pre ++ rest) where
  hst := List.mem_append_right _ h.hst
  hstd := List.mem_append_right _ h.hstd
  hoff := off_app hp h.hoff
  lo1 := h.lo1
  lo2 := h.lo2
  lo3 := h.lo3
  l1 := h.l1
  hf := let ⟨c, od, fd, sl, q⟩ := h.hf; ⟨c, od, fd, sl, List.mem_append_right _ q⟩
  clk := fun news now t n hs hm => h.clk news now t n (fun p hp => hs p (List.mem_append_right _ hp)) hm
/-- a call of a store's def behind a few newer objects -/
theorem tell_pre {w : World} {x : Fx} {d : Nat} {f : Addr} {vs : List Value} {kw : List (Str × Value)} {oS oE oV : Obj} {now : Int} {t : Tok} {n : Nat} {rest : List (Addr × Obj)} {P : Value → Obj → Obj → Prop} (pre : List (Addr × Obj))
    (C : Tell w d f vs kw (M x oS oE oV now t n (pre ++ rest)) fun v l => ∃ oS' oE', P v oS' oE' ∧ l = M x oS' oE' oV now t n (pre ++ rest)) :
    Tell w d f vs kw (pre ++ M x oS oE oV now t n rest) fun v l => ∃ oS' oE', P v oS' oE' ∧ l = pre ++ M x oS' oE' oV now t n rest := by
  refine C.mono (Nat.le_refl _) (fun p hp => ?_) fun v l hr => ?_
  · simp only [List.mem_cons, List.mem_append] at hp ⊢
    rcases hp with hp | hp | hp | hp | hp | hp <;> simp [hp]
  · obtain ⟨oS', oE', hP, rfl⟩ := hr
    refine ⟨_, ⟨oS', oE', hP, rfl⟩, fun p hp => ?_⟩
    simp only [List.mem_cons, List.mem_append] at hp ⊢
    rcases hp with hp | hp | hp | hp | hp | hp <;> simp [hp]
theorem for_list {prog : Program} {w : World} {A : Around} {E : Value → Shared → Prop} {s : Shared} {env : Env} {h₀ : Heap} {x : Str} {body : List Stmt} {Q : Flow → Shared → Prop} {σ : Type} {l : Addr} {vs : List Value} {c : Nat} {m₀ : Str → Option Value} {news₀ : List (Addr × Obj)}
    (stored : List Str) (hh : A.handled = none) (F : Fr h₀ env.locals s.heap m₀) (N : News h₀ env.locals s.heap news₀) (hl : (l, listOf vs.toArray c) ∈ news₀)
    (fr : σ → Str → Option Value) (J : Nat → σ → List (Addr × Obj) → Prop) (c₀ : σ) (h0 : J 0 c₀ news₀) (hm : ∀ y, y ≠ x → stored.contains y = false → m₀ y = fr c₀ y)
    (turn : ∀ (i : Nat) (v : Value) (u : Str → Option Value) (c' : σ) (news₁ : List (Addr × Obj)) (h : Heap) (tk : Nat) (own : List (Addr × Obj)) (I : Addr), vs[i]? = some v → J i c' news₁ → (∀ p ∈ news₁, p.1 ≠ I) → (∀ p ∈ news₀, @LT.lt Nat _ p.1 I) → (∀ p ∈ own, p.1 = I ∨ p.1 = l) → (∃ o, (I, o) ∈ own ∧ o.cls = .type "list_iterator") →
      Fr h₀ env.locals h (fun y => if y = x then some v else if stored.contains y then u y else fr c' y) → News h₀ env.locals h (own ++ news₁) →
      wpAny (model prog w) A (execs body env) (LoopStepV h₀ env.locals [I] own (fun m' news' => ∃ c'', J (i + 1) c'' news' ∧ ∀ y, y ≠ x → stored.contains y = false → m' y = fr c'' y) { s with heap := h, toks := tk } (fun v s' => Q (.ret v) s') fun s' => Q .next s') E { s with heap := h, toks := tk })
    (done : ∀ (u : Str → Option Value) (c' : σ) (news₁ : List (Addr × Obj)) (h : Heap) (tk : Nat), J vs.length c' news₁ → Fr h₀ env.locals h (fun y => if y = x then u y else if stored.contains y then u y else fr c' y) → News h₀ env.locals h news₁ → Q .next { s with heap := h, toks := tk }) :
    wpAny (model prog w) A (pyIter (.ref l)) (fun it s₂ => LoopAtV prog w A h₀ env x body Q E it s₂) E s := by
  have hls : s.heap.IsList l vs.toArray := ⟨_, (N _ hl).1, rfl, _, rfl⟩
  have hlt : l < s.heap.objs.size := Heap.lt_size (N _ hl).1
  have hne : l ≠ s.heap.objs.size := Nat.ne_of_lt hlt
  have hLl : env.locals ≠ l := fun e => (N _ hl).2.1 e.symm
  have hsz : vs.toArray.size = vs.length := by simp
  have mk : ∀ (m' : Str → Option Value) (c' : σ) (v : Value), (∀ y, y ≠ x → stored.contains y = false → m' y = fr c' y) → (fun y => if y = x then some v else m' y) = fun y => if y = x then some v else if stored.contains y then m' y else fr c' y := by
    intro m' c' v hk
    funext y
    by_cases hy : y = x
    · simp [hy]
    · simp only [hy, if_false]
      cases hc : stored.contains y with
      | true => simp
      | false => simpa using hk y hy hc
  refine wpAny_pyIter_list hls ?_
  refine ⟨s.heap.objs.size, [s.heap.objs.size, l], [s.heap.objs.size], vs.toArray.size, _, _, m₀, news₀, fun i m' news' => ∃ c', J i c' news' ∧ ∀ y, y ≠ x → stored.contains y = false → m' y = fr c' y, rfl, Walks.list hh _ l hne vs.toArray, ?_, ?_, ?_,
    ⟨⟨_, Heap.get?_push_size _ rfl, rfl, rfl⟩, hls.at fun o e => Heap.get?_push_of_some _ e⟩, F.push _, fun p hp => ⟨Heap.get?_push_of_some _ (N p hp).1, (N p hp).2⟩, ⟨c₀, h0, hm⟩, ?_, ?_⟩
  · intro hm
    rcases List.mem_cons.mp hm with e | hm
    · exact absurd F.ns.lt (e ▸ Nat.lt_irrefl _)
    · exact hLl (List.mem_singleton.mp hm)
  · intro b hb
    rw [List.mem_singleton.mp hb]
    exact Heap.get?_none_of_le (Nat.le_of_lt (Nat.lt_of_le_of_lt F.above F.ns.lt))
  · intro p hp hI
    exact absurd (Heap.lt_size (N p hp).1) ((List.mem_singleton.mp hI) ▸ Nat.lt_irrefl _)
  · rintro i v m₁ news₁ s₁ own ⟨h, tk, rfl⟩ hi hP ⟨c', hJ, hk⟩ hnw hsub hget hown hst F₁ N₁
    rw [mk m₁ c' v hk] at F₁
    obtain ⟨⟨oI, hoI, hcI, _⟩, _⟩ := hst
    refine turn i v m₁ c' news₁ h tk own s.heap.objs.size (by simpa using hP) hJ (fun p hp e => hnw p hp (List.mem_singleton.mpr e)) (fun p hp => Heap.lt_size (N p hp).1) (fun p hp => by simpa using hsub p hp) ⟨oI, ?_, hcI⟩ F₁ N₁
    exact hown _ (List.mem_cons_self ..) (Heap.get?_none_of_le (Nat.le_of_lt (Nat.lt_of_le_of_lt F.above F.ns.lt))) _ hoI
  · rintro h' tk m' news' F' N' ha ⟨c', hJ, hk⟩
    rw [hsz] at hJ
    refine done m' c' news' h' tk hJ ?_ N'
    have e : m' = fun y => if y = x then m' y else if stored.contains y then m' y else fr c' y := by
      funext y
      by_cases hy : y = x
      · simp [hy]
      · simp only [hy, if_false]
        cases hc : stored.contains y with
        | true => simp
        | false => simpa using hk y hy hc
    rw [← e]; exact F'
/-- the end of a turn -/
theorem turn_end {h₀ h' : Heap} {L I : Addr} {own r : List (Addr × Obj)} {Jn : (Str → Option Value) → List (Addr × Obj) → Prop} {s : Shared} {tk' : Nat} {m' : Str → Option Value} {x : Fx} {oS oE oV a b c : Obj} {now now' : Int} {t t' : Tok} {n n' : Nat}
    (F : Fr h₀ L h' m') (N : News h₀ L h' (M x oS oE oV now t n (own ++ r))) (ha : ∀ p ∈ M x a b c now' t' n' r, p.1 ≠ I) (hJ : Jn m' (M x oS oE oV now t n r)) : LoopStepU h₀ L [I] own Jn s .next { s with heap := h', toks := tk' } := by
  refine ⟨rfl, h', tk', m', M x oS oE oV now t n r, rfl, F, fun p hp => N p ?_, fun p hp e => ?_, hJ⟩
  · simp only [List.mem_cons, List.mem_append] at hp ⊢
    rcases hp with hp | hp | hp | hp | hp | hp <;> simp [hp]
  · have e := List.mem_singleton.mp e
    simp only [List.mem_cons] at hp ha
    rcases hp with rfl | rfl | rfl | rfl | hp
    · exact ha (x.sd, a) (.inl rfl) e
    · exact ha (x.ed, b) (.inr (.inl rfl)) e
    · exact ha (x.vd, c) (.inr (.inr (.inl rfl))) e
    · exact ha (x.nl, listOf #[.int now' t'] n') (.inr (.inr (.inr (.inl rfl)))) e
    · exact ha p (.inr (.inr (.inr (.inr hp)))) e
theorem news_sub {h₀ h : Heap} {L : Addr} {a b : List (Addr × Obj)} (N : News h₀ L h a) (hs : ∀ p ∈ b, p ∈ a) : News h₀ L h b := fun p hp => N p (hs p hp)
/-- an address above the store's -/
def Ab (x : Fx) (a : Addr) : Prop := @LT.lt Nat _ x.sd a ∧ @LT.lt Nat _ x.ed a ∧ @LT.lt Nat _ x.vd a ∧ @LT.lt Nat _ x.nl a
theorem Ab.ne {x : Fx} {a : Addr} (h : Ab x a) : ∀ b ∈ [x.sd, x.ed, x.vd, x.nl], a ≠ b := by
  intro b hb
  obtain ⟨h1, h2, h3, h4⟩ := h
  simp only [List.mem_cons, List.not_mem_nil, or_false] at hb
  rcases hb with rfl | rfl | rfl | rfl <;> exact Nat.ne_of_gt (by assumption)
theorem off_one {a : Addr} {o : Obj} {x : Fx} (h : Ab x a) : OwnOff [(a, o)] [x.sd, x.ed, x.vd, x.nl] := by
  intro p hp b hb
  rw [List.mem_singleton.mp hp]
  exact h.ne b hb
theorem off_own {own : List (Addr × Obj)} {I l : Addr} {x : Fx} (ho : ∀ p ∈ own, p.1 = I ∨ p.1 = l) (h : Ab x I) (h' : Ab x l) : OwnOff own [x.sd, x.ed, x.vd, x.nl] := by
  intro p hp b hb
  rcases ho p hp with e | e <;> rw [e]
  · exact h.ne b hb
  · exact h'.ne b hb
/-! the sweep's plain law -/
def swE (now : Int) (c : List (Str × Int)) (i : Nat) : List (Str × Int) := ((c.take i).filter fun q => decide (now < q.2)) ++ c.drop i
def swS (now : Int) (cS c : List (Str × Int)) (i : Nat) : List (Str × Int) := cS.filter fun p => !(c.take i).any fun q => decide (q.1 = p.1 ∧ q.2 ≤ now)
theorem swE_at {now : Int} {c : List (Str × Int)} {i : Nat} {q : Str × Int} (hq : c[i]? = some q) (nd : (c.map (·.1)).Nodup) :
    kdpHas (swE now c i) q.1 = true ∧ kdpLook (swE now c i) q.1 0 = q.2 ∧ swE now c (i + 1) = (if q.2 ≤ now then kdzDel (swE now c i) q.1 else swE now c i) := by
  have hi : i < c.length := by rw [List.getElem?_eq_some_iff] at hq; exact hq.1
  have hc : c = c.take i ++ q :: c.drop (i + 1) := by
    have e := List.take_append_drop i c
    rw [List.drop_eq_getElem_cons hi] at e
    have : c[i] = q := by rw [List.getElem?_eq_getElem hi] at hq; exact Option.some.inj hq
    rw [this] at e; exact e.symm
  have hd : c.drop i = q :: c.drop (i + 1) := by
    rw [List.drop_eq_getElem_cons hi]
    have : c[i] = q := by rw [List.getElem?_eq_getElem hi] at hq; exact Option.some.inj hq
    rw [this]
  have ht : c.take (i + 1) = c.take i ++ [q] := by
    rw [List.take_add_one, hq]; rfl
  rw [hc, List.map_append, List.map_cons, List.nodup_append] at nd
  obtain ⟨_, nd2, nd3⟩ := nd
  rw [List.nodup_cons] at nd2
  have n1 : ∀ p ∈ c.take i, p.1 ≠ q.1 := fun p hp => nd3 _ (List.mem_map_of_mem hp) _ (List.mem_cons_self ..)
  have n2 : ∀ p ∈ c.drop (i + 1), p.1 ≠ q.1 := fun p hp e => nd2.1 (e ▸ List.mem_map_of_mem hp)
  have n1' : ∀ p ∈ (c.take i).filter (fun q => decide (now < q.2)), p.1 ≠ q.1 := fun p hp => n1 p (List.mem_filter.mp hp).1
  refine ⟨?_, ?_, ?_⟩
  · unfold kdpHas swE; rw [hd]; simp
  · unfold kdpLook swE
    rw [hd, List.find?_append, List.find?_eq_none.mpr (by intro p hp; simpa using n1' p hp)]
    simp
  · unfold swE
    rw [ht, hd, List.filter_append]
    by_cases h : q.2 ≤ now
    · rw [if_pos h]
      unfold kdzDel
      have e1 : ((c.take i).filter (fun q => decide (now < q.2))).filter (fun p => !decide (p.1 = q.1)) = (c.take i).filter (fun q => decide (now < q.2)) := List.filter_eq_self.mpr (by intro p hp; simpa using n1' p hp)
      have e2 : (c.drop (i + 1)).filter (fun p => !decide (p.1 = q.1)) = c.drop (i + 1) := List.filter_eq_self.mpr (by intro p hp; simpa using n2 p hp)
      have e3 : (q :: c.drop (i + 1)).filter (fun p => !decide (p.1 = q.1)) = c.drop (i + 1) := by rw [List.filter_cons_of_neg (by simp), e2]
      have e4 : [q].filter (fun q => decide (now < q.2)) = [] := List.filter_cons_of_neg (by simpa using h)
      rw [List.filter_append, e1, e3, e4]
      simp
    · rw [if_neg h, List.filter_cons_of_pos (by simpa using h)]
      simp
theorem swS_at {now : Int} {cS c : List (Str × Int)} {i : Nat} {q : Str × Int} (hq : c[i]? = some q) : swS now cS c (i + 1) = (if q.2 ≤ now then kdzDel (swS now cS c i) q.1 else swS now cS c i) := by
  have ht : c.take (i + 1) = c.take i ++ [q] := by rw [List.take_add_one, hq]; rfl
  unfold swS
  rw [ht]
  by_cases h : q.2 ≤ now
  · rw [if_pos h]
    unfold kdzDel
    rw [List.filter_filter]
    congr 1
    funext p
    simp only [List.any_append, List.any_cons, List.any_nil, Bool.or_false, h, and_true, Bool.not_or]
    rw [Bool.and_comm]
    congr 2
    exact decide_eq_decide.mpr ⟨Eq.symm, Eq.symm⟩
  · rw [if_neg h]
    congr 1
    funext p
    simp [h]
theorem swE_end {now : Int} {c : List (Str × Int)} : swE now c c.length = c.filter fun q => decide (now < q.2) := by unfold swE; simp
theorem swS_end {now : Int} {cS c : List (Str × Int)} : swS now cS c c.length = cS.filter fun p => !c.any fun q => decide (q.1 = p.1 ∧ q.2 ≤ now) := by unfold swS; simp
theorem swE_len {now : Int} {c : List (Str × Int)} {i : Nat} : (swE now c i).length ≤ c.length := by
  unfold swE
  have e := List.length_filter_le (fun q : Str × Int => decide (now < q.2)) (c.take i)
  rw [List.length_append, List.length_drop]
  rw [List.length_take] at e
  omega
theorem swS_len {now : Int} {cS c : List (Str × Int)} {i : Nat} : (swS now cS c i).length ≤ cS.length := List.length_filter_le _ _
/-- the keys of a dict of strs, as a list -/
theorem list_keys {prog : Program} {w : World} {A : Around} {E : Value → Shared → Prop} {s : Shared} {h₀ : Heap} {L d v : Addr} {m : Str → Option Value} {news : List (Addr × Obj)} {Q : Value → Shared → Prop} {o : Obj} {kvs : List (Str × Value)} {c : List (Str × Int)}
    (hh : A.handled = none) (F : Fr h₀ L s.heap m) (N : News h₀ L s.heap news) (hv : (v, { cls := .type "dict_keys", data := .fields #[.ref d] }) ∈ news) (hp : (d, o) ∈ news) (hd : o.IsDictOf (PySem.strKind prog w) kvs) (hf : FlatPairs PyData.str kvs (kdpD c)) (hn : c.length ≤ 16777216)
    (h : ∀ (B : Addr) c' h' tk (vs : List Value), vs.length = c.length → (∀ (i : Nat) (x : Value), vs[i]? = some x → ∃ (q : Str × Int) (t : Tok), c[i]? = some q ∧ x = Value.str q.1 t) → Fr h₀ L h' m → News h₀ L h' ((B, listOf vs.toArray c') :: news) → (∀ q ∈ news, q.1 < B) → Q (.ref B) { s with heap := h', toks := tk }) :
    wpAny (model prog w) A (call (.type "list") [.ref v]) Q E s := by
  obtain ⟨ep, hat⟩ := (kda_dict N hp hd).dictAt
  refine kdl_N (kdl_keys (knd := PySem.strKind prog w) (kvs := kvs) (ep := ep)) hh F N ⟨⟨_, (N _ hv).1, rfl, rfl⟩, hat⟩ (kdl_size (by rw [← hf.length, kdpD_length]; exact hn)) fun B c' h' tk vs F' N' l1 hl hv => ?_
  refine h B c' h' tk vs (by rw [hl, ← hf.length, kdpD_length]) (fun i x hx => ?_) F' N' l1
  obtain ⟨k, y, hy, hk⟩ := hv i x hx
  obtain ⟨dv, hD, _⟩ := hf.at hy
  obtain ⟨t, rfl⟩ := Value.isStrOf_shape hk
  unfold kdpD at hD
  rw [List.getElem?_map] at hD
  cases hc : c[i]? with
  | none => rw [hc] at hD; simp at hD
  | some q =>
    rw [hc] at hD
    simp only [Option.map_some, Option.some.injEq, Prod.mk.injEq, PyData.str.injEq] at hD
    exact ⟨q, t, rfl, by rw [hD.1]⟩
theorem meta_tuple : typeOf (.type "tuple") = pure (.type "type") := by kernel_rfl
section
variable {prog : Program} {w : World} {A : Around} {E : Value → Shared → Prop} {s : Shared} {Q : Value → Shared → Prop}
theorem type_obj {x C : Addr} {o : Obj} (ho : s.heap.get? x = some o) (hc : o.cls = .ref C) (hq : Q (.ref C) s) : wpAny (model prog w) A (call (.type "type") [.ref x]) Q E s := by
  obtain ⟨hh, g, d, t, os⟩ := s
  exact call_type_obj ho (by rw [hc]; rfl) (by rw [hc]; exact hq)
theorem issub_looks {M : Model} {h : Heap} (X : (K w.params).In h) {C : Addr} (hC : C = 322 ∨ C = 132) : Looks M h (Builtin.«issubclass.nested» ⟨[.ref C, .type "tuple", rawInt 0], []⟩) (.done (.ret (.bool true))) := by
  rcases hC with rfl | rfl
  · exact Looks.of_peek X (by kernel_rfl)
  · exact Looks.of_peek X (by kernel_rfl)
theorem issub_meets {C : Addr} (w : World) (hC : C = 322 ∨ C = 132) : Meets (Builtin.«issubclass» ⟨[.ref C, .type "tuple"], []⟩) (fun _ R s => (K w.params).In s.heap ∧ R (.ok (.ret (.bool true))) s) :=
  fun _ _ _ _ _ hs => issubclass_outer ((issub_looks (w := w) hs.1 hC).here hs.2)
theorem call_issub {C : Addr} (X : (K w.params).In s.heap) (hC : C = 322 ∨ C = 132) (hq : Q (.bool true) s) : wpAny (model prog w) A (call (.builtin "issubclass") [.ref C, .type "tuple"]) Q E s :=
  call_issubclass (issub_meets w hC) ⟨X, hq⟩
theorem sub_tuple {M : Model} {h : Heap} (X : (K w.params).In h) {C : Addr} (hC : C = 322 ∨ C = 132) : Looks M h (isSubtype (.ref C) (.type "tuple")) true := by
  rcases hC with rfl | rfl
  · exact Looks.of_peek X (by kernel_rfl)
  · exact Looks.of_peek X (by kernel_rfl)
/-- an item of a named tuple -/
theorem call_getitem {x C : Addr} {od : Option Addr} {items : Array Value} {n : Nat} {sl : Array (Option Value)} {i : Int} {u : Tok} {k : Nat} {y : Value} (X : (K w.params).In s.heap) (hC : C = 322 ∨ C = 132)
    (ho : s.heap.get? x = some ⟨.ref C, od, .seq items n, sl⟩) (hlo : -2 ^ 63 ≤ i) (hhi : i < 2 ^ 63) (hk : seqIndex? i items.size = some k) (hy : items[k]? = some y) (hq : Q y s) :
    wpAny (model prog w) A (call (.builtin "tuple.__getitem__") [.ref x, .int i u]) Q E s := by
  have e1 : plainId "tuple.__getitem__" = true := by decide +kernel
  have e2 : builtinKind "tuple.__getitem__" = some .slot := by decide +kernel
  have e3 : splitId "tuple.__getitem__" = some ("tuple", "__getitem__") := by decide +kernel
  have e4 := F.args_tuple_getitem_2 (.ref x) (.int i u)
  have L : Looks (model prog w) s.heap (isInstance (.ref x) (.type "tuple")) true := ((Looks.ld (part := none) ho).andThen .now).andThen (sub_tuple X hC)
  refine wpAny_call (codeAny_call_builtin e1 F.entry_tuple_getitem ?_)
  refine @check_slot (model prog w) _ _ s "tuple.__getitem__" "tuple" "__getitem__" (.ref x) [.int i u] [] _ e2 e3 L e4 ?_
  obtain ⟨hp, g, d, tk, os⟩ := s
  unfold Builtin.«tuple.__getitem__»
  have f1 := AutoSeq1.idx_int
  have hf : ¬ (decide (i < -2 ^ 63) || decide (i ≥ 2 ^ 63)) = true := by simp; omega
  wp_walk using wpAny_loadPart' ho
  simp only [hk, hy, Option.bind_some]
  refine wpAny_ite_false (by simp; omega) ?_
  wp_walk
  exact hq
end
def tupO (vs : List Value) : Obj := { cls := .type "tuple", data := .seq vs.toArray }
/-- [f(k) for k in t], where f gives k back -/
theorem comp_tup {prog : Program} {w : World} {A : Around} {E : Value → Shared → Prop} {s : Shared} {h₀ : Heap} {L : Addr} {m : Str → Option Value} {env : Env} {news : List (Addr × Obj)} {elt iter : Expr} {x : Str} {px : Pos} {scope : Scope} {cl : List (Str × Addr)} {pos : Pos} {Q : Value → Shared → Prop} {T : Addr} {vs : List Value}
    (F : Fr h₀ L s.heap m) (N : News h₀ L s.heap news) (hT : (T, tupO vs) ∈ news) (hh : A.handled = none) (hz : vs.length ≤ 1000)
    (hclos : closureFor scope env = pure cl) (hcell : ∀ y ∈ scope.names, y.2 ≠ .cell) (hkind : scope.kind = .function)
    (hnames : ∀ y ∈ scope.names, y.2 = .local → scope.names.lookup y.1 = some .local) (hx : scope.names.lookup x = some .local)
    (hev : ∀ Q' : Value → Shared → Prop, Q' (.ref T) s → wpAny (model prog w) A (eval iter env) Q' E s)
    (turn : ∀ (v : Value) (C : Addr) (oC : Obj) (m₂ : Str → Option Value) (all : List (Addr × Obj)) (h : Heap) (tk : Nat) (E' Q' : Value → Shared → Prop), v ∈ vs → LCg.NsObj oC m₂ → m₂ x = some v → Fr h₀ L h m → News h₀ L h all → (C, oC) ∈ all →
      (∀ h' tk', Fr h₀ L h' m → News h₀ L h' all → Q' v { s with heap := h', toks := tk' }) →
      wpAny (model prog w) A (eval elt (compEnvC scope cl C env)) Q' E' { s with heap := h, toks := tk })
    (fin : ∀ D h tk, Fr h₀ L h m → News h₀ L h ((D, LCg.lst vs) :: news) → LCg.Off1 D news → Q (.ref D) { s with heap := h, toks := tk })
    (hs : ∀ x, foldedSetIterable iter env x = pure x := by intro _; rfl) :
    wpAny (model prog w) A (eval (.ListComp elt [⟨.Name x px, iter, [], 0⟩] scope pos) env) Q E s := by
  rw [eval_ListComp]
  refine wpAny_comprehension_free (use := none) rfl hs hclos hkind hnames (hev _ ?_)
  have hl : s.heap.IsTuple T vs.toArray := ⟨_, (N _ hT).1, rfl, _, rfl⟩
  have hlt : T < s.heap.objs.size := Heap.lt_size (N _ hT).1
  refine wpAny_pyIter_tuple hl ?_
  have up : ∀ b o, s.heap.get? b = some o → (s.heap.push { cls := .type "tuple_iterator", data := .fields #[.ref T, .int 0 0] }).get? b = some o := fun b o e => Heap.get?_push_of_some _ e
  have st : ∀ i (h h' : Heap) (o : Obj) (nw : List (Addr × Obj)), (h.IsTupleIter s.heap.objs.size T i ∧ h.IsTuple T vs.toArray) → h.get? s.heap.objs.size = some o → h'.get? s.heap.objs.size = some o → (∀ b o, h₀.get? b = some o → h'.get? b = some o) → News h₀ L h' nw → nw = news → (h'.IsTupleIter s.heap.objs.size T i ∧ h'.IsTuple T vs.toArray) := by
    intro i h h' o nw st e e' k N' hn
    subst hn
    refine ⟨?_, ⟨_, (N' _ hT).1, rfl, _, rfl⟩⟩
    obtain ⟨o', q, r⟩ := st.1
    rw [e] at q; cases q; exact ⟨o, e', r⟩
  refine LCg.block_U (S := fun nw => nw = news) (Fin := fun ys nw => ys = vs ∧ nw = news) (Walks.tuple hh s.heap.objs.size T (Nat.ne_of_lt hlt) vs.toArray) (by rw [sizeLine_eq, List.size_toArray]; omega) (fun i h st => by obtain ⟨o, e, _⟩ := st.1; exact ⟨o, e⟩) st hcell hkind hx ⟨⟨_, Heap.get?_push_size _ rfl, rfl, rfl⟩, hl.push _⟩ (fun b hb => ?_)
      (F.keeps up) (N.grown up) (Nat.ne_of_lt F.ns.lt) (next_is_new F) (fun p hp => Nat.ne_of_lt (Heap.lt_size (N p hp).1)) rfl ?_ ?_
  · show b < (s.heap.push _).objs.size
    rw [Heap.size_push]
    rcases List.mem_cons.mp hb with rfl | hb
    · exact Nat.lt_succ_self _
    · rw [List.mem_singleton.mp hb]; exact Nat.lt_succ_of_lt hlt
  · have key : ∀ (k i : Nat) (ys : List Value), i + k = vs.length → ys = vs.take i →
        LCg.CompRest prog w A h₀ L m env elt x scope cl { s with heap := s.heap.push { cls := .type "tuple_iterator", data := .fields #[.ref T, .int 0 0] } } (fun nw => nw = news) (fun i v => vs.toArray[i]? = some v) (fun ys nw => ys = vs ∧ nw = news) k i ys news := by
      intro k
      induction k with
      | zero =>
        intro i ys hi hy
        refine LCg.CompRest.zero ⟨?_, rfl⟩
        rw [hy, List.take_of_length_le (by omega)]
      | succ k ih =>
        intro i ys hi hy
        refine LCg.CompRest.succ ?_
        intro v I oI C oC D m₂ h tk E' hv hC hx' F' N' off' ne'
        have hv' : vs[i]? = some v := by simpa using hv
        refine turn v C oC m₂ _ h tk E' _ (List.mem_of_getElem? hv') hC hx' F' N' (.tail _ (.head _)) fun h' tk' F2 N2 => ?_
        refine LCg.CompEnd.intro F2 N2 news (fun p hp => hp) off' rfl (ih (i + 1) _ (by omega) ?_)
        rw [hy, List.take_add_one, hv']; rfl
    have := key vs.toArray.size 0 [] (by simp) (by simp)
    exact this
  · intro D C h tk m' ys news' F' N' o1 hn hC₀ hD₀ hCL hDL hCD offC hfin
    obtain ⟨rfl, rfl⟩ := hfin
    refine ⟨m', hn, fun h'' hs'' => fin D h'' tk (F'.change hs'' hCL hC₀) (fun p hp => ?_) o1⟩
    refine ⟨hs''.extBut _ _ ?_ (N' p hp).1, (N' p hp).2⟩
    rcases List.mem_cons.mp hp with rfl | hp
    · exact Ne.symm hCD
    · exact offC p hp
section
variable {M : Model} {h : Heap} {w : World} (X : (K w.params).In h)
include X
theorem ws_made : Looks M h (Bind.madeBy (.ref 132)) none := Looks.of_peek X (by kernel_rfl)
theorem ws_check (T : Addr) : Looks M h (checkBuiltinCall "tuple.__new__" ⟨[.ref 132, .ref T], []⟩) () := Looks.of_peek X (by kernel_rfl)
theorem ws_type : Looks M h (isType (.ref 132)) true := Looks.of_peek X (by kernel_rfl)
theorem ws_here : Looks M h (Bind.madeHere "tuple.__new__" (.ref 132)) () := Looks.of_peek X (by kernel_rfl)
theorem ws_init : Looks M h (typeLookup (.ref 132) "__init__") (some (.builtin "object.__init__")) := Looks.of_peek X (by kernel_rfl)
theorem ws_call : Looks M h (specialOf (.ref 132) "__call__") (some (.builtin "type.__call__")) := Looks.of_peek X (by kernel_rfl)
theorem ws_typ : Looks M h (isInstance (.ref 132) (.type "type")) true := Looks.of_peek X (by kernel_rfl)
theorem ws_self : Looks M h (isSubtype (.ref 132) (.ref 132)) true := Looks.of_peek X (by kernel_rfl)
theorem ws_obj : Looks M h (isSubtype (.ref 132) (.type "object")) true := Looks.of_peek X (by kernel_rfl)
theorem ws_mro : ∃ l, l.isEmpty = false ∧ Looks M h (mroOf (.ref 132)) l := ⟨_, rfl, Looks.of_peek (r := [.ref 132, .type "tuple", .type "object"]) X (by kernel_rfl)⟩
end
def Hold (p : Prop) : Prop := p
theorem hold_collect {M : Model} {A : Around} {v : Value} {Q : List Value → Shared → Prop} {E : Value → Shared → Prop} {s : Shared} (h : Hold (wpAny M A (collect v) Q E s)) : wpAny M A (collect v) Q E s := h
theorem call_tuple_new {prog : Program} {w : World} {A : Around} {E : Value → Shared → Prop} {s : Shared} {Q : Value → Shared → Prop} {h₀ : Heap} {L T : Addr} {m : Str → Option Value} {news : List (Addr × Obj)} {a b : Value} {k : Nat} (X : (K w.params).In h₀) (F : Fr h₀ L s.heap m) (N : News h₀ L s.heap news)
    (hT : (T, (⟨.type "tuple", none, .seq #[a, b] k, #[]⟩ : Obj)) ∈ news)
    (h : ∀ (x dx : Addr) h', Fr h₀ L h' m → News h₀ L h' ((x, ⟨.ref 132, some dx, .seq #[a, b] 0, #[]⟩) :: (dx, emptyDict) :: news) → (∀ p ∈ news, p.1 < dx) → dx < x → Q (.ref x) { s with heap := h' }) :
    wpAny (model prog w) A (call (.builtin "tuple.__new__") [.ref 132, .ref T]) Q E s := by
  have X1 := X.keeps F.keep
  have e1 : plainId "tuple.__new__" = true := by decide +kernel
  refine wpAny_call (codeAny_call_builtin e1 PySem.F.entry_tuple_new ((ws_check X1 T).here ?_))
  obtain ⟨hh, g, d, t, os⟩ := s
  have L1 := ws_type (M := model prog w) X1
  have L2 := sub_tuple (M := model prog w) X1 (C := 132) (.inr rfl)
  have L3 := ws_here (M := model prog w) X1
  have L4 := ws_init (M := model prog w) X1
  have hT' := (N _ hT).1
  unfold Builtin.«tuple.__new__»
  repeat (first | with_reducible refine hold_collect ?_ | lk)
  unfold Hold
  refine wpAny_collect_seq T (.inr rfl) hT' rfl rfl (fun h' hk => ?_) (by rw [sizeLine_eq]; exact Nat.le_of_ble_eq_true rfl)
  have X2 := X1.keeps hk
  have F2 := F.keeps hk
  have N2 := N.grown hk
  have hC := Heap.get?_push_of_some ⟨.ref 132, some h'.objs.size, .seq #[a, b] 0, #[]⟩ (Heap.get?_push_of_some emptyDict (X2 132 _ rfl))
  repeat lk
  exact h _ _ _ ((F2.push _).push _) ((N2.push F2 emptyDict).push (F2.push _) _) (fun p hp => Heap.lt_size (N2 p hp).1) (by rw [Heap.size_push]; exact Nat.lt_succ_self _)
section
local macro_rules | `(tactic| k_mem) => `(tactic| (change _ ∈ (_ : List (Addr × Obj)); assumption))
local macro_rules | `(tactic| walk_at "call builtin:dict.pop") => `(tactic| (k_here; kdy_here; k_dflt (refine' pop_any ?F ?N ?U ?lo ?d ?f ?z ?_; (case F => k_asm); (case N => k_asm); (case U => k_updF); (case lo => k_asm); (case d => k_asm); (case f => k_asm); (case z => kdy_size)); intro h' o' kvs' v' F' N' hd' hf'; (try dsimp only at N')))
local macro_rules | `(tactic| walk_at "jb_enter") => `(tactic| (refine' code_def ?k1 ?k2 ?k3 ?k4 ?k5 ?kA ?kF ?kK ?k6 ?k7 ?k8 ?k9 ?kB ?_ ?c2 ?c3 ?c4 ?c5; (case kA => exact rfl); (case kF => exact rfl); (case kK => assumption); (case k1 => k_asm); (case k2 => k_asm); (case k3 => k_asm); (case k4 => k_asm); (case k5 => k_asm); (case k6 => k_is); (case k7 => k_is); (case k8 => ktr_room); (case k9 => first | exact BindsTo.of_eq rfl | exact binds_K (by k_in) rfl (by k_is) rfl rfl rfl); (case c5 => decide); (case kB => exact locs rfl); (case c2 => exact rfl); (case c3 => exact rfl); (case c4 => exact rfl); k_whole; intro g' L' h' FG' F' N' B' X' T'; (try dsimp only); (try k_lift B'); (try k_fold)))
local macro_rules | `(tactic| walk_at "call builtin:dict.get") => `(tactic| (k_here; k_dflt (show wpAny _ _ (call (Value.builtin "dict.get") [Value.ref _, Value.str _ _, Value.int _ _]) _ _ _); k_dflt (refine kdp_get2 (by k_tabat) ?_); intro t9))
local macro_rules | `(tactic| walk_at "getMethod ref") => `(tactic| (k_here; (with_reducible show wpAny _ _ (getMethod (Value.ref _) (Str.ofString "clock") _) _ _ _); k_dflt (refine' kmu_own ?k1 ?k2 ?k3 ?k4 ?k5 ?_; (case k1 => k_asm); (case k2 => k_asm); (case k3 => k_inst); (case k4 => k_is); (case k5 => k_is); k_whole)))
local macro_rules | `(tactic| walk_at "setItem ref str") => `(tactic| (k_here; k_dflt (refine' kdp_setItem ?F ?N ?U ?d ?f ?z ?_; (case F => k_asm); (case N => k_asm); (case U => k_updF); (case d => k_asm); (case f => k_asm); (case z => omega)); intro h' o' kvs' F' N' hd' hf'; (try dsimp only at N')))
local macro_rules | `(tactic| walk_at "subscriptTail") => `(tactic| (k_here; k_dflt (show wpAny _ _ (subscriptTail _ _ (Value.ref _) (Value.str _ _)) _ _ _); k_dflt (refine kdp_item (by k_tabat) (by kdp_has) ?_); intro t9))
local macro_rules | `(tactic| walk_at "jb_sub") => `(tactic| (intro p hp; repeat (first | exact hp | refine List.mem_cons_of_mem _ ?_)))
local macro_rules | `(tactic| walk_at "callWith ref") => `(tactic| (k_here; k_dflt (refine' callWith_f0 ?m ?_; (case m => (refine' News.get ?N ?q; (case N => k_asm); (case q => k_mem))))))
local macro_rules | `(tactic| walk_at "call ref") => `(tactic| (k_here; (with_reducible show wpAny _ _ (call (Value.ref (Fx.f _)) _ _) _ _ _); k_dflt (refine' Tell.use (‹Clk _ _ _› _ _ _ _ ?s ?m) ?k1 ?k2 ?k3 ?k4 ?k5 ?kK ?kd ?ku ?_; (case k1 => k_asm); (case k2 => k_asm); (case k3 => k_asm); (case k4 => k_asm); (case k5 => k_asm); (case s => walk_at "jb_sub"); (case m => k_mem); (case kK => first | exact rfl | assumption); (case kd => ktr_room); (case ku => ktr_units); intro v9 n9 h9 tk9 e9 F9 N9; (have e91 := e9.1); (have e92 := e9.2); clear e9; subst e91; subst e92; (try dsimp only); (try k_sweep))))
section
theorem clear_tell (w : World) (x : Fx) (rest : List (Addr × Obj)) (S : Sto w x rest) (oS oE oV : Obj) (cS cE : List (Str × Int)) (now : Int) (t : Tok) (n : Nat) (hS : Dct w oS cS) (hE : Dct w oE cE) (hV : Dct w oV []) (h1 : cS.length ≤ 1000) (h2 : cE.length ≤ 1000) (key : Str) (kt : Tok) :
    Tell w 2 508 [.ref x.st, .str key kt] [] (M x oS oE oV now t n rest) fun v l => ∃ oS' oE' oV', (v = .none ∧ Dct w oS' (kdzDel cS key) ∧ Dct w oE' (kdzDel cE key) ∧ Dct w oV' []) ∧ l = M x oS' oE' oV' now t n rest := by
  intro p loose mean mg mb dp un gd cn cs a ccd cl outer A₀ base h₀ L m s Q E B F X N T hk hd hu hret
  obtain ⟨hst, hstd, hoff, lo1, lo2, lo3, l1, ⟨fc, fod, ffd, fsl, hf⟩, clk⟩ := S
  obtain ⟨kS, dS, fS⟩ := hS
  obtain ⟨kE, dE, fE⟩ := hE
  obtain ⟨kV, dV, fV⟩ := hV
  have h3 : ([] : List (Str × Int)).length ≤ 1000 := Nat.zero_le _
  revert X; k_fill; intro X
  refine wpAny_call ?_
  k_dflt (walk_at "jb_enter")
  k_steps
  refine hret _ _ _ _ ⟨_, _, _, ⟨rfl, ?_, ?_, ?_⟩, rfl⟩ (by k_asm) (by k_asm) <;> exact ⟨_, by assumption, by assumption⟩
theorem get_expiry_tell (w : World) (x : Fx) (rest : List (Addr × Obj)) (S : Sto w x rest) (oS oE oV : Obj) (cE : List (Str × Int)) (now : Int) (t : Tok) (n : Nat) (hE : Dct w oE cE) (h2 : cE.length ≤ 1000) (key : Str) (kt : Tok) :
    Tell w 2 523 [.ref x.st, .str key kt] [] (M x oS oE oV now t n rest) fun v l => (∃ t', v = .int (kdpLook cE key now) t') ∧ l = M x oS oE oV now t n rest := by
  intro p loose mean mg mb dp un gd cn cs a ccd cl outer A₀ base h₀ L m s Q E B F X N T hk hd hu hret
  obtain ⟨hst, hstd, hoff, lo1, lo2, lo3, l1, ⟨fc, fod, ffd, fsl, hf⟩, clk⟩ := S
  obtain ⟨kE, dE, fE⟩ := hE
  refine wpAny_call ?_
  k_dflt (walk_at "jb_enter")
  k_steps
  exact hret _ _ _ _ ⟨⟨_, rfl⟩, rfl⟩ (by k_asm) (by k_asm)
def liveS (now : Int) (key : Str) (cS cE : List (Str × Int)) : List (Str × Int) := if kdpLook cE key 0 ≤ now then kdzDel cS key else cS
def liveE (now : Int) (key : Str) (cE : List (Str × Int)) : List (Str × Int) := if kdpLook cE key 0 ≤ now then kdzDel cE key else cE
theorem liveS_len (now : Int) (key : Str) (cS cE : List (Str × Int)) : (liveS now key cS cE).length ≤ cS.length := by
  unfold liveS; split
  · exact kdzDel_len _ _
  · exact Nat.le_refl _
theorem liveE_len (now : Int) (key : Str) (cE : List (Str × Int)) : (liveE now key cE).length ≤ cE.length := by
  unfold liveE; split
  · exact kdzDel_len _ _
  · exact Nat.le_refl _
theorem get_tell (w : World) (x : Fx) (rest : List (Addr × Obj)) (S : Sto w x rest) (oS oE oV : Obj) (cS cE : List (Str × Int)) (now : Int) (t : Tok) (n : Nat) (hS : Dct w oS cS) (hE : Dct w oE cE) (h1 : cS.length ≤ 1000) (h2 : cE.length ≤ 1000) (key : Str) (kt : Tok) :
    Tell w 3 501 [.ref x.st, .str key kt] [] (M x oS oE oV now t n rest) fun v l => ∃ oS' oE', ((∃ t', v = .int (kdpLook (liveS now key cS cE) key 0) t') ∧ Dct w oS' (liveS now key cS cE) ∧ Dct w oE' (liveE now key cE)) ∧ l = M x oS' oE' oV now t n rest := by
  intro p loose mean mg mb dp un gd cn cs a ccd cl outer A₀ base h₀ L m s Q E B F X N T hk hd hu hret
  obtain ⟨hst, hstd, hoff, lo1, lo2, lo3, l1, ⟨fc, fod, ffd, fsl, hf⟩, clk⟩ := S
  obtain ⟨kS, dS, fS⟩ := hS
  obtain ⟨kE, dE, fE⟩ := hE
  have h3 := kdzDel_len cS key
  refine wpAny_call ?_
  k_dflt (walk_at "jb_enter")
  k_steps
  · have e1 : liveS now key cS cE = kdzDel cS key := if_pos (by assumption)
    have e2 : liveE now key cE = kdzDel cE key := if_pos (by assumption)
    refine hret _ _ _ _ ⟨_, _, ⟨⟨_, by rw [e1]⟩, ?_, ?_⟩, rfl⟩ (by k_asm) (by k_asm)
    · rw [e1]; exact ⟨_, by assumption, by assumption⟩
    · rw [e2]; exact ⟨_, by assumption, by assumption⟩
  · have e1 : liveS now key cS cE = cS := if_neg (by assumption)
    have e2 : liveE now key cE = cE := if_neg (by assumption)
    refine hret _ _ _ _ ⟨_, _, ⟨⟨_, by rw [e1]⟩, ?_, ?_⟩, rfl⟩ (by k_asm) (by k_asm)
    · rw [e1]; exact ⟨_, by assumption, by assumption⟩
    · rw [e2]; exact ⟨_, by assumption, by assumption⟩
local macro_rules | `(tactic| walk_at "call ref") => `(tactic| (k_here; (with_reducible show wpAny _ _ (call (Value.ref 501) _ _) _ _ _); k_dflt (refine' Tell.use (get_tell _ _ _ (by assumption) _ _ _ _ _ _ _ _ ?hS ?hE ?z1 ?z2 _ _) ?k1 ?k2 ?k3 ?k4 ?k5 ?kK ?kd ?ku ?_; (case k1 => k_asm); (case k2 => k_asm); (case k3 => k_asm); (case k4 => k_asm); (case k5 => k_asm); (case kK => first | exact rfl | assumption); (case kd => ktr_room); (case ku => ktr_units); (case hS => exact ⟨_, by assumption, by assumption⟩); (case hE => exact ⟨_, by assumption, by assumption⟩); (case z1 => assumption); (case z2 => assumption); intro v9 n9 h9 tk9 e9 F9 N9; obtain ⟨oS9, oE9, ⟨⟨t9, e91⟩, hS9, hE9⟩, e92⟩ := e9; subst e91; subst e92; obtain ⟨kS9, dS9, fS9⟩ := hS9; obtain ⟨kE9, dE9, fE9⟩ := hE9; (try dsimp only); (try k_sweep))))
theorem incr_tell (w : World) (x : Fx) (rest : List (Addr × Obj)) (S : Sto w x rest) (oS oE oV : Obj) (cS cE : List (Str × Int)) (now : Int) (t : Tok) (n : Nat) (hS : Dct w oS cS) (hE : Dct w oE cE) (h1 : cS.length ≤ 1000) (h2 : cE.length ≤ 1000) (key : Str) (kt : Tok) (ex am : Int) (te ta : Tok) :
    Tell w 5 486 [.ref x.st, .str key kt, .int ex te] [(Str.ofString "amount", .int am ta)] (M x oS oE oV now t n rest) fun v l => ∃ oS' oE', ((∃ t', v = .int (kdpLook (liveS now key cS cE) key 0 + am) t') ∧ Dct w oS' (kdpPut (liveS now key cS cE) key (kdpLook (liveS now key cS cE) key 0 + am)) ∧ Dct w oE' (if kdpLook (liveS now key cS cE) key 0 = 0 then kdpPut (liveE now key cE) key (now + ex) else liveE now key cE)) ∧ l = M x oS' oE' oV now t n rest := by
  intro p loose mean mg mb dp un gd cn cs a ccd cl outer A₀ base h₀ L m s Q E B F X N T hk hd hu hret
  have S' := S
  obtain ⟨hst, hstd, hoff, lo1, lo2, lo3, l1, ⟨fc, fod, ffd, fsl, hf⟩, clk⟩ := S
  obtain ⟨kS, dS, fS⟩ := hS
  obtain ⟨kE, dE, fE⟩ := hE
  have h3 := liveS_len now key cS cE
  have h4 := liveE_len now key cE
  refine wpAny_call ?_
  k_dflt (walk_at "jb_enter")
  k_steps
  · have hc : kdpLook (kdpPut (liveS now key cS cE) key (kdpLook (liveS now key cS cE) key 0 + am)) key 0 = am := by assumption
    rw [look_put] at hc
    rw [look_put]
    refine hret _ _ _ _ ⟨_, _, ⟨⟨_, rfl⟩, ?_, ?_⟩, rfl⟩ (by k_asm) (by k_asm)
    · exact ⟨_, by assumption, by assumption⟩
    · rw [if_pos (by omega)]; exact ⟨_, by assumption, by assumption⟩
  · have hc : kdpLook (kdpPut (liveS now key cS cE) key (kdpLook (liveS now key cS cE) key 0 + am)) key 0 ≠ am := by assumption
    rw [look_put] at hc
    rw [look_put]
    refine hret _ _ _ _ ⟨_, _, ⟨⟨_, rfl⟩, ?_, ?_⟩, rfl⟩ (by k_asm) (by k_asm)
    · exact ⟨_, by assumption, by assumption⟩
    · rw [if_neg (by omega)]; exact ⟨_, by assumption, by assumption⟩
theorem int_eq {a b : Int} {t : Tok} (h : a = b) : Value.int a t = Value.int b t := by rw [h]
theorem reset_tell (w : World) (x : Fx) (rest : List (Addr × Obj)) (S : Sto w x rest) (oS oE oV : Obj) (cS cE : List (Str × Int)) (now : Int) (t : Tok) (n : Nat) (hS : Dct w oS cS) (hE : Dct w oE cE) (hV : Dct w oV []) (h1 : cS.length ≤ 1000) (h2 : cE.length ≤ 1000) :
    Tell w 2 573 [.ref x.st] [] (M x oS oE oV now t n rest) fun v l => ∃ oS' oE' oV', ((∃ t', v = .int (cS.length : Int) t') ∧ Dct w oS' [] ∧ Dct w oE' [] ∧ Dct w oV' []) ∧ l = M x oS' oE' oV' now t n rest := by
  intro p loose mean mg mb dp un gd cn cs a ccd cl outer A₀ base h₀ L m s Q E B F X N T hk hd hu hret
  obtain ⟨hst, hstd, hoff, lo1, lo2, lo3, l1, ⟨fc, fod, ffd, fsl, hf⟩, clk⟩ := S
  obtain ⟨kS, dS, fS⟩ := hS
  obtain ⟨kE, dE, fE⟩ := hE
  obtain ⟨kV, dV, fV⟩ := hV
  have h3 : ([] : List (Str × Int)).length ≤ 1000 := Nat.zero_le _
  refine wpAny_call ?_
  k_dflt (walk_at "jb_enter")
  k_steps
  refine hret _ _ _ _ ⟨_, _, _, ⟨⟨_, int_eq ?_⟩, ?_, ?_, ?_⟩, rfl⟩ (by k_asm) (by k_asm)
  · rw [if_neg (by simp only [kdpD_length, List.length_nil]; omega)]; simp only [kdpD_length]
  all_goals exact ⟨_, by assumption, by assumption⟩
end
section
local macro_rules | `(tactic| walk_at "call type:list") => `(tactic| (k_here; (with_reducible show wpAny _ _ (call (Value.type "list") [Value.ref _]) _ _ _); k_dflt (refine' list_keys (by rfl) ?F ?N ?v ?p ?d ?f ?z ?_; (case F => k_asm); (case N => k_asm); (case v => k_mem); (case p => k_mem); (case d => k_asm); (case f => k_asm); (case z => omega)); intro D8 c8 h8 tk8 vs8 len8 get8 F8 N8 l8; (try k_lt l8)))
local macro_rules | `(tactic| walk_at "getItem ref str") => `(tactic| (k_here; k_dflt (refine kdp_getItem (by k_tabat) (by kdp_has) ?_); intro t9))
theorem expire_tell (w : World) (x : Fx) (rest : List (Addr × Obj)) (S : Sto w x rest) (oS oE oV : Obj) (cS cE : List (Str × Int)) (now : Int) (t : Tok) (n : Nat) (hS : Dct w oS cS) (hE : Dct w oE cE) (hV : Dct w oV []) (h1 : cS.length ≤ 1000) (h2 : cE.length ≤ 1000) (nd : (cE.map (·.1)).Nodup) :
    Tell w 3 478 [.ref x.st] [] (M x oS oE oV now t n rest) fun v l => ∃ oS' oE' oV', (v = .none ∧ Dct w oS' (cS.filter fun p => !cE.any fun q => decide (q.1 = p.1 ∧ q.2 ≤ now)) ∧ Dct w oE' (cE.filter fun q => decide (now < q.2)) ∧ Dct w oV' []) ∧ l = M x oS' oE' oV' now t n rest := by
  intro p loose mean mg mb dp un gd cn cs a ccd cl outer A₀ base h₀ L m s Q E B F X N T hk hd hu hret
  have S0 := S
  obtain ⟨hst, hstd, hoff, lo1, lo2, lo3, l1, ⟨fc, fod, ffd, fsl, hf⟩, clk⟩ := S
  obtain ⟨kS, dS, fS⟩ := hS
  obtain ⟨kE, dE, fE⟩ := hE
  obtain ⟨kV, dV, fV⟩ := hV
  have h3 : ([] : List (Str × Int)).length ≤ 1000 := Nat.zero_le _
  revert X; k_fill; intro X
  refine wpAny_call ?_
  k_dflt (walk_at "jb_enter")
  k_steps
  rename News _ _ _ _ => N7
  rename Fr _ _ _ _ => F7
  refine for_list [Str.ofString "events", Str.ofString "oldest"] (by rfl) F7 N7 (by k_mem) (fun (_ : Unit) y => List.lookup y [(Str.ofString "self", Value.ref x.st)]) (fun _ _ l => l = _) () rfl (fun _ _ _ => by with_unfolding_all rfl) ?turn ?done
  case turn =>
    intro i v u c' news₁ h tk own I hv
    rename (_ = List.length []) => len8
    rw [List.length_eq_zero_iff.mp len8] at hv; cases hv
  intro u c' news₁ h tk hJ F8 N8
  subst hJ
  rename (∀ (i : Nat) (x : Value), _ → _) => get0
  clear get0
  k_steps
  rename News _ _ _ ((_, listOf (List.toArray _) _) :: _) => N9
  rename Fr _ _ _ _ => F9
  rename (∀ (i : Nat) (x : Value), _ → _) => get9
  rename (_ = cE.length) => len9
  rename (@LT.lt Nat _ _ _ ∧ _) => lt9
  rename_i tk₀ D₁ h₁ F₁ N₁ l₁ D₂ c₂ h₂ tk₂ vs₂ len₂ l₂ D₃ h₃ F₃ N₃ l₃ D₄ c₄ h₄ tk₄ vs₄
  have N8' := news_sub (b := M x oS oE oV now t n ((D₄, listOf vs₄.toArray c₄) :: rest)) N9 (by
    intro p hp
    simp only [List.mem_cons] at hp ⊢
    rcases hp with hp | hp | hp | hp | hp | hp <;> simp [hp])
  have AbD : Ab x D₄ := by have := lt9; refine ⟨?_, ?_, ?_, ?_⟩ <;> simp only [lt9]
  have S1 : Sto w x ((D₄, listOf vs₄.toArray c₄) :: rest) := S0.app [(D₄, listOf vs₄.toArray c₄)] (off_one AbD)
  clear hst hstd hoff hf clk N9 N8
  refine for_list [Str.ofString "events", Str.ofString "oldest"] (by rfl) F9 N8' (by k_mem) (fun (_ : Unit) y => List.lookup y [(Str.ofString "self", Value.ref x.st)]) (fun i _ l => ∃ oS oE, Dct w oS (swS now cS cE i) ∧ Dct w oE (swE now cE i) ∧ l = M x oS oE oV now t n ((D₄, listOf vs₄.toArray c₄) :: rest)) () ⟨oS, oE, ?_, ?_, rfl⟩ ?hm2 ?turn2 ?done2
  · have e : swS now cS cE 0 = cS := by unfold swS; simp
    rw [e]; exact ⟨_, dS, fS⟩
  · have e : swE now cE 0 = cE := by unfold swE; simp
    rw [e]; exact ⟨_, dE, fE⟩
  case hm2 => intro y h1 h2; rw [if_neg h1, if_neg (by rw [h2]; decide)]
  case turn2 =>
    rintro i v u c' news₁ h tk own I hv ⟨oS1, oE1, hS1, hE1, rfl⟩ hnI hltI hown hIo F1 N1
    obtain ⟨q, t', hq, rfl⟩ := get9 i v hv
    obtain ⟨a1, a2, a3⟩ := swE_at (now := now) hq nd
    have s1 := swS_at (now := now) (cS := cS) hq
    have b1 := swE_len (now := now) (c := cE) (i := i)
    have b2 := swS_len (now := now) (cS := cS) (c := cE) (i := i)
    have AbI : Ab x I := ⟨hltI (x.sd, oS) (by simp), hltI (x.ed, oE) (by simp), hltI (x.vd, oV) (by simp), hltI (x.nl, listOf #[.int now t] n) (by simp)⟩
    have hoI := off_own hown AbI AbD
    have S2 := S1.app own hoI
    obtain ⟨kS1, dS1, fS1⟩ := hS1
    obtain ⟨kE1, dE1, fE1⟩ := hE1
    have N2 := news_sub (b := M x oS1 oE1 oV now t n (own ++ (D₄, listOf vs₄.toArray c₄) :: rest)) N1 (by
      intro p hp
      simp only [List.mem_cons, List.mem_append] at hp ⊢
      rcases hp with hp | hp | hp | hp | hp | hp | hp <;> simp [hp])
    obtain ⟨rest2, hr2⟩ : ∃ r, r = own ++ (D₄, listOf vs₄.toArray c₄) :: rest := ⟨_, rfl⟩
    rw [← hr2] at N2 S2
    obtain ⟨hst, hstd, hoff, lo1, lo2, lo3, l1, ⟨fc, fod, ffd, fsl, hf⟩, clk⟩ := S2
    clear F9 N8' hltI N1
    k_steps
    · have hle : kdpLook (swE now cE i) q.1 0 ≤ now := by assumption
      rw [a2] at hle
      rw [if_pos hle] at a3 s1
      subst hr2
      refine turn_end (by k_asm) (by k_asm) hnI ⟨(), ⟨_, _, ?_, ?_, rfl⟩, ?_⟩
      · rw [s1]; exact ⟨_, by assumption, by assumption⟩
      · rw [a3]; exact ⟨_, by assumption, by assumption⟩
      · intro y h1 h2; rw [if_neg h1, if_neg (by rw [h2]; decide)]
    · have hle : ¬ kdpLook (swE now cE i) q.1 0 ≤ now := by assumption
      rw [a2] at hle
      rw [if_neg hle] at a3 s1
      subst hr2
      refine turn_end (by k_asm) (by k_asm) hnI ⟨(), ⟨_, _, ?_, ?_, rfl⟩, ?_⟩
      · rw [s1]; exact ⟨_, by assumption, by assumption⟩
      · rw [a3]; exact ⟨_, by assumption, by assumption⟩
      · intro y h1 h2; rw [if_neg h1, if_neg (by rw [h2]; decide)]
  case done2 =>
    rintro u c' news₁ h tk ⟨oS1, oE1, hS1, hE1, rfl⟩ F1 N1
    rw [len9, swS_end] at hS1
    rw [len9, swE_end] at hE1
    k_steps
    refine hret _ _ _ _ ⟨_, _, _, ⟨rfl, hS1, hE1, ⟨_, dV, fV⟩⟩, rfl⟩ (by k_asm) ?_
    rename News _ _ _ _ => N8
    refine news_sub N8 ?_
    intro p hp
    simp only [List.mem_cons] at hp ⊢
    rcases hp with hp | hp | hp | hp | hp <;> simp [hp]
end
section
/-- an object of the written part, by its address alone -/
def AtK (w : World) (x : Addr) (o : Obj) : Prop := ∀ h : Heap, (K w.params).In h → h.get? x = some o
local macro_rules | `(tactic| walk_at "call type:type") => `(tactic| (k_here; (with_reducible show wpAny _ _ (call (Value.type "type") [Value.ref _]) _ _ _); k_dflt (refine' type_obj ?o ?c ?_; (case o => first | exact ‹AtK _ _ _› _ (by k_in) | kto_obj); (case c => exact rfl))))
local macro_rules | `(tactic| walk_at "call builtin:issubclass") => `(tactic| (k_here; k_dflt (refine' call_issub ?X ?c ?_; (case X => k_in); (case c => first | exact .inl rfl | exact .inr rfl))))
local macro_rules | `(tactic| walk_at "getMethod type:tuple") => `(tactic| (k_here; refine' method_type ?F ?X ?m (by decide +kernel) ?e ?h ?_; (case F => k_asm); (case X => k_asm); (case m => exact meta_tuple); (case e => k_dflt k_is); (case h => k_handed)))
local macro_rules | `(tactic| walk_at "getAttr ref") => `(tactic| (k_here; k_dflt (have X5 := ‹(K _).In _›; have F5 := ‹Fr _ _ _ _›; refine' get_own F5 X5 ⟨PySem.W.Frag.In.keeps X5 (PyProof.Rows.Fr.keep F5) _ _ ‹(K _).lookup _ = some ⟨_, _, Data.plain, _⟩›, rfl, rfl, PySem.W.Frag.In.keeps X5 (PyProof.Rows.Fr.keep F5) _ _ ‹(K _).lookup _ = some (dictOf _ _)›⟩ ?k1 ?k2 ?k3 ?k4 ?k5 ?k6 ?_; (case k1 => k_is); (case k2 => k_is); (case k3 => k_is); (case k4 => k_is); (case k5 => assumption); (case k6 => exact rfl); clear X5 F5)))
local macro_rules | `(tactic| walk_at "call builtin:tuple.__getitem__") => `(tactic| (k_here; k_dflt (refine' call_getitem ?X ?c ?o ?l ?u ?k ?y ?_; (case X => k_in); (case o => first | exact ‹AtK _ _ _› _ (by k_in) | kto_obj); (case c => first | exact .inl rfl | exact .inr rfl); (case l => assumption); (case u => assumption); (case k => assumption); (case y => assumption))))
theorem ga_looks {M : Model} {h : Heap} {w : World} (X : (K w.params).In h) {C : Addr} (hC : C = 322 ∨ C = 132) : Looks M h (typeLookup (.ref C) "__getattribute__") (some (.builtin "tuple.__getattribute__")) := by
  rcases hC with rfl | rfl
  · exact Looks.of_peek X (by kernel_rfl)
  · exact Looks.of_peek X (by kernel_rfl)
theorem hk_looks {M : Model} {h : Heap} {w : World} (X : (K w.params).In h) {C : Addr} (hC : C = 322 ∨ C = 132) : Looks M h (typeLookup (.ref C) "__getattr__") none := by
  rcases hC with rfl | rfl
  · exact Looks.of_peek X (by kernel_rfl)
  · exact Looks.of_peek X (by kernel_rfl)
/-- an attribute of a named tuple behind a Python descriptor -/
theorem get_bind_tuple {prog : Program} {w : World} {A : Around} {E : Value → Shared → Prop} {s : Shared} {Q : Value → Shared → Prop} {g a x C : Addr} {ox : Obj} {od : Option Obj} {name : Str} {expr : Bool} (X : (K w.params).In s.heap) (hC : C = 322 ∨ C = 132)
    (I : InstAt s.heap x ox C od) (hf : findObj (K w.params) C od name = some (.bind (.ref g) (.ref a)))
    (h : ∀ E', wpAny (model prog w) A.in1 (call (.ref g) [.ref a, .ref x, .ref C]) (fun v s' => wpAny (model prog w) A (handedOut v) Q E s') E' { s with toks := s.toks + 1 }) :
    wpAny (model prog w) A (getAttr (.ref x) name expr) Q E s := by
  obtain ⟨hh, gg, d, t, os⟩ := s
  have L0 := I.type (M := model prog w)
  have L1 := ga_looks (M := model prog w) X hC
  have L2 := hk_looks (M := model prog w) X hC
  have L3 := looks_find (M := model prog w) X I hf
  have L4 : Looks (model prog w) hh (isInstance (.ref x) (.type "tuple")) true := L0.andThen (sub_tuple (M := model prog w) X hC)
  unfold getAttr getAttrBy
  refine wpAny_bind (wpAny_mkText (wpAny_holding (wpAny_bind (L0.at (wpAny_bind (L1.at ?_))))))
  show wpAny _ _ (getAttrByItsOwn (.ref x) (.str name t) (.ref C) (.builtin "tuple.__getattribute__") true expr) _ _ _
  unfold getAttrByItsOwn
  refine wpAny_bind ?_
  show wpAny _ _ (typeLookup (.ref C) "__getattr__") _ _ _
  refine L2.at ?_
  refine wpAny_bind (wpAny_attempt (wpAny_holding ?_))
  unfold callGetattribute
  rw [show (expr && onTheHeap (Value.builtin "tuple.__getattribute__")) = false from Bool.and_false _, if_neg (by decide)]
  unfold boundAndCalled
  rw [F.slot_tuple_getattribute.bind]
  refine wpAny_bind (wpAny_pure ?_)
  show wpAny _ _ (call (.builtin "tuple.__getattribute__") [.ref x, .str name t]) _ _ _
  refine wpAny_call ?_
  refine codeAny_call_builtin F.slot_tuple_getattribute.plain F.entry_tuple_ga ?_
  refine @check_slot (model prog w) _ _ _ "tuple.__getattribute__" "tuple" "__getattribute__" (.ref x) [.str name t] [] _ (by decide +kernel) (by decide +kernel) L4 (F.args_tuple_getattribute_2 _ _) ?_
  unfold Builtin.«object.__getattribute__»
  refine wpAny_bind (wpAny_pure ?_)
  refine wpAny_bind (wpAny_pure ?_)
  refine wpAny_bind (L0.at (wpAny_bind (L3.at ?_)))
  show wpAny _ _ (holding [.ref a] (call (.ref g) [.ref a, .ref x, .ref C]) >>= ret) _ _ _
  refine wpAny_bind (wpAny_holding (wpAny_mono (h _) (fun v s' z => wpAny_pure ?_) fun _ _ z => z))
  exact z
/-- an attribute behind a Python descriptor -/
theorem get_desc {w : World} {d : Nat} {g a x C : Addr} {ox : Obj} {od : Option Obj} {name : Str} {expr : Bool} {news : List (Addr × Obj)} {R : Value → List (Addr × Obj) → Prop} (Ct : Tell w d g [.ref a, .ref x, .ref C] [] news R)
    (hC : C = 322 ∨ C = 132) (hf : findObj (K w.params) C od name = some (.bind (.ref g) (.ref a))) (hR : ∀ v l, R v l → handedIn v = true)
    {p : Program} {loose : List Str} {mean : ExcName → Option Value} {mg mb : Str → Option Value} {dp un : Nat} {gd : Option (List Code)} {cn : Str} {cs : Scope} {a' : Addr} {ccd : Value} {cl : List (Str × Addr)} {outer : List Env} {A₀ : Around} {base h₀ : Heap} {L : Addr} {m : Str → Option Value} {s : Shared} {Q E : Value → Shared → Prop}
    (I : InstAt s.heap x ox C od) (B : Below A₀ base outer h₀) (F : Fr h₀ L s.heap m) (X : (K w.params).In h₀) (N : News h₀ L s.heap news) (T : Top p loose mean mg mb h₀) (hk : cs.kind = .function) (hd : dp + d < recursionLimit) (hu : un + 1 + 8 * d < cLine)
    (h : ∀ v news' h' tk', R v news' → Fr h₀ L h' m → News h₀ L h' news' → Q v { s with heap := h', toks := tk' }) :
    wpAny (model PySem.Challenge.rw_jb0021_01.row.prog w) (ktrTop dp un gd cn cs L a' ccd cl outer) (getAttr (.ref x) name expr) Q E s := by
  refine get_bind_tuple (X.keeps F.keep) hC I hf fun E' => ?_
  show wpAny _ (ktrTop dp (un + 1) gd cn cs L a' ccd cl outer) _ _ _ _
  refine Tell.use (s := { s with toks := s.toks + 1 }) Ct B F X N T hk hd hu fun v l h' tk' hr F' N' => ?_
  rw [handedOut_of (hR v l hr)]
  exact wpAny_pure (h v l h' tk' hr F' N')
theorem find_lim (w : World) (i : Bool) (od : Obj) : findObj (K w.params) 322 (some od) (if i then Str.ofString "name" else Str.ofString "seconds") = some (.bind (.ref 226) (.ref (if i then 317 else 314))) := by
  cases i
  · exact findObj_data (by kernel_rfl) (by kernel_rfl) (by kernel_rfl) (by kernel_rfl)
  · exact findObj_data (by kernel_rfl) (by kernel_rfl) (by kernel_rfl) (by kernel_rfl)
theorem find_util (w : World) (i : Bool) (od : Obj) : findObj (K w.params) 132 (some od) (if i then Str.ofString "remaining" else Str.ofString "reset_time") = some (.bind (.ref 43) (.ref (if i then 127 else 124))) := by
  cases i
  · exact findObj_data (by kernel_rfl) (by kernel_rfl) (by kernel_rfl) (by kernel_rfl)
  · exact findObj_data (by kernel_rfl) (by kernel_rfl) (by kernel_rfl) (by kernel_rfl)
theorem inst_lim {w : World} {h : Heap} (X : (K w.params).In h) (i : Bool) : ∃ ox od, InstAt h (if i then 421 else 404) ox 322 (some od) := by
  cases i
  · exact ⟨_, _, ⟨X 404 _ rfl, rfl, rfl, X 403 _ rfl⟩⟩
  · exact ⟨_, _, ⟨X 421 _ rfl, rfl, rfl, X 420 _ rfl⟩⟩
theorem tget_lim (w : World) (news : List (Addr × Obj)) (x desc dd : Addr) (od : Option Addr) (items : Array Value) (n : Nat) (sl : Array (Option Value)) (es : List DictEntry) (ne : Nat) (u : Tok) (k : Int) (j : Nat) (y : Value) (hx : AtK w x ⟨.ref 322, od, .seq items n, sl⟩) (hd1 : (K w.params).lookup desc = some ⟨.ref 243, some dd, .plain, #[]⟩) (hd2 : (K w.params).lookup dd = some (dictOf es ne)) (hidx : getL (Str.ofString "index") es = some (some (.int k u)))
    (h1 : -2 ^ 63 ≤ k) (h2 : k < 2 ^ 63) (h3 : seqIndex? k items.size = some j) (h4 : items[j]? = some y) : Tell w 1 226 [.ref desc, .ref x, .ref 322] [] news fun v l => v = y ∧ l = news := by
  intro p loose mean mg mb dp un gd cn cs ad ccd cl outer A₀ base h₀ L m s Q E B F X N T hk hd hu hret
  revert X; k_fill; intro X
  refine wpAny_call ?_
  k_dflt (walk_at "jb_enter")
  k_steps
  exact hret _ _ _ _ ⟨rfl, rfl⟩ (by k_asm) (by k_asm)
theorem tget_util (w : World) (news : List (Addr × Obj)) (x desc dd : Addr) (od : Option Addr) (items : Array Value) (n : Nat) (sl : Array (Option Value)) (es : List DictEntry) (ne : Nat) (u : Tok) (k : Int) (j : Nat) (y : Value) (hx : (x, (⟨.ref 132, od, .seq items n, sl⟩ : Obj)) ∈ news) (hd1 : (K w.params).lookup desc = some ⟨.ref 60, some dd, .plain, #[]⟩) (hd2 : (K w.params).lookup dd = some (dictOf es ne)) (hidx : getL (Str.ofString "index") es = some (some (.int k u)))
    (h1 : -2 ^ 63 ≤ k) (h2 : k < 2 ^ 63) (h3 : seqIndex? k items.size = some j) (h4 : items[j]? = some y) : Tell w 1 43 [.ref desc, .ref x, .ref 132] [] news fun v l => v = y ∧ l = news := by
  intro p loose mean mg mb dp un gd cn cs ad ccd cl outer A₀ base h₀ L m s Q E B F X N T hk hd hu hret
  refine wpAny_call ?_
  k_dflt (walk_at "jb_enter")
  k_steps
  exact hret _ _ _ _ ⟨rfl, rfl⟩ (by k_asm) (by k_asm)
theorem at_421 (w : World) : AtK w 421 ⟨.ref 322, some 420, .seq #[.int 1 786, .str (Str.ofString "second") 787] 0, #[]⟩ := fun h X => X _ _ rfl
theorem at_404 (w : World) : AtK w 404 ⟨.ref 322, some 403, .seq #[.int 60 758, .str (Str.ofString "minute") 759] 0, #[]⟩ := fun h X => X _ _ rfl
theorem tget_314_421 (w : World) (news : List (Addr × Obj)) : Tell w 1 226 [.ref 314, .ref 421, .ref 322] [] news fun v l => (∃ t, v = .int 1 t) ∧ l = news :=
  (tget_lim w news 421 314 313 _ _ _ _ _ _ _ 0 0 _ (at_421 w) rfl rfl rfl (by decide) (by decide) rfl rfl).mono (Nat.le_refl _) (fun _ h => h) fun v l h => ⟨l, ⟨⟨_, h.1⟩, h.2⟩, fun _ h => h⟩
theorem tget_314_404 (w : World) (news : List (Addr × Obj)) : Tell w 1 226 [.ref 314, .ref 404, .ref 322] [] news fun v l => (∃ t, v = .int 60 t) ∧ l = news :=
  (tget_lim w news 404 314 313 _ _ _ _ _ _ _ 0 0 _ (at_404 w) rfl rfl rfl (by decide) (by decide) rfl rfl).mono (Nat.le_refl _) (fun _ h => h) fun v l h => ⟨l, ⟨⟨_, h.1⟩, h.2⟩, fun _ h => h⟩
theorem tget_317_421 (w : World) (news : List (Addr × Obj)) : Tell w 1 226 [.ref 317, .ref 421, .ref 322] [] news fun v l => (∃ t, v = .str (Str.ofString "second") t) ∧ l = news :=
  (tget_lim w news 421 317 316 _ _ _ _ _ _ _ 1 1 _ (at_421 w) rfl rfl rfl (by decide) (by decide) rfl rfl).mono (Nat.le_refl _) (fun _ h => h) fun v l h => ⟨l, ⟨⟨_, h.1⟩, h.2⟩, fun _ h => h⟩
theorem tget_317_404 (w : World) (news : List (Addr × Obj)) : Tell w 1 226 [.ref 317, .ref 404, .ref 322] [] news fun v l => (∃ t, v = .str (Str.ofString "minute") t) ∧ l = news :=
  (tget_lim w news 404 317 316 _ _ _ _ _ _ _ 1 1 _ (at_404 w) rfl rfl rfl (by decide) (by decide) rfl rfl).mono (Nat.le_refl _) (fun _ h => h) fun v l h => ⟨l, ⟨⟨_, h.1⟩, h.2⟩, fun _ h => h⟩
theorem tget_told (w : World) (news : List (Addr × Obj)) (x : Addr) (od : Option Addr) (a b : Value) (n : Nat) (sl : Array (Option Value)) (hx : (x, (⟨.ref 132, od, .seq #[a, b] n, sl⟩ : Obj)) ∈ news) (i : Bool) :
    Tell w 1 43 [.ref (if i then 127 else 124), .ref x, .ref 132] [] news fun v l => v = (if i then b else a) ∧ l = news := by
  cases i
  · exact tget_util w news x 124 123 _ _ _ _ _ _ _ 0 0 _ hx rfl rfl rfl (by decide) (by decide) rfl rfl
  · exact tget_util w news x 127 126 _ _ _ _ _ _ _ 1 1 _ hx rfl rfl rfl (by decide) (by decide) rfl rfl
end
section
local macro_rules | `(tactic| walk_at "call type:type") => `(tactic| (k_here; (with_reducible show wpAny _ _ (call (Value.type "type") [Value.ref _]) _ _ _); k_dflt (refine' type_obj ?o ?c ?_; (case o => kto_obj); (case c => exact rfl))))
local macro_rules | `(tactic| walk_at "call builtin:issubclass") => `(tactic| (k_here; k_dflt (refine' call_issub ?X ?c ?_; (case X => k_in); (case c => first | exact .inl rfl | exact .inr rfl))))
local macro_rules | `(tactic| walk_at "getMethod type:tuple") => `(tactic| (k_here; refine' method_type ?F ?X ?m (by decide +kernel) ?e ?h ?_; (case F => k_asm); (case X => k_asm); (case m => exact meta_tuple); (case e => k_dflt k_is); (case h => k_handed)))
local macro_rules | `(tactic| walk_at "call builtin:tuple.__getitem__") => `(tactic| (k_here; k_dflt (refine' call_getitem ?X ?c ?o ?l ?u ?k ?y ?_; (case X => k_in); (case o => kto_obj); (case c => first | exact .inl rfl | exact .inr rfl); (case l => decide); (case u => decide); (case k => exact rfl); (case y => exact rfl))))
local macro_rules | `(tactic| walk_at "getAttr ref") => `(tactic| (k_here; (with_reducible show wpAny _ _ (getAttr (Value.ref 421) (Str.ofString "seconds") _) _ _ _); k_dflt (have F5 := ‹Fr _ _ _ _›; have X5 := ‹(K _).In _›; obtain ⟨ox8, od8, I8⟩ := inst_lim (w := _) (PySem.W.Frag.In.keeps X5 (PyProof.Rows.Fr.keep F5)) true; refine' get_desc (tget_314_421 _ _) (.inl rfl) (find_lim _ false _) ?e4 I8 ?k1 ?k2 ?k3 ?k4 ?k5 ?kK ?kd ?ku ?_; (case e4 => (intro v8 l8 hr8; obtain ⟨⟨t8, e8⟩, _⟩ := hr8; subst e8; exact rfl)); (case k1 => k_asm); (case k2 => k_asm); (case k3 => k_asm); (case k4 => k_asm); (case k5 => k_asm); (case kK => first | exact rfl | assumption); (case kd => ktr_room); (case ku => ktr_units); intro v9 n9 h9 tk9 e9 F9 N9; obtain ⟨⟨t9, e91⟩, e92⟩ := e9; subst e91; subst e92; clear I8 F5 X5; (try dsimp only); (try k_sweep))))
local macro_rules | `(tactic| walk_at "getAttr ref") => `(tactic| (k_here; (with_reducible show wpAny _ _ (getAttr (Value.ref 421) (Str.ofString "name") _) _ _ _); k_dflt (have F5 := ‹Fr _ _ _ _›; have X5 := ‹(K _).In _›; obtain ⟨ox8, od8, I8⟩ := inst_lim (w := _) (PySem.W.Frag.In.keeps X5 (PyProof.Rows.Fr.keep F5)) true; refine' get_desc (tget_317_421 _ _) (.inl rfl) (find_lim _ true _) ?e4 I8 ?k1 ?k2 ?k3 ?k4 ?k5 ?kK ?kd ?ku ?_; (case e4 => (intro v8 l8 hr8; obtain ⟨⟨t8, e8⟩, _⟩ := hr8; subst e8; exact rfl)); (case k1 => k_asm); (case k2 => k_asm); (case k3 => k_asm); (case k4 => k_asm); (case k5 => k_asm); (case kK => first | exact rfl | assumption); (case kd => ktr_room); (case ku => ktr_units); intro v9 n9 h9 tk9 e9 F9 N9; obtain ⟨⟨t9, e91⟩, e92⟩ := e9; subst e91; subst e92; clear I8 F5 X5; (try dsimp only); (try k_sweep))))
local macro_rules | `(tactic| walk_at "getAttr ref") => `(tactic| (k_here; (with_reducible show wpAny _ _ (getAttr (Value.ref 404) (Str.ofString "seconds") _) _ _ _); k_dflt (have F5 := ‹Fr _ _ _ _›; have X5 := ‹(K _).In _›; obtain ⟨ox8, od8, I8⟩ := inst_lim (w := _) (PySem.W.Frag.In.keeps X5 (PyProof.Rows.Fr.keep F5)) false; refine' get_desc (tget_314_404 _ _) (.inl rfl) (find_lim _ false _) ?e4 I8 ?k1 ?k2 ?k3 ?k4 ?k5 ?kK ?kd ?ku ?_; (case e4 => (intro v8 l8 hr8; obtain ⟨⟨t8, e8⟩, _⟩ := hr8; subst e8; exact rfl)); (case k1 => k_asm); (case k2 => k_asm); (case k3 => k_asm); (case k4 => k_asm); (case k5 => k_asm); (case kK => first | exact rfl | assumption); (case kd => ktr_room); (case ku => ktr_units); intro v9 n9 h9 tk9 e9 F9 N9; obtain ⟨⟨t9, e91⟩, e92⟩ := e9; subst e91; subst e92; clear I8 F5 X5; (try dsimp only); (try k_sweep))))
local macro_rules | `(tactic| walk_at "getAttr ref") => `(tactic| (k_here; (with_reducible show wpAny _ _ (getAttr (Value.ref 404) (Str.ofString "name") _) _ _ _); k_dflt (have F5 := ‹Fr _ _ _ _›; have X5 := ‹(K _).In _›; obtain ⟨ox8, od8, I8⟩ := inst_lim (w := _) (PySem.W.Frag.In.keeps X5 (PyProof.Rows.Fr.keep F5)) false; refine' get_desc (tget_317_404 _ _) (.inl rfl) (find_lim _ true _) ?e4 I8 ?k1 ?k2 ?k3 ?k4 ?k5 ?kK ?kd ?ku ?_; (case e4 => (intro v8 l8 hr8; obtain ⟨⟨t8, e8⟩, _⟩ := hr8; subst e8; exact rfl)); (case k1 => k_asm); (case k2 => k_asm); (case k3 => k_asm); (case k4 => k_asm); (case k5 => k_asm); (case kK => first | exact rfl | assumption); (case kd => ktr_room); (case ku => ktr_units); intro v9 n9 h9 tk9 e9 F9 N9; obtain ⟨⟨t9, e91⟩, e92⟩ := e9; subst e91; subst e92; clear I8 F5 X5; (try dsimp only); (try k_sweep))))
theorem names_tell (w : World) (news : List (Addr × Obj)) : Tell w 1 585 [] [] news fun v l => ∃ (D T0 T1 T2 : Nat) (t1 t2 t3 : Tok) (c : Nat), v = .ref D ∧ l = (D, listOf #[.ref T0, .ref T1, .ref T2] c) :: (T2, tupO [.str (Str.ofString "a") t2, .str (Str.ofString "b") t3]) :: (T1, tupO [.str (Str.ofString "a") t1]) :: (T0, tupO []) :: news ∧ (∀ q ∈ news, @LT.lt Nat _ q.1 T0) ∧ T0 < T1 ∧ T1 < T2 ∧ T2 < D := by
  intro p loose mean mg mb dp un gd cn cs a ccd cl outer A₀ base h₀ L m s Q E B F X N T hk hd hu hret
  revert X; k_fill; intro X
  refine wpAny_call ?_
  k_dflt (walk_at "jb_enter")
  k_steps
  rename (∀ q ∈ news, _) => la
  refine hret _ _ _ _ ⟨_, _, _, _, _, _, _, _, rfl, rfl, la, ?_, ?_, ?_⟩ (by k_asm) (by k_asm)
  all_goals first | exact (by assumption : _ ∧ AllLt _ _).1 | exact (by assumption : _ ∧ _ ∧ AllLt _ _).1 | exact (by assumption : _ ∧ _ ∧ _ ∧ AllLt _ _).1
abbrev itO (w : World) (am mu : Int) (t1 t2 t3 t4 t5 t6 : Tok) : Obj := dictOf [⟨PyData.keyHash w.params (Str.ofString "namespace"), .str (Str.ofString "namespace") t1, .str (Str.ofString "LIMITER") t2⟩, ⟨PyData.keyHash w.params (Str.ofString "amount"), .str (Str.ofString "amount") t3, .int am t4⟩, ⟨PyData.keyHash w.params (Str.ofString "multiples"), .str (Str.ofString "multiples") t5, .int mu t6⟩] 3
theorem exp_421 (w : World) (i id : Nat) (am mu : Int) (t1 t2 t3 t4 t5 t6 : Tok) (news : List (Addr × Obj)) (hi : (i, instObj 424 id) ∈ news) (hid : (id, itO w am mu t1 t2 t3 t4 t5 t6) ∈ news) : Tell w 3 357 [.ref i] [] news fun v l => (∃ t, v = .int (1 * mu) t) ∧ l = news := by
  intro p loose mean mg mb dp un gd cn cs a ccd cl outer A₀ base h₀ L m s Q E B F X N T hk hd hu hret
  refine wpAny_call ?_
  k_dflt (walk_at "jb_enter")
  k_steps
  exact hret _ _ _ _ ⟨⟨_, rfl⟩, rfl⟩ (by k_asm) (by k_asm)
theorem exp_404 (w : World) (i id : Nat) (am mu : Int) (t1 t2 t3 t4 t5 t6 : Tok) (news : List (Addr × Obj)) (hi : (i, instObj 407 id) ∈ news) (hid : (id, itO w am mu t1 t2 t3 t4 t5 t6) ∈ news) : Tell w 3 357 [.ref i] [] news fun v l => (∃ t, v = .int (60 * mu) t) ∧ l = news := by
  intro p loose mean mg mb dp un gd cn cs a ccd cl outer A₀ base h₀ L m s Q E B F X N T hk hd hu hret
  refine wpAny_call ?_
  k_dflt (walk_at "jb_enter")
  k_steps
  exact hret _ _ _ _ ⟨⟨_, rfl⟩, rfl⟩ (by k_asm) (by k_asm)
theorem safe_str (w : World) (k : Str) (t : Tok) (news : List (Addr × Obj)) : Tell w 1 254 [.str k t] [] news fun v l => v = .str k t ∧ l = news := by
  intro p loose mean mg mb dp un gd cn cs a ccd cl outer A₀ base h₀ L m s Q E B F X N T hk hd hu hret
  revert X; k_fill; intro X
  refine wpAny_call ?_
  k_dflt (walk_at "jb_enter")
  k_steps
  exact hret _ _ _ _ ⟨rfl, rfl⟩ (by k_asm) (by k_asm)
theorem safe_int (w : World) (k : Int) (t : Tok) (hk0 : 0 ≤ k ∧ k ≤ 100) (news : List (Addr × Obj)) : Tell w 1 254 [.int k t] [] news fun v l => (∃ t', v = .str (Str.ofString (toString k)) t') ∧ l = news := by
  intro p loose mean mg mb dp un gd cn cs a ccd cl outer A₀ base h₀ L m s Q E B F X N T hk hd hu hret
  refine wpAny_call ?_
  k_dflt (walk_at "jb_enter")
  k_steps
  exact hret _ _ _ _ ⟨⟨_, rfl⟩, rfl⟩ (by k_asm) (by k_asm)
def isStrs (vs : List Value) : Bool := vs.all fun v => match v with | .str _ _ => true | _ => false
theorem isStrs_mem {vs : List Value} {v : Value} (h : isStrs vs = true) (hv : v ∈ vs) : ∃ q t, v = .str q t := by
  have := List.all_eq_true.mp h v hv
  cases v <;> first | exact ⟨_, _, rfl⟩ | cases this
local macro_rules | `(tactic| walk_at "call ref") => `(tactic| (k_here; (with_reducible show wpAny _ _ (call (Value.ref 254) [Value.str _ _] _) _ _ _); k_dflt (refine' Tell.use (safe_str _ _ _ _) ?k1 ?k2 ?k3 ?k4 ?k5 ?kK ?kd ?ku ?_; (case k1 => k_asm); (case k2 => k_asm); (case k3 => k_asm); (case k4 => k_asm); (case k5 => k_asm); (case kK => first | exact rfl | assumption); (case kd => ktr_room); (case ku => ktr_units); intro v9 n9 h9 tk9 e9 F9 N9; (have e91 := e9.1); (have e92 := e9.2); clear e9; subst e91; subst e92; (try dsimp only); (try k_sweep))))
local macro_rules | `(tactic| walk_at "call ref") => `(tactic| (k_here; (with_reducible show wpAny _ _ (call (Value.ref 254) [Value.int _ _] _) _ _ _); k_dflt (refine' Tell.use (safe_int _ _ _ (by assumption) _) ?k1 ?k2 ?k3 ?k4 ?k5 ?kK ?kd ?ku ?_; (case k1 => k_asm); (case k2 => k_asm); (case k3 => k_asm); (case k4 => k_asm); (case k5 => k_asm); (case kK => first | exact rfl | assumption); (case kd => ktr_room); (case ku => ktr_units); intro v9 n9 h9 tk9 e9 F9 N9; obtain ⟨⟨t9, e91⟩, e92⟩ := e9; subst e91; subst e92; (try dsimp only); (try k_sweep))))
local macro_rules | `(tactic| walk_at "eval ListComp") => `(tactic| (k_here; k_dflt (refine' comp_tup ?F ?N ?T ?hh ?z ?h1 ?h2 ?h3 ?h4 ?h5 ?ev ?turn ?fin; (case F => k_asm); (case N => k_asm); (case T => assumption); (case hh => exact rfl); (case z => exact Nat.le_of_ble_eq_true rfl); (case h1 => with_unfolding_all rfl); (case h2 => decide); (case h3 => rfl); (case h4 => decide); (case h5 => rfl); (case ev => (intro Q8 hq8; refine ld (by k_asm) (by rfl) hq8)); (case' turn => (intro v8 C8 oC8 m8 all8 h8 tk8 E8 Q8 hv8 hC8 hx8 F8 N8 hm8 hq8; obtain ⟨q8, t8, e8⟩ := isStrs_mem rfl hv8; subst e8)); (case' fin => (intro D9 h9 tk9 F9 N9 o9)))))
theorem len_dec {k : Int} (h : 0 ≤ k ∧ k ≤ 100) : (Str.ofString (toString k)).length ≤ 3 := by
  have : ∀ n : Fin 101, (Str.ofString (toString ((n.val : Nat) : Int))).length ≤ 3 := by decide +kernel
  have := this ⟨k.toNat, by omega⟩
  rwa [show (((⟨k.toNat, by omega⟩ : Fin 101).val : Nat) : Int) = k from by simp; omega] at this
theorem len_a : (Str.ofString "a").length = 1 := by decide +kernel
theorem len_b : (Str.ofString "b").length = 1 := by decide +kernel
theorem len_sl : (Str.ofString "/").length = 1 := by decide +kernel
theorem len_sec : (Str.ofString "second").length = 6 := by decide +kernel
theorem len_min : (Str.ofString "minute").length = 6 := by decide +kernel
structure KeyOk (ys : List Str) : Prop where
  le : (ys.map (·.length)).sum + ys.length ≤ 100
/-- the parts of a key, joined -/
def jn (l : List Str) : Str := Txt.join (Str.ofString "/") l
theorem jn_len (l : List Str) : (jn l).length = (l.map (·.length)).sum + (l.length - 1) := by
  unfold jn Txt.join
  rw [PySem.size_glued, len_sl, Nat.mul_one]
def keyT (l : List Str) : Str := Str.empty ++ Str.ofString "LIMITER" ++ Str.ofString "/" ++ jn l
theorem keyT_len (l : List Str) : (keyT l).length = 8 + ((l.map (·.length)).sum + (l.length - 1)) := by
  unfold keyT
  rw [Str.length_append, Str.length_append, Str.length_append, jn_len, len_sl, show (Str.ofString "LIMITER").length = 7 by decide +kernel, show Str.empty.length = 0 by decide +kernel]
theorem join_key {prog : Program} {w : World} {A : Around} {E : Value → Shared → Prop} {s : Shared} {Q : Value → Shared → Prop} {t : Tok} {D : Addr} {items : Array Value} {ys : List Str} (hl : s.heap.IsList D items) (hi : StrsAre items.toList ys) (hn : KeyOk ys)
    (h : ∀ t' k, Q (.str (jn ys) t') { s with toks := k }) : wpAny (model prog w) A (call (.builtin "str.join") [.str (Str.ofString "/") t, .ref D]) Q E s :=
  join_list hl hi (by rw [len_sl]; have := hn.le; omega) h
theorem fmt_key {prog : Program} {w : World} {A : Around} {E : Value → Shared → Prop} {s : Shared} {Q : Value → Shared → Prop} {t : Tok} {ys : List Str} (hn : KeyOk ys)
    (h : ∀ t' tk, Q (.str (jn ys) t') { s with toks := tk }) : wpAny (model prog w) A (formatField (.str (jn ys) t) Str.empty) Q E s :=
  formatField_str h (by rw [jn_len, sizeLine_eq]; have := hn.le; omega)
theorem key_fits {ys : List Str} {P : Prop} (hn : KeyOk ys) (h : P) : (Str.empty ++ Str.ofString "LIMITER" ++ Str.ofString "/" ++ jn ys).length ≤ sizeLine ∧ P :=
  ⟨by show (keyT ys).length ≤ sizeLine; rw [keyT_len, sizeLine_eq]; have := hn.le; omega, h⟩
theorem parts_end {prog : Program} {w : World} {A : Around} {E : Value → Shared → Prop} {s : Shared} {Q : Value → Shared → Prop} {ys : List Str} (hn : KeyOk ys) (h : Q (.str (keyT ys) s.toks) { s with toks := s.toks + 1 }) :
    wpAny (model prog w) A (joinParts (Str.empty ++ Str.ofString "LIMITER" ++ Str.ofString "/" ++ jn ys) []) Q E s :=
  joinParts_nil (out := keyT ys) h (by rw [keyT_len, sizeLine_eq]; have := hn.le; omega)
theorem parts_end' {prog : Program} {w : World} {A : Around} {E : Value → Shared → Prop} {s : Shared} {Q : Value → Shared → Prop} {ys : List Str} {env : Env} (hn : KeyOk ys) (h : Q (.str (keyT ys) s.toks) { s with toks := s.toks + 1 }) :
    wpAny (model prog w) A (joinParts (Str.empty ++ Str.ofString "LIMITER" ++ Str.ofString "/" ++ jn ys) (evalEach [] env)) Q E s :=
  joinParts_nil (out := keyT ys) h (by rw [keyT_len, sizeLine_eq]; have := hn.le; omega)
local macro_rules | `(tactic| walk_at "joinParts") => `(tactic| (k_here; (first | with_reducible refine parts_end ?ok ?_ | with_reducible refine parts_end' ?ok ?_); (case' ok => exact ‹KeyOk _›)))
local macro_rules | `(tactic| walk_at "call builtin:str.join") => `(tactic| (k_here; k_dflt (refine' join_key ?l ?i ?ok ?_; (case l => exact News.isList (by k_asm) (by k_mem)); (case i => kct_strs); (case ok => exact ‹KeyOk _›); intro t8 tk8)))
local macro_rules | `(tactic| walk_at "formatField str") => `(tactic| (k_here; (with_reducible refine fmt_key ?ok ?_); (case' ok => exact ‹KeyOk _›); intro t8 tk8))
local macro_rules | `(tactic| walk_at "And") => `(tactic| ((with_reducible refine key_fits ?ok ?_); (case' ok => exact ‹KeyOk _›)))
theorem key_424_0 (w : World) (i id T : Nat) (am mu : Int) (ha : 0 ≤ am ∧ am ≤ 100) (hm : 0 ≤ mu ∧ mu ≤ 100) (t1 t2 t3 t4 t5 t6 : Tok) (news : List (Addr × Obj)) (hi : (i, instObj 424 id) ∈ news) (hid : (id, itO w am mu t1 t2 t3 t4 t5 t6) ∈ news) (hT : (T, tupO []) ∈ news) : Tell w 3 364 [.ref i, .ref T] [] news fun v l => (∃ t, v = .str (keyT [Str.ofString (toString am), Str.ofString (toString mu), Str.ofString "second"]) t) ∧ l = news := by
  intro p loose mean mg mb dp un gd cn cs a ccd cl outer A₀ base h₀ L m s Q E B F X N T hk hd hu hret
  have hn : KeyOk [Str.ofString (toString am), Str.ofString (toString mu), Str.ofString "second"] := by
    constructor
    have e1 := len_dec ha
    have e2 := len_dec hm
    simp only [List.map_cons, List.map_nil, List.sum_cons, List.sum_nil, List.length_cons, List.length_nil, len_a, len_b, len_sec, len_min]
    omega
  refine wpAny_call ?_
  k_dflt (walk_at "jb_enter")
  k_steps
  · exact hret _ _ _ _ ⟨⟨_, rfl⟩, rfl⟩ (by k_asm) (news_sub (by k_asm) fun p hp => by simp [hp])
  all_goals (rename_i hq; exact hq _ _ (by k_asm) (by k_asm))
theorem key_424_1 (w : World) (i id T : Nat) (am mu : Int) (ha : 0 ≤ am ∧ am ≤ 100) (hm : 0 ≤ mu ∧ mu ≤ 100) (t1 t2 t3 t4 t5 t6 : Tok) (u1 : Tok) (news : List (Addr × Obj)) (hi : (i, instObj 424 id) ∈ news) (hid : (id, itO w am mu t1 t2 t3 t4 t5 t6) ∈ news) (hT : (T, tupO [.str (Str.ofString "a") u1]) ∈ news) : Tell w 3 364 [.ref i, .ref T] [] news fun v l => (∃ t, v = .str (keyT [Str.ofString "a", Str.ofString (toString am), Str.ofString (toString mu), Str.ofString "second"]) t) ∧ l = news := by
  intro p loose mean mg mb dp un gd cn cs a ccd cl outer A₀ base h₀ L m s Q E B F X N T hk hd hu hret
  have hn : KeyOk [Str.ofString "a", Str.ofString (toString am), Str.ofString (toString mu), Str.ofString "second"] := by
    constructor
    have e1 := len_dec ha
    have e2 := len_dec hm
    simp only [List.map_cons, List.map_nil, List.sum_cons, List.sum_nil, List.length_cons, List.length_nil, len_a, len_b, len_sec, len_min]
    omega
  refine wpAny_call ?_
  k_dflt (walk_at "jb_enter")
  k_steps
  · exact hret _ _ _ _ ⟨⟨_, rfl⟩, rfl⟩ (by k_asm) (news_sub (by k_asm) fun p hp => by simp [hp])
  all_goals (rename_i hq; exact hq _ _ (by k_asm) (by k_asm))
theorem key_424_2 (w : World) (i id T : Nat) (am mu : Int) (ha : 0 ≤ am ∧ am ≤ 100) (hm : 0 ≤ mu ∧ mu ≤ 100) (t1 t2 t3 t4 t5 t6 : Tok) (u1 u2 : Tok) (news : List (Addr × Obj)) (hi : (i, instObj 424 id) ∈ news) (hid : (id, itO w am mu t1 t2 t3 t4 t5 t6) ∈ news) (hT : (T, tupO [.str (Str.ofString "a") u1, .str (Str.ofString "b") u2]) ∈ news) : Tell w 3 364 [.ref i, .ref T] [] news fun v l => (∃ t, v = .str (keyT [Str.ofString "a", Str.ofString "b", Str.ofString (toString am), Str.ofString (toString mu), Str.ofString "second"]) t) ∧ l = news := by
  intro p loose mean mg mb dp un gd cn cs a ccd cl outer A₀ base h₀ L m s Q E B F X N T hk hd hu hret
  have hn : KeyOk [Str.ofString "a", Str.ofString "b", Str.ofString (toString am), Str.ofString (toString mu), Str.ofString "second"] := by
    constructor
    have e1 := len_dec ha
    have e2 := len_dec hm
    simp only [List.map_cons, List.map_nil, List.sum_cons, List.sum_nil, List.length_cons, List.length_nil, len_a, len_b, len_sec, len_min]
    omega
  refine wpAny_call ?_
  k_dflt (walk_at "jb_enter")
  k_steps
  · exact hret _ _ _ _ ⟨⟨_, rfl⟩, rfl⟩ (by k_asm) (news_sub (by k_asm) fun p hp => by simp [hp])
  all_goals (rename_i hq; exact hq _ _ (by k_asm) (by k_asm))
theorem key_407_0 (w : World) (i id T : Nat) (am mu : Int) (ha : 0 ≤ am ∧ am ≤ 100) (hm : 0 ≤ mu ∧ mu ≤ 100) (t1 t2 t3 t4 t5 t6 : Tok) (news : List (Addr × Obj)) (hi : (i, instObj 407 id) ∈ news) (hid : (id, itO w am mu t1 t2 t3 t4 t5 t6) ∈ news) (hT : (T, tupO []) ∈ news) : Tell w 3 364 [.ref i, .ref T] [] news fun v l => (∃ t, v = .str (keyT [Str.ofString (toString am), Str.ofString (toString mu), Str.ofString "minute"]) t) ∧ l = news := by
  intro p loose mean mg mb dp un gd cn cs a ccd cl outer A₀ base h₀ L m s Q E B F X N T hk hd hu hret
  have hn : KeyOk [Str.ofString (toString am), Str.ofString (toString mu), Str.ofString "minute"] := by
    constructor
    have e1 := len_dec ha
    have e2 := len_dec hm
    simp only [List.map_cons, List.map_nil, List.sum_cons, List.sum_nil, List.length_cons, List.length_nil, len_a, len_b, len_sec, len_min]
    omega
  refine wpAny_call ?_
  k_dflt (walk_at "jb_enter")
  k_steps
  · exact hret _ _ _ _ ⟨⟨_, rfl⟩, rfl⟩ (by k_asm) (news_sub (by k_asm) fun p hp => by simp [hp])
  all_goals (rename_i hq; exact hq _ _ (by k_asm) (by k_asm))
theorem key_407_1 (w : World) (i id T : Nat) (am mu : Int) (ha : 0 ≤ am ∧ am ≤ 100) (hm : 0 ≤ mu ∧ mu ≤ 100) (t1 t2 t3 t4 t5 t6 : Tok) (u1 : Tok) (news : List (Addr × Obj)) (hi : (i, instObj 407 id) ∈ news) (hid : (id, itO w am mu t1 t2 t3 t4 t5 t6) ∈ news) (hT : (T, tupO [.str (Str.ofString "a") u1]) ∈ news) : Tell w 3 364 [.ref i, .ref T] [] news fun v l => (∃ t, v = .str (keyT [Str.ofString "a", Str.ofString (toString am), Str.ofString (toString mu), Str.ofString "minute"]) t) ∧ l = news := by
  intro p loose mean mg mb dp un gd cn cs a ccd cl outer A₀ base h₀ L m s Q E B F X N T hk hd hu hret
  have hn : KeyOk [Str.ofString "a", Str.ofString (toString am), Str.ofString (toString mu), Str.ofString "minute"] := by
    constructor
    have e1 := len_dec ha
    have e2 := len_dec hm
    simp only [List.map_cons, List.map_nil, List.sum_cons, List.sum_nil, List.length_cons, List.length_nil, len_a, len_b, len_sec, len_min]
    omega
  refine wpAny_call ?_
  k_dflt (walk_at "jb_enter")
  k_steps
  · exact hret _ _ _ _ ⟨⟨_, rfl⟩, rfl⟩ (by k_asm) (news_sub (by k_asm) fun p hp => by simp [hp])
  all_goals (rename_i hq; exact hq _ _ (by k_asm) (by k_asm))
theorem key_407_2 (w : World) (i id T : Nat) (am mu : Int) (ha : 0 ≤ am ∧ am ≤ 100) (hm : 0 ≤ mu ∧ mu ≤ 100) (t1 t2 t3 t4 t5 t6 : Tok) (u1 u2 : Tok) (news : List (Addr × Obj)) (hi : (i, instObj 407 id) ∈ news) (hid : (id, itO w am mu t1 t2 t3 t4 t5 t6) ∈ news) (hT : (T, tupO [.str (Str.ofString "a") u1, .str (Str.ofString "b") u2]) ∈ news) : Tell w 3 364 [.ref i, .ref T] [] news fun v l => (∃ t, v = .str (keyT [Str.ofString "a", Str.ofString "b", Str.ofString (toString am), Str.ofString (toString mu), Str.ofString "minute"]) t) ∧ l = news := by
  intro p loose mean mg mb dp un gd cn cs a ccd cl outer A₀ base h₀ L m s Q E B F X N T hk hd hu hret
  have hn : KeyOk [Str.ofString "a", Str.ofString "b", Str.ofString (toString am), Str.ofString (toString mu), Str.ofString "minute"] := by
    constructor
    have e1 := len_dec ha
    have e2 := len_dec hm
    simp only [List.map_cons, List.map_nil, List.sum_cons, List.sum_nil, List.length_cons, List.length_nil, len_a, len_b, len_sec, len_min]
    omega
  refine wpAny_call ?_
  k_dflt (walk_at "jb_enter")
  k_steps
  · exact hret _ _ _ _ ⟨⟨_, rfl⟩, rfl⟩ (by k_asm) (news_sub (by k_asm) fun p hp => by simp [hp])
  all_goals (rename_i hq; exact hq _ _ (by k_asm) (by k_asm))
end
/-! the three rows of identifiers and the six keys -/
def nmS : Nat → List Str
  | 0 => []
  | 1 => [Str.ofString "a"]
  | _ => [Str.ofString "a", Str.ofString "b"]
inductive NmV : Nat → List Value → Prop
  | zero : NmV 0 []
  | one (t : Tok) : NmV 1 [.str (Str.ofString "a") t]
  | two (t u : Tok) : NmV 2 [.str (Str.ofString "a") t, .str (Str.ofString "b") u]
def unS (b : Bool) : Str := if b then Str.ofString "minute" else Str.ofString "second"
def unI (b : Bool) : Int := if b then 60 else 1
def clI (b : Bool) : Nat := if b then 407 else 424
def keyI (b : Bool) (j : Nat) (am mu : Int) : Str := keyT (nmS j ++ [Str.ofString (toString am), Str.ofString (toString mu), unS b])
structure Itm (w : World) (b : Bool) (i : Nat) (am mu : Int) (rest : List (Addr × Obj)) : Prop where
  here : ∃ (id : Nat) (t1 t2 t3 t4 t5 t6 : Tok), (i, instObj (clI b) id) ∈ rest ∧ (id, itO w am mu t1 t2 t3 t4 t5 t6) ∈ rest
  ha : 0 ≤ am ∧ am ≤ 100
  hm : 0 ≤ mu ∧ mu ≤ 100
theorem Itm.mono {w : World} {b : Bool} {i : Nat} {am mu : Int} {r r' : List (Addr × Obj)} (h : Itm w b i am mu r) (hs : ∀ p ∈ r, p ∈ r') : Itm w b i am mu r' where
  here := let ⟨id, t1, t2, t3, t4, t5, t6, x, y⟩ := h.here; ⟨id, t1, t2, t3, t4, t5, t6, hs _ x, hs _ y⟩
  ha := h.ha
  hm := h.hm
theorem key_tell (w : World) (b : Bool) (i T j : Nat) (am mu : Int) (news : List (Addr × Obj)) (hI : Itm w b i am mu news) (vs : List Value) (hv : NmV j vs) (hT : (T, tupO vs) ∈ news) :
    Tell w 3 364 [.ref i, .ref T] [] news fun v l => (∃ t, v = .str (keyI b j am mu) t) ∧ l = news := by
  obtain ⟨id, t1, t2, t3, t4, t5, t6, hi, hid⟩ := hI.here
  cases b <;> cases hv
  · exact key_424_0 w i id T am mu hI.ha hI.hm t1 t2 t3 t4 t5 t6 news hi hid hT
  · exact key_424_1 w i id T am mu hI.ha hI.hm t1 t2 t3 t4 t5 t6 _ news hi hid hT
  · exact key_424_2 w i id T am mu hI.ha hI.hm t1 t2 t3 t4 t5 t6 _ _ news hi hid hT
  · exact key_407_0 w i id T am mu hI.ha hI.hm t1 t2 t3 t4 t5 t6 news hi hid hT
  · exact key_407_1 w i id T am mu hI.ha hI.hm t1 t2 t3 t4 t5 t6 _ news hi hid hT
  · exact key_407_2 w i id T am mu hI.ha hI.hm t1 t2 t3 t4 t5 t6 _ _ news hi hid hT
theorem exp_tell (w : World) (b : Bool) (i : Nat) (am mu : Int) (news : List (Addr × Obj)) (hI : Itm w b i am mu news) : Tell w 3 357 [.ref i] [] news fun v l => (∃ t, v = .int (unI b * mu) t) ∧ l = news := by
  obtain ⟨id, t1, t2, t3, t4, t5, t6, hi, hid⟩ := hI.here
  cases b
  · exact exp_421 w i id am mu t1 t2 t3 t4 t5 t6 news hi hid
  · exact exp_404 w i id am mu t1 t2 t3 t4 t5 t6 news hi hid
theorem key_len (b : Bool) (j : Nat) (hj : j < 3) (am mu : Int) : (keyI b j am mu).length = 16 + 2 * j + (Str.ofString (toString am)).length + (Str.ofString (toString mu)).length := by
  unfold keyI
  rw [keyT_len]
  rcases j with _ | _ | _ | j
  · cases b <;> simp [nmS, unS, len_sec, len_min] <;> omega
  · cases b <;> simp [nmS, unS, len_sec, len_min, len_a] <;> omega
  · cases b <;> simp [nmS, unS, len_sec, len_min, len_a, len_b] <;> omega
  · omega
theorem keyT_cps (l : List Str) (x : Str) (hl : l ≠ []) : ∃ p : Array Nat, (keyT (l ++ [x])).cps = p ++ x.cps := by
  unfold keyT jn Txt.join
  have e : ∀ l : List Str, l ≠ [] → ∃ p : Array Nat, (Builtin.Str.glued (Str.ofString "/") (l ++ [x])).cps = p ++ x.cps := by
    intro l hl
    obtain ⟨a, r, rfl⟩ := List.exists_cons_of_ne_nil hl
    unfold Builtin.Str.glued
    rw [List.cons_append, List.drop_succ_cons, List.drop_zero, List.foldl_append]
    exact ⟨_, rfl⟩
  obtain ⟨p, hp⟩ := e l hl
  exact ⟨_, by rw [Str.cps_append, hp, ← Array.append_assoc]⟩
theorem key_inj {b b' : Bool} {j j' : Nat} {am mu am' mu' : Int} (hj : j < 3) (hj' : j' < 3) (hs : b = b' → am = am' ∧ mu = mu') (h : keyI b j am mu = keyI b' j' am' mu') : b = b' ∧ j = j' := by
  have hb : b = b' := by
    obtain ⟨p, hp⟩ := keyT_cps (nmS j ++ [Str.ofString (toString am), Str.ofString (toString mu)]) (unS b) (by simp)
    obtain ⟨p', hp'⟩ := keyT_cps (nmS j' ++ [Str.ofString (toString am'), Str.ofString (toString mu')]) (unS b') (by simp)
    unfold keyI at h
    rw [show ∀ (l : List Str) (x y z : Str), l ++ [x, y, z] = (l ++ [x, y]) ++ [z] by intro l x y z; simp, show ∀ (l : List Str) (x y z : Str), l ++ [x, y, z] = (l ++ [x, y]) ++ [z] by intro l x y z; simp] at h
    rw [h, hp'] at hp
    have hl : (unS b').cps.size = (unS b).cps.size := by cases b <;> cases b' <;> first | rfl | exact (show (unS _).length = (unS _).length by simp [unS, len_sec, len_min])
    have e := (Array.append_inj' hp hl).2
    cases b <;> cases b' <;> first | rfl | exact absurd e (by decide +kernel)
  subst hb
  obtain ⟨rfl, rfl⟩ := hs rfl
  have := congrArg Str.length h
  rw [key_len b j hj, key_len b j' hj'] at this
  exact ⟨rfl, by omega⟩
section
local macro_rules | `(tactic| walk_at "getMethod type:tuple") => `(tactic| (k_here; refine' method_type ?F ?X ?m (by decide +kernel) ?e ?h ?_; (case F => k_asm); (case X => k_asm); (case m => exact meta_tuple); (case e => k_dflt k_is); (case h => k_handed)))
local macro_rules | `(tactic| walk_at "call builtin:tuple.__new__") => `(tactic| (k_here; k_dflt (refine' call_tuple_new ?X ?F ?N ?m ?_; (case X => k_asm); (case F => k_asm); (case N => k_asm); (case m => k_mem)); intro x9 d9 h9 F9 N9 l9 l8; (try dsimp only at N9)))
theorem ws_new (w : World) (a b : Value) (news : List (Addr × Obj)) : Tell w 1 82 [.ref 132, a, b] [] news fun v l => ∃ (x dx : Addr), v = .ref x ∧ l = (x, ⟨.ref 132, some dx, .seq #[a, b] 0, #[]⟩) :: (dx, emptyDict) :: news ∧ (∀ q ∈ news, q.1 < dx) ∧ dx < x := by
  intro p loose mean mg mb dp un gd cn cs ad ccd cl outer A₀ base h₀ L m s Q E B F X N T hk hd hu hret
  revert X; k_fill; intro X
  refine wpAny_call ?_
  k_dflt (walk_at "jb_enter")
  k_steps
  refine hret _ _ _ _ ⟨_, _, rfl, rfl, fun q hq => ‹∀ p ∈ _ :: news, p.1 < _› q (.tail _ hq), by assumption⟩ (by k_asm) (news_sub (by k_asm) fun p hp => ?_)
  simp only [List.mem_cons] at hp ⊢
  rcases hp with hp | hp | hp <;> simp [hp]
theorem hold_getAttr {M : Model} {A : Around} {v : Value} {n : Str} {b : Bool} {Q : Value → Shared → Prop} {E : Value → Shared → Prop} {s : Shared} (h : Hold (wpAny M A (getAttr v n b) Q E s)) : wpAny M A (getAttr v n b) Q E s := h
/-- WindowStats(a, b) -/
theorem make_ws {w : World} {a b : Value} {news : List (Addr × Obj)} {p : Program} {loose : List Str} {mean : ExcName → Option Value} {mg mb : Str → Option Value} {dp un : Nat} {gd : Option (List Code)} {cn : Str} {cs : Scope} {ad : Addr} {ccd : Value} {cl : List (Str × Addr)} {outer : List Env} {A₀ : Around} {base h₀ : Heap} {L : Addr} {m : Str → Option Value} {s : Shared} {Q E : Value → Shared → Prop}
    (B : Below A₀ base outer h₀) (F : Fr h₀ L s.heap m) (X : (K w.params).In h₀) (N : News h₀ L s.heap news) (T : Top p loose mean mg mb h₀) (hk : cs.kind = .function) (hd : dp + 2 < recursionLimit) (hu : un + 8 * 2 < cLine)
    (h : ∀ (x dx : Addr) h' tk', Fr h₀ L h' m → News h₀ L h' ((x, ⟨.ref 132, some dx, .seq #[a, b] 0, #[]⟩) :: (dx, emptyDict) :: news) → (∀ q ∈ news, q.1 < dx) → dx < x → Q (.ref x) { s with heap := h', toks := tk' }) :
    wpAny (model PySem.Challenge.rw_jb0021_01.row.prog w) (ktrTop dp un gd cn cs L ad ccd cl outer) (call (.ref 132) [a, b]) Q E s := by
  have X1 := X.keeps F.keep
  have call := ws_call (M := model PySem.Challenge.rw_jb0021_01.row.prog w) X1
  have typ := ws_typ (M := model PySem.Challenge.rw_jb0021_01.row.prog w) X1
  have made := ws_made (M := model PySem.Challenge.rw_jb0021_01.row.prog w) X1
  have hC := X1 132 _ rfl
  obtain ⟨l, le, hm⟩ := ws_mro (M := model PySem.Challenge.rw_jb0021_01.row.prog w) X1
  refine wpAny_call (codeAny_of_tree ?_)
  show wpAny _ _ (callAny (.ref 132) _) _ _ _
  obtain ⟨hh, g, d, t, os⟩ := s
  refine nd_load hC ?_
  show wpAny _ _ (callAny.viaDunder (.ref 132) _) _ _ _
  unfold callAny.viaDunder
  refine wpAny_bind (call.at ?_)
  dsimp only
  rw [tc_bind]
  refine wpAny_bind (wpAny_pure (wpAny_bind (wpAny_pure ?_)))
  refine wpAny_pure (a := Fin.again (.call (.builtin "type.__call__") ⟨[.ref 132, a, b], []⟩)) (And.intro rfl ?_)
  refine codeAny_call_builtin_at (Code.quiet_builtin _ (by decide +kernel)) entry_typeCall (@check_slot (model PySem.Challenge.rw_jb0021_01.row.prog w) _ _ _ "type.__call__" "type" "__call__" (.ref 132) [a, b] [] _ tc_kind tc_split typ (tc_args _ _ _) ?_)
  unfold Builtin.«type.__call__»
  repeat (first | simp only [le, Bool.false_eq_true, if_false] | with_reducible refine hold_getAttr ?_ | lk)
  unfold Hold
  refine cls_sm (C := 132) (p := 133) (f := .ref 82) (rest := []) F X (mc := .type "type") (by kernel_rfl) (by kernel_rfl) (by kernel_rfl) (by kernel_rfl) rfl ?_
  refine wpAny_bind (wpAny_holding ?_)
  have ew : (Code.builtin "type.__call__" ⟨[.ref 132, a, b], []⟩).weight ≤ 1 := Nat.le_of_ble_eq_true (by kernel_rfl)
  have eu : (Code.builtin "type.__call__" ⟨[.ref 132, a, b], []⟩).cUnits ≤ 4 := Nat.le_of_ble_eq_true (by kernel_rfl)
  show wpAny _ (ktrTop (dp + (Code.builtin "type.__call__" ⟨[.ref 132, a, b], []⟩).weight) (un + (Code.builtin "type.__call__" ⟨[.ref 132, a, b], []⟩).cUnits) (pushGuards (Code.builtin "type.__call__" ⟨[.ref 132, a, b], []⟩).guards gd) cn cs L ad ccd cl outer) _ _ _ _
  refine Tell.use (ws_new w a b news) B F X N T hk (by omega) (by omega) fun v l' h' tk' hr F2 N2 => ?_
  obtain ⟨x, dx, rfl, rfl, q1, q2⟩ := hr
  have X2 := X.keeps F2.keep
  have hx := (N2 _ (.head _)).1
  have t1 : Looks (model PySem.Challenge.rw_jb0021_01.row.prog w) h' (typeOf (.ref x)) (.ref 132) := (Looks.ld hx).andThen .now
  have s1 := ws_self (M := model PySem.Challenge.rw_jb0021_01.row.prog w) X2
  have i1 := ws_init (M := model PySem.Challenge.rw_jb0021_01.row.prog w) X2
  have m1 := ws_made (M := model PySem.Challenge.rw_jb0021_01.row.prog w) X2
  have o1 : Looks (model PySem.Challenge.rw_jb0021_01.row.prog w) h' (isInstance (.ref x) (.type "object")) true := t1.andThen (ws_obj X2)
  dsimp only
  unfold isInstance callSpecial? specialOf
  repeat (first | (rw [oi_bind]) | with_reducible refine wpAny_call ?_ | lk)
  refine codeAny_call_builtin oi_plain entry_oi (@check_slot (model PySem.Challenge.rw_jb0021_01.row.prog w) _ _ _ "object.__init__" "object" "__init__" (.ref x) [a, b] [] _ oi_kind oi_split o1 (by unfold argsOk; kernel_rfl) ?_)
  unfold Builtin.«object.__init__»
  repeat lk
  exact h x dx h' tk' F2 N2 q1 q2
end
section
section
variable {prog : Program} {w : World} {A : Around} {E : Value → Shared → Prop} {s : Shared} {h₀ : Heap} {L : Addr} {m : Str → Option Value} {news : List (Addr × Obj)} {b : Bool} {i : Nat} {am mu : Int}
theorem itm_key {pl : Sem Bool} {Q : Value × List Value → Shared → Prop} (F : Fr h₀ L s.heap m) (X₀ : (K w.params).In h₀) (N : News h₀ L s.heap news) (I : Itm w b i am mu news) (h : Q (.ref 364, [.ref i]) s) :
    wpAny (model prog w) A (getMethod (.ref i) (Str.ofString "key_for") pl) Q E s := by
  obtain ⟨id, t1, t2, t3, t4, t5, t6, hi, hid⟩ := I.here
  cases b
  · exact method_inst (C := 424) F X₀ ⟨(N _ hi).1, rfl, rfl, (N _ hid).1⟩ (by kernel_rfl) (by kernel_rfl) (by kernel_rfl) (by rfl) h
  · exact method_inst (C := 407) F X₀ ⟨(N _ hi).1, rfl, rfl, (N _ hid).1⟩ (by kernel_rfl) (by kernel_rfl) (by kernel_rfl) (by rfl) h
theorem itm_exp {pl : Sem Bool} {Q : Value × List Value → Shared → Prop} (F : Fr h₀ L s.heap m) (X₀ : (K w.params).In h₀) (N : News h₀ L s.heap news) (I : Itm w b i am mu news) (h : Q (.ref 357, [.ref i]) s) :
    wpAny (model prog w) A (getMethod (.ref i) (Str.ofString "get_expiry") pl) Q E s := by
  obtain ⟨id, t1, t2, t3, t4, t5, t6, hi, hid⟩ := I.here
  cases b
  · exact method_inst (C := 424) F X₀ ⟨(N _ hi).1, rfl, rfl, (N _ hid).1⟩ (by kernel_rfl) (by kernel_rfl) (by kernel_rfl) (by rfl) h
  · exact method_inst (C := 407) F X₀ ⟨(N _ hi).1, rfl, rfl, (N _ hid).1⟩ (by kernel_rfl) (by kernel_rfl) (by kernel_rfl) (by rfl) h
theorem itm_amt {expr : Bool} {Q : Value → Shared → Prop} (F : Fr h₀ L s.heap m) (X₀ : (K w.params).In h₀) (N : News h₀ L s.heap news) (I : Itm w b i am mu news) (h : ∀ t, Q (.int am t) { s with toks := s.toks + 1 }) :
    wpAny (model prog w) A (getAttr (.ref i) (Str.ofString "amount") expr) Q E s := by
  obtain ⟨id, t1, t2, t3, t4, t5, t6, hi, hid⟩ := I.here
  cases b
  · exact get_own (C := 424) (attr := none) F X₀ ⟨(N _ hi).1, rfl, rfl, (N _ hid).1⟩ (by kernel_rfl) (by kernel_rfl) (by kernel_rfl) (by kernel_rfl) (by rfl) (by rfl) (h _)
  · exact get_own (C := 407) (attr := none) F X₀ ⟨(N _ hi).1, rfl, rfl, (N _ hid).1⟩ (by kernel_rfl) (by kernel_rfl) (by kernel_rfl) (by kernel_rfl) (by rfl) (by rfl) (h _)
end
/-- a limiter over the store -/
structure Lim (w : World) (x : Fx) (l : Nat) (rest : List (Addr × Obj)) : Prop where
  here : ∃ (ld : Nat) (t : Tok), (l, instObj 202 ld) ∈ rest ∧ (ld, dictOf [⟨PyData.keyHash w.params (Str.ofString "storage"), .str (Str.ofString "storage") t, .ref x.st⟩] 1) ∈ rest
theorem sub_M {x : Fx} {oS oE oV : Obj} {now : Int} {t : Tok} {n : Nat} {rest : List (Addr × Obj)} : ∀ p ∈ rest, p ∈ M x oS oE oV now t n rest := fun p hp => .tail _ (.tail _ (.tail _ (.tail _ hp)))
local macro_rules | `(tactic| walk_at "getMethod ref") => `(tactic| (k_here; (with_reducible show wpAny _ _ (getMethod (Value.ref _) (Str.ofString "key_for") _) _ _ _); k_dflt (refine' itm_key ?F ?X ?N (‹Itm _ _ _ _ _ _›.mono sub_M) ?_; (case F => k_asm); (case X => k_asm); (case N => k_asm))))
local macro_rules | `(tactic| walk_at "getMethod ref") => `(tactic| (k_here; (with_reducible show wpAny _ _ (getMethod (Value.ref _) (Str.ofString "get_expiry") _) _ _ _); k_dflt (refine' itm_exp ?F ?X ?N (‹Itm _ _ _ _ _ _›.mono sub_M) ?_; (case F => k_asm); (case X => k_asm); (case N => k_asm))))
local macro_rules | `(tactic| walk_at "getAttr ref") => `(tactic| (k_here; (with_reducible show wpAny _ _ (getAttr (Value.ref _) (Str.ofString "amount") _) _ _ _); k_dflt (refine' itm_amt ?F ?X ?N (‹Itm _ _ _ _ _ _›.mono sub_M) ?_; (case F => k_asm); (case X => k_asm); (case N => k_asm)); intro t9))
local macro_rules | `(tactic| walk_at "call ref") => `(tactic| (k_here; (with_reducible show wpAny _ _ (call (Value.ref 364) _ _) _ _ _); k_dflt (refine' Tell.use (key_tell _ _ _ _ _ _ _ _ (‹Itm _ _ _ _ _ _›.mono sub_M) _ ‹NmV _ _› (sub_M _ ‹(_, tupO _) ∈ _›)) ?k1 ?k2 ?k3 ?k4 ?k5 ?kK ?kd ?ku ?_; (case k1 => k_asm); (case k2 => k_asm); (case k3 => k_asm); (case k4 => k_asm); (case k5 => k_asm); (case kK => first | exact rfl | assumption); (case kd => ktr_room); (case ku => ktr_units); intro v9 n9 h9 tk9 e9 F9 N9; obtain ⟨⟨t9, e91⟩, e92⟩ := e9; subst e91; subst e92; (try dsimp only); (try k_sweep))))
local macro_rules | `(tactic| walk_at "call ref") => `(tactic| (k_here; (with_reducible show wpAny _ _ (call (Value.ref 357) _ _) _ _ _); k_dflt (refine' Tell.use (exp_tell _ _ _ _ _ _ (‹Itm _ _ _ _ _ _›.mono sub_M)) ?k1 ?k2 ?k3 ?k4 ?k5 ?kK ?kd ?ku ?_; (case k1 => k_asm); (case k2 => k_asm); (case k3 => k_asm); (case k4 => k_asm); (case k5 => k_asm); (case kK => first | exact rfl | assumption); (case kd => ktr_room); (case ku => ktr_units); intro v9 n9 h9 tk9 e9 F9 N9; obtain ⟨⟨t9, e91⟩, e92⟩ := e9; subst e91; subst e92; (try dsimp only); (try k_sweep))))
theorem hit_tell (w : World) (x : Fx) (rest : List (Addr × Obj)) (S : Sto w x rest) (oS oE oV : Obj) (cS cE : List (Str × Int)) (now : Int) (t : Tok) (n : Nat) (hS : Dct w oS cS) (hE : Dct w oE cE) (h1 : cS.length ≤ 1000) (h2 : cE.length ≤ 1000) (l T : Nat) (hl : Lim w x l rest) (b : Bool) (i : Nat) (am mu : Int) (I : Itm w b i am mu rest) (j : Nat) (vs : List Value) (hv : NmV j vs) (hT : (T, tupO vs) ∈ rest) (cost : Int) (tc : Tok) :
    Tell w 7 181 [.ref l, .ref i, .ref T, .int cost tc] [] (M x oS oE oV now t n rest) fun v l => ∃ oS' oE', (v = .bool (decide (kdpLook (liveS now (keyI b j am mu) cS cE) (keyI b j am mu) 0 + cost ≤ am)) ∧ Dct w oS' (kdpPut (liveS now (keyI b j am mu) cS cE) (keyI b j am mu) (kdpLook (liveS now (keyI b j am mu) cS cE) (keyI b j am mu) 0 + cost)) ∧ Dct w oE' (if kdpLook (liveS now (keyI b j am mu) cS cE) (keyI b j am mu) 0 = 0 then kdpPut (liveE now (keyI b j am mu) cE) (keyI b j am mu) (now + unI b * mu) else liveE now (keyI b j am mu) cE)) ∧ l = M x oS' oE' oV now t n rest := by
  intro p loose mean mg mb dp un gd cn cs a ccd cl outer A₀ base h₀ L m s Q E B F X N T hk hd hu hret
  revert X; k_fill; intro X
  have S' := S
  obtain ⟨hst, hstd, hoff, lo1, lo2, lo3, l1, ⟨fc, fod, ffd, fsl, hf⟩, clk⟩ := S'
  obtain ⟨ld, lt, hl1, hl2⟩ := hl.here
  refine wpAny_call ?_
  k_dflt (walk_at "jb_enter")
  k_steps
  show wpAny _ _ (call (Value.ref 486) _ [(Str.ofString "amount", Value.int _ _)]) _ _ _
  refine' Tell.use (incr_tell w x rest S oS oE oV cS cE now t n hS hE h1 h2 _ _ _ _ _ _) ?k1 ?k2 ?k3 ?k4 ?k5 ?kK ?kd ?ku ?_
  case k1 => k_asm
  case k2 => k_asm
  case k3 => k_asm
  case k4 => k_asm
  case k5 => k_asm
  case kK => first | exact rfl | assumption
  case kd => ktr_room
  case ku => ktr_units
  intro v9 n9 h9 tk9 e9 F9 N9
  obtain ⟨oS9, oE9, ⟨⟨t9, e91⟩, hS9, hE9⟩, e92⟩ := e9
  subst e91
  subst e92
  k_steps
  exact hret _ _ _ _ ⟨oS9, oE9, ⟨rfl, hS9, hE9⟩, rfl⟩ (by k_asm) (by k_asm)
theorem test_tell (w : World) (x : Fx) (rest : List (Addr × Obj)) (S : Sto w x rest) (oS oE oV : Obj) (cS cE : List (Str × Int)) (now : Int) (t : Tok) (n : Nat) (hS : Dct w oS cS) (hE : Dct w oE cE) (hV : Dct w oV []) (h1 : cS.length ≤ 1000) (h2 : cE.length ≤ 1000) (l T : Nat) (hl : Lim w x l rest) (b : Bool) (i : Nat) (am mu : Int) (I : Itm w b i am mu rest) (j : Nat) (vs : List Value) (hv : NmV j vs) (hT : (T, tupO vs) ∈ rest) (cost : Int) (tc : Tok) :
    Tell w 6 190 [.ref l, .ref i, .ref T, .int cost tc] [] (M x oS oE oV now t n rest) fun v l => ∃ oS' oE', (v = .bool (decide (kdpLook (liveS now (keyI b j am mu) cS cE) (keyI b j am mu) 0 < am - cost + 1)) ∧ Dct w oS' (liveS now (keyI b j am mu) cS cE) ∧ Dct w oE' (liveE now (keyI b j am mu) cE)) ∧ l = M x oS' oE' oV now t n rest := by
  intro p loose mean mg mb dp un gd cn cs a ccd cl outer A₀ base h₀ L m s Q E B F X N T hk hd hu hret
  revert X; k_fill; intro X
  have S' := S
  obtain ⟨hst, hstd, hoff, lo1, lo2, lo3, l1, ⟨fc, fod, ffd, fsl, hf⟩, clk⟩ := S'
  obtain ⟨ld, lt, hl1, hl2⟩ := hl.here
  refine wpAny_call ?_
  k_dflt (walk_at "jb_enter")
  k_steps
  refine' Tell.use (get_tell w x rest S oS oE oV cS cE now t n hS hE h1 h2 _ _) ?k1 ?k2 ?k3 ?k4 ?k5 ?kK ?kd ?ku ?_
  case k1 => k_asm
  case k2 => k_asm
  case k3 => k_asm
  case k4 => k_asm
  case k5 => k_asm
  case kK => first | exact rfl | assumption
  case kd => ktr_room
  case ku => ktr_units
  intro v9 n9 h9 tk9 e9 F9 N9
  obtain ⟨oS9, oE9, ⟨⟨t9, e91⟩, hS9, hE9⟩, e92⟩ := e9
  subst e91
  subst e92
  k_steps
  exact hret _ _ _ _ ⟨oS9, oE9, ⟨rfl, hS9, hE9⟩, rfl⟩ (by k_asm) (by k_asm)
theorem lclear_tell (w : World) (x : Fx) (rest : List (Addr × Obj)) (S : Sto w x rest) (oS oE oV : Obj) (cS cE : List (Str × Int)) (now : Int) (t : Tok) (n : Nat) (hS : Dct w oS cS) (hE : Dct w oE cE) (hV : Dct w oV []) (h1 : cS.length ≤ 1000) (h2 : cE.length ≤ 1000) (l T : Nat) (hl : Lim w x l rest) (b : Bool) (i : Nat) (am mu : Int) (I : Itm w b i am mu rest) (j : Nat) (vs : List Value) (hv : NmV j vs) (hT : (T, tupO vs) ∈ rest) :
    Tell w 6 158 [.ref l, .ref i, .ref T] [] (M x oS oE oV now t n rest) fun v l => ∃ oS' oE' oV', (v = .none ∧ Dct w oS' (kdzDel cS (keyI b j am mu)) ∧ Dct w oE' (kdzDel cE (keyI b j am mu)) ∧ Dct w oV' []) ∧ l = M x oS' oE' oV' now t n rest := by
  intro p loose mean mg mb dp un gd cn cs a ccd cl outer A₀ base h₀ L m s Q E B F X N T hk hd hu hret
  have S' := S
  obtain ⟨hst, hstd, hoff, lo1, lo2, lo3, l1, ⟨fc, fod, ffd, fsl, hf⟩, clk⟩ := S'
  obtain ⟨ld, lt, hl1, hl2⟩ := hl.here
  refine wpAny_call ?_
  k_dflt (walk_at "jb_enter")
  k_steps
  refine' Tell.use (clear_tell w x rest S oS oE oV cS cE now t n hS hE hV h1 h2 _ _) ?k1 ?k2 ?k3 ?k4 ?k5 ?kK ?kd ?ku ?_
  case k1 => k_asm
  case k2 => k_asm
  case k3 => k_asm
  case k4 => k_asm
  case k5 => k_asm
  case kK => first | exact rfl | assumption
  case kd => ktr_room
  case ku => ktr_units
  intro v9 n9 h9 tk9 e9 F9 N9
  obtain ⟨oS9, oE9, oV9, ⟨e91, hS9, hE9, hV9⟩, e92⟩ := e9
  subst e91
  subst e92
  k_steps
  exact hret _ _ _ _ ⟨oS9, oE9, oV9, ⟨rfl, hS9, hE9, hV9⟩, rfl⟩ (by k_asm) (by k_asm)
theorem stats_tell (w : World) (x : Fx) (rest : List (Addr × Obj)) (S : Sto w x rest) (oS oE oV : Obj) (cS cE : List (Str × Int)) (now : Int) (t : Tok) (n : Nat) (hS : Dct w oS cS) (hE : Dct w oE cE) (hV : Dct w oV []) (h1 : cS.length ≤ 1000) (h2 : cE.length ≤ 1000) (l T : Nat) (hl : Lim w x l rest) (b : Bool) (i : Nat) (am mu : Int) (I : Itm w b i am mu rest) (j : Nat) (vs : List Value) (hv : NmV j vs) (hT : (T, tupO vs) ∈ rest) :
    Tell w 6 199 [.ref l, .ref i, .ref T] [] (M x oS oE oV now t n rest) fun v l => ∃ (oS' oE' : Obj) (xw dw : Addr) (u1 u2 : Tok), (v = .ref xw ∧ Dct w oS' (liveS now (keyI b j am mu) cS cE) ∧ Dct w oE' (liveE now (keyI b j am mu) cE)) ∧ l = (xw, (⟨.ref 132, some dw, .seq #[.int (kdpLook (liveE now (keyI b j am mu) cE) (keyI b j am mu) now) u1, .int (if am - kdpLook (liveS now (keyI b j am mu) cS cE) (keyI b j am mu) 0 > 0 then am - kdpLook (liveS now (keyI b j am mu) cS cE) (keyI b j am mu) 0 else 0) u2] 0, #[]⟩ : Obj)) :: (dw, emptyDict) :: M x oS' oE' oV now t n rest ∧ (∀ q ∈ M x oS' oE' oV now t n rest, q.1 < dw) ∧ dw < xw := by
  intro p loose mean mg mb dp un gd cn cs a ccd cl outer A₀ base h₀ L m s Q E B F X N T hk hd hu hret
  revert X; k_fill; intro X
  have S' := S
  obtain ⟨hst, hstd, hoff, lo1, lo2, lo3, l1, ⟨fc, fod, ffd, fsl, hf⟩, clk⟩ := S'
  obtain ⟨ld, lt, hl1, hl2⟩ := hl.here
  refine wpAny_call ?_
  k_dflt (walk_at "jb_enter")
  k_steps
  refine' Tell.use (get_tell w x rest S oS oE oV cS cE now t n hS hE h1 h2 _ _) ?k1 ?k2 ?k3 ?k4 ?k5 ?kK ?kd ?ku ?_
  case k1 => k_asm
  case k2 => k_asm
  case k3 => k_asm
  case k4 => k_asm
  case k5 => k_asm
  case kK => first | exact rfl | assumption
  case kd => ktr_room
  case ku => ktr_units
  intro v9 n9 h9 tk9 e9 F9 N9
  obtain ⟨oS9, oE9, ⟨⟨t9, e91⟩, hS9, hE9⟩, e92⟩ := e9
  subst e91
  subst e92
  k_steps
  refine' Tell.use (get_expiry_tell w x rest S oS9 oE9 oV _ now t n hE9 (Nat.le_trans (liveE_len _ _ _) h2) _ _) ?k1 ?k2 ?k3 ?k4 ?k5 ?kK ?kd ?ku ?_
  case k1 => k_asm
  case k2 => k_asm
  case k3 => k_asm
  case k4 => k_asm
  case k5 => k_asm
  case kK => first | exact rfl | assumption
  case kd => ktr_room
  case ku => ktr_units
  intro v8 n8 h8 tk8 e8 F8 N8
  obtain ⟨⟨t8, e81⟩, e82⟩ := e8
  subst e81
  subst e82
  k_steps
  refine' make_ws ?k1 ?k2 ?k3 ?k4 ?k5 ?kK ?kd ?ku ?_
  case k1 => k_asm
  case k2 => k_asm
  case k3 => k_asm
  case k4 => k_asm
  case k5 => k_asm
  case kK => first | exact rfl | assumption
  case kd => ktr_room
  case ku => ktr_units
  intro xw dw h7 tk7 F7 N7 q1 q2
  k_steps
  exact hret _ _ _ _ ⟨oS9, oE9, xw, dw, _, _, ⟨rfl, hS9, hE9⟩, rfl, q1, q2⟩ (by k_asm) (by k_asm)
end
end
section
variable {prog : Program} {w : World} {A : Around} {E : Value → Shared → Prop} {s : Shared}
/-- a key of the law's table: a number and a row of names -/
def IsKT (prog : Program) (w : World) (h : Heap) (k : Int × List Str) (a : Addr) : Prop :=
  ∃ o t b n, h.get? a = some o ∧ o.cls = .type "tuple" ∧ o.data = .seq #[.int k.1 t, .ref b] n ∧ IsTupleKey (PySem.strKind prog w) h k.2 b
theorem IsKT.typeIs {k : Int × List Str} {a : Addr} (x : IsKT prog w s.heap k a) : s.TypeIs (.ref a) "tuple" := let ⟨o, _, _, _, ho, hc, _⟩ := x; ⟨o, ho, hc⟩
theorem IsKT.inj {h : Heap} {a : Addr} {x y : Int × List Str} (hx : IsKT prog w h x a) (hy : IsKT prog w h y a) : x = y := by
  obtain ⟨o, t, b, n, ho, _, hd, hi⟩ := hx
  obtain ⟨o', t', b', n', ho', _, hd', hi'⟩ := hy
  obtain rfl : o = o' := Option.some.inj (ho.symm.trans ho')
  rw [hd] at hd'
  simp only [Data.seq.injEq, Array.mk.injEq, List.cons.injEq, Value.int.injEq, Value.ref.injEq, and_true] at hd'
  obtain ⟨⟨⟨h1, _⟩, h2⟩, _⟩ := hd'
  subst h2
  exact Prod.ext h1 (hi.inj hi')
theorem IsKT.keeps {h h' : Heap} {k : Int × List Str} {a d : Addr} {o : Obj} {es ep} (x : IsKT prog w h k a) (ho : h.get? d = some o) (hd : o.data = .dict es ep) (hs : Heap.SameBut d h h') : IsKT prog w h' k a := by
  obtain ⟨o', t, b, n, ho', hc, hd', hi⟩ := x
  have hne : a ≠ d := by
    rintro rfl
    obtain rfl : o' = o := Option.some.inj (ho'.symm.trans ho)
    rw [hd] at hd'; exact nomatch hd'
  exact ⟨o', t, b, n, (hs.2 a hne).trans ho', hc, hd', hi.keeps ho hd hs⟩
def ktHash (prog : Program) (w : World) (k : Int × List Str) : Int := reduceHash (Builtin.Tuple.tupleHashOf [hashInt k.1, tupleKeyHash (PySem.strKind prog w) k.2])
theorem kt_quiet {k : Int × List Str} {a : Addr} {Q : Bool → Shared → Prop} (hk : IsKT prog w s.heap k a) (h : Q true s) : wpAny (model prog w) A (eqIsQuiet 8 (.ref a)) Q E s := by
  have hT := hk.typeIs
  obtain ⟨o, t, b, n, ho, _, hd, hi⟩ := hk
  have hT' := hi.typeIs
  obtain ⟨o', items, n', ho', _, hd', hi'⟩ := hi
  unfold eqIsQuiet
  refine wpAny_bind (wpAny_specialOf hT F.slot_tuple_eq.lookup ?_)
  show wpAny _ _ (isInstance (.ref a) (.type "tuple") >>= _) _ _ s
  refine wpAny_bind (wpAny_isInstance hT isSubtype_tuple_tuple ?_)
  simp only [Bool.not_true, Bool.false_eq_true, if_false]
  refine wpAny_bind (wpAny_seqItems ho hd ?_)
  refine wpAny_bind ?_
  show wpAny _ _ (forIn #[Value.int k.1 t, Value.ref b] _ _) _ _ s
  rw [← Array.forIn_toList]
  simp only [List.forIn_cons, List.forIn_nil]
  rw [eqIsQuiet_byValue 7 (v := .int k.1 t) rfl]
  refine wpAny_bind (wpAny_bind (wpAny_pure ?_))
  simp only [Bool.not_true, Bool.false_eq_true, if_false]
  refine wpAny_pure ?_
  refine wpAny_bind (wpAny_bind ?_)
  unfold eqIsQuiet
  refine wpAny_bind (wpAny_specialOf hT' F.slot_tuple_eq.lookup ?_)
  show wpAny _ _ (isInstance (.ref b) (.type "tuple") >>= _) _ _ s
  refine wpAny_bind (wpAny_isInstance hT' isSubtype_tuple_tuple ?_)
  simp only [Bool.not_true, Bool.false_eq_true, if_false]
  refine wpAny_bind (wpAny_seqItems ho' hd' ?_)
  refine wpAny_bind ?_
  show wpAny _ _ (forIn items _ _) _ _ s
  rw [← Array.forIn_toList]
  refine wpAny_forIn_list _ (fun rest r s' => r.1 = none ∧ s' = s ∧ ∀ v ∈ rest, carriedByValue v = true) _ ?_ ?_ _ _ ⟨rfl, rfl, hi'.byValue⟩
  · rintro v rest r s' ⟨hr, rfl, hall⟩
    rw [eqIsQuiet_byValue _ (hall v List.mem_cons_self)]
    refine wpAny_bind (wpAny_pure ?_)
    simp only [Bool.not_true, Bool.false_eq_true, if_false]
    exact wpAny_pure ⟨rfl, rfl, fun u hu' => hall u (List.mem_cons_of_mem _ hu')⟩
  · rintro ⟨r1, r2⟩ s' ⟨hr, rfl, _⟩
    simp only at hr
    subst hr
    refine wpAny_pure ?_
    simp only [Bool.not_true, Bool.false_eq_true, if_false]
    refine wpAny_pure ?_
    exact wpAny_pure (wpAny_pure h)
theorem kt_hash {k : Int × List Str} {a : Addr} {Q : Int → Shared → Prop} (hu : A.units + 4 < cLine) (hk : IsKT prog w s.heap k a) (h : Q (ktHash prog w k) { s with toks := s.toks + (k.2.length + 3) }) :
    wpAny (model prog w) A (pyHash (.ref a)) Q E s := by
  have hT := hk.typeIs
  obtain ⟨o, t, b, n, ho, _, hd, hi⟩ := hk
  unfold pyHash
  first | unfold pyHashByItsType | skip
  first | refine wpAny_bind (wpAny_cRoomFor_or (.inr (by omega)) ?_) | skip
  refine wpAny_bind (wpAny_specialOf hT F.slot_tuple_hash.lookup ?_)
  show wpAny _ _ (if (some (Value.builtin "tuple.__hash__") == some Value.none) = true then _ else _) Q E s
  rw [if_neg (by rw [beq_builtin_none]; exact Bool.false_ne_true)]
  refine wpAny_bind (wpAny_specialOf hT F.slot_tuple_hash.lookup ?_)
  show wpAny _ _ (callSpecialIfBoundUnlessNone? (.ref a) "__hash__" _ >>= _) Q E s
  refine wpAny_bind (wpAny_callSpecialIfBoundUnlessNone?_slot hT F.slot_tuple_hash (wpAny_call_entry F.slot_tuple_hash hT F.entry_tuple_hash ?_ (F.args_tuple_hash_1 _)))
  show wpAny _ _ (Builtin.Tuple.tupleItemsOf (.ref a) >>= _) _ _ s
  refine wpAny_bind (wpAny_tupleItemsOf ho hd ?_)
  refine wpAny_bind ?_
  rw [← Array.forIn_toList]
  simp only [List.forIn_cons, List.forIn_nil]
  refine wpAny_bind (wpAny_bind (wpAny_pyHash_int ?_))
  refine wpAny_pure ?_
  refine wpAny_bind (wpAny_bind (wpAny_pyHash_tuple (show A.units + 1 < cLine by omega) hi ?_))
  refine wpAny_pure ?_
  refine wpAny_pure ?_
  show wpAny _ _ (retInt (Builtin.Tuple.tupleHashOf [hashInt k.1, tupleKeyHash (PySem.strKind prog w) k.2])) _ _ _
  refine wpAny_ret_mkInt ?_
  show wpAny _ _ (if (decide (-(2 : Int) ^ 63 ≤ Builtin.Tuple.tupleHashOf [hashInt k.1, tupleKeyHash (PySem.strKind prog w) k.2]) && decide (Builtin.Tuple.tupleHashOf [hashInt k.1, tupleKeyHash (PySem.strKind prog w) k.2] < 2 ^ 63)) = true then _ else _) Q E _
  have e : s.toks + 1 + (k.2.length + 1) + 1 = s.toks + (k.2.length + 3) := by omega
  unfold ktHash reduceHash at h
  by_cases hr : (decide (-(2 : Int) ^ 63 ≤ Builtin.Tuple.tupleHashOf [hashInt k.1, tupleKeyHash (PySem.strKind prog w) k.2]) && decide (Builtin.Tuple.tupleHashOf [hashInt k.1, tupleKeyHash (PySem.strKind prog w) k.2] < 2 ^ 63)) = true
  · rw [if_pos hr]
    rw [if_pos hr, ← e] at h
    exact wpAny_pure h
  · rw [if_neg hr]
    rw [if_neg hr, ← e] at h
    exact wpAny_bind (wpAny_rule (wpAny_pure h))
theorem kt_tree {x y : Int × List Str} {a b : Addr} {P : Fin → Shared → Prop} (hu : A.units < cLine) (hx : IsKT prog w s.heap x a) (hy : IsKT prog w s.heap y b) (h : P (.done (.ret (.bool (decide (x = y))))) s) :
    wpAny (model prog w) A (Builtin.«tuple.__eq__» ⟨[.ref a, .ref b], []⟩) P E s := by
  have hTb := hy.typeIs
  obtain ⟨oa, ta, ba, na, hoa, _, hda, hia⟩ := hx
  obtain ⟨ob, tb, bb, nb, hob, _, hdb, hib⟩ := hy
  show wpAny _ _ (isInstance (.ref b) (.type "tuple") >>= _) _ _ s
  refine wpAny_bind (wpAny_isInstance hTb isSubtype_tuple_tuple ?_)
  simp only [Bool.not_true, Bool.false_eq_true, if_false]
  refine wpAny_bind (wpAny_tupleItemsOf hoa hda ?_)
  refine wpAny_bind (wpAny_tupleItemsOf hob hdb ?_)
  refine wpAny_bind ?_
  simp only [List.zip_cons_cons, List.zip_nil_left, List.forIn_cons, List.forIn_nil]
  refine wpAny_bind (wpAny_bind (wpAny_eqBool_int ?_))
  by_cases h1 : x.1 = y.1
  · rw [beq_iff_eq.mpr h1]
    simp only [Bool.not_true, Bool.false_eq_true, if_false]
    refine wpAny_pure ?_
    refine wpAny_bind (wpAny_bind (wpAny_eqBool_tuple hu hia hib ?_))
    by_cases h2 : x.2 = y.2
    · rw [decide_eq_true h2]
      simp only [Bool.not_true, Bool.false_eq_true, if_false]
      refine wpAny_pure (wpAny_pure (wpAny_pure ?_))
      rw [decide_eq_true (Prod.ext h1 h2)] at h
      exact h
    · rw [decide_eq_false h2]
      simp only [Bool.not_false, if_true]
      rw [decide_eq_false (fun e => h2 (congrArg Prod.snd e))] at h
      exact wpAny_bind (wpAny_pure (wpAny_pure (wpAny_pure (wpAny_pure h))))
  · rw [show (x.1 == y.1) = false from beq_eq_false_iff_ne.mpr h1]
    simp only [Bool.not_false, if_true]
    rw [decide_eq_false (fun e => h1 (congrArg Prod.fst e))] at h
    exact wpAny_bind (wpAny_pure (wpAny_pure (wpAny_pure (wpAny_pure h))))
theorem kt_eq {x y : Int × List Str} {a b : Addr} {Q : Bool → Shared → Prop} (hu : A.units + 4 < cLine) (hx : IsKT prog w s.heap x a) (hy : IsKT prog w s.heap y b) (h : Q (decide (x = y)) s) :
    wpAny (model prog w) A (eqBool (.ref a) (.ref b)) Q E s := by
  unfold eqBool
  try with_reducible refine wpAny_holding ?_
  show wpAny _ _ (if (Value.ref a == Value.ref b) = true then _ else _) Q E s
  by_cases hab : (Value.ref a == Value.ref b) = true
  · rw [if_pos hab]
    have e : a = b := by have := eq_of_beq hab; injection this
    subst e
    obtain rfl := hx.inj hy
    exact wpAny_bind (wpAny_rule (wpAny_pure (by simpa using h)))
  · rw [if_neg hab]
    exact wpAny_bind (wpAny_richCompare_same_room (op := .Eq) hx.typeIs hy.typeIs F.slot_tuple_eq
      (wpAny_call_entry F.slot_tuple_eq hx.typeIs F.entry_tuple_eq (kt_tree (show A.units + 1 < cLine by omega) hx hy ⟨_, rfl, (fun e => nomatch e), wpAny_truthy_bool h⟩) (F.args_tuple_eq_2 _ _)) (by omega))
end
def ktKind (prog : Program) (w : World) : HeapKind prog w (Int × List Str) where
  is := IsKT prog w
  hash := ktHash prog w
  draws := fun k => k.2.length + 3
  room := fun A => A.units + 4 < cLine
  inj := fun hx hy => hx.inj hy
  keeps := fun x ho hd hs => x.keeps ho hd hs
  pyHash := fun hu hk h => kt_hash hu hk h
  eqBool := fun hu hx hy h => kt_eq hu hx hy h
  quiet := fun hk h => kt_quiet hk h
/-! a dict whose keys lie in the heap: pop, len, the list of its keys -/
def delH {K : Type} [DecidableEq K] (xs : List (K × Addr × Value)) (k : K) : List (K × Addr × Value) := xs.filter fun x => !decide (x.1 = k)
theorem delH_at {K : Type} [DecidableEq K] {xs : List (K × Addr × Value)} {k : K} : ∀ {j : Nat} {p : Addr × Value}, (xs.map (·.1)).Nodup → xs[j]? = some (k, p) → xs.eraseIdx j = delH xs k := by
  induction xs with
  | nil => intro j p _ h; simp at h
  | cons x xs ih =>
    intro j p hn hj
    rw [List.map_cons, List.nodup_cons] at hn
    cases j with
    | zero =>
      simp only [List.getElem?_cons_zero, Option.some.injEq] at hj
      subst hj
      show xs = _
      unfold delH
      rw [List.filter_cons_of_neg (by simp)]
      refine (List.filter_eq_self.mpr fun y hy => ?_).symm
      have : y.1 ≠ k := fun e => hn.1 (List.mem_map.mpr ⟨y, hy, e⟩)
      simpa using this
    | succ j =>
      simp only [List.getElem?_cons_succ] at hj
      have hm : k ∈ xs.map (·.1) := List.mem_map.mpr ⟨(k, p), List.mem_of_getElem? hj, rfl⟩
      have : x.1 ≠ k := fun e => hn.1 (e ▸ hm)
      show x :: xs.eraseIdx j = _
      rw [ih hn.2 hj]
      unfold delH
      rw [List.filter_cons_of_pos (by simpa using this)]
theorem er_map {α β : Type} (f : α → β) : ∀ (l : List α) (j : Nat), (l.map f).eraseIdx j = (l.eraseIdx j).map f
  | [], j => rfl
  | _ :: _, 0 => rfl
  | x :: l, j + 1 => by show f x :: (l.map f).eraseIdx j = f x :: (l.eraseIdx j).map f; rw [er_map f l j]
theorem delH_none {K : Type} [DecidableEq K] {xs : List (K × Addr × Value)} {k : K} (h : ∀ (j : Nat) (p : Addr × Value), xs[j]? ≠ some (k, p)) : delH xs k = xs := by
  refine List.filter_eq_self.mpr fun x hx => ?_
  obtain ⟨j, hj⟩ := List.mem_iff_getElem?.mp hx
  have : x.1 ≠ k := fun e => h j x.2 (by rw [hj, ← e])
  simpa using this
section
variable {prog : Program} {w : World} {K : Type} [DecidableEq K] {knd : HeapKind prog w K} {A : Around} {E : Value → Shared → Prop} {s : Shared} {d a : Addr} {k : K} {xs : List (K × Addr × Value)}
theorem DictOfH_del {h : Heap} {o : Obj} {es : Array DictEntry} {ep j : Nat} {p : Addr × Value} (ho : h.get? d = some o) (hc : o.ExactDict) (hd : o.data = .dict es ep) (he : es.toList = xs.map (entryOfKey knd)) (his : ∀ x ∈ xs, knd.is h x.1 x.2.1) (hn : (xs.map (·.1)).Nodup) (hj : xs[j]? = some (k, p)) :
    (h.update d (Obj.mapDictKeys (·.eraseIdxIfInBounds j))).DictOfH knd d (delH xs k) := by
  refine ⟨_, _, ep + 1, Heap.get?_update_self _ ho (Obj.isFreed_of_dict (Obj.data_mapDictKeys hd _)), hc.mapDictKeys _, Obj.data_mapDictKeys hd _, ?_, ?_, ?_⟩
  · have hlt : j < es.size := by
      rw [size_of_entries he]
      rcases Nat.lt_or_ge j xs.length with h' | h'
      · exact h'
      · rw [List.getElem?_eq_none h'] at hj; exact nomatch hj
    rw [Array.eraseIdxIfInBounds, dif_pos hlt, Array.toList_eraseIdx, he, ← delH_at hn hj]
    exact (er_map _ xs j)
  · intro x hx
    exact knd.keeps (his x ((List.mem_filter.mp hx).1)) ho hd (Heap.SameBut.update ..)
  · exact hn.sublist (List.Sublist.map _ List.filter_sublist)
theorem takeOut_h {Q : Option DictEntry → Shared → Prop} (hu : knd.room A) (hkey : knd.is s.heap k a) (hm : s.heap.DictOfH knd d xs) (hsz : xs.length ≤ sizeLine)
    (hnone : atKey xs k = none → delH xs k = xs → Q none { s with toks := s.toks + knd.draws k })
    (hsome : ∀ e h', atKey xs k = some (match e.key with | .ref b => b | _ => 0, e.val) → h'.DictOfH knd d (delH xs k) → Heap.SameBut d s.heap h' → Q (some e) { s with heap := h', toks := s.toks + knd.draws k }) :
    wpAny (model prog w) A (Builtin.Dict.takeOut d (.ref a)) Q E s := by
  obtain ⟨o, es, ep, ho, hc, hd, he, his, hn⟩ := hm
  unfold Builtin.Dict.takeOut
  try with_reducible refine wpAny_holding ?_
  refine wpAny_bind (knd.pyHash hu hkey (wpAny_bind (wpAny_dictFind_heap (s := { s with toks := s.toks + knd.draws k }) hu hkey ho hd he his hn ?_ ?_)))
  · intro hno
    exact wpAny_pure (hnone (atKey_none_of_get hno) (delH_none hno))
  · intro j p hj
    refine wpAny_bind (wpAny_dictEntries (s := { s with toks := s.toks + knd.draws k }) ho hd ?_)
    rw [entry_at he j, hj]
    refine wpAny_bind (wpAny_updateDictKeys (hz := by rw [size_of_entries he]; exact hsz) (s := { s with toks := s.toks + knd.draws k }) ho hd (wpAny_pure ?_))
    exact hsome _ _ (atKey_of_get hn hj) (DictOfH_del ho hc hd he his hn hj) (Heap.SameBut.update ..)
theorem pop_h {rest : List Value} {Q : Value → Shared → Prop} (hrest : rest = [] ∨ ∃ x, rest = [x]) (hargs : argsOk "dict.pop" ⟨.ref d :: .ref a :: rest, []⟩) (lo : (d == sysModules) = false) (hu : knd.room A.in1) (hkey : knd.is s.heap k a) (hm : s.heap.DictOfH knd d xs) (hsz : xs.length ≤ sizeLine)
    (hnone : atKey xs k = none → ∃ x, rest = [x] ∧ ∀ tk, delH xs k = xs → Q x { s with toks := tk })
    (hsome : ∀ v h' tk, atKey xs k ≠ none → h'.DictOfH knd d (delH xs k) → Heap.SameBut d s.heap h' → Q v { s with heap := h', toks := tk }) :
    wpAny (model prog w) A (call (.builtin "dict.pop") (.ref d :: .ref a :: rest)) Q E s := by
  refine wpAny_call_entry F.slot_dict_pop hm.typeIs F.entry_dict_pop ?_ hargs
  obtain ⟨o, es, ep, ho, hc, hd, he, his, hn⟩ := id hm
  unfold Builtin.«dict.pop»
  refine wpAny_bind ?_
  unfold Builtin.Dict.keyAndDefault
  refine wpAny_bind (wpAny_notOrdered_dict hm.typeIs ?_)
  have key : ∀ dflt : Option Value, (rest = dflt.toList) → wpAny (model prog w) A.in1 (do
      let empty ← if (keyPart (.ref a)).isSome then pure false else do pure (← dictEntries d).isEmpty
      let old ← if empty then rule "dict.pop.empty"; pure none else Builtin.Dict.takeOut d (.ref a)
      if old.isNone then Builtin.Dict.missedRemoval d (.ref a)
      match old, dflt with
      | some e, _ => letGo [e.key] [e.val]; ret e.val
      | none, some x => rule "dict.pop.default"; ret x
      | none, none => rule "dict.pop.keyerror"; raiseNew (← newExc (.type "KeyError") [.ref a])) (fun fin s' => ∃ v, fin = .done (.ret v) ∧ Q v s') E s := by
    intro dflt hr
    have gone : ∀ tk, atKey xs k = none → delH xs k = xs → wpAny (model prog w) A.in1 (do
        if (none : Option DictEntry).isNone then Builtin.Dict.missedRemoval d (.ref a)
        match (none : Option DictEntry), dflt with
        | some e, _ => letGo [e.key] [e.val]; ret e.val
        | none, some x => rule "dict.pop.default"; ret x
        | none, none => rule "dict.pop.keyerror"; raiseNew (← newExc (.type "KeyError") [.ref a])) (fun fin s' => ∃ v, fin = .done (.ret v) ∧ Q v s') E { s with toks := tk } := by
      intro tk hk hx
      obtain ⟨x, hx1, hq⟩ := hnone hk
      cases dflt with
      | none => rw [hx1] at hr; simp at hr
      | some y =>
        rw [hx1] at hr
        simp only [Option.toList_some, List.cons.injEq, and_true] at hr
        subst hr
        simp only [Option.isNone_none, if_true]
        refine wpAny_bind (wpAny_missedRemoval_other lo ?_)
        exact wpAny_bind (wpAny_rule (wpAny_pure ⟨x, rfl, hq tk hx⟩))
    rw [if_neg (show ¬ (keyPart (Value.ref a)).isSome = true by simp [keyPart])]
    refine wpAny_bind (wpAny_dictEntries ho hd (wpAny_bind (wpAny_pure ?_)))
    dsimp only
    by_cases hz : es.isEmpty = true
    · rw [hz]
      simp only [if_true]
      have hx : xs = [] := by
        have := size_of_entries he
        rw [Array.isEmpty_iff.mp hz] at this
        exact List.length_eq_zero_iff.mp this.symm
      refine wpAny_bind (wpAny_rule (wpAny_bind (wpAny_pure ?_)))
      exact gone s.toks (by rw [hx]; rfl) (by rw [hx]; rfl)
    · rw [Bool.not_eq_true] at hz
      rw [hz]
      simp only [Bool.false_eq_true, if_false]
      refine wpAny_bind (takeOut_h hu hkey hm hsz (fun hk hx => gone _ hk hx) fun e h' hk hm' hs' => ?_)
      simp only [Option.isNone_some, Bool.false_eq_true, if_false]
      exact wpAny_bind (wpAny_letGo (wpAny_pure ⟨e.val, rfl, hsome _ _ _ (by rw [hk]; exact fun h => nomatch h) hm' hs'⟩))
  rcases hrest with rfl | ⟨x, rfl⟩
  · exact wpAny_pure (key none rfl)
  · exact wpAny_pure (key (some x) rfl)
theorem len_h {Q : Value → Shared → Prop} (lo : (d == sysModules) = false) (hm : s.heap.DictOfH knd d xs) (hfit : xs.length ≤ 1000) (h : ∀ t tk, Q (.int xs.length t) { s with toks := tk }) :
    wpAny (model prog w) A (call (.builtin "len") [.ref d]) Q E s := by
  refine Calls.call_function_entry kind_len plain_len entry_len (args_len1 _) ?_
  unfold Builtin.«len»
  refine wpAny_bind (m := oneArg "len" _) (wpAny_pure ?_)
  refine wpAny_bind (m := callSpecial? (.ref d) (Str.ofString "__len__")) (wpAny_callSpecial?_slot (name := Str.ofString "__len__") hm.typeIs F.slot_dict_len
    (wpAny_call_entry F.slot_dict_len hm.typeIs F.entry_dict_len ?_ (F.args_dict_len_1 _)))
  obtain ⟨o, es, ep, ho, hc, hd, he, his, hn⟩ := hm
  show wpAny _ _ (dictSize d >>= _) _ _ s
  unfold dictSize
  refine wpAny_bind (wpAny_bind (wpAny_dictEntries ho hd (wpAny_pure ?_)))
  show wpAny _ _ (Builtin.Dict.pendingCount d >>= _) _ _ s
  refine wpAny_bind (wpAny_pendingCount_other lo ?_)
  refine wpAny_ret_mkInt ?_
  rw [size_of_entries he]
  show wpAny _ _ _ _ _ { s with toks := s.toks + 1 }
  dsimp only
  rw [show ((xs.length : Int) + ((0 : Nat) : Int)) = (xs.length : Int) by simp]
  refine wpAny_bind (wpAny_holding (wpAny_pure ?_))
  refine wpAny_bind (wpAny_letGo ?_)
  show wpAny _ _ (if ((xs.length : Nat) : Int) < 0 then _ else _) _ _ _
  rw [if_neg (by omega)]
  show wpAny _ _ (if ((xs.length : Nat) : Int) ≥ 2 ^ 63 then _ else _) _ _ _
  rw [if_neg (by omega)]
  exact wpAny_bind (wpAny_mkInt (wpAny_pure ⟨_, rfl, h _ _⟩))
end
/-! walking over the keys of any dict -/
def RawAt (h : Heap) (d : Addr) (es : Array DictEntry) (ep : Nat) : Prop := ∃ o, h.get? d = some o ∧ o.ExactDict ∧ o.data = .dict es ep
theorem RawAt.typeIs {s : Shared} {d : Addr} {es ep} (x : RawAt s.heap d es ep) : s.TypeIs (.ref d) "dict" := let ⟨o, ho, hc, _⟩ := x; ⟨o, ho, hc.1⟩
theorem RawAt.at {h h' : Heap} {d : Addr} {es ep} (x : RawAt h d es ep) (e : ∀ o, h.get? d = some o → h'.get? d = some o) : RawAt h' d es ep := let ⟨o, ho, r⟩ := x; ⟨o, e _ ho, r⟩
theorem RawAt.lt {h : Heap} {d : Addr} {es ep} (x : RawAt h d es ep) : d < h.objs.size := let ⟨_, ho, _⟩ := x; Heap.lt_size ho
section
variable {prog : Program} {w : World} {A : Around} {E : Value → Shared → Prop} {s : Shared} {d it : Addr} {es : Array DictEntry} {ep i : Nat}
theorem raw_item {e : DictEntry} {Q : Option Value → Shared → Prop} (hit : s.heap.IsKeyIter it d i es.size ep) (hm : RawAt s.heap d es ep) (hx : es[i]? = some e)
    (hQ : ∀ h', h'.IsKeyIter it d (i + 1) es.size ep → Heap.SameBut it s.heap h' → Q (some e.key) { s with heap := h' }) : wpAny (model prog w) A (pyNext (.ref it)) Q E s := by
  obtain ⟨o, ho, hc, hd⟩ := id hit
  obtain ⟨od, hod, hcd, hdd⟩ := id hm
  unfold pyNext
  refine wpAny_bind (wpAny_attempt (wpAny_callSpecial?_slot (name := Str.ofString "__next__") hit.typeIs F.slot_dict_keyiterator_next
    (wpAny_call_entry F.slot_dict_keyiterator_next hit.typeIs F.entry_dict_keyiterator_next ?_ (F.args_dict_keyiterator_next_1 _))))
  refine wpAny_bind (wpAny_pure ?_)
  refine wpAny_bind ?_
  refine wpAny_bind ?_
  first | refine wpAny_bind (wpAny_typeNameOfWhole_keyiter hit.typeIs (wpAny_pure ?_)) | refine wpAny_bind (wpAny_typeNameOf_keyiter hit.typeIs (wpAny_pure ?_))
  refine wpAny_bind (wpAny_fieldsOf ho hd ?_)
  have hown : Builtin.Dict_items.ownsTuple "dict_keyiterator" = false := by decide
  simp only [hown, Bool.false_eq_true, if_false]
  show wpAny _ _ (if (Value.ref d == Value.none) = true then _ else _) _ _ s
  rw [if_neg (show ¬ ((Value.ref d == Value.none) = true) from Bool.false_ne_true)]
  refine wpAny_bind (wpAny_pure ?_)
  refine wpAny_bind (wpAny_dictEntries hod hdd ?_)
  rw [if_neg (by simp)]
  refine wpAny_bind (wpAny_pure ?_)
  refine wpAny_bind (wpAny_dictEpoch hod hdd ?_)
  rw [if_neg (by simp)]
  refine wpAny_pure ?_
  simp only [show ¬ ((i : Int) < 0) from by omega, if_false, Int.toNat_natCast, hx]
  refine wpAny_bind ?_
  first | refine wpAny_bind (wpAny_typeNameOfWhole_keyiter hit.typeIs (wpAny_pure ?_)) | refine wpAny_bind (wpAny_typeNameOf_keyiter hit.typeIs (wpAny_pure ?_))
  refine wpAny_bind (wpAny_isOneOf_keyiter hit.typeIs ?_)
  show wpAny _ _ (setField (.ref it) 1 (rawInt ((i : Int) + 1)) >>= _) _ _ s
  refine wpAny_bind (wpAny_setField ho hd (by simp) ?_)
  have hit' : (s.heap.update it (Obj.mapFields (·.setIfInBounds 1 (rawInt ((i : Int) + 1))))).IsKeyIter it d (i + 1) es.size ep :=
    ⟨_, Heap.get?_update_self _ ho (Obj.isFreed_of_fields (Obj.data_mapFields hd _)), (Obj.cls_mapFields ..).trans hc, by rw [Obj.data_mapFields hd]; simp [rawInt]⟩
  refine wpAny_bind (wpAny_holding ?_)
  refine wpAny_bind (wpAny_isOneOf_keyiter (s := { s with heap := s.heap.update it (Obj.mapFields (·.setIfInBounds 1 (rawInt ((i : Int) + 1)))) }) hit'.typeIs ?_)
  show wpAny _ _ (pure e.key) _ _ _
  exact wpAny_pure (wpAny_pure ⟨_, rfl, wpAny_pure (hQ _ hit' (Heap.SameBut.update ..))⟩)
theorem raw_end {Q : Option Value → Shared → Prop} (hh : A.handled = none) (hit : s.heap.IsKeyIter it d i es.size ep) (hm : RawAt s.heap d es ep) (hx : es.size ≤ i)
    (hQ : ∀ h', Heap.ExtBut it s.heap h' → Q none { s with heap := h' }) : wpAny (model prog w) A (pyNext (.ref it)) Q E s := by
  obtain ⟨o, ho, hc, hd⟩ := id hit
  obtain ⟨od, hod, hcd, hdd⟩ := id hm
  unfold pyNext
  refine wpAny_bind (wpAny_attempt (wpAny_callSpecial?_slot (name := Str.ofString "__next__") hit.typeIs F.slot_dict_keyiterator_next
    (wpAny_call_entry F.slot_dict_keyiterator_next hit.typeIs F.entry_dict_keyiterator_next ?_ (F.args_dict_keyiterator_next_1 _))))
  refine wpAny_bind (wpAny_pure ?_)
  refine wpAny_bind ?_
  refine wpAny_bind ?_
  first | refine wpAny_bind (wpAny_typeNameOfWhole_keyiter hit.typeIs (wpAny_pure ?_)) | refine wpAny_bind (wpAny_typeNameOf_keyiter hit.typeIs (wpAny_pure ?_))
  refine wpAny_bind (wpAny_fieldsOf ho hd ?_)
  have hown : Builtin.Dict_items.ownsTuple "dict_keyiterator" = false := by decide
  simp only [hown, Bool.false_eq_true, if_false]
  show wpAny _ _ (if (Value.ref d == Value.none) = true then _ else _) _ _ s
  rw [if_neg (show ¬ ((Value.ref d == Value.none) = true) from Bool.false_ne_true)]
  refine wpAny_bind (wpAny_pure ?_)
  refine wpAny_bind (wpAny_dictEntries hod hdd ?_)
  rw [if_neg (by simp)]
  refine wpAny_bind (wpAny_pure ?_)
  refine wpAny_bind (wpAny_dictEpoch hod hdd ?_)
  rw [if_neg (by simp)]
  refine wpAny_pure ?_
  simp only [show ¬ ((i : Int) < 0) from by omega, if_false, Int.toNat_natCast, Array.getElem?_eq_none hx]
  refine wpAny_bind ?_
  first | refine wpAny_bind (wpAny_typeNameOfWhole_keyiter hit.typeIs (wpAny_pure ?_)) | refine wpAny_bind (wpAny_typeNameOf_keyiter hit.typeIs (wpAny_pure ?_))
  show wpAny _ _ (setField (.ref it) 0 .none >>= _) _ _ s
  refine wpAny_bind (wpAny_setField ho hd (by simp) ?_)
  show wpAny _ _ (newExc (.type "StopIteration") [] >>= _) _ _ _
  refine wpAny_bind ?_
  simp only [newExc, newTuple]
  refine wpAny_bind (wpAny_newObj_type ?_ (by size_fits))
  refine wpAny_bind (m := firstArgMember _ _) (wpAny_of_eq (a := Value.none) (by first | rfl | (simp only [firstArgMember]; rfl)) ?_)
  refine wpAny_newObj_type ?_ (by size_fits)
  simp only [raiseNew]
  refine wpAny_bind (wpAny_handled ?_)
  rw [show A.in1.handled = none from hh]
  refine wpAny_bind (wpAny_pure (wpAny_throw ?_))
  refine wpAny_bind (wpAny_isInstance (T := "StopIteration") (b := true) ⟨_, Heap.get?_push_size _ rfl, rfl⟩ isSubtype_stop ?_)
  exact wpAny_pure (hQ _ (((Heap.SameBut.update ..).extBut.push _).push _))
theorem raw_walks (hh : A.handled = none) (I d : Addr) (hne : d ≠ I) (es : Array DictEntry) (ep : Nat) :
    Walks prog w A I [I, d] [I] es.size (fun i v => ∃ e, es[i]? = some e ∧ v = e.key) (fun i h => h.IsKeyIter I d i es.size ep ∧ RawAt h d es ep) where
  sub := fun b hb => by simp at hb; simp [hb]
  frame := fun _ _ _ st hk => ⟨st.1.at fun o e => hk I (by simp) o e, st.2.at fun o e => hk d (by simp) o e⟩
  item := fun i s Q E hi st hQ => by
    have hx : es[i]? = some es[i] := by simp [hi]
    refine raw_item st.1 st.2 hx fun h' hit' hs' => ?_
    exact hQ _ h' s.toks ⟨_, hx, rfl⟩ ⟨hit', st.2.at fun o e => hs'.extBut d o hne e⟩ fun b o hb e => hs'.extBut b o (fun h => hb (by simp [h])) e
  done := fun s Q E st hQ => raw_end hh st.1 st.2 (Nat.le_refl _) fun h' he' => hQ h' s.toks fun b o hb e => he' b o (fun h => hb (by simp [h])) e
  self := fun _ _ _ _ st hQ => wpAny_pyIter_keyiter st.1 hQ
theorem raw_iter {v : Addr} {Q : Value → Shared → Prop} (hv : KdlKeysView s.heap v d) (hm : RawAt s.heap d es ep)
    (hQ : Q (.ref s.heap.objs.size) { s with heap := s.heap.push { cls := .type "dict_keyiterator", data := .fields #[.ref d, .int 0 0, .int es.size 0, .int ep 0] } }) : wpAny (model prog w) A (pyIter (.ref v)) Q E s := by
  obtain ⟨ov, hov, hcv, hdv⟩ := id hv
  obtain ⟨o, ho, hc, hdat⟩ := id hm
  refine wpAny_pyIter_slot hv.typeIs kdl_slot_keys_iter (wpAny_call_entry kdl_slot_keys_iter hv.typeIs kdl_entry_keys_iter ?_ (kdl_args_keys_iter _))
  unfold Builtin.«dict_keys.__iter__»
  refine wpAny_bind (wpAny_pure ?_)
  refine wpAny_bind ?_
  unfold Builtin.Dict_items.dictOf
  refine wpAny_bind (wpAny_field hov hdv (x := .ref d) rfl (wpAny_pure ?_))
  refine wpAny_bind ?_
  unfold Builtin.Dict_items.newIterator
  refine wpAny_bind (wpAny_dictEntries ho hdat ?_)
  refine wpAny_bind (wpAny_dictEpoch ho hdat ?_)
  have hown : Builtin.Dict_items.ownsTuple "dict_keyiterator" = false := by decide
  simp only [hown, Bool.false_eq_true, if_false]
  refine wpAny_newObj_type (wpAny_pure ⟨_, rfl, "dict_keyiterator", _, ⟨_, Heap.get?_push_size _ rfl, rfl⟩, PySem.F.slot_dict_keyiterator_next.lookup, ?_⟩)
  simpa [rawInt] using hQ
theorem raw_src {r : Addr} : KdlSrc prog w "dict_keys" r d es.size (fun i v => ∃ e, es[i]? = some e ∧ v = e.key) (fun h => KdlKeysView h r d ∧ RawAt h d es ep) where
  type := fun _ hm => hm.1.typeIs
  there := fun _ hm => ⟨let ⟨_, ho, _⟩ := hm.1; Heap.lt_size ho, hm.2.lt⟩
  keep := fun _ _ hm hk => ⟨let ⟨o, ho, x⟩ := hm.1; ⟨o, hk r (.inl rfl) o ho, x⟩, hm.2.at fun o e => hk d (.inr rfl) o e⟩
  notList := by decide
  notTuple := by decide
  hint := fun _ _ _ _ hm hq => kdl_hint_keys hm.1.typeIs hq
  iter := fun _ _ hh hm => ⟨_, _, (fun _ _ hq => raw_iter hm.1 hm.2 hq), raw_walks hh _ d (Nat.ne_of_lt hm.2.lt) es ep, ⟨⟨_, Heap.get?_push_size _ rfl, rfl, rfl⟩, hm.2.at fun o e => Heap.get?_push_of_some _ e⟩⟩
theorem raw_keys {Q : Value → Shared → Prop} (lo : (d == sysModules) = false) (hm : RawAt s.heap d es ep) (h : Q (.ref s.heap.objs.size) { s with heap := s.heap.push { cls := .type "dict_keys", data := .fields #[.ref d] } }) :
    wpAny (model prog w) A (call (.builtin "dict.keys") [.ref d]) Q E s := by
  refine wpAny_call_entry PySem.F.slot_dict_keys hm.typeIs PySem.F.entry_dict_keys ?_ (PySem.F.args_dict_keys_1 _)
  refine wpAny_bind ?_
  unfold Builtin.Dict.noArgs
  refine wpAny_bind (wpAny_notOrdered_dict hm.typeIs ?_)
  show wpAny _ _ (pure d) _ _ s
  refine wpAny_pure ?_
  show wpAny _ _ (Builtin.Dict.showsAll d >>= _) _ _ s
  unfold Builtin.Dict.showsAll
  rw [if_neg (by rw [lo]; exact Bool.false_ne_true)]
  refine wpAny_bind (wpAny_pure ?_)
  exact wpAny_bind (wpAny_newObj_type (wpAny_pure ⟨_, rfl, h⟩))
end
/-! the law's table -/
abbrev TK := Bool × Nat
abbrev Tab := List (TK × Int × Int)
def bI (b : Bool) : Int := if b then 1 else 0
def kx (k : TK) : Int × List Str := (bI k.1, nmS k.2)
def tAt (tab : Tab) (k : TK) : Option (Int × Int) := (tab.find? fun q => decide (q.1 = k)).map (·.2)
def tDel (tab : Tab) (k : TK) : Tab := tab.filter fun q => !decide (q.1 = k)
def tPut (tab : Tab) (k : TK) (c e : Int) : Tab := if (tAt tab k).isSome then tab.map (fun q => if q.1 = k then (k, c, e) else q) else tab ++ [(k, c, e)]
def tLive (now : Int) (k : TK) (tab : Tab) : Tab := match tAt tab k with
  | some p => if p.2 ≤ now then tDel tab k else tab
  | none => tab
def tGet (now : Int) (k : TK) (tab : Tab) : Int × Int := (tAt tab k).getD (0, now)
theorem nmS_inj {j j' : Nat} (h : j < 3) (h' : j' < 3) (e : nmS j = nmS j') : j = j' := by
  have e := congrArg List.length e
  rcases j with _ | _ | _ | j <;> rcases j' with _ | _ | _ | j' <;> simp [nmS] at e <;> omega
theorem kx_inj {k k' : TK} (h : k.2 < 3) (h' : k'.2 < 3) (e : kx k = kx k') : k = k' := by
  obtain ⟨b, j⟩ := k
  obtain ⟨b', j'⟩ := k'
  have e1 : bI b = bI b' := congrArg Prod.fst e
  have e2 : nmS j = nmS j' := congrArg Prod.snd e
  have e3 : b = b' := by cases b <;> cases b' <;> first | rfl | exact absurd e1 (by decide)
  exact Prod.ext e3 (nmS_inj h h' e2)
structure KeyAt (rest : List (Addr × Obj)) (a : Addr) (k : TK) : Prop where
  lt : k.2 < 3
  here : ∃ t T vs, (a, tupO [.int (bI k.1) t, .ref T]) ∈ rest ∧ (T, tupO vs) ∈ rest ∧ NmV k.2 vs
def PairAt (rest : List (Addr × Obj)) (v : Value) (c e : Int) : Prop := ∃ p t1 t2, v = .ref p ∧ (p, tupO [.int c t1, .int e t2]) ∈ rest
structure EntOk (rest : List (Addr × Obj)) (x : (Int × List Str) × Addr × Value) (q : TK × Int × Int) : Prop where
  key : x.1 = kx q.1
  at' : KeyAt rest x.2.1 q.1
  val : PairAt rest x.2.2 q.2.1 q.2.2
inductive Ents (rest : List (Addr × Obj)) : List ((Int × List Str) × Addr × Value) → Tab → Prop
  | nil : Ents rest [] []
  | cons {x q xs tab} : EntOk rest x q → Ents rest xs tab → Ents rest (x :: xs) (q :: tab)
structure Hld (w : World) (o : Obj) (tab : Tab) (rest : List (Addr × Obj)) : Prop where
  nd : (tab.map (·.1)).Nodup
  here : ∃ es ep xs, o.ExactDict ∧ o.data = .dict es ep ∧ es.toList = xs.map (entryOfKey (ktKind PySem.Challenge.rw_jb0021_01.row.prog w)) ∧ Ents rest xs tab
theorem KeyAt.mono {r r' : List (Addr × Obj)} {a : Addr} {k : TK} (h : KeyAt r a k) (hs : ∀ p ∈ r, p ∈ r') : KeyAt r' a k := ⟨h.lt, let ⟨t, T, vs, x, y, z⟩ := h.here; ⟨t, T, vs, hs _ x, hs _ y, z⟩⟩
theorem PairAt.mono {r r' : List (Addr × Obj)} {v : Value} {c e : Int} (h : PairAt r v c e) (hs : ∀ p ∈ r, p ∈ r') : PairAt r' v c e := let ⟨p, t1, t2, x, y⟩ := h; ⟨p, t1, t2, x, hs _ y⟩
theorem Ents.mono {r r' : List (Addr × Obj)} {xs tab} (h : Ents r xs tab) (hs : ∀ p ∈ r, p ∈ r') : Ents r' xs tab := by
  induction h with
  | nil => exact .nil
  | cons e _ ih => exact .cons ⟨e.key, e.at'.mono hs, e.val.mono hs⟩ ih
theorem Hld.mono {w : World} {o : Obj} {tab : Tab} {r r' : List (Addr × Obj)} (h : Hld w o tab r) (hs : ∀ p ∈ r, p ∈ r') : Hld w o tab r' := ⟨h.nd, let ⟨es, ep, xs, a, b, c, d⟩ := h.here; ⟨es, ep, xs, a, b, c, d.mono hs⟩⟩
theorem Ents.lt {r : List (Addr × Obj)} {xs tab} (h : Ents r xs tab) : ∀ q ∈ tab, q.1.2 < 3 := by
  induction h with
  | nil => intro q hq; cases hq
  | cons e _ ih => intro q hq; rcases List.mem_cons.mp hq with rfl | hq; exact e.at'.lt; exact ih q hq
theorem Ents.len {r : List (Addr × Obj)} {xs tab} (h : Ents r xs tab) : xs.length = tab.length := by
  induction h with
  | nil => rfl
  | cons _ _ ih => simp [ih]
theorem Ents.dec {r : List (Addr × Obj)} {x q} (e : EntOk r x q) {k : TK} (hk : k.2 < 3) : decide (x.1 = kx k) = decide (q.1 = k) := by
  rw [e.key]
  exact decide_eq_decide.mpr ⟨fun h => kx_inj e.at'.lt hk h, fun h => by rw [h]⟩
theorem Ents.gone {r : List (Addr × Obj)} {xs tab} (h : Ents r xs tab) {k : TK} (hk : k.2 < 3) (ht : tAt tab k = none) : atKey xs (kx k) = none := by
  induction h with
  | nil => rfl
  | @cons x q xs tab e _ ih =>
    unfold atKey; unfold tAt at ht
    rw [List.find?_cons, Ents.dec e hk]
    rw [List.find?_cons] at ht
    cases hd : decide (q.1 = k) with
    | true => rw [hd] at ht; simp at ht
    | false => rw [hd] at ht; exact ih ht
theorem Ents.got {r : List (Addr × Obj)} {xs tab} (h : Ents r xs tab) {k : TK} (hk : k.2 < 3) {c e : Int} (ht : tAt tab k = some (c, e)) : ∃ p, atKey xs (kx k) = some p ∧ PairAt r p.2 c e := by
  induction h with
  | nil => cases ht
  | @cons x q xs tab en _ ih =>
    unfold atKey; unfold tAt at ht
    rw [List.find?_cons, Ents.dec en hk]
    rw [List.find?_cons] at ht
    cases hd : decide (q.1 = k) with
    | true =>
      rw [hd] at ht
      simp only [Option.map_some, Option.some.injEq] at ht
      exact ⟨x.2, rfl, by have := en.val; rw [ht] at this; exact this⟩
    | false => rw [hd] at ht; exact ih ht
theorem Ents.del {r : List (Addr × Obj)} {xs tab} (h : Ents r xs tab) {k : TK} (hk : k.2 < 3) : Ents r (delH xs (kx k)) (tDel tab k) := by
  induction h with
  | nil => exact .nil
  | @cons x q xs tab e _ ih =>
    unfold delH tDel at *
    rw [List.filter_cons, List.filter_cons, Ents.dec e hk]
    cases hd : decide (q.1 = k) with
    | true => simpa using ih
    | false => simpa using .cons e ih
theorem Ents.app {r : List (Addr × Obj)} {xs ys tab tab'} (h : Ents r xs tab) (h' : Ents r ys tab') : Ents r (xs ++ ys) (tab ++ tab') := by
  induction h with
  | nil => exact h'
  | cons e _ ih => exact .cons e ih
theorem Ents.put {r : List (Addr × Obj)} {xs tab} (h : Ents r xs tab) {a : Addr} {k : TK} {v : Value} {c e : Int} (hk : KeyAt r a k) (hv : PairAt r v c e) : Ents r (storedH xs (kx k) a v) (tPut tab k c e) := by
  unfold storedH tPut
  have hi : (atKey xs (kx k)).isSome = (tAt tab k).isSome := by
    cases ht : tAt tab k with
    | none => rw [h.gone hk.lt ht]; rfl
    | some p => obtain ⟨_, e1, _⟩ := h.got (c := p.1) (e := p.2) hk.lt ht; rw [e1]; rfl
  rw [hi]
  split
  · rename_i hh
    clear hi hh
    induction h with
    | nil => exact .nil
    | @cons x q xs tab en _ ih =>
      rw [List.map_cons, List.map_cons]
      refine .cons ?_ ih
      have hd := Ents.dec en hk.lt
      by_cases hq : q.1 = k
      · rw [decide_eq_true hq] at hd
        have hx := of_decide_eq_true hd
        unfold putAt
        rw [if_pos hx, if_pos hq]
        exact ⟨hx, by have := en.at'; rw [hq] at this; exact this, hv⟩
      · rw [decide_eq_false hq] at hd
        have hx := of_decide_eq_false hd
        unfold putAt
        rw [if_neg hx, if_neg hq]
        exact en
  · exact h.app (.cons ⟨rfl, hk, hv⟩ .nil)
theorem Ents.nodup {r : List (Addr × Obj)} {xs tab} (h : Ents r xs tab) (nd : (tab.map (·.1)).Nodup) : (xs.map (·.1)).Nodup := by
  induction h with
  | nil => exact List.nodup_nil
  | @cons x q xs tab e hs ih =>
    rw [List.map_cons, List.nodup_cons] at nd ⊢
    refine ⟨fun hm => nd.1 ?_, ih nd.2⟩
    clear ih nd
    induction hs with
    | nil => cases hm
    | @cons y u ys tb e' _ ih' =>
      rw [List.map_cons] at hm ⊢
      rcases List.mem_cons.mp hm with hm | hm
      · rw [e.key, e'.key] at hm
        rw [kx_inj e.at'.lt e'.at'.lt hm]
        exact List.mem_cons_self ..
      · exact List.mem_cons_of_mem _ (ih' hm)
theorem tDel_nd {tab : Tab} {k : TK} (nd : (tab.map (·.1)).Nodup) : ((tDel tab k).map (·.1)).Nodup := nd.sublist (List.Sublist.map _ List.filter_sublist)
theorem tPut_nd {tab : Tab} {k : TK} {c e : Int} (nd : (tab.map (·.1)).Nodup) : ((tPut tab k c e).map (·.1)).Nodup := by
  unfold tPut
  split
  · rw [List.map_map]
    rw [show ((fun x : TK × Int × Int => x.1) ∘ fun q => if q.1 = k then (k, c, e) else q) = (fun x => x.1) from by
      funext q
      by_cases hq : q.1 = k
      · simp [hq]
      · simp [hq]]
    exact nd
  · rename_i h
    rw [List.map_append, List.nodup_append]
    refine ⟨nd, by simp, ?_⟩
    intro x hx y hy
    simp only [List.map_cons, List.map_nil, List.mem_singleton] at hy
    subst hy
    rintro rfl
    obtain ⟨q, hq, rfl⟩ := List.mem_map.mp hx
    refine h ?_
    unfold tAt
    rw [Option.isSome_map, List.find?_isSome]
    exact ⟨q, hq, by simp⟩
theorem tLive_nd {tab : Tab} {k : TK} {now : Int} (nd : (tab.map (·.1)).Nodup) : ((tLive now k tab).map (·.1)).Nodup := by
  unfold tLive
  split
  · split
    · exact tDel_nd nd
    · exact nd
  · exact nd
theorem nm_items {prog : Program} {w : World} {j : Nat} {vs : List Value} (h : NmV j vs) : ItemsAre (PySem.strKind prog w) (nmS j) vs := by
  cases h
  · exact .nil
  · exact .cons (strKind_is _ _ _ _) .nil
  · exact .cons (strKind_is _ _ _ _) (.cons (strKind_is _ _ _ _) .nil)
theorem KeyAt.is {prog : Program} {w : World} {h₀ h : Heap} {L a : Addr} {news rest : List (Addr × Obj)} {k : TK} (x : KeyAt rest a k) (N : News h₀ L h news) (hs : ∀ p ∈ rest, p ∈ news) : (ktKind prog w).is h (kx k) a := by
  obtain ⟨t, T, vs, ha, hT, hv⟩ := x.here
  exact ⟨_, t, T, _, (N _ (hs _ ha)).1, rfl, rfl, _, _, _, (N _ (hs _ hT)).1, rfl, rfl, nm_items hv⟩
section
variable {w : World} {h₀ : Heap} {L d a : Addr} {m : Str → Option Value} {news rest : List (Addr × Obj)} {o : Obj} {tab : Tab} {k : TK} {A : Around} {E : Value → Shared → Prop} {s : Shared}
theorem Hld.of {es : Array DictEntry} {ep : Nat} {xs} {h : Heap} (N : News h₀ L h news) (hs : ∀ p ∈ rest, p ∈ news) (hp : (d, o) ∈ news) (hc : o.ExactDict) (hd : o.data = .dict es ep) (he : es.toList = xs.map (entryOfKey (ktKind PySem.Challenge.rw_jb0021_01.row.prog w))) (hx : Ents rest xs tab) (nd : (tab.map (·.1)).Nodup) :
    h.DictOfH (ktKind PySem.Challenge.rw_jb0021_01.row.prog w) d xs := by
  refine ⟨o, es, ep, (N _ hp).1, hc, hd, he, ?_, hx.nodup nd⟩
  clear he nd
  induction hx with
  | nil => intro x hx; cases hx
  | cons e _ ih =>
    intro x hx
    rcases List.mem_cons.mp hx with rfl | hx
    · rw [e.key]; exact e.at'.is N hs
    · exact ih x hx
theorem Hld.at {h : Heap} (H : Hld w o tab rest) (N : News h₀ L h news) (hs : ∀ p ∈ rest, p ∈ news) (hp : (d, o) ∈ news) : ∃ xs, h.DictOfH (ktKind PySem.Challenge.rw_jb0021_01.row.prog w) d xs ∧ Ents rest xs tab := by
  obtain ⟨nd, es, ep, xs, hc, hd, he, hx⟩ := H
  exact ⟨xs, Hld.of N hs hp hc hd he hx nd, hx⟩
theorem Hld.back {h : Heap} {xs} (hm : h.DictOfH (ktKind PySem.Challenge.rw_jb0021_01.row.prog w) d xs) (hx : Ents rest xs tab) (nd : (tab.map (·.1)).Nodup) : ∃ o', h.get? d = some o' ∧ Hld w o' tab rest := by
  obtain ⟨o', es, ep, ho, hc, hd, he, _, _⟩ := hm
  exact ⟨o', ho, nd, es, ep, xs, hc, hd, he, hx⟩
theorem upd_head {h h' : Heap} {o' : Obj} (F : Fr h₀ L h m) (N : News h₀ L h ((d, o) :: news)) (hn : ∀ p ∈ news, p.1 ≠ d) (hs : Heap.SameBut d h h') (ho : h'.get? d = some o') : Fr h₀ L h' m ∧ News h₀ L h' ((d, o') :: news) := by
  have hd := N (d, o) (List.mem_cons_self ..)
  refine ⟨F.change hs hd.2.1 hd.2.2, fun p hp => ?_⟩
  rcases List.mem_cons.mp hp with rfl | hp
  · exact ⟨ho, hd.2.1, hd.2.2⟩
  · have hq := N p (List.mem_cons_of_mem _ hp)
    exact ⟨(hs.2 p.1 (hn p hp)).trans hq.1, hq.2⟩
theorem h_in {b : Bool} {Q : Value → Shared → Prop} (hu : A.units + 5 < cLine) (N : News h₀ L s.heap news) (hs : ∀ p ∈ rest, p ∈ news) (hp : (d, o) ∈ news) (H : Hld w o tab rest) (lo : (d == sysModules) = false) (hk : KeyAt rest a k) (hb : (tAt tab k).isSome = b)
    (h : ∀ tk, Q (.bool b) { s with toks := tk }) : wpAny (model PySem.Challenge.rw_jb0021_01.row.prog w) A (compareOp .In (.ref a) (.ref d)) Q E s := by
  obtain ⟨xs, hm, hx⟩ := H.at N hs hp
  refine wpAny_in_heap (knd := ktKind _ w) (show A.units + 1 + 4 < cLine by omega) (hk.is N hs) lo hm ?_
  have e : (atKey xs (kx k)).isSome = b := by
    rw [← hb]
    cases ht : tAt tab k with
    | none => rw [hx.gone hk.lt ht]; rfl
    | some p => obtain ⟨_, e1, _⟩ := hx.got (c := p.1) (e := p.2) hk.lt ht; rw [e1]; rfl
  rw [e]; exact h _
theorem h_item {c e : Int} {value slice : Expr} {Q : Value → Shared → Prop} (hu : A.units + 5 < cLine) (N : News h₀ L s.heap news) (hs : ∀ p ∈ rest, p ∈ news) (hp : (d, o) ∈ news) (H : Hld w o tab rest) (hk : KeyAt rest a k) (hb : tAt tab k = some (c, e))
    (h : ∀ v tk, PairAt rest v c e → Q v { s with toks := tk })
    (hsub : subscripted slice false (.ref d) (.ref a) = operate [.ref d, .ref a] (getItem (.ref d) (.ref a)) := by with_unfolding_all rfl) (hg : ∀ r, letTemporaryGo value (.ref d) r = pure () := by intro _; with_unfolding_all rfl) :
    wpAny (model PySem.Challenge.rw_jb0021_01.row.prog w) A (subscriptTail value slice (.ref d) (.ref a)) Q E s := by
  obtain ⟨xs, hm, hx⟩ := H.at N hs hp
  obtain ⟨p, e1, e2⟩ := hx.got hk.lt hb
  exact subscriptTail_builtin hm.typeIs slot_dict_getitem.lookup (wpAny_getItem_heap (knd := ktKind _ w) (show A.units + 1 + 4 < cLine by omega) (hk.is N hs) hm e1 (h _ _ e2)) hsub hg
theorem h_get {now : Int} {tn : Tok} {p : Addr} {t0 : Tok} {Q : Value → Shared → Prop} (hu : A.units + 5 < cLine) (N : News h₀ L s.heap news) (hs : ∀ p ∈ rest, p ∈ news) (hp : (d, o) ∈ news) (H : Hld w o tab rest) (lo : (d == sysModules) = false) (hk : KeyAt rest a k) (hd : (p, tupO [.int 0 t0, .int now tn]) ∈ rest)
    (h : ∀ v tk, PairAt rest v (tGet now k tab).1 (tGet now k tab).2 → Q v { s with toks := tk }) : wpAny (model PySem.Challenge.rw_jb0021_01.row.prog w) A (call (.builtin "dict.get") [.ref d, .ref a, .ref p]) Q E s := by
  obtain ⟨xs, hm, hx⟩ := H.at N hs hp
  refine call_meetsIn PySem.F.slot_dict_get hm.typeIs PySem.F.entry_dict_get (PySem.F.args_dict_get_3 _ _ _) (meetsH_dict_get_default (ktKind _ w) d a lo (.ref p)) ⟨show A.units + 1 + 4 < cLine by omega, kx k, xs, hk.is N hs, hm, h _ _ ?_⟩
  unfold tGet
  cases ht : tAt tab k with
  | none => rw [hx.gone hk.lt ht]; exact ⟨p, t0, tn, rfl, hd⟩
  | some q => obtain ⟨_, e1, e2⟩ := hx.got (c := q.1) (e := q.2) hk.lt ht; rw [e1]; exact e2
theorem h_set {v : Value} {c e : Int} {Q : Unit → Shared → Prop} (hu : A.units + 5 < cLine) (F : Fr h₀ L s.heap m) (N : News h₀ L s.heap ((d, o) :: news)) (hsn : ∀ p ∈ rest, p ∈ news) (hn : ∀ p ∈ news, p.1 ≠ d) (H : Hld w o tab rest) (hk : KeyAt rest a k) (hv : PairAt rest v c e) (hz : tab.length ≤ 1000)
    (h : ∀ o' h' tk, Fr h₀ L h' m → News h₀ L h' ((d, o') :: news) → Hld w o' (tPut tab k c e) rest → Q () { s with heap := h', toks := tk }) : wpAny (model PySem.Challenge.rw_jb0021_01.row.prog w) A (setItem (.ref d) (.ref a) v) Q E s := by
  have hs : ∀ p ∈ rest, p ∈ (d, o) :: news := fun p hp => List.mem_cons_of_mem _ (hsn p hp)
  obtain ⟨xs, hm, hx⟩ := H.at N hs (List.mem_cons_self ..)
  refine wpAny_setItem_heap (hsz := by rw [hx.len, sizeLine_eq]; omega) (knd := ktKind _ w) (show A.units + 1 + 4 < cLine by omega) (hk.is N hs) hm fun h' hm' hs' => ?_
  obtain ⟨o', ho, H'⟩ := Hld.back hm' (hx.put hk hv) (tPut_nd H.nd)
  obtain ⟨F', N'⟩ := upd_head F N hn hs' ho
  exact h o' h' _ F' N' H'
theorem h_pop {more : List Value} {Q : Value → Shared → Prop} (hmore : (more = [] ∧ tAt tab k ≠ none) ∨ ∃ x, more = [x]) (hu : A.units + 5 < cLine) (F : Fr h₀ L s.heap m) (N : News h₀ L s.heap ((d, o) :: news)) (hsn : ∀ p ∈ rest, p ∈ news) (hn : ∀ p ∈ news, p.1 ≠ d) (H : Hld w o tab rest) (lo : (d == sysModules) = false) (hk : KeyAt rest a k) (hz : tab.length ≤ 1000)
    (h : ∀ v o' h' tk, Fr h₀ L h' m → News h₀ L h' ((d, o') :: news) → Hld w o' (tDel tab k) rest → Q v { s with heap := h', toks := tk }) : wpAny (model PySem.Challenge.rw_jb0021_01.row.prog w) A (call (.builtin "dict.pop") (.ref d :: .ref a :: more)) Q E s := by
  have hs : ∀ p ∈ rest, p ∈ (d, o) :: news := fun p hp => List.mem_cons_of_mem _ (hsn p hp)
  obtain ⟨xs, hm, hx⟩ := H.at N hs (List.mem_cons_self ..)
  have hx' := hx.del hk.lt
  refine pop_h (knd := ktKind _ w) (hmore.imp (·.1) id) ?_ lo (show A.units + 1 + 4 < cLine by omega) (hk.is N hs) hm (by rw [hx.len, sizeLine_eq]; omega) (fun hno => ?_) fun v h' tk _ hm' hs' => ?_
  · rcases hmore with ⟨rfl, _⟩ | ⟨x, rfl⟩
    · exact PySem.F.args_dict_pop_2 _ _
    · exact PySem.F.args_dict_pop_3 _ _ _
  · rcases hmore with ⟨rfl, hne⟩ | ⟨x, rfl⟩
    · exfalso
      cases ht : tAt tab k with
      | none => exact hne ht
      | some p => obtain ⟨_, e1, _⟩ := hx.got (c := p.1) (e := p.2) hk.lt ht; rw [hno] at e1; cases e1
    · refine ⟨x, rfl, fun tk hxs => h x o s.heap tk F N ?_⟩
      obtain ⟨o', ho, H'⟩ := Hld.back hm (by rw [hxs] at hx'; exact hx') (tDel_nd H.nd)
      obtain rfl : o = o' := Option.some.inj ((N _ (List.mem_cons_self ..)).1.symm.trans ho)
      exact H'
  · obtain ⟨o', ho, H'⟩ := Hld.back hm' hx' (tDel_nd H.nd)
    obtain ⟨F', N'⟩ := upd_head F N hn hs' ho
    exact h v o' h' tk F' N' H'
theorem h_len {Q : Value → Shared → Prop} (N : News h₀ L s.heap news) (hs : ∀ p ∈ rest, p ∈ news) (hp : (d, o) ∈ news) (H : Hld w o tab rest) (lo : (d == sysModules) = false) (hz : tab.length ≤ 1000)
    (h : ∀ t tk, Q (.int tab.length t) { s with toks := tk }) : wpAny (model PySem.Challenge.rw_jb0021_01.row.prog w) A (call (.builtin "len") [.ref d]) Q E s := by
  obtain ⟨xs, hm, hx⟩ := H.at N hs hp
  exact len_h lo hm (by rw [hx.len]; exact hz) fun t tk => by rw [hx.len]; exact h t tk
theorem h_meth {name : Str} {id : String} {pl : Sem Bool} {Q : Value × List Value → Shared → Prop} (slot : Slot "dict" name id) (hty : typeOf (.builtin id) = pure (.type "method_descriptor")) (N : News h₀ L s.heap news) (hs : ∀ p ∈ rest, p ∈ news) (hp : (d, o) ∈ news) (H : Hld w o tab rest)
    (h : Q (.builtin id, [.ref d]) s) : wpAny (model PySem.Challenge.rw_jb0021_01.row.prog w) A (getMethod (.ref d) name pl) Q E s := by
  obtain ⟨xs, hm, hx⟩ := H.at N hs hp
  exact getMethod_builtin hm.typeIs PySem.F.plainAttrs_dict slot hty (dictOfH_noDict hm) h
theorem h_keys {Q : Value → Shared → Prop} (F : Fr h₀ L s.heap m) (N : News h₀ L s.heap news) (hp : (d, o) ∈ news) (H : Hld w o tab rest) (lo : (d == sysModules) = false)
    (h : ∀ (D : Addr) h', Fr h₀ L h' m → News h₀ L h' ((D, { cls := .type "dict_keys", data := .fields #[.ref d] }) :: news) → (∀ q ∈ news, q.1 < D) → Q (.ref D) { s with heap := h' }) :
    wpAny (model PySem.Challenge.rw_jb0021_01.row.prog w) A (call (.builtin "dict.keys") [.ref d]) Q E s := by
  obtain ⟨nd, es, ep, xs, hc, hd, he, hx⟩ := H
  exact raw_keys lo ⟨o, (N _ hp).1, hc, hd⟩ (h _ _ (F.push _) (News.push F N _) fun q hq => Heap.lt_size (N q hq).1)
theorem Ents.atE {xs tab} (hx : Ents rest xs tab) : ∀ {i : Nat} {x}, xs[i]? = some x → ∃ q, tab[i]? = some q ∧ EntOk rest x q := by
  induction hx with
  | nil => intro i x hi; simp at hi
  | @cons y q xs tab e _ ih =>
    intro i x hi
    cases i with
    | zero => simp only [List.getElem?_cons_zero, Option.some.injEq] at hi; subst hi; exact ⟨q, rfl, e⟩
    | succ i => simp only [List.getElem?_cons_succ] at hi ⊢; exact ih hi
theorem h_list {v : Addr} {Q : Value → Shared → Prop} (hh : A.handled = none) (F : Fr h₀ L s.heap m) (N : News h₀ L s.heap news) (hv : (v, { cls := .type "dict_keys", data := .fields #[.ref d] }) ∈ news) (hp : (d, o) ∈ news) (H : Hld w o tab rest) (hz : tab.length ≤ 1000)
    (h : ∀ (B : Addr) c h' tk (vs : List Value), vs.length = tab.length → (∀ (i : Nat) (x : Value), vs[i]? = some x → ∃ (q : TK × Int × Int) (a : Addr), tab[i]? = some q ∧ x = .ref a ∧ KeyAt rest a q.1) → Fr h₀ L h' m → News h₀ L h' ((B, listOf vs.toArray c) :: news) → (∀ q ∈ news, q.1 < B) → Q (.ref B) { s with heap := h', toks := tk }) :
    wpAny (model PySem.Challenge.rw_jb0021_01.row.prog w) A (call (.type "list") [.ref v]) Q E s := by
  obtain ⟨nd, es, ep, xs, hc, hd, he, hx⟩ := H
  have hes : es.size = tab.length := by rw [size_of_entries he, hx.len]
  refine kdl_N (raw_src (d := d) (es := es) (ep := ep)) hh F N ⟨⟨_, (N _ hv).1, rfl, rfl⟩, ⟨o, (N _ hp).1, hc, hd⟩⟩ (by rw [hes, sizeLine_eq]; omega) fun B c h' tk vs F' N' l1 hl hv => ?_
  refine h B c h' tk vs (by rw [hl, hes]) (fun i x hi => ?_) F' N' l1
  obtain ⟨en, h1, rfl⟩ := hv i x hi
  rw [entry_at he i] at h1
  obtain ⟨y, h2, rfl⟩ := Option.map_eq_some_iff.mp h1
  obtain ⟨q, h3, e⟩ := hx.atE h2
  exact ⟨q, y.2.1, h3, rfl, e.at'⟩
end
theorem Hld.empty {w : World} {o : Obj} {rest : List (Addr × Obj)} {K' : Type} [DecidableEq K'] {knd' : KeyKind PySem.Challenge.rw_jb0021_01.row.prog w K'} (hd : o.IsDictOf knd' []) : Hld w o [] rest := by
  obtain ⟨es, ep, hc, hdat, _, hp, _⟩ := hd
  exact ⟨List.nodup_nil, es, ep, [], hc, hdat, List.length_eq_zero_iff.mp hp.length, .nil⟩
section
local macro_rules | `(tactic| k_mem) => `(tactic| (change _ ∈ (_ : List (Addr × Obj)); assumption))
local macro_rules | `(tactic| walk_at "jb_find") => `(tactic| (first | exact List.mem_cons_self .. | assumption | (refine List.mem_cons_of_mem _ ?_; walk_at "jb_find") | (refine List.mem_append_left _ ?_; walk_at "jb_find") | (refine List.mem_append_right _ ?_; walk_at "jb_find")))
local macro_rules | `(tactic| walk_at "jb_in") => `(tactic| (intro q hq; (repeat' (first | (rcases List.mem_cons.mp hq with hq | hq) | (rcases List.mem_append.mp hq with hq | hq))); (all_goals (first | subst hq | skip)); (all_goals (first | (exact absurd hq List.not_mem_nil) | walk_at "jb_find"))))
section
local macro_rules | `(tactic| walk_at "jb_enter") => `(tactic| (refine' code_def ?k1 ?k2 ?k3 ?k4 ?k5 ?kA ?kF ?kK ?k6 ?k7 ?k8 ?k9 ?kB ?_ ?c2 ?c3 ?c4 ?c5; (case kA => exact rfl); (case kF => exact rfl); (case kK => assumption); (case k1 => k_asm); (case k2 => k_asm); (case k3 => k_asm); (case k4 => k_asm); (case k5 => k_asm); (case k6 => k_is); (case k7 => k_is); (case k8 => ktr_room); (case k9 => first | exact BindsTo.of_eq rfl | exact binds_K (by k_in) rfl (by k_is) rfl rfl rfl); (case c5 => decide); (case kB => exact locs rfl); (case c2 => exact rfl); (case c3 => exact rfl); (case c4 => exact rfl); k_whole; intro g' L' h' FG' F' N' B' X' T'; (try dsimp only); (try k_lift B'); (try k_fold)))
theorem h_get2 {w : World} {h₀ : Heap} {L d a p : Addr} {rest news : List (Addr × Obj)} {o : Obj} {tab : Tab} {k : TK} {A : Around} {E : Value → Shared → Prop} {s : Shared} {now : Int} {tn t0 : Tok} {Q : Value → Shared → Prop} (hu : A.units + 5 < cLine) (N : News h₀ L s.heap ((p, { cls := .type "tuple", data := .seq #[.int 0 t0, .int now tn] }) :: (d, o) :: news)) (hsn : ∀ p ∈ rest, p ∈ news) (H : Hld w o tab rest) (lo : (d == sysModules) = false) (hk : KeyAt rest a k)
    (h : ∀ v tk, PairAt ((p, tupO [.int 0 t0, .int now tn]) :: rest) v (tGet now k tab).1 (tGet now k tab).2 → Q v { s with toks := tk }) : wpAny (model PySem.Challenge.rw_jb0021_01.row.prog w) A (call (.builtin "dict.get") [.ref d, .ref a, .ref p]) Q E s := by
  refine h_get (rest := (p, tupO [.int 0 t0, .int now tn]) :: rest) hu N ?_ (by simp) (H.mono fun p hp => List.mem_cons_of_mem _ hp) lo (hk.mono fun p hp => List.mem_cons_of_mem _ hp) (List.mem_cons_self ..) h
  intro q hq
  rcases List.mem_cons.mp hq with rfl | hq
  · exact List.mem_cons_self ..
  · exact List.mem_cons_of_mem _ (List.mem_cons_of_mem _ (hsn q hq))
theorem live_tell (w : World) (d a : Nat) (o : Obj) (tab : Tab) (k : TK) (now : Int) (tn : Tok) (news rest : List (Addr × Obj)) (hsn : ∀ p ∈ rest, p ∈ news) (H : Hld w o tab rest) (hn : ∀ p ∈ news, p.1 ≠ d) (lo : (d == sysModules) = false) (hk : KeyAt rest a k) (hz : tab.length ≤ 1000) :
    Tell w 2 592 [.ref d, .ref a, .int now tn] [] ((d, o) :: news) fun v l => ∃ o' P t0 tn', l = (d, o') :: (P, tupO [.int 0 t0, .int now tn']) :: news ∧ (∀ q ∈ (d, o) :: news, @LT.lt Nat _ q.1 P) ∧ Hld w o' (tLive now k tab) rest ∧ PairAt ((P, tupO [.int 0 t0, .int now tn']) :: rest) v (tGet now k (tLive now k tab)).1 (tGet now k (tLive now k tab)).2 := by
  intro p loose mean mg mb dp un gd cn cs ca ccd cl outer A₀ base h₀ L m s Q E B F X N T hkk hd hu hret
  revert X; k_fill; intro X
  refine wpAny_call ?_
  k_dflt (walk_at "jb_enter")
  have hs : ∀ p ∈ rest, p ∈ (d, o) :: news := fun p hp => List.mem_cons_of_mem _ (hsn p hp)
  have fin : ∀ (o' : Obj) (P : Nat) (t0 tn' : Tok) (h' : Heap) (tk' : Nat), Hld w o' (tLive now k tab) rest → (∀ q ∈ (d, o') :: news, @LT.lt Nat _ q.1 P) → ∀ v, PairAt ((P, tupO [.int 0 t0, .int now tn']) :: rest) v (tGet now k (tLive now k tab)).1 (tGet now k (tLive now k tab)).2 →
      Fr h₀ L h' m → News h₀ L h' ((P, tupO [.int 0 t0, .int now tn']) :: (d, o') :: news) → Q v { s with heap := h', toks := tk' } := by
    intro o' P t0 tn' h' tk' H' hP v hv F' N'
    refine hret v _ h' tk' ⟨o', P, t0, tn', rfl, ?_, H', hv⟩ F' (news_sub N' ?_)
    · intro q hq
      rcases List.mem_cons.mp hq with rfl | hq
      · exact hP (d, o') (List.mem_cons_self ..)
      · exact hP q (List.mem_cons_of_mem _ hq)
    · walk_at "jb_in"
  cases ht : tAt tab k with
  | none =>
    have e0 : tLive now k tab = tab := by unfold tLive; rw [ht]
    k_steps
    refine h_in (b := false) (show un + 3 + 5 < cLine by omega) ‹News _ _ _ _› hs (List.mem_cons_self ..) H lo hk (by rw [ht]; rfl) fun tk => ?_
    k_steps
    refine h_meth PySem.F.slot_dict_get PySem.F.type_dict_get ‹News _ _ _ _› hs (List.mem_cons_self ..) H ?_
    k_steps
    rename_i D1 h1 F1 N1 l1
    refine h_get2 (show un + 3 + 5 < cLine by omega) N1 hsn H lo hk fun v tk hv => ?_
    k_steps
    rw [e0] at fin
    exact fin _ _ _ _ _ _ H (fun q hq => (List.mem_cons.mp hq).elim (fun e => by rw [e]; exact l1.1) (kst_ltOf l1.2 q)) _ hv (by k_asm) (by k_asm)
  | some q =>
    obtain ⟨c, e⟩ := q
    k_steps
    refine h_in (b := true) (show un + 3 + 5 < cLine by omega) ‹News _ _ _ _› hs (List.mem_cons_self ..) H lo hk (by rw [ht]; rfl) fun tk => ?_
    k_steps
    refine h_item (c := c) (e := e) (show un + 3 + 5 < cLine by omega) ‹News _ _ _ _› hs (List.mem_cons_self ..) H hk ht fun v tk hv => ?_
    obtain ⟨p, t1, t2, rfl, hp⟩ := hv
    have hp : (p, ({ cls := .type "tuple", data := .seq #[.int c t1, .int e t2] } : Obj)) ∈ news := hsn _ hp
    k_steps
    · have e1 : e ≤ now := by assumption
      have e0 : tLive now k tab = tDel tab k := by unfold tLive; rw [ht]; exact if_pos e1
      refine h_meth PySem.F.slot_dict_pop PySem.F.type_dict_pop ‹News _ _ _ _› hs (List.mem_cons_self ..) H ?_
      k_steps
      refine h_pop (more := []) (.inl ⟨rfl, by rw [ht]; exact fun h => nomatch h⟩) (show un + 3 + 5 < cLine by omega) ‹Fr _ _ _ _› ‹News _ _ _ _› hsn hn H lo hk hz fun v o' h' tk F' N' H' => ?_
      have hs' : ∀ p ∈ rest, p ∈ (d, o') :: news := fun p hp => List.mem_cons_of_mem _ (hsn p hp)
      k_steps
      refine h_meth PySem.F.slot_dict_get PySem.F.type_dict_get ‹News _ _ _ _› hs' (List.mem_cons_self ..) H' ?_
      k_steps
      rename_i D1 h1 F1 N1 l1
      refine h_get2 (show un + 3 + 5 < cLine by omega) N1 hsn H' lo hk fun v tk hv => ?_
      k_steps
      rw [e0] at fin
      exact fin _ _ _ _ _ _ H' (fun q hq => (List.mem_cons.mp hq).elim (fun e => by rw [e]; exact l1.1) (kst_ltOf l1.2 q)) _ hv (by k_asm) (by k_asm)
    · have e1 : ¬ e ≤ now := by assumption
      have e0 : tLive now k tab = tab := by unfold tLive; rw [ht]; exact if_neg e1
      refine h_meth PySem.F.slot_dict_get PySem.F.type_dict_get ‹News _ _ _ _› hs (List.mem_cons_self ..) H ?_
      k_steps
      rename_i D1 h1 F1 N1 l1
      refine h_get2 (show un + 3 + 5 < cLine by omega) N1 hsn H lo hk fun v tk hv => ?_
      k_steps
      rw [e0] at fin
      exact fin _ _ _ _ _ _ H (fun q hq => (List.mem_cons.mp hq).elim (fun e => by rw [e]; exact l1.1) (kst_ltOf l1.2 q)) _ hv (by k_asm) (by k_asm)
end
/-! the plain law: the store's tables are the law's -/
section
variable {am mu : Bool → Int}
def kap (am mu : Bool → Int) (k : TK) : Str := keyI k.1 k.2 (am k.1) (mu k.1)
theorem kap_inj {k k' : TK} (h : k.2 < 3) (h' : k'.2 < 3) (e : kap am mu k = kap am mu k') : k = k' := by
  obtain ⟨b, j⟩ := k
  obtain ⟨b', j'⟩ := k'
  obtain ⟨e1, e2⟩ := key_inj h h' (fun e => by rw [e]; exact ⟨rfl, rfl⟩) e
  exact Prod.ext e1 e2
def tS (am mu : Bool → Int) (tab : Tab) : List (Str × Int) := tab.map fun q => (kap am mu q.1, q.2.1)
def tE (am mu : Bool → Int) (tab : Tab) : List (Str × Int) := tab.map fun q => (kap am mu q.1, q.2.2)
def TOk (tab : Tab) : Prop := ∀ q ∈ tab, q.1.2 < 3
theorem kdec {q : TK × Int × Int} {k : TK} (h : q.1.2 < 3) (hk : k.2 < 3) : decide (kap am mu q.1 = kap am mu k) = decide (q.1 = k) :=
  decide_eq_decide.mpr ⟨fun e => kap_inj h hk e, fun e => by rw [e]⟩
theorem img_find (f : TK × Int × Int → Int) : ∀ {tab : Tab} {k : TK}, TOk tab → k.2 < 3 → ((tab.map fun q => (kap am mu q.1, f q)).find? fun p => decide (p.1 = kap am mu k)) = (tab.find? fun q => decide (q.1 = k)).map fun q => (kap am mu q.1, f q)
  | [], k, _, _ => rfl
  | q :: tab, k, h, hk => by
    have e := kdec (am := am) (mu := mu) (h q (List.mem_cons_self ..)) hk
    rw [List.map_cons, List.find?_cons, List.find?_cons]
    rw [show decide ((kap am mu q.1, f q).1 = kap am mu k) = decide (q.1 = k) from e]
    cases decide (q.1 = k) with
    | true => rfl
    | false => exact img_find f (fun q hq => h q (List.mem_cons_of_mem _ hq)) hk
theorem img_look (f : TK × Int × Int → Int) {tab : Tab} {k : TK} (h : TOk tab) (hk : k.2 < 3) (d : Int) : kdpLook (tab.map fun q => (kap am mu q.1, f q)) (kap am mu k) d = ((tab.find? fun q => decide (q.1 = k)).map f).getD d := by
  unfold kdpLook
  rw [img_find f h hk, Option.map_map]
  rfl
theorem lookS {tab : Tab} {k : TK} (h : TOk tab) (hk : k.2 < 3) : kdpLook (tS am mu tab) (kap am mu k) 0 = ((tAt tab k).map (·.1)).getD 0 := by
  unfold tS tAt; rw [img_look _ h hk, Option.map_map]; rfl
theorem lookE {tab : Tab} {k : TK} (h : TOk tab) (hk : k.2 < 3) (d : Int) : kdpLook (tE am mu tab) (kap am mu k) d = ((tAt tab k).map (·.2)).getD d := by
  unfold tE tAt; rw [img_look _ h hk, Option.map_map]; rfl
theorem img_del (f : TK × Int × Int → Int) {tab : Tab} {k : TK} (h : TOk tab) (hk : k.2 < 3) : kdzDel (tab.map fun q => (kap am mu q.1, f q)) (kap am mu k) = (tDel tab k).map fun q => (kap am mu q.1, f q) := by
  unfold kdzDel tDel
  rw [List.filter_map]
  congr 1
  refine List.filter_congr fun q hq => ?_
  show (!decide (kap am mu q.1 = kap am mu k)) = _
  rw [kdec (h q hq) hk]
theorem tAt_isSome {tab : Tab} {k : TK} : (tAt tab k).isSome = tab.any fun q => decide (q.1 = k) := by
  unfold tAt
  rw [Option.isSome_map]
  exact Bool.eq_iff_iff.mpr (by rw [List.find?_isSome, List.any_eq_true])
theorem img_has (f : TK × Int × Int → Int) {tab : Tab} {k : TK} (h : TOk tab) (hk : k.2 < 3) : ((tab.map fun q => (kap am mu q.1, f q)).any fun p => decide (p.1 = kap am mu k)) = (tAt tab k).isSome := by
  rw [tAt_isSome, List.any_map]
  induction tab with
  | nil => rfl
  | cons q tab ih =>
    rw [List.any_cons, List.any_cons, ih fun q hq => h q (List.mem_cons_of_mem _ hq)]
    show (decide (kap am mu q.1 = kap am mu k) || _) = _
    rw [kdec (h q (List.mem_cons_self ..)) hk]
theorem img_put (f : TK × Int × Int → Int) {tab : Tab} {k : TK} (h : TOk tab) (hk : k.2 < 3) (c e : Int) : kdpPut (tab.map fun q => (kap am mu q.1, f q)) (kap am mu k) (f (k, c, e)) = (tPut tab k c e).map fun q => (kap am mu q.1, f q) := by
  unfold kdpPut tPut
  rw [img_has f h hk]
  split
  · rw [List.map_map, List.map_map]
    refine List.map_congr_left fun q hq => ?_
    have e1 := kdec (am := am) (mu := mu) (h q hq) hk
    show (if decide (kap am mu q.1 = kap am mu k) = true then (kap am mu q.1, f (k, c, e)) else (kap am mu q.1, f q)) = _
    rw [e1]
    by_cases hq : q.1 = k
    · simp [hq]
    · simp [hq]
  · rw [List.map_append]; rfl
theorem tDel_ok {tab : Tab} {k : TK} (h : TOk tab) : TOk (tDel tab k) := fun q hq => h q (List.mem_filter.mp hq).1
theorem tLive_ok {tab : Tab} {k : TK} {now : Int} (h : TOk tab) : TOk (tLive now k tab) := by
  unfold tLive
  split
  · split
    · exact tDel_ok h
    · exact h
  · exact h
theorem tPut_ok {tab : Tab} {k : TK} {c e : Int} (h : TOk tab) (hk : k.2 < 3) : TOk (tPut tab k c e) := by
  unfold tPut
  split
  · intro q hq
    obtain ⟨r, hr, rfl⟩ := List.mem_map.mp hq
    split
    · exact hk
    · exact h r hr
  · intro q hq
    rcases List.mem_append.mp hq with hq | hq
    · exact h q hq
    · rw [List.mem_singleton.mp hq]; exact hk
theorem tDel_none {tab : Tab} {k : TK} (h : tAt tab k = none) : tDel tab k = tab := by
  have e := tAt_isSome (tab := tab) (k := k)
  rw [h] at e
  refine List.filter_eq_self.mpr fun q hq => ?_
  have := (List.any_eq_false.mp e.symm) q hq
  simpa using this
theorem live_img (f : TK × Int × Int → Int) {tab : Tab} {k : TK} {now : Int} (h : TOk tab) (hk : k.2 < 3) :
    (if kdpLook (tE am mu tab) (kap am mu k) 0 ≤ now then kdzDel (tab.map fun q => (kap am mu q.1, f q)) (kap am mu k) else tab.map fun q => (kap am mu q.1, f q)) = (tLive now k tab).map fun q => (kap am mu q.1, f q) := by
  rw [lookE h hk, img_del f h hk]
  unfold tLive
  cases ht : tAt tab k with
  | none => rw [tDel_none ht]; split <;> rfl
  | some p =>
    show (if p.2 ≤ now then _ else _) = _
    dsimp only
    split <;> rfl
theorem liveS_img {tab : Tab} {k : TK} {now : Int} (h : TOk tab) (hk : k.2 < 3) : liveS now (kap am mu k) (tS am mu tab) (tE am mu tab) = tS am mu (tLive now k tab) := live_img (fun q => q.2.1) h hk
theorem liveE_img {tab : Tab} {k : TK} {now : Int} (h : TOk tab) (hk : k.2 < 3) : liveE now (kap am mu k) (tE am mu tab) = tE am mu (tLive now k tab) := live_img (fun q => q.2.2) h hk
theorem lookS_get {tab : Tab} {k : TK} {now : Int} (h : TOk tab) (hk : k.2 < 3) : kdpLook (tS am mu tab) (kap am mu k) 0 = (tGet now k tab).1 := by
  rw [lookS h hk]; unfold tGet; cases tAt tab k <;> rfl
theorem lookE_get {tab : Tab} {k : TK} {now : Int} (h : TOk tab) (hk : k.2 < 3) : kdpLook (tE am mu tab) (kap am mu k) now = (tGet now k tab).2 := by
  rw [lookE h hk]; unfold tGet; cases tAt tab k <;> rfl
/-- the window's end after a hit -/
def hitEnd (now len : Int) (p : Int × Int) : Int := if p.1 = 0 then now + len else p.2
theorem hit_imgS {tab : Tab} {k : TK} {now cost : Int} (h : TOk tab) (hk : k.2 < 3) (e : Int) : kdpPut (tS am mu tab) (kap am mu k) (kdpLook (tS am mu tab) (kap am mu k) 0 + cost) = tS am mu (tPut tab k ((tGet now k tab).1 + cost) e) := by
  rw [lookS_get (now := now) h hk]
  exact img_put (fun q => q.2.1) h hk _ e
theorem hit_imgE {tab : Tab} {k : TK} {now len cost : Int} (h : TOk tab) (hk : k.2 < 3) (nd : (tab.map (·.1)).Nodup) :
    (if kdpLook (tS am mu tab) (kap am mu k) 0 = 0 then kdpPut (tE am mu tab) (kap am mu k) (now + len) else tE am mu tab) = tE am mu (tPut tab k ((tGet now k tab).1 + cost) (hitEnd now len (tGet now k tab))) := by
  rw [lookS_get (now := now) h hk]
  unfold hitEnd
  split
  · exact img_put (fun q => q.2.2) h hk _ _
  · rename_i hne
    unfold tGet at *
    cases ht : tAt tab k with
    | none => rw [ht] at hne; exact absurd rfl hne
    | some p =>
      rw [Option.getD_some]
      unfold tPut
      rw [if_pos (by rw [ht]; rfl)]
      unfold tE
      rw [List.map_map]
      refine List.map_congr_left fun q hq => ?_
      show _ = (kap am mu (if q.1 = k then (k, p.1 + cost, p.2) else q).1, _)
      by_cases e : q.1 = k
      · have hp : q.2 = p := by
          have hf : tab.find? (fun r => decide (r.1 = k)) = some q := by
            clear ht hne h
            induction tab with
            | nil => cases hq
            | cons r tab ih =>
              rw [List.map_cons, List.nodup_cons] at nd
              rcases List.mem_cons.mp hq with rfl | hq
              · rw [List.find?_cons, decide_eq_true e]
              · rw [List.find?_cons, decide_eq_false (fun e' => nd.1 (List.mem_map.mpr ⟨q, hq, by rw [e, e']⟩))]
                exact ih nd.2 hq
          unfold tAt at ht
          rw [hf] at ht
          exact Option.some.inj ht
        simp [e, hp]
      · simp [e]
def tSweep (now : Int) (tab : Tab) : Tab := tab.filter fun q => decide (now < q.2.2)
theorem sweepE {tab : Tab} {now : Int} : ((tE am mu tab).filter fun q => decide (now < q.2)) = tE am mu (tSweep now tab) := by
  unfold tE tSweep
  rw [List.filter_map]
  rfl
theorem sweepS {tab : Tab} {now : Int} (h : TOk tab) (nd : (tab.map (·.1)).Nodup) : ((tS am mu tab).filter fun p => !(tE am mu tab).any fun q => decide (q.1 = p.1 ∧ q.2 ≤ now)) = tS am mu (tSweep now tab) := by
  unfold tS tSweep
  rw [List.filter_map]
  congr 1
  refine List.filter_congr fun q hq => ?_
  show (!(tE am mu tab).any fun r => decide (r.1 = kap am mu q.1 ∧ r.2 ≤ now)) = decide (now < q.2.2)
  unfold tE
  rw [List.any_map]
  by_cases hlt : now < q.2.2
  · rw [decide_eq_true hlt, Bool.not_eq_true', List.any_eq_false]
    intro r hr
    show ¬ decide (kap am mu r.1 = kap am mu q.1 ∧ r.2.2 ≤ now) = true
    rw [decide_eq_true_eq]
    rintro ⟨e1, e2⟩
    have e3 := kap_inj (h r hr) (h q hq) e1
    have : r = q := by
      obtain ⟨i, hi⟩ := List.mem_iff_getElem?.mp hr
      obtain ⟨j, hj⟩ := List.mem_iff_getElem?.mp hq
      have hi' : (tab.map (·.1))[i]? = some r.1 := by rw [List.getElem?_map, hi]; rfl
      have hj' : (tab.map (·.1))[j]? = some q.1 := by rw [List.getElem?_map, hj]; rfl
      have hij : i = j := (List.getElem?_inj (List.getElem?_eq_some_iff.mp hi').1 nd).mp (by rw [hi', hj', e3])
      subst hij
      exact Option.some.inj (hi.symm.trans hj)
    subst this
    omega
  · rw [decide_eq_false hlt, Bool.not_eq_false', List.any_eq_true]
    exact ⟨q, hq, by show decide (kap am mu q.1 = kap am mu q.1 ∧ q.2.2 ≤ now) = true; rw [decide_eq_true_eq]; exact ⟨rfl, by omega⟩⟩
/-- the law's own sweep, i keys done -/
def swT (now : Int) (tab : Tab) (i : Nat) : Tab := ((tab.take i).filter fun q => decide (now < q.2.2)) ++ tab.drop i
theorem swT_at {now : Int} {c : Tab} {i : Nat} {q : TK × Int × Int} (hq : c[i]? = some q) (nd : (c.map (·.1)).Nodup) : tLive now q.1 (swT now c i) = swT now c (i + 1) := by
  have hi : i < c.length := by rw [List.getElem?_eq_some_iff] at hq; exact hq.1
  have hqq : c[i] = q := by rw [List.getElem?_eq_getElem hi] at hq; exact Option.some.inj hq
  have hd : c.drop i = q :: c.drop (i + 1) := by rw [List.drop_eq_getElem_cons hi, hqq]
  have hc : c = c.take i ++ q :: c.drop (i + 1) := by rw [← hd, List.take_append_drop]
  have ht : c.take (i + 1) = c.take i ++ [q] := by rw [List.take_add_one, hq]; rfl
  rw [hc, List.map_append, List.map_cons, List.nodup_append] at nd
  obtain ⟨_, nd2, nd3⟩ := nd
  rw [List.nodup_cons] at nd2
  have n1 : ∀ p ∈ (c.take i).filter (fun q => decide (now < q.2.2)), p.1 ≠ q.1 := fun p hp => nd3 _ (List.mem_map_of_mem (List.mem_filter.mp hp).1) _ (List.mem_cons_self ..)
  have n2 : ∀ p ∈ c.drop (i + 1), p.1 ≠ q.1 := fun p hp e => nd2.1 (e ▸ List.mem_map_of_mem hp)
  have e0 : tAt (swT now c i) q.1 = some q.2 := by
    unfold tAt swT
    rw [hd, List.find?_append, List.find?_eq_none.mpr (by intro p hp; simpa using n1 p hp)]
    simp
  unfold tLive
  rw [e0]
  unfold swT
  rw [ht, hd, List.filter_append]
  by_cases h : q.2.2 ≤ now
  · show (if q.2.2 ≤ now then _ else _) = _
    rw [if_pos h]
    unfold tDel
    have e1 : ((c.take i).filter (fun q => decide (now < q.2.2))).filter (fun p => !decide (p.1 = q.1)) = (c.take i).filter (fun q => decide (now < q.2.2)) := List.filter_eq_self.mpr (by intro p hp; simpa using n1 p hp)
    have e2 : (c.drop (i + 1)).filter (fun p => !decide (p.1 = q.1)) = c.drop (i + 1) := List.filter_eq_self.mpr (by intro p hp; simpa using n2 p hp)
    have e3 : (q :: c.drop (i + 1)).filter (fun p => !decide (p.1 = q.1)) = c.drop (i + 1) := by rw [List.filter_cons_of_neg (by simp), e2]
    have e4 : [q].filter (fun q => decide (now < q.2.2)) = [] := List.filter_cons_of_neg (by simpa using h)
    rw [List.filter_append, e1, e3, e4]
    simp
  · show (if q.2.2 ≤ now then _ else _) = _
    rw [if_neg h, List.filter_cons_of_pos (by simpa using h)]
    simp
theorem swT_zero {now : Int} {c : Tab} : swT now c 0 = c := by unfold swT; simp
theorem swT_end {now : Int} {c : Tab} : swT now c c.length = tSweep now c := by unfold swT tSweep; simp
theorem swT_ok {now : Int} {c : Tab} {i : Nat} (h : TOk c) : TOk (swT now c i) := by
  intro q hq
  rcases List.mem_append.mp hq with hq | hq
  · exact h q (List.mem_of_mem_take (List.mem_filter.mp hq).1)
  · exact h q (List.mem_of_mem_drop hq)
theorem swT_len {now : Int} {c : Tab} {i : Nat} : (swT now c i).length ≤ c.length := by
  unfold swT
  have e := List.length_filter_le (fun q : TK × Int × Int => decide (now < q.2.2)) (c.take i)
  rw [List.length_append, List.length_drop]
  rw [List.length_take] at e
  omega
theorem tSweep_ok {now : Int} {c : Tab} (h : TOk c) : TOk (tSweep now c) := fun q hq => h q (List.mem_filter.mp hq).1
theorem tSweep_len {now : Int} {c : Tab} : (tSweep now c).length ≤ c.length := List.length_filter_le _ _
theorem tDel_len {tab : Tab} {k : TK} : (tDel tab k).length ≤ tab.length := List.length_filter_le _ _
theorem tLive_len {tab : Tab} {k : TK} {now : Int} : (tLive now k tab).length ≤ tab.length := by
  unfold tLive
  split
  · split
    · exact tDel_len
    · exact Nat.le_refl _
  · exact Nat.le_refl _
theorem tPut_len {tab : Tab} {k : TK} {c e : Int} : (tPut tab k c e).length ≤ tab.length + 1 := by
  unfold tPut
  split
  · rw [List.length_map]; omega
  · rw [List.length_append]; exact Nat.le_refl _
theorem tE_nd {tab : Tab} (h : TOk tab) (nd : (tab.map (·.1)).Nodup) : ((tE am mu tab).map (·.1)).Nodup := by
  unfold tE
  rw [List.map_map]
  induction tab with
  | nil => exact List.nodup_nil
  | cons q tab ih =>
    rw [List.map_cons, List.nodup_cons] at nd ⊢
    refine ⟨fun hm => nd.1 ?_, ih (fun q hq => h q (List.mem_cons_of_mem _ hq)) nd.2⟩
    obtain ⟨r, hr, e⟩ := List.mem_map.mp hm
    exact List.mem_map.mpr ⟨r, hr, kap_inj (h r (List.mem_cons_of_mem _ hr)) (h q (List.mem_cons_self ..)) e⟩
theorem tS_len {tab : Tab} : (tS am mu tab).length = tab.length := List.length_map _
theorem tE_len {tab : Tab} : (tE am mu tab).length = tab.length := List.length_map _
end
theorem m_sd {x : Fx} {oS oE oV : Obj} {now : Int} {t : Tok} {n : Nat} {rest : List (Addr × Obj)} : (x.sd, oS) ∈ M x oS oE oV now t n rest := .head _
theorem m_ed {x : Fx} {oS oE oV : Obj} {now : Int} {t : Tok} {n : Nat} {rest : List (Addr × Obj)} : (x.ed, oE) ∈ M x oS oE oV now t n rest := .tail _ (.head _)
theorem m_vd {x : Fx} {oS oE oV : Obj} {now : Int} {t : Tok} {n : Nat} {rest : List (Addr × Obj)} : (x.vd, oV) ∈ M x oS oE oV now t n rest := .tail _ (.tail _ (.head _))
theorem m_nl {x : Fx} {oS oE oV : Obj} {now : Int} {t : Tok} {n : Nat} {rest : List (Addr × Obj)} : (x.nl, listOf #[.int now t] n) ∈ M x oS oE oV now t n rest := .tail _ (.tail _ (.tail _ (.head _)))
/-! the law's body, by pieces -/
noncomputable def lawB : List Stmt := match dT 24 with
  | .FunctionDef _ _ b _ _ _ _ _ _ _ => b
  | _ => []
noncomputable def lawS : Scope := match dT 24 with
  | .FunctionDef _ _ _ _ _ _ sc _ _ _ => sc
  | _ => { kind := .function, names := [], isGenerator := false, isCoroutine := false }
noncomputable def lawT (n : Nat) : List Stmt := lawB.drop n
noncomputable def loopB : List Stmt := match lawT 7 with
  | .For _ _ b _ _ :: _ => b
  | _ => []
noncomputable def loopT (n : Nat) : List Stmt := loopB.drop n
/-- what stays -/
structure Cx (w : World) (x : Fx) (am mu : Bool → Int) (L li sz it : Nat) (rest : List (Addr × Obj)) : Prop where
  sto : Sto w x rest
  lim : Lim w x li rest
  its : ∃ (I : Bool → Nat) (c : Nat), (it, listOf #[.ref (I false), .ref (I true)] c) ∈ rest ∧ ∀ b, Itm w b (I b) (am b) (mu b) rest
  szs : ∃ (S : Bool → Nat) (c : Nat) (ta tl : Bool → Tok), (sz, listOf #[.ref (S false), .ref (S true)] c) ∈ rest ∧ ∀ b, (S b, tupO [.int (am b) (ta b), .int (unI b * mu b) (tl b)]) ∈ rest
  cell : ∃ oC : Obj, (L + 1, oC) ∈ rest ∧ oC.data = .cell (some (.ref x.nl))
/-- what goes -/
structure Dy (w : World) (x : Fx) (am mu : Bool → Int) (hd : Nat) (oS oE oV oH : Obj) (tab : Tab) (rest : List (Addr × Obj)) : Prop where
  dS : Dct w oS (tS am mu tab)
  dE : Dct w oE (tE am mu tab)
  dV : Dct w oV []
  hld : Hld w oH tab rest
  ok : TOk tab
  len : tab.length ≤ 900
  off : ∀ p ∈ rest, p.1 ≠ hd
  hne : ∀ b ∈ [x.sd, x.ed, x.vd, x.nl], hd ≠ b
  lo : (hd == sysModules) = false
theorem live_gen (w : World) (x : Fx) (hd a : Nat) (oS oE oV oH : Obj) (tab : Tab) (k : TK) (now : Int) (t tn : Tok) (n : Nat) (base rest : List (Addr × Obj)) (hb : ∀ p ∈ base, p ∈ rest) (hne : ∀ b ∈ [x.sd, x.ed, x.vd, x.nl], hd ≠ b) (off : ∀ p ∈ rest, p.1 ≠ hd) (H : Hld w oH tab base) (lo : (hd == sysModules) = false) (hk : KeyAt base a k) (hz : tab.length ≤ 1000) :
    Tell w 2 592 [.ref hd, .ref a, .int now tn] [] (M x oS oE oV now t n ((hd, oH) :: rest)) fun v l => ∃ oH' P t0 tn', l = M x oS oE oV now t n ((hd, oH') :: (P, tupO [.int 0 t0, .int now tn']) :: rest) ∧ (∀ q ∈ M x oS oE oV now t n ((hd, oH) :: rest), @LT.lt Nat _ q.1 P) ∧ Hld w oH' (tLive now k tab) base ∧ PairAt ((P, tupO [.int 0 t0, .int now tn']) :: base) v (tGet now k (tLive now k tab)).1 (tGet now k (tLive now k tab)).2 := by
  have hn : ∀ p ∈ M x oS oE oV now t n rest, p.1 ≠ hd := by
    intro p hp
    simp only [List.mem_cons] at hp
    rcases hp with rfl | rfl | rfl | rfl | hp
    · exact (hne x.sd (by simp)).symm
    · exact (hne x.ed (by simp)).symm
    · exact (hne x.vd (by simp)).symm
    · exact (hne x.nl (by simp)).symm
    · exact off p hp
  refine (live_tell w hd a oH tab k now tn (M x oS oE oV now t n rest) base (fun p hp => sub_M p (hb p hp)) H hn lo hk hz).mono (Nat.le_refl _) (fun p hp => ?_) fun v l hr => ?_
  · simp only [List.mem_cons] at hp ⊢
    rcases hp with hp | hp | hp | hp | hp | hp <;> simp [hp]
  · obtain ⟨o', P, t0, tn', rfl, hP, H', hv⟩ := hr
    refine ⟨_, ⟨o', P, t0, tn', rfl, ?_, H', hv⟩, ?_⟩
    · intro q hq
      refine hP q ?_
      simp only [List.mem_cons] at hq ⊢
      rcases hq with hq | hq | hq | hq | hq | hq <;> simp [hq]
    · walk_at "jb_in"
theorem live_at (w : World) (x : Fx) (hd a : Nat) (oS oE oV oH : Obj) (am mu : Bool → Int) (tab : Tab) (k : TK) (now : Int) (t tn : Tok) (n : Nat) (rest : List (Addr × Obj)) (D : Dy w x am mu hd oS oE oV oH tab rest) (hk : KeyAt rest a k) :
    Tell w 2 592 [.ref hd, .ref a, .int now tn] [] (M x oS oE oV now t n ((hd, oH) :: rest)) fun v l => ∃ oH' P t0 tn', l = M x oS oE oV now t n ((hd, oH') :: (P, tupO [.int 0 t0, .int now tn']) :: rest) ∧ (∀ q ∈ M x oS oE oV now t n ((hd, oH) :: rest), @LT.lt Nat _ q.1 P) ∧ Hld w oH' (tLive now k tab) rest ∧ PairAt ((P, tupO [.int 0 t0, .int now tn']) :: rest) v (tGet now k (tLive now k tab)).1 (tGet now k (tLive now k tab)).2 :=
  live_gen w x hd a oS oE oV oH tab k now t tn n rest rest (fun _ h => h) D.hne D.off D.hld D.lo hk (by have := D.len; omega)
theorem at_list {prog : Program} {w : World} {A : Around} {E : Value → Shared → Prop} {s : Shared} {h₀ : Heap} {L l : Addr} {news : List (Addr × Obj)} {value slice : Expr} {vs : List Value} {c : Nat} {k : Int} {u : Tok} {v : Value} {Q : Value → Shared → Prop} (N : News h₀ L s.heap news) (hl : (l, listOf vs.toArray c) ∈ news) (h0 : 0 ≤ k) (h1 : k < 1000) (hx : vs[k.toNat]? = some v) (h : Q v s)
    (hs : subscripted slice false (.ref l) (.int k u) = operate [.ref l, .int k u] (getItem (.ref l) (.int k u)) := by with_unfolding_all rfl) : wpAny (model prog w) A (subscriptTail value slice (.ref l) (.int k u)) Q E s := by
  have hL : s.heap.IsList l vs.toArray := ⟨_, (N _ hl).1, rfl, _, rfl⟩
  exact tail_any hL.typeIs slot_list_getitem.lookup (wpAny_getItem_list hL h0 (by omega) (x := v) (by simpa using hx) h) hs
theorem li_get {prog : Program} {w : World} {A : Around} {E : Value → Shared → Prop} {s : Shared} {h₀ : Heap} {L l : Addr} {news : List (Addr × Obj)} {vs : List Value} {c : Nat} {k : Int} {u : Tok} {v : Value} {Q : Value → Shared → Prop} (N : News h₀ L s.heap news) (hl : (l, listOf vs.toArray c) ∈ news) (h0 : 0 ≤ k) (h1 : k < 1000) (hx : vs[k.toNat]? = some v) (h : Q v s) :
    wpAny (model prog w) A (getItem (.ref l) (.int k u)) Q E s :=
  wpAny_getItem_list ⟨_, (N _ hl).1, rfl, _, rfl⟩ h0 (by omega) (x := v) (by simpa using hx) h
theorem at_ints {prog : Program} {w : World} {A : Around} {E : Value → Shared → Prop} {s : Shared} {h₀ : Heap} {L l : Addr} {news : List (Addr × Obj)} {value slice : Expr} {vs : List Value} {c : Nat} {k : Int} {u : Tok} {Q : Value → Shared → Prop} (N : News h₀ L s.heap news) (hl : (l, listOf vs.toArray c) ∈ news) (h0 : 0 ≤ k) (h1 : k < vs.length) (h2 : vs.length < 1000) (hv : ∀ v ∈ vs, ∃ z t, v = Value.int z t) (h : ∀ z t, Q (.int z t) s)
    (hs : subscripted slice false (.ref l) (.int k u) = operate [.ref l, .int k u] (getItem (.ref l) (.int k u)) := by with_unfolding_all rfl) : wpAny (model prog w) A (subscriptTail value slice (.ref l) (.int k u)) Q E s := by
  have hlt : k.toNat < vs.length := by omega
  obtain ⟨z, t, e⟩ := hv _ (List.getElem_mem hlt)
  exact at_list N hl h0 (by omega) (v := .int z t) (by rw [List.getElem?_eq_getElem hlt, e]) (h z t) hs
theorem told_attr {w : World} {xw dw : Addr} {a b : Value} {news : List (Addr × Obj)} (i : Bool) {name : Str} {expr : Bool} (hn : name = if i then Str.ofString "remaining" else Str.ofString "reset_time") (hx : (xw, (⟨.ref 132, some dw, .seq #[a, b] 0, #[]⟩ : Obj)) ∈ news) (hdw : (dw, emptyDict) ∈ news) (ha : handedIn a = true) (hb : handedIn b = true)
    {p : Program} {loose : List Str} {mean : ExcName → Option Value} {mg mb : Str → Option Value} {dp un : Nat} {gd : Option (List Code)} {cn : Str} {cs : Scope} {a' : Addr} {ccd : Value} {cl : List (Str × Addr)} {outer : List Env} {A₀ : Around} {base h₀ : Heap} {L : Addr} {m : Str → Option Value} {s : Shared} {Q E : Value → Shared → Prop}
    (B : Below A₀ base outer h₀) (F : Fr h₀ L s.heap m) (X : (K w.params).In h₀) (N : News h₀ L s.heap news) (T : Top p loose mean mg mb h₀) (hk : cs.kind = .function) (hd : dp + 1 < recursionLimit) (hu : un + 1 + 8 * 1 < cLine)
    (h : ∀ h' tk', Fr h₀ L h' m → News h₀ L h' news → Q (if i then b else a) { s with heap := h', toks := tk' }) :
    wpAny (model PySem.Challenge.rw_jb0021_01.row.prog w) (ktrTop dp un gd cn cs L a' ccd cl outer) (getAttr (.ref xw) name expr) Q E s := by
  subst hn
  refine get_desc (tget_told w news xw _ a b 0 _ hx i) (.inr rfl) (find_util w i emptyDict) (fun v l hr => ?_) ⟨(N _ hx).1, rfl, rfl, (N _ hdw).1⟩ B F X N T hk hd hu fun v l h' tk' hr F' N' => ?_
  · obtain ⟨rfl, _⟩ := hr; cases i <;> assumption
  · obtain ⟨rfl, rfl⟩ := hr; exact h h' tk' F' N'
theorem told_rem {w : World} {xw dw : Addr} {a b : Int} {u v : Tok} {news : List (Addr × Obj)} {expr : Bool} {p : Program} {loose : List Str} {mean : ExcName → Option Value} {mg mb : Str → Option Value} {dp un : Nat} {gd : Option (List Code)} {cn : Str} {cs : Scope} {a' : Addr} {ccd : Value} {cl : List (Str × Addr)} {outer : List Env} {A₀ : Around} {base h₀ : Heap} {L : Addr} {m : Str → Option Value} {s : Shared} {Q E : Value → Shared → Prop}
    (B : Below A₀ base outer h₀) (F : Fr h₀ L s.heap m) (X : (K w.params).In h₀) (N : News h₀ L s.heap ((xw, (⟨.ref 132, some dw, .seq #[.int a u, .int b v] 0, #[]⟩ : Obj)) :: (dw, emptyDict) :: news)) (T : Top p loose mean mg mb h₀) (hk : cs.kind = .function) (hd : dp + 1 < recursionLimit) (hu : un + 1 + 8 * 1 < cLine)
    (h : ∀ h' tk', Fr h₀ L h' m → News h₀ L h' ((xw, (⟨.ref 132, some dw, .seq #[.int a u, .int b v] 0, #[]⟩ : Obj)) :: (dw, emptyDict) :: news) → Q (.int b v) { s with heap := h', toks := tk' }) :
    wpAny (model PySem.Challenge.rw_jb0021_01.row.prog w) (ktrTop dp un gd cn cs L a' ccd cl outer) (getAttr (.ref xw) (Str.ofString "remaining") expr) Q E s :=
  told_attr true rfl (List.mem_cons_self ..) (List.mem_cons_of_mem _ (List.mem_cons_self ..)) rfl rfl B F X N T hk hd hu h
theorem told_res {w : World} {xw dw : Addr} {a b : Int} {u v : Tok} {news : List (Addr × Obj)} {expr : Bool} {p : Program} {loose : List Str} {mean : ExcName → Option Value} {mg mb : Str → Option Value} {dp un : Nat} {gd : Option (List Code)} {cn : Str} {cs : Scope} {a' : Addr} {ccd : Value} {cl : List (Str × Addr)} {outer : List Env} {A₀ : Around} {base h₀ : Heap} {L : Addr} {m : Str → Option Value} {s : Shared} {Q E : Value → Shared → Prop}
    (B : Below A₀ base outer h₀) (F : Fr h₀ L s.heap m) (X : (K w.params).In h₀) (N : News h₀ L s.heap ((xw, (⟨.ref 132, some dw, .seq #[.int a u, .int b v] 0, #[]⟩ : Obj)) :: (dw, emptyDict) :: news)) (T : Top p loose mean mg mb h₀) (hk : cs.kind = .function) (hd : dp + 1 < recursionLimit) (hu : un + 1 + 8 * 1 < cLine)
    (h : ∀ h' tk', Fr h₀ L h' m → News h₀ L h' ((xw, (⟨.ref 132, some dw, .seq #[.int a u, .int b v] 0, #[]⟩ : Obj)) :: (dw, emptyDict) :: news) → Q (.int a u) { s with heap := h', toks := tk' }) :
    wpAny (model PySem.Challenge.rw_jb0021_01.row.prog w) (ktrTop dp un gd cn cs L a' ccd cl outer) (getAttr (.ref xw) (Str.ofString "reset_time") expr) Q E s :=
  told_attr false rfl (List.mem_cons_self ..) (List.mem_cons_of_mem _ (List.mem_cons_self ..)) rfl rfl B F X N T hk hd hu h
theorem two_at {f : Bool → Nat} (b : Bool) : ([Value.ref (f false), .ref (f true)] : List Value)[(bI b).toNat]? = some (.ref (f b)) := by cases b <;> rfl
theorem bI_lo (b : Bool) : 0 ≤ bI b := by cases b <;> decide
theorem bI_hi (b : Bool) : bI b < 1000 := by cases b <;> decide
theorem Cx.mono {w : World} {x : Fx} {am mu : Bool → Int} {L li sz it : Nat} {rest : List (Addr × Obj)} (C : Cx w x am mu L li sz it rest) (pre : List (Addr × Obj)) (hp : OwnOff pre [x.sd, x.ed, x.vd, x.nl]) : Cx w x am mu L li sz it (pre ++ rest) where
  sto := C.sto.app pre hp
  lim := ⟨let ⟨ld, t, a, b⟩ := C.lim.here; ⟨ld, t, List.mem_append_right _ a, List.mem_append_right _ b⟩⟩
  its := let ⟨I, c, a, b⟩ := C.its; ⟨I, c, List.mem_append_right _ a, fun z => (b z).mono fun _ h => List.mem_append_right _ h⟩
  szs := let ⟨S, c, ta, tl, a, b⟩ := C.szs; ⟨S, c, ta, tl, List.mem_append_right _ a, fun z => List.mem_append_right _ (b z)⟩
  cell := let ⟨o, a, b⟩ := C.cell; ⟨o, List.mem_append_right _ a, b⟩
/-- above all of the ledger -/
theorem off_up {x : Fx} {oS oE oV : Obj} {now : Int} {t : Tok} {n : Nat} {rest : List (Addr × Obj)} {P : Addr} {o : Obj} (h : ∀ q ∈ M x oS oE oV now t n rest, @LT.lt Nat _ q.1 P) : OwnOff [(P, o)] [x.sd, x.ed, x.vd, x.nl] :=
  off_one ⟨h (x.sd, oS) (by first | exact m_sd | simp), h (x.ed, oE) (by first | exact m_ed | simp), h (x.vd, oV) (by first | exact m_vd | simp), h (x.nl, listOf #[.int now t] n) (by first | exact m_nl | simp)⟩
theorem off_hd {x : Fx} {oS oE oV oH : Obj} {now : Int} {t : Tok} {n : Nat} {rest : List (Addr × Obj)} {P hd : Addr} {o : Obj} (h : ∀ q ∈ M x oS oE oV now t n ((hd, oH) :: rest), @LT.lt Nat _ q.1 P) (h' : ∀ p ∈ rest, p.1 ≠ hd) : ∀ p ∈ (P, o) :: rest, p.1 ≠ hd := by
  intro p hp
  rcases List.mem_cons.mp hp with rfl | hp
  · exact Nat.ne_of_gt (h (hd, oH) (by simp))
  · exact h' p hp
section
variable {w : World} {x : Fx} {am mu : Bool → Int} {hd ka : Nat} {oS oE oV oH : Obj} {tab tab' : Tab} {k : TK} {now : Int} {tn : Tok} {n : Nat} {rest : List (Addr × Obj)} {h₀ : Heap} {L : Addr} {m : Str → Option Value} {A : Around} {E : Value → Shared → Prop} {s : Shared}
theorem mo_in : ∀ p ∈ M x oS oE oV now tn n ((hd, oH) :: rest), p ∈ (hd, oH) :: M x oS oE oV now tn n rest := by
  walk_at "jb_in"
theorem mo_out : ∀ p ∈ (hd, oH) :: M x oS oE oV now tn n rest, p ∈ M x oS oE oV now tn n ((hd, oH) :: rest) := by
  walk_at "jb_in"
theorem mo_off (hne : ∀ b ∈ [x.sd, x.ed, x.vd, x.nl], hd ≠ b) (off : ∀ p ∈ rest, p.1 ≠ hd) : ∀ p ∈ M x oS oE oV now tn n rest, p.1 ≠ hd := by
  intro p hp
  simp only [List.mem_cons] at hp
  rcases hp with rfl | rfl | rfl | rfl | hp
  · exact (hne x.sd (by simp)).symm
  · exact (hne x.ed (by simp)).symm
  · exact (hne x.vd (by simp)).symm
  · exact (hne x.nl (by simp)).symm
  · exact off p hp
theorem set_at {v : Value} {c e : Int} {Q : Unit → Shared → Prop} (hu : A.units + 5 < cLine) (F : Fr h₀ L s.heap m) (N : News h₀ L s.heap (M x oS oE oV now tn n ((hd, oH) :: rest))) (hne : ∀ b ∈ [x.sd, x.ed, x.vd, x.nl], hd ≠ b) (off : ∀ p ∈ rest, p.1 ≠ hd) (H : Hld w oH tab rest) (hk : KeyAt rest ka k) (hv : PairAt rest v c e) (hz : tab.length ≤ 1000)
    (h : ∀ o' h' tk, Fr h₀ L h' m → News h₀ L h' (M x oS oE oV now tn n ((hd, o') :: rest)) → Hld w o' (tPut tab k c e) rest → Q () { s with heap := h', toks := tk }) : wpAny (model PySem.Challenge.rw_jb0021_01.row.prog w) A (setItem (.ref hd) (.ref ka) v) Q E s :=
  h_set (news := M x oS oE oV now tn n rest) hu F (news_sub N mo_out) sub_M (mo_off hne off) H hk hv hz fun o' h' tk F' N' H' => h o' h' tk F' (news_sub N' mo_in) H'
theorem pop_at {v : Value} {Q : Value → Shared → Prop} (hu : A.units + 5 < cLine) (F : Fr h₀ L s.heap m) (N : News h₀ L s.heap (M x oS oE oV now tn n ((hd, oH) :: rest))) (hne : ∀ b ∈ [x.sd, x.ed, x.vd, x.nl], hd ≠ b) (off : ∀ p ∈ rest, p.1 ≠ hd) (H : Hld w oH tab rest) (lo : (hd == sysModules) = false) (hk : KeyAt rest ka k) (hz : tab.length ≤ 1000)
    (h : ∀ r o' h' tk, Fr h₀ L h' m → News h₀ L h' (M x oS oE oV now tn n ((hd, o') :: rest)) → Hld w o' (tDel tab k) rest → Q r { s with heap := h', toks := tk }) : wpAny (model PySem.Challenge.rw_jb0021_01.row.prog w) A (call (.builtin "dict.pop") [.ref hd, .ref ka, v]) Q E s :=
  h_pop (more := [v]) (news := M x oS oE oV now tn n rest) (.inr ⟨v, rfl⟩) hu F (news_sub N mo_out) sub_M (mo_off hne off) H lo hk hz fun r o' h' tk F' N' H' => h r o' h' tk F' (news_sub N' mo_in) H'
theorem hd_mem : ((hd, oH) : Addr × Obj) ∈ M x oS oE oV now tn n ((hd, oH) :: rest) := sub_M _ (List.mem_cons_self ..)
theorem sub_H : ∀ p ∈ rest, p ∈ M x oS oE oV now tn n ((hd, oH) :: rest) := fun p hp => sub_M _ (List.mem_cons_of_mem _ hp)
end
noncomputable def hitT : List Stmt := match loopT 7 with
  | .If _ b _ _ :: _ => b.drop 2
  | _ => []
/-! frames, told anew -/
def ovr : List (Str × Value) → (Str → Option Value) → Str → Option Value
  | [], u => u
  | (k, v) :: l, u => fun y => if y = k then some v else ovr l u y
def okAll (u : Str → Option Value) : List (Str × Value) → Prop
  | [] => True
  | (k, v) :: l => u k = some v ∧ okAll u l
theorem ovr_self (u : Str → Option Value) : ∀ l : List (Str × Value), okAll u l → u = ovr l u
  | [], _ => rfl
  | (k, v) :: l, h => by
    funext y
    show u y = if y = k then some v else ovr l u y
    split
    · rename_i e; rw [e]; exact h.1
    · rw [← ovr_self u l h.2]
noncomputable def ifB : Nat → List Stmt → List Stmt
  | 0, .If _ b _ _ :: _ => b
  | k + 1, .If _ _ e _ :: _ => ifB k e
  | _, _ => []
noncomputable def ifE : Nat → List Stmt → List Stmt
  | 0, .If _ _ e _ :: _ => e
  | k + 1, .If _ _ e _ :: _ => ifE k e
  | _, _ => []
noncomputable def finO : List Stmt := match lawT 8 with
  | .For _ _ b _ _ :: _ => b
  | _ => []
noncomputable def finB : List Stmt := match finO with
  | .For _ _ b _ _ :: _ => b
  | _ => []
section
def HoldK (p : Prop) : Prop := p
theorem unholdK {p : Prop} (h : HoldK p) : p := h
local macro_rules | `(tactic| walk_at "call ref") => `(tactic| (k_here; refine unholdK ?_))
local macro_rules | `(tactic| walk_at "subscriptTail") => `(tactic| (k_here; (with_reducible show wpAny _ _ (subscriptTail _ _ (Value.ref _) (Value.int (bI _) _)) _ _ _); refine unholdK ?_))
theorem turn_B (w : World) (p : Program) (loose : List Str) (mean : ExcName → Option Value) (mg mb : Str → Option Value) (g : Heap) (L fa : Nat) (s : Shared) (Q : Flow → Shared → Prop) (E : Value → Shared → Prop)
    (X : (K w.params).In g) (T : Top p loose mean mg mb g) (B : Below callerA g [] g)
    (x : Fx) (am mu : Bool → Int) (hd li sz it : Nat) (oS oE oV oH : Obj) (tab : Tab) (now : Int) (tn : Tok) (nn : Nat) (rest : List (Addr × Obj)) (C : Cx w x am mu L li sz it rest) (D : Dy w x am mu hd oS oE oV oH tab rest)
    (b : Bool) (j : Nat) (Tn ka : Nat) (vs : List Value) (hk : KeyAt rest ka (b, j)) (hT : (Tn, tupO vs) ∈ rest) (hv : NmV j vs) (nv : Int) (tnv tw ta : Tok) (u : Str → Option Value)
    (mi : Str → Option Value) (hmi : mi = fun y => if y = Str.ofString "n" then some (.int nv tnv) else if y = Str.ofString "which" then some (.int (bI b) tw) else if y = Str.ofString "amount" then some (.int (am b) ta) else if y = Str.ofString "name" then some (.ref Tn) else if y = Str.ofString "key" then some (.ref ka) else if y = Str.ofString "limiter" then some (.ref li) else if y = Str.ofString "items" then some (.ref it) else if y = Str.ofString "held" then some (.ref hd) else u y) (F : Fr g L s.heap mi)
    (N : News g L s.heap (M x oS oE oV now tn nn ((hd, oH) :: rest)))
    (hQ : ∀ (m' : Str → Option Value) (oS' oE' oH' : Obj) (tab' : Tab) (rest' : List (Addr × Obj)) (h' : Heap) (tk' : Nat), (∀ y, y ≠ Str.ofString "told" → y ≠ Str.ofString "end" → y ≠ Str.ofString "count" → m' y = mi y) → Fr g L h' m' → News g L h' (M x oS' oE' oV now tn nn ((hd, oH') :: rest')) → (∀ p ∈ rest, p ∈ rest') →
      Cx w x am mu L li sz it rest' → Dy w x am mu hd oS' oE' oV oH' tab' rest' → tab'.length ≤ tab.length → Q .next { s with heap := h', toks := tk' }) :
    wpAny (model PySem.Challenge.rw_jb0021_01.row.prog w) (callerA.deeper (envOfC (Str.ofString "law") lawS L fa (.ref 598))) (execs (loopT 8) (envOfC (Str.ofString "law") lawS L fa (.ref 598))) Q E s := by
  subst hmi
  revert X; k_fill; intro X
  conv in loopT 8 => whnf
  have eS : lawS = lawS := rfl
  conv at eS => rhs; whnf
  rw [eS]
  clear eS
  obtain ⟨oC, hc1, hc2⟩ := C.cell
  obtain ⟨ld, lt, hl1, hl2⟩ := C.lim.here
  obtain ⟨hst, hstd, hoff, lo1, lo2, lo3, l1, ⟨fc, fod, ffd, fsl, hf⟩, clk⟩ := C.sto
  k_steps
  · show wpAny _ _ _ _ _ _
    refine' Tell.use (live_at w x hd ka oS oE oV oH am mu tab (b, j) now tn _ nn rest D hk) ?k1 ?k2 ?k3 ?k4 ?k5 ?kK ?kd ?ku ?_
    case k1 => k_asm
    case k2 => k_asm
    case k3 => k_asm
    case k4 => k_asm
    case k5 => k_asm
    case kK => first | exact rfl | assumption
    case kd => ktr_room
    case ku => ktr_units
    intro v9 n9 h9 tk9 e9 F9 N9
    obtain ⟨oH', P, t0, tn', rfl, hP, H', pp, u1, u2, rfl, hp⟩ := e9
    obtain ⟨rest2, hr2⟩ : ∃ r, r = (P, tupO [.int 0 t0, .int now tn']) :: rest := ⟨_, rfl⟩
    have hs2 : ∀ q ∈ rest, q ∈ rest2 := by intro q hq; rw [hr2]; exact List.mem_cons_of_mem _ hq
    have C2 : Cx w x am mu L li sz it rest2 := by
      rw [hr2]; exact C.mono [(P, _)] (off_up hP)
    rw [← hr2] at N9 hp
    have hp : (pp, ({ cls := .type "tuple", data := .seq #[.int _ u1, .int _ u2] } : Obj)) ∈ rest2 := hp
    obtain ⟨ld2, lt2, hm1, hm2⟩ := C2.lim.here
    obtain ⟨I, ci, hi1, hi2⟩ := C2.its
    k_steps
    show wpAny _ _ _ _ _ _
    refine at_list (c := ci) ‹News _ _ _ _› (sub_M _ (List.mem_cons_of_mem _ hi1)) (bI_lo b) (bI_hi b) (two_at b) ?_
    k_steps
    show wpAny _ _ _ _ _ _
    have C3 : Cx w x am mu L li sz it ((hd, oH') :: rest2) := C2.mono [(hd, oH')] (fun p hp b hb => by rw [List.mem_singleton.mp hp]; exact D.hne b hb)
    refine' Tell.use (stats_tell w x ((hd, oH') :: rest2) C3.sto oS oE oV (tS am mu tab) (tE am mu tab) now tn nn D.dS D.dE D.dV (by rw [tS_len]; have := D.len; omega) (by rw [tE_len]; have := D.len; omega) li Tn C3.lim b (I b) (am b) (mu b) ((hi2 b).mono fun p hp => List.mem_cons_of_mem _ hp) j vs hv (List.mem_cons_of_mem _ (hs2 _ hT))) ?k1 ?k2 ?k3 ?k4 ?k5 ?kK ?kd ?ku ?_
    case k1 => k_asm
    case k2 => k_asm
    case k3 => k_asm
    case k4 => k_asm
    case k5 => k_asm
    case kK => first | exact rfl | assumption
    case kd => ktr_room
    case ku => ktr_units
    intro v9 n9 h9 tk9 e9 F9 N9
    obtain ⟨oS', oE', xw, dw, w1, w2, ⟨rfl, hS', hE'⟩, rfl, hlt, hdw⟩ := e9
    have hkl : (b, j).2 < 3 := hk.lt
    have e1 := liveS_img (am := am) (mu := mu) (now := now) (k := (b, j)) D.ok hkl
    have e2 := liveE_img (am := am) (mu := mu) (now := now) (k := (b, j)) D.ok hkl
    have ok' : TOk (tLive now (b, j) tab) := tLive_ok D.ok
    have e3 := lookS_get (am := am) (mu := mu) (now := now) (k := (b, j)) ok' hkl
    have e4 := lookE_get (am := am) (mu := mu) (now := now) (k := (b, j)) ok' hkl
    unfold kap at e1 e2 e3 e4
    dsimp only at e1 e2 e3 e4
    rw [e1] at hS'
    rw [e2] at hE'
    rw [e1, e2, e3, e4] at N9
    k_steps
    refine' told_rem ?k1 ?k2 ?k3 ?k4 ?k5 ?kK ?kd ?ku ?_
    case k1 => k_asm
    case k2 => k_asm
    case k3 => k_asm
    case k4 => k_asm
    case k5 => k_asm
    case kK => first | exact rfl | assumption
    case kd => ktr_room
    case ku => ktr_units
    intro h8 tk8 F8 N8
    k_steps
    · rename_i hne; exact absurd rfl hne
    refine' told_res ?k1 ?k2 ?k3 ?k4 ?k5 ?kK ?kd ?ku ?_
    case k1 => k_asm
    case k2 => k_asm
    case k3 => k_asm
    case k4 => k_asm
    case k5 => k_asm
    case kK => first | exact rfl | assumption
    case kd => ktr_room
    case ku => ktr_units
    intro h8 tk8 F8 N8
    k_steps
    · rename_i hne; exact absurd rfl hne
    have hx1 : ∀ q ∈ M x oS' oE' oV now tn nn ((hd, oH') :: (dw, emptyDict) :: rest2), @LT.lt Nat _ q.1 xw := by
      intro q hq
      have : q = (dw, emptyDict) ∨ q ∈ M x oS' oE' oV now tn nn ((hd, oH') :: rest2) := by
        simp only [List.mem_cons] at hq ⊢
        rcases hq with hq | hq | hq | hq | hq | hq | hq <;> simp [hq]
      rcases this with rfl | hq
      · exact hdw
      · exact Nat.lt_trans (hlt q hq) hdw
    have hx2 : ∀ q ∈ M x oS' oE' oV now tn nn ((hd, oH') :: rest2), @LT.lt Nat _ q.1 dw := hlt
    have hx3 : ∀ p ∈ rest2, p.1 ≠ hd := by rw [hr2]; exact off_hd hP D.off
    obtain ⟨oX, N8⟩ : ∃ oX, News g L _ ((xw, oX) :: (dw, emptyDict) :: M x oS' oE' oV now tn nn ((hd, oH') :: rest2)) := ⟨_, by k_asm⟩
    refine hQ _ oS' oE' oH' (tLive now (b, j) tab) ((xw, oX) :: (dw, emptyDict) :: rest2) _ _ ?_ (by k_asm) (news_sub N8 ?_) (fun q hq => List.mem_cons_of_mem _ (List.mem_cons_of_mem _ (hs2 q hq))) ?_ ?_ tLive_len
    · intro y h1 h2 h3
      rw [if_neg h1, if_neg h2, if_neg h3]
    · walk_at "jb_in"
    · exact (C2.mono [(dw, emptyDict)] (off_up hx2)).mono [(xw, oX)] (off_up hx1)
    · exact ⟨hS', hE', D.dV, H'.mono fun q hq => List.mem_cons_of_mem _ (List.mem_cons_of_mem _ (hs2 q hq)), ok', Nat.le_trans tLive_len D.len, off_hd hx1 (off_hd hx2 hx3), D.hne, D.lo⟩
  · exact hQ _ oS oE oH tab rest _ _ (fun y _ _ _ => rfl) (by k_asm) (by k_asm) (fun q hq => hq) C D (Nat.le_refl _)
theorem hit_rest (w : World) (p : Program) (loose : List Str) (mean : ExcName → Option Value) (mg mb : Str → Option Value) (g : Heap) (L fa : Nat) (s : Shared) (Q : Flow → Shared → Prop) (E : Value → Shared → Prop)
    (X : (K w.params).In g) (T : Top p loose mean mg mb g) (B : Below callerA g [] g)
    (x : Fx) (am mu : Bool → Int) (hd li sz it : Nat) (oS oE oV oH oH0 : Obj) (tab : Tab) (now : Int) (tn : Tok) (nn : Nat) (rest : List (Addr × Obj)) (C : Cx w x am mu L li sz it rest) (D : Dy w x am mu hd oS oE oV oH0 tab rest)
    (b : Bool) (j : Nat) (Tn ka : Nat) (vs : List Value) (hk : KeyAt rest ka (b, j)) (hT : (Tn, tupO vs) ∈ rest) (hv : NmV j vs) (hz : tab.length ≤ 800) (H : Hld w oH (tLive now (b, j) tab) rest) (cost e' : Int) (he : e' = hitEnd now (unI b * mu b) (tGet now (b, j) (tLive now (b, j) tab))) (tnv tw ta tc te tk : Tok) (u : Str → Option Value)
    (mi : Str → Option Value) (hmi : mi = fun y => if y = Str.ofString "count" then some (.int (tGet now (b, j) (tLive now (b, j) tab)).1 tc) else if y = Str.ofString "end" then some (.int e' te) else if y = Str.ofString "cost" then some (.int cost tk) else if y = Str.ofString "which" then some (.int (bI b) tw) else if y = Str.ofString "amount" then some (.int (am b) ta) else if y = Str.ofString "name" then some (.ref Tn) else if y = Str.ofString "key" then some (.ref ka) else if y = Str.ofString "limiter" then some (.ref li) else if y = Str.ofString "items" then some (.ref it) else if y = Str.ofString "held" then some (.ref hd) else u y) (F : Fr g L s.heap mi)
    (N : News g L s.heap (M x oS oE oV now tn nn ((hd, oH) :: rest)))
    (hQ : ∀ (m' : Str → Option Value) (oS' oE' oH' : Obj) (tab' : Tab) (rest' : List (Addr × Obj)) (h' : Heap) (tk' : Nat), (∀ y, y ≠ Str.ofString "told" → m' y = mi y) → Fr g L h' m' → News g L h' (M x oS' oE' oV now tn nn ((hd, oH') :: rest')) → (∀ p ∈ rest, p ∈ rest') →
      Cx w x am mu L li sz it rest' → Dy w x am mu hd oS' oE' oV oH' tab' rest' → tab'.length ≤ tab.length + 1 → Q .next { s with heap := h', toks := tk' }) :
    wpAny (model PySem.Challenge.rw_jb0021_01.row.prog w) (callerA.deeper (envOfC (Str.ofString "law") lawS L fa (.ref 598))) (execs hitT (envOfC (Str.ofString "law") lawS L fa (.ref 598))) Q E s := by
  subst hmi
  revert X; k_fill; intro X
  conv in hitT => whnf
  have eS : lawS = lawS := rfl
  conv at eS => rhs; whnf
  rw [eS]
  clear eS
  obtain ⟨oC, hc1, hc2⟩ := C.cell
  k_steps
  rename_i D1 h1 F1 N1 l1
  have hD1 : ∀ q ∈ M x oS oE oV now tn nn ((hd, oH) :: rest), @LT.lt Nat _ q.1 D1 := kst_ltOf l1
  obtain ⟨tq, N1⟩ : ∃ tq, News g L _ ((D1, tupO [.int ((tGet now (b, j) (tLive now (b, j) tab)).1 + cost) tq, .int e' te]) :: M x oS oE oV now tn nn ((hd, oH) :: rest)) := ⟨_, N1⟩
  obtain ⟨rest2, hr2⟩ : ∃ r, r = (D1, tupO [.int ((tGet now (b, j) (tLive now (b, j) tab)).1 + cost) tq, .int e' te]) :: rest := ⟨_, rfl⟩
  have hs2 : ∀ q ∈ rest, q ∈ rest2 := by intro q hq; rw [hr2]; exact List.mem_cons_of_mem _ hq
  have C2 : Cx w x am mu L li sz it rest2 := by rw [hr2]; exact C.mono [(D1, _)] (off_up hD1)
  have off2 : ∀ p ∈ rest2, p.1 ≠ hd := by rw [hr2]; exact off_hd hD1 D.off
  have hp2 : PairAt rest2 (.ref D1) ((tGet now (b, j) (tLive now (b, j) tab)).1 + cost) e' := by rw [hr2]; exact ⟨D1, tq, te, rfl, List.mem_cons_self ..⟩
  have N2 : News g L _ (M x oS oE oV now tn nn ((hd, oH) :: rest2)) := news_sub N1 (by
    rw [hr2]; walk_at "jb_in")
  refine set_at (by k_units) F1 N2 D.hne off2 (H.mono hs2) (hk.mono hs2) hp2 (Nat.le_trans tLive_len (by have := D.len; omega)) fun oH2 h2 tk2 F2 N3 H2 => ?_
  clear N1 N2 F1 l1
  obtain ⟨oC, hc1, hc2⟩ := C2.cell
  obtain ⟨ld, lt, hl1, hl2⟩ := C2.lim.here
  obtain ⟨I, ci, hi1, hi2⟩ := C2.its
  obtain ⟨hst, hstd, hoff, lo1, lo2, lo3, l1, ⟨fc, fod, ffd, fsl, hf⟩, clk⟩ := C2.sto
  k_steps
  show wpAny _ _ _ _ _ _
  refine at_list (c := ci) ‹News _ _ _ _› (sub_H _ hi1) (bI_lo b) (bI_hi b) (two_at b) ?_
  k_steps
  show wpAny _ _ _ _ _ _
  have C3 : Cx w x am mu L li sz it ((hd, oH2) :: rest2) := C2.mono [(hd, oH2)] (fun p hp b hb => by rw [List.mem_singleton.mp hp]; exact D.hne b hb)
  refine' Tell.use (hit_tell w x ((hd, oH2) :: rest2) C3.sto oS oE oV (tS am mu tab) (tE am mu tab) now tn nn D.dS D.dE (by rw [tS_len]; have := D.len; omega) (by rw [tE_len]; have := D.len; omega) li Tn C3.lim b (I b) (am b) (mu b) ((hi2 b).mono fun p hp => List.mem_cons_of_mem _ hp) j vs hv (List.mem_cons_of_mem _ (hs2 _ hT)) cost _) ?k1 ?k2 ?k3 ?k4 ?k5 ?kK ?kd ?ku ?_
  case k1 => k_asm
  case k2 => k_asm
  case k3 => k_asm
  case k4 => k_asm
  case k5 => k_asm
  case kK => first | exact rfl | assumption
  case kd => ktr_room
  case ku => ktr_units
  intro v9 n9 h9 tk9 e9 F9 N9
  obtain ⟨oS', oE', ⟨rfl, hS', hE'⟩, rfl⟩ := e9
  have hkl : (b, j).2 < 3 := hk.lt
  have e1 := liveS_img (am := am) (mu := mu) (now := now) (k := (b, j)) D.ok hkl
  have e2 := liveE_img (am := am) (mu := mu) (now := now) (k := (b, j)) D.ok hkl
  have ok' : TOk (tLive now (b, j) tab) := tLive_ok D.ok
  have e3 := lookS_get (am := am) (mu := mu) (now := now) (k := (b, j)) ok' hkl
  have e4 := hit_imgS (am := am) (mu := mu) (now := now) (cost := cost) (k := (b, j)) ok' hkl e'
  have e5 := hit_imgE (am := am) (mu := mu) (now := now) (len := unI b * mu b) (cost := cost) (k := (b, j)) ok' hkl (tLive_nd D.hld.nd)
  unfold kap at e1 e2 e3 e4 e5
  dsimp only at e1 e2 e3 e4 e5
  rw [e1, e4] at hS'
  rw [e1, e2, e5, ← he] at hE'
  rw [e1, e3]
  have hz' : (tPut (tLive now (b, j) tab) (b, j) ((tGet now (b, j) (tLive now (b, j) tab)).1 + cost) e').length ≤ tab.length + 1 := Nat.le_trans tPut_len (Nat.add_le_add_right tLive_len 1)
  k_steps
  · rename (_ != _) = true => hne
    rw [bne_self_eq_false] at hne
    cases hne
  · refine hQ _ oS' oE' oH2 (tPut (tLive now (b, j) tab) (b, j) ((tGet now (b, j) (tLive now (b, j) tab)).1 + cost) e') rest2 _ _ ?_ (by k_asm) (by k_asm) hs2 C2 ⟨hS', hE', D.dV, H2, tPut_ok ok' hkl, by omega, off2, D.hne, D.lo⟩ hz'
    intro y h; rw [if_neg h]
theorem br_test (w : World) (p : Program) (loose : List Str) (mean : ExcName → Option Value) (mg mb : Str → Option Value) (g : Heap) (L fa : Nat) (s : Shared) (Q : Flow → Shared → Prop) (E : Value → Shared → Prop)
    (X : (K w.params).In g) (T : Top p loose mean mg mb g) (B : Below callerA g [] g)
    (x : Fx) (am mu : Bool → Int) (hd li sz it : Nat) (oS oE oV oH : Obj) (tab : Tab) (now : Int) (tn : Tok) (nn : Nat) (rest : List (Addr × Obj)) (C : Cx w x am mu L li sz it rest) (D : Dy w x am mu hd oS oE oV oH tab rest)
    (b : Bool) (j : Nat) (Tn ka : Nat) (vs : List Value) (hk : KeyAt rest ka (b, j)) (hT : (Tn, tupO vs) ∈ rest) (hv : NmV j vs) (hz : tab.length ≤ 800) (nv dv cost : Int) (tnv tw ta tl td tk : Tok) (u : Str → Option Value)
    (mi : Str → Option Value) (hmi : mi = fun y => if y = Str.ofString "n" then some (.int nv tnv) else if y = Str.ofString "which" then some (.int (bI b) tw) else if y = Str.ofString "amount" then some (.int (am b) ta) else if y = Str.ofString "length" then some (.int (unI b * mu b) tl) else if y = Str.ofString "name" then some (.ref Tn) else if y = Str.ofString "key" then some (.ref ka) else if y = Str.ofString "deed" then some (.int dv td) else if y = Str.ofString "cost" then some (.int cost tk) else if y = Str.ofString "store" then some (.ref x.st) else if y = Str.ofString "limiter" then some (.ref li) else if y = Str.ofString "items" then some (.ref it) else if y = Str.ofString "held" then some (.ref hd) else u y) (F : Fr g L s.heap mi)
    (N : News g L s.heap (M x oS oE oV now tn nn ((hd, oH) :: rest)))
    (hQ : ∀ (m' : Str → Option Value) (hd' : Nat) (oS' oE' oV' oH' : Obj) (tab' : Tab) (rest' : List (Addr × Obj)) (h' : Heap) (tk' : Nat), (∀ y, y ≠ Str.ofString "told" → y ≠ Str.ofString "end" → y ≠ Str.ofString "count" → y ≠ Str.ofString "one" → y ≠ Str.ofString "held" → m' y = mi y) → m' (Str.ofString "held") = some (.ref hd') → Fr g L h' m' → News g L h' (M x oS' oE' oV' now tn nn ((hd', oH') :: rest')) → (∀ p ∈ rest, p ∈ rest') →
      Cx w x am mu L li sz it rest' → Dy w x am mu hd' oS' oE' oV' oH' tab' rest' → tab'.length ≤ tab.length + 1 → Q .next { s with heap := h', toks := tk' }) :
    wpAny (model PySem.Challenge.rw_jb0021_01.row.prog w) (callerA.deeper (envOfC (Str.ofString "law") lawS L fa (.ref 598))) (execs (ifB 1 (loopT 7)) (envOfC (Str.ofString "law") lawS L fa (.ref 598))) Q E s := by
  subst hmi
  revert X; k_fill; intro X
  conv in (ifB 1 (loopT 7)) => whnf
  have eS : lawS = lawS := rfl
  conv at eS => rhs; whnf
  rw [eS]
  clear eS
  obtain ⟨oC, hc1, hc2⟩ := C.cell
  obtain ⟨ld, lt, hl1, hl2⟩ := C.lim.here
  obtain ⟨hst, hstd, hoff, lo1, lo2, lo3, l1, ⟨fc, fod, ffd, fsl, hf⟩, clk⟩ := C.sto
  k_steps
  show wpAny _ _ _ _ _ _
  refine' Tell.use (live_at w x hd ka oS oE oV oH am mu tab (b, j) now tn _ nn rest D hk) ?k1 ?k2 ?k3 ?k4 ?k5 ?kK ?kd ?ku ?_
  case k1 => k_asm
  case k2 => k_asm
  case k3 => k_asm
  case k4 => k_asm
  case k5 => k_asm
  case kK => first | exact rfl | assumption
  case kd => ktr_room
  case ku => ktr_units
  intro v9 n9 h9 tk9 e9 F9 N9
  obtain ⟨oH', P, t0, tn', rfl, hP, H', pp, u1, u2, rfl, hp⟩ := e9
  obtain ⟨rest2, hr2⟩ : ∃ r, r = (P, tupO [.int 0 t0, .int now tn']) :: rest := ⟨_, rfl⟩
  have hs2 : ∀ q ∈ rest, q ∈ rest2 := by intro q hq; rw [hr2]; exact List.mem_cons_of_mem _ hq
  have C2 : Cx w x am mu L li sz it rest2 := by rw [hr2]; exact C.mono [(P, _)] (off_up hP)
  have off2 : ∀ p ∈ rest2, p.1 ≠ hd := by rw [hr2]; exact off_hd hP D.off
  rw [← hr2] at N9 hp
  have hp : (pp, ({ cls := .type "tuple", data := .seq #[.int _ u1, .int _ u2] } : Obj)) ∈ rest2 := hp
  obtain ⟨oC, hc1, hc2⟩ := C2.cell
  obtain ⟨ld, lt, hl1, hl2⟩ := C2.lim.here
  obtain ⟨I, ci, hi1, hi2⟩ := C2.its
  obtain ⟨hst, hstd, hoff, lo1, lo2, lo3, l1, ⟨fc, fod, ffd, fsl, hf⟩, clk⟩ := C2.sto
  k_steps
  show wpAny _ _ _ _ _ _
  refine at_list (c := ci) ‹News _ _ _ _› (sub_H _ hi1) (bI_lo b) (bI_hi b) (two_at b) ?_
  k_steps
  show wpAny _ _ _ _ _ _
  have C3 : Cx w x am mu L li sz it ((hd, oH') :: rest2) := C2.mono [(hd, oH')] (fun p hp b hb => by rw [List.mem_singleton.mp hp]; exact D.hne b hb)
  refine' Tell.use (test_tell w x ((hd, oH') :: rest2) C3.sto oS oE oV (tS am mu tab) (tE am mu tab) now tn nn D.dS D.dE D.dV (by rw [tS_len]; have := D.len; omega) (by rw [tE_len]; have := D.len; omega) li Tn C3.lim b (I b) (am b) (mu b) ((hi2 b).mono fun p hp => List.mem_cons_of_mem _ hp) j vs hv (List.mem_cons_of_mem _ (hs2 _ hT)) cost _) ?k1 ?k2 ?k3 ?k4 ?k5 ?kK ?kd ?ku ?_
  case k1 => k_asm
  case k2 => k_asm
  case k3 => k_asm
  case k4 => k_asm
  case k5 => k_asm
  case kK => first | exact rfl | assumption
  case kd => ktr_room
  case ku => ktr_units
  intro v9 n9 h9 tk9 e9 F9 N9
  obtain ⟨oS', oE', ⟨rfl, hS', hE'⟩, rfl⟩ := e9
  have hkl : (b, j).2 < 3 := hk.lt
  have e1 := liveS_img (am := am) (mu := mu) (now := now) (k := (b, j)) D.ok hkl
  have e2 := liveE_img (am := am) (mu := mu) (now := now) (k := (b, j)) D.ok hkl
  have ok' : TOk (tLive now (b, j) tab) := tLive_ok D.ok
  have e3 := lookS_get (am := am) (mu := mu) (now := now) (k := (b, j)) ok' hkl
  unfold kap at e1 e2 e3
  dsimp only at e1 e2 e3
  rw [e1] at hS'
  rw [e2] at hE'
  rw [e1, e3]
  k_steps
  · rename (_ != _) = true => hne
    rw [decide_eq_decide.mpr (show (tGet now (b, j) (tLive now (b, j) tab)).1 < am b - cost + 1 ↔ (tGet now (b, j) (tLive now (b, j) tab)).1 + cost ≤ am b by omega), bne_self_eq_false] at hne
    cases hne
  · refine hQ _ hd oS' oE' oV oH' (tLive now (b, j) tab) rest2 _ _ ?_ ?_ (by k_asm) (by k_asm) hs2 C2 ⟨hS', hE', D.dV, H'.mono hs2, ok', Nat.le_trans tLive_len D.len, off2, D.hne, D.lo⟩ (Nat.le_trans tLive_len (Nat.le_succ _))
    · intro y h1 h2 h3 h4 h5; rw [if_neg h2, if_neg h3]
    · with_unfolding_all rfl
theorem br_clear (w : World) (p : Program) (loose : List Str) (mean : ExcName → Option Value) (mg mb : Str → Option Value) (g : Heap) (L fa : Nat) (s : Shared) (Q : Flow → Shared → Prop) (E : Value → Shared → Prop)
    (X : (K w.params).In g) (T : Top p loose mean mg mb g) (B : Below callerA g [] g)
    (x : Fx) (am mu : Bool → Int) (hd li sz it : Nat) (oS oE oV oH : Obj) (tab : Tab) (now : Int) (tn : Tok) (nn : Nat) (rest : List (Addr × Obj)) (C : Cx w x am mu L li sz it rest) (D : Dy w x am mu hd oS oE oV oH tab rest)
    (b : Bool) (j : Nat) (Tn ka : Nat) (vs : List Value) (hk : KeyAt rest ka (b, j)) (hT : (Tn, tupO vs) ∈ rest) (hv : NmV j vs) (hz : tab.length ≤ 800) (nv dv cost : Int) (tnv tw ta tl td tk : Tok) (u : Str → Option Value)
    (mi : Str → Option Value) (hmi : mi = fun y => if y = Str.ofString "n" then some (.int nv tnv) else if y = Str.ofString "which" then some (.int (bI b) tw) else if y = Str.ofString "amount" then some (.int (am b) ta) else if y = Str.ofString "length" then some (.int (unI b * mu b) tl) else if y = Str.ofString "name" then some (.ref Tn) else if y = Str.ofString "key" then some (.ref ka) else if y = Str.ofString "deed" then some (.int dv td) else if y = Str.ofString "cost" then some (.int cost tk) else if y = Str.ofString "store" then some (.ref x.st) else if y = Str.ofString "limiter" then some (.ref li) else if y = Str.ofString "items" then some (.ref it) else if y = Str.ofString "held" then some (.ref hd) else u y) (F : Fr g L s.heap mi)
    (N : News g L s.heap (M x oS oE oV now tn nn ((hd, oH) :: rest)))
    (hQ : ∀ (m' : Str → Option Value) (hd' : Nat) (oS' oE' oV' oH' : Obj) (tab' : Tab) (rest' : List (Addr × Obj)) (h' : Heap) (tk' : Nat), (∀ y, y ≠ Str.ofString "told" → y ≠ Str.ofString "end" → y ≠ Str.ofString "count" → y ≠ Str.ofString "one" → y ≠ Str.ofString "held" → m' y = mi y) → m' (Str.ofString "held") = some (.ref hd') → Fr g L h' m' → News g L h' (M x oS' oE' oV' now tn nn ((hd', oH') :: rest')) → (∀ p ∈ rest, p ∈ rest') →
      Cx w x am mu L li sz it rest' → Dy w x am mu hd' oS' oE' oV' oH' tab' rest' → tab'.length ≤ tab.length + 1 → Q .next { s with heap := h', toks := tk' }) :
    wpAny (model PySem.Challenge.rw_jb0021_01.row.prog w) (callerA.deeper (envOfC (Str.ofString "law") lawS L fa (.ref 598))) (execs (ifB 2 (loopT 7)) (envOfC (Str.ofString "law") lawS L fa (.ref 598))) Q E s := by
  subst hmi
  revert X; k_fill; intro X
  conv in (ifB 2 (loopT 7)) => whnf
  have eS : lawS = lawS := rfl
  conv at eS => rhs; whnf
  rw [eS]
  clear eS
  obtain ⟨oC, hc1, hc2⟩ := C.cell
  obtain ⟨ld, lt, hl1, hl2⟩ := C.lim.here
  obtain ⟨I, ci, hi1, hi2⟩ := C.its
  obtain ⟨hst, hstd, hoff, lo1, lo2, lo3, l1, ⟨fc, fod, ffd, fsl, hf⟩, clk⟩ := C.sto
  have hkl : (b, j).2 < 3 := hk.lt
  k_steps
  refine h_meth PySem.F.slot_dict_pop PySem.F.type_dict_pop N sub_H hd_mem D.hld ?_
  k_steps
  refine pop_at (by k_units) ‹Fr _ _ _ _› ‹News _ _ _ _› D.hne D.off D.hld D.lo hk (by omega) fun rv oH' h9 tk9 F9 N9 H' => ?_
  clear N
  k_steps
  show wpAny _ _ _ _ _ _
  refine at_list (c := ci) ‹News _ _ _ _› (sub_H _ hi1) (bI_lo b) (bI_hi b) (two_at b) ?_
  k_steps
  show wpAny _ _ _ _ _ _
  have C3 : Cx w x am mu L li sz it ((hd, oH') :: rest) := C.mono [(hd, oH')] (fun p hp b hb => by rw [List.mem_singleton.mp hp]; exact D.hne b hb)
  refine' Tell.use (lclear_tell w x ((hd, oH') :: rest) C3.sto oS oE oV (tS am mu tab) (tE am mu tab) now tn nn D.dS D.dE D.dV (by rw [tS_len]; have := D.len; omega) (by rw [tE_len]; have := D.len; omega) li Tn C3.lim b (I b) (am b) (mu b) ((hi2 b).mono fun p hp => List.mem_cons_of_mem _ hp) j vs hv (List.mem_cons_of_mem _ hT)) ?k1 ?k2 ?k3 ?k4 ?k5 ?kK ?kd ?ku ?_
  case k1 => k_asm
  case k2 => k_asm
  case k3 => k_asm
  case k4 => k_asm
  case k5 => k_asm
  case kK => first | exact rfl | assumption
  case kd => ktr_room
  case ku => ktr_units
  intro v9 n9 h9 tk9 e9 F9 N9
  obtain ⟨oS', oE', oV', ⟨rfl, hS', hE', hV'⟩, rfl⟩ := e9
  have e1 : kdzDel (tS am mu tab) (keyI b j (am b) (mu b)) = tS am mu (tDel tab (b, j)) := img_del (am := am) (mu := mu) (k := (b, j)) _ D.ok hkl
  have e2 : kdzDel (tE am mu tab) (keyI b j (am b) (mu b)) = tE am mu (tDel tab (b, j)) := img_del (am := am) (mu := mu) (k := (b, j)) _ D.ok hkl
  rw [e1] at hS'
  rw [e2] at hE'
  k_steps
  refine hQ _ hd oS' oE' oV' oH' (tDel tab (b, j)) rest _ _ ?_ ?_ (by k_asm) (by k_asm) (fun q hq => hq) C ⟨hS', hE', hV', H', tDel_ok D.ok, Nat.le_trans tDel_len D.len, D.off, D.hne, D.lo⟩ (Nat.le_trans tDel_len (Nat.le_succ _))
  · intro y h1 h2 h3 h4 h5; rfl
  · with_unfolding_all rfl
theorem br_reset (w : World) (p : Program) (loose : List Str) (mean : ExcName → Option Value) (mg mb : Str → Option Value) (g : Heap) (L fa : Nat) (s : Shared) (Q : Flow → Shared → Prop) (E : Value → Shared → Prop)
    (X : (K w.params).In g) (T : Top p loose mean mg mb g) (B : Below callerA g [] g)
    (x : Fx) (am mu : Bool → Int) (hd li sz it : Nat) (oS oE oV oH : Obj) (tab : Tab) (now : Int) (tn : Tok) (nn : Nat) (rest : List (Addr × Obj)) (C : Cx w x am mu L li sz it rest) (D : Dy w x am mu hd oS oE oV oH tab rest)
    (b : Bool) (j : Nat) (Tn ka : Nat) (vs : List Value) (hk : KeyAt rest ka (b, j)) (hT : (Tn, tupO vs) ∈ rest) (hv : NmV j vs) (hz : tab.length ≤ 800) (nv dv cost : Int) (tnv tw ta tl td tk : Tok) (u : Str → Option Value)
    (mi : Str → Option Value) (hmi : mi = fun y => if y = Str.ofString "n" then some (.int nv tnv) else if y = Str.ofString "which" then some (.int (bI b) tw) else if y = Str.ofString "amount" then some (.int (am b) ta) else if y = Str.ofString "length" then some (.int (unI b * mu b) tl) else if y = Str.ofString "name" then some (.ref Tn) else if y = Str.ofString "key" then some (.ref ka) else if y = Str.ofString "deed" then some (.int dv td) else if y = Str.ofString "cost" then some (.int cost tk) else if y = Str.ofString "store" then some (.ref x.st) else if y = Str.ofString "limiter" then some (.ref li) else if y = Str.ofString "items" then some (.ref it) else if y = Str.ofString "held" then some (.ref hd) else u y) (F : Fr g L s.heap mi)
    (N : News g L s.heap (M x oS oE oV now tn nn ((hd, oH) :: rest)))
    (hQ : ∀ (m' : Str → Option Value) (hd' : Nat) (oS' oE' oV' oH' : Obj) (tab' : Tab) (rest' : List (Addr × Obj)) (h' : Heap) (tk' : Nat), (∀ y, y ≠ Str.ofString "told" → y ≠ Str.ofString "end" → y ≠ Str.ofString "count" → y ≠ Str.ofString "one" → y ≠ Str.ofString "held" → m' y = mi y) → m' (Str.ofString "held") = some (.ref hd') → Fr g L h' m' → News g L h' (M x oS' oE' oV' now tn nn ((hd', oH') :: rest')) → (∀ p ∈ rest, p ∈ rest') →
      Cx w x am mu L li sz it rest' → Dy w x am mu hd' oS' oE' oV' oH' tab' rest' → tab'.length ≤ tab.length + 1 → Q .next { s with heap := h', toks := tk' }) :
    wpAny (model PySem.Challenge.rw_jb0021_01.row.prog w) (callerA.deeper (envOfC (Str.ofString "law") lawS L fa (.ref 598))) (execs (ifE 3 (loopT 7)) (envOfC (Str.ofString "law") lawS L fa (.ref 598))) Q E s := by
  subst hmi
  revert X; k_fill; intro X
  conv in (ifE 3 (loopT 7)) => whnf
  have eS : lawS = lawS := rfl
  conv at eS => rhs; whnf
  rw [eS]
  clear eS
  obtain ⟨oC, hc1, hc2⟩ := C.cell
  obtain ⟨ld, lt, hl1, hl2⟩ := C.lim.here
  obtain ⟨I, ci, hi1, hi2⟩ := C.its
  obtain ⟨hst, hstd, hoff, lo1, lo2, lo3, l1, ⟨fc, fod, ffd, fsl, hf⟩, clk⟩ := C.sto
  have hkl : (b, j).2 < 3 := hk.lt
  k_steps
  show wpAny _ _ (call (.ref 573) [.ref x.st]) _ _ _
  have C3 : Cx w x am mu L li sz it ((hd, oH) :: rest) := C.mono [(hd, oH)] (fun p hp b hb => by rw [List.mem_singleton.mp hp]; exact D.hne b hb)
  refine' Tell.use (reset_tell w x ((hd, oH) :: rest) C3.sto oS oE oV (tS am mu tab) (tE am mu tab) now tn nn D.dS D.dE D.dV (by rw [tS_len]; have := D.len; omega) (by rw [tE_len]; have := D.len; omega)) ?k1 ?k2 ?k3 ?k4 ?k5 ?kK ?kd ?ku ?_
  case k1 => k_asm
  case k2 => k_asm
  case k3 => k_asm
  case k4 => k_asm
  case k5 => k_asm
  case kK => first | exact rfl | assumption
  case kd => ktr_room
  case ku => ktr_units
  intro v9 n9 h9 tk9 e9 F9 N9
  obtain ⟨oS', oE', oV', ⟨⟨t', rfl⟩, hS', hE', hV'⟩, rfl⟩ := e9
  rw [tS_len]
  k_steps
  refine h_len ‹News _ _ _ _› sub_H hd_mem D.hld D.lo (by omega) fun t8 tk8 => ?_
  k_steps
  · rename_i hne; exact absurd rfl hne
  · rename Obj.IsDictOf (PySem.strKind _ _) _ [] => hs9
    rename ((_ == sysModules) = false) => lo9
    rename (@LT.lt Nat _ x.sd _ ∧ _) => l9
    rename Fr _ _ _ _ => F8
    rename News _ _ _ _ => N8
    have l8 : ∀ q ∈ M x oS' oE' oV' now tn nn ((hd, oH) :: rest), @LT.lt Nat _ q.1 _ := kst_ltOf l9
    refine hQ _ _ oS' oE' oV' _ [] ((hd, oH) :: rest) _ _ ?_ ?_ F8 (news_sub N8 ?_) (fun q hq => List.mem_cons_of_mem _ hq) C3 ⟨hS', hE', hV', Hld.empty hs9, (fun q hq => nomatch hq), Nat.zero_le _, ?_, ?_, lo9⟩ (Nat.zero_le _)
    · intro y h1 h2 h3 h4 h5; rw [if_neg h5]
    · with_unfolding_all rfl
    · walk_at "jb_in"
    · intro q hq
      refine Nat.ne_of_lt (l8 q ?_)
      exact sub_M _ hq
    · intro c hc
      simp only [List.mem_cons, List.not_mem_nil, or_false] at hc
      rcases hc with rfl | rfl | rfl | rfl
      · exact Nat.ne_of_gt (l8 (x.sd, oS') (by first | exact m_sd | simp))
      · exact Nat.ne_of_gt (l8 (x.ed, oE') (by first | exact m_ed | simp))
      · exact Nat.ne_of_gt (l8 (x.vd, oV') (by first | exact m_vd | simp))
      · exact Nat.ne_of_gt (l8 (x.nl, listOf #[.int now tn] nn) (by first | exact m_nl | simp))
theorem br_hit (w : World) (p : Program) (loose : List Str) (mean : ExcName → Option Value) (mg mb : Str → Option Value) (g : Heap) (L fa : Nat) (s : Shared) (Q : Flow → Shared → Prop) (E : Value → Shared → Prop)
    (X : (K w.params).In g) (T : Top p loose mean mg mb g) (B : Below callerA g [] g)
    (x : Fx) (am mu : Bool → Int) (hd li sz it : Nat) (oS oE oV oH : Obj) (tab : Tab) (now : Int) (tn : Tok) (nn : Nat) (rest : List (Addr × Obj)) (C : Cx w x am mu L li sz it rest) (D : Dy w x am mu hd oS oE oV oH tab rest)
    (b : Bool) (j : Nat) (Tn ka : Nat) (vs : List Value) (hk : KeyAt rest ka (b, j)) (hT : (Tn, tupO vs) ∈ rest) (hv : NmV j vs) (hz : tab.length ≤ 800) (nv dv cost : Int) (tnv tw ta tl td tk : Tok) (u : Str → Option Value)
    (mi : Str → Option Value) (hmi : mi = fun y => if y = Str.ofString "n" then some (.int nv tnv) else if y = Str.ofString "which" then some (.int (bI b) tw) else if y = Str.ofString "amount" then some (.int (am b) ta) else if y = Str.ofString "length" then some (.int (unI b * mu b) tl) else if y = Str.ofString "name" then some (.ref Tn) else if y = Str.ofString "key" then some (.ref ka) else if y = Str.ofString "deed" then some (.int dv td) else if y = Str.ofString "cost" then some (.int cost tk) else if y = Str.ofString "store" then some (.ref x.st) else if y = Str.ofString "limiter" then some (.ref li) else if y = Str.ofString "items" then some (.ref it) else if y = Str.ofString "held" then some (.ref hd) else u y) (F : Fr g L s.heap mi)
    (N : News g L s.heap (M x oS oE oV now tn nn ((hd, oH) :: rest)))
    (hQ : ∀ (m' : Str → Option Value) (hd' : Nat) (oS' oE' oV' oH' : Obj) (tab' : Tab) (rest' : List (Addr × Obj)) (h' : Heap) (tk' : Nat), (∀ y, y ≠ Str.ofString "told" → y ≠ Str.ofString "end" → y ≠ Str.ofString "count" → y ≠ Str.ofString "one" → y ≠ Str.ofString "held" → m' y = mi y) → m' (Str.ofString "held") = some (.ref hd') → Fr g L h' m' → News g L h' (M x oS' oE' oV' now tn nn ((hd', oH') :: rest')) → (∀ p ∈ rest, p ∈ rest') →
      Cx w x am mu L li sz it rest' → Dy w x am mu hd' oS' oE' oV' oH' tab' rest' → tab'.length ≤ tab.length + 1 → Q .next { s with heap := h', toks := tk' }) :
    wpAny (model PySem.Challenge.rw_jb0021_01.row.prog w) (callerA.deeper (envOfC (Str.ofString "law") lawS L fa (.ref 598))) (execs (ifB 0 (loopT 7)) (envOfC (Str.ofString "law") lawS L fa (.ref 598))) Q E s := by
  subst hmi
  revert X; k_fill; intro X
  conv in (ifB 0 (loopT 7)) => whnf
  have eS : lawS = lawS := rfl
  conv at eS => rhs; whnf
  rw [eS]
  clear eS
  obtain ⟨oC, hc1, hc2⟩ := C.cell
  obtain ⟨ld, lt, hl1, hl2⟩ := C.lim.here
  obtain ⟨hst, hstd, hoff, lo1, lo2, lo3, l1, ⟨fc, fod, ffd, fsl, hf⟩, clk⟩ := C.sto
  k_steps
  show wpAny _ _ _ _ _ _
  refine' Tell.use (live_at w x hd ka oS oE oV oH am mu tab (b, j) now tn _ nn rest D hk) ?k1 ?k2 ?k3 ?k4 ?k5 ?kK ?kd ?ku ?_
  case k1 => k_asm
  case k2 => k_asm
  case k3 => k_asm
  case k4 => k_asm
  case k5 => k_asm
  case kK => first | exact rfl | assumption
  case kd => ktr_room
  case ku => ktr_units
  intro v9 n9 h9 tk9 e9 F9 N9
  obtain ⟨oH', P, t0, tn', rfl, hP, H', pp, u1, u2, rfl, hp⟩ := e9
  obtain ⟨rest2, hr2⟩ : ∃ r, r = (P, tupO [.int 0 t0, .int now tn']) :: rest := ⟨_, rfl⟩
  have hs2 : ∀ q ∈ rest, q ∈ rest2 := by intro q hq; rw [hr2]; exact List.mem_cons_of_mem _ hq
  have C2 : Cx w x am mu L li sz it rest2 := by rw [hr2]; exact C.mono [(P, _)] (off_up hP)
  have off2 : ∀ p ∈ rest2, p.1 ≠ hd := by rw [hr2]; exact off_hd hP D.off
  rw [← hr2] at N9 hp
  have hp : (pp, ({ cls := .type "tuple", data := .seq #[.int _ u1, .int _ u2] } : Obj)) ∈ rest2 := hp
  obtain ⟨oC, hc1, hc2⟩ := C2.cell
  obtain ⟨ld, lt, hl1, hl2⟩ := C2.lim.here
  obtain ⟨I, ci, hi1, hi2⟩ := C2.its
  obtain ⟨hst, hstd, hoff, lo1, lo2, lo3, l1, ⟨fc, fod, ffd, fsl, hf⟩, clk⟩ := C2.sto
  have D2 : Dy w x am mu hd oS oE oV oH tab rest2 := ⟨D.dS, D.dE, D.dV, D.hld.mono hs2, D.ok, D.len, off2, D.hne, D.lo⟩
  iterate 17 walk1
  · iterate 12 walk1
    rename (_ = 0) => hc
    rename Fr _ _ _ _ => F8
    rename News _ _ _ _ => N8
    refine' hit_rest w p loose mean mg mb g L fa _ _ _ X T B x am mu hd li sz it oS oE oV oH' oH tab now tn nn rest2 C2 D2 b j Tn ka vs (hk.mono hs2) (hs2 _ hT) hv hz (H'.mono hs2) cost (now + unI b * mu b) ?he tnv _ _ _ _ _ _ _ (ovr_self _ [(Str.ofString "count", .int (tGet now (b, j) (tLive now (b, j) tab)).1 _), (Str.ofString "end", .int (now + unI b * mu b) _), (Str.ofString "cost", .int cost _), (Str.ofString "which", .int (bI b) _), (Str.ofString "amount", .int (am b) _), (Str.ofString "name", .ref Tn), (Str.ofString "key", .ref ka), (Str.ofString "limiter", .ref li), (Str.ofString "items", .ref it), (Str.ofString "held", .ref hd)] ?ok) F8 N8 ?hq
    case he => unfold hitEnd; rw [if_pos hc]
    case ok => exact ⟨by with_unfolding_all rfl, by with_unfolding_all rfl, by with_unfolding_all rfl, by with_unfolding_all rfl, by with_unfolding_all rfl, by with_unfolding_all rfl, by with_unfolding_all rfl, by with_unfolding_all rfl, by with_unfolding_all rfl, by with_unfolding_all rfl, trivial⟩
    case hq =>
      intro m' oS' oE' oH2 tab' rest' h' tk' hm' F' N' hsr C' D' hl'
      k_steps
      refine hQ m' hd oS' oE' oV oH2 tab' rest' h' tk' ?_ ?_ F' N' (fun q hq => hsr q (hs2 q hq)) C' D' hl'
      · intro y h1 h2 h3 h4 h5; rw [hm' y h1]; first | rw [if_neg h2, if_neg h2, if_neg h3] | rw [if_neg h2, if_neg h3]
      · rw [hm' _ (by decide)]; with_unfolding_all rfl
  · iterate 2 walk1
    rename (_ ≠ 0) => hc
    rename Fr _ _ _ _ => F8
    rename News _ _ _ _ => N8
    refine' hit_rest w p loose mean mg mb g L fa _ _ _ X T B x am mu hd li sz it oS oE oV oH' oH tab now tn nn rest2 C2 D2 b j Tn ka vs (hk.mono hs2) (hs2 _ hT) hv hz (H'.mono hs2) cost (tGet now (b, j) (tLive now (b, j) tab)).2 ?he tnv _ _ _ _ _ _ _ (ovr_self _ [(Str.ofString "count", .int (tGet now (b, j) (tLive now (b, j) tab)).1 _), (Str.ofString "end", .int (tGet now (b, j) (tLive now (b, j) tab)).2 _), (Str.ofString "cost", .int cost _), (Str.ofString "which", .int (bI b) _), (Str.ofString "amount", .int (am b) _), (Str.ofString "name", .ref Tn), (Str.ofString "key", .ref ka), (Str.ofString "limiter", .ref li), (Str.ofString "items", .ref it), (Str.ofString "held", .ref hd)] ?ok) F8 N8 ?hq
    case he => unfold hitEnd; rw [if_neg hc]
    case ok => exact ⟨by with_unfolding_all rfl, by with_unfolding_all rfl, by with_unfolding_all rfl, by with_unfolding_all rfl, by with_unfolding_all rfl, by with_unfolding_all rfl, by with_unfolding_all rfl, by with_unfolding_all rfl, by with_unfolding_all rfl, by with_unfolding_all rfl, trivial⟩
    case hq =>
      intro m' oS' oE' oH2 tab' rest' h' tk' hm' F' N' hsr C' D' hl'
      k_steps
      refine hQ m' hd oS' oE' oV oH2 tab' rest' h' tk' ?_ ?_ F' N' (fun q hq => hsr q (hs2 q hq)) C' D' hl'
      · intro y h1 h2 h3 h4 h5; rw [hm' y h1]; first | rw [if_neg h2, if_neg h2, if_neg h3] | rw [if_neg h2, if_neg h3]
      · rw [hm' _ (by decide)]; with_unfolding_all rfl
theorem br_sweep (w : World) (p : Program) (loose : List Str) (mean : ExcName → Option Value) (mg mb : Str → Option Value) (g : Heap) (L fa : Nat) (s : Shared) (Q : Flow → Shared → Prop) (E : Value → Shared → Prop)
    (X : (K w.params).In g) (T : Top p loose mean mg mb g) (B : Below callerA g [] g)
    (x : Fx) (am mu : Bool → Int) (hd li sz it : Nat) (oS oE oV oH : Obj) (tab : Tab) (now : Int) (tn : Tok) (nn : Nat) (rest : List (Addr × Obj)) (C : Cx w x am mu L li sz it rest) (D : Dy w x am mu hd oS oE oV oH tab rest)
    (b : Bool) (j : Nat) (Tn ka : Nat) (vs : List Value) (hk : KeyAt rest ka (b, j)) (hT : (Tn, tupO vs) ∈ rest) (hv : NmV j vs) (hz : tab.length ≤ 800) (nv dv cost : Int) (tnv tw ta tl td tk : Tok) (u : Str → Option Value)
    (mi : Str → Option Value) (hmi : mi = fun y => if y = Str.ofString "n" then some (.int nv tnv) else if y = Str.ofString "which" then some (.int (bI b) tw) else if y = Str.ofString "amount" then some (.int (am b) ta) else if y = Str.ofString "length" then some (.int (unI b * mu b) tl) else if y = Str.ofString "name" then some (.ref Tn) else if y = Str.ofString "key" then some (.ref ka) else if y = Str.ofString "deed" then some (.int dv td) else if y = Str.ofString "cost" then some (.int cost tk) else if y = Str.ofString "store" then some (.ref x.st) else if y = Str.ofString "limiter" then some (.ref li) else if y = Str.ofString "items" then some (.ref it) else if y = Str.ofString "held" then some (.ref hd) else u y) (F : Fr g L s.heap mi)
    (N : News g L s.heap (M x oS oE oV now tn nn ((hd, oH) :: rest)))
    (hQ : ∀ (m' : Str → Option Value) (hd' : Nat) (oS' oE' oV' oH' : Obj) (tab' : Tab) (rest' : List (Addr × Obj)) (h' : Heap) (tk' : Nat), (∀ y, y ≠ Str.ofString "told" → y ≠ Str.ofString "end" → y ≠ Str.ofString "count" → y ≠ Str.ofString "one" → y ≠ Str.ofString "held" → m' y = mi y) → m' (Str.ofString "held") = some (.ref hd') → Fr g L h' m' → News g L h' (M x oS' oE' oV' now tn nn ((hd', oH') :: rest')) → (∀ p ∈ rest, p ∈ rest') →
      Cx w x am mu L li sz it rest' → Dy w x am mu hd' oS' oE' oV' oH' tab' rest' → tab'.length ≤ tab.length + 1 → Q .next { s with heap := h', toks := tk' }) :
    wpAny (model PySem.Challenge.rw_jb0021_01.row.prog w) (callerA.deeper (envOfC (Str.ofString "law") lawS L fa (.ref 598))) (execs (ifB 3 (loopT 7)) (envOfC (Str.ofString "law") lawS L fa (.ref 598))) Q (fun _ _ => False) s := by
  subst hmi
  revert X; k_fill; intro X
  conv in (ifB 3 (loopT 7)) => whnf
  have eS : lawS = lawS := rfl
  conv at eS => rhs; whnf
  rw [eS]
  clear eS
  obtain ⟨oC, hc1, hc2⟩ := C.cell
  obtain ⟨ld, lt, hl1, hl2⟩ := C.lim.here
  obtain ⟨I, ci, hi1, hi2⟩ := C.its
  obtain ⟨hst, hstd, hoff, lo1, lo2, lo3, l1, ⟨fc, fod, ffd, fsl, hf⟩, clk⟩ := C.sto
  have hkl : (b, j).2 < 3 := hk.lt
  k_steps
  show wpAny _ _ (call (.ref 478) [.ref x.st]) _ _ _
  have C3 : Cx w x am mu L li sz it ((hd, oH) :: rest) := C.mono [(hd, oH)] (fun p hp b hb => by rw [List.mem_singleton.mp hp]; exact D.hne b hb)
  refine' Tell.use (expire_tell w x ((hd, oH) :: rest) C3.sto oS oE oV (tS am mu tab) (tE am mu tab) now tn nn D.dS D.dE D.dV (by rw [tS_len]; have := D.len; omega) (by rw [tE_len]; have := D.len; omega) (tE_nd D.ok D.hld.nd)) ?k1 ?k2 ?k3 ?k4 ?k5 ?kK ?kd ?ku ?_
  case k1 => k_asm
  case k2 => k_asm
  case k3 => k_asm
  case k4 => k_asm
  case k5 => k_asm
  case kK => first | exact rfl | assumption
  case kd => ktr_room
  case ku => ktr_units
  intro v9 n9 h9 tk9 e9 F9 N9
  obtain ⟨oS', oE', oV', ⟨rfl, hS', hE', hV'⟩, rfl⟩ := e9
  rw [sweepS D.ok D.hld.nd] at hS'
  rw [sweepE] at hE'
  k_steps
  refine h_meth PySem.F.slot_dict_keys PySem.F.type_dict_keys ‹News _ _ _ _› sub_H hd_mem D.hld ?_
  k_steps
  refine h_keys ‹Fr _ _ _ _› ‹News _ _ _ _› hd_mem D.hld D.lo fun Dk h8 F8 N8 l8 => ?_
  k_steps
  refine h_list (by rfl) F8 N8 (List.mem_cons_self ..) (List.mem_cons_of_mem _ hd_mem) D.hld (by omega) fun Db cb h7 tk7 vs7 len7 get7 F7 N7 l7 => ?_
  k_steps
  obtain ⟨base, hbase⟩ : ∃ r, r = (Db, listOf vs7.toArray cb) :: (Dk, { cls := Value.type "dict_keys", data := Data.fields #[Value.ref hd] }) :: rest := ⟨_, rfl⟩
  have hbs : ∀ q ∈ rest, q ∈ base := by intro q hq; rw [hbase]; exact List.mem_cons_of_mem _ (List.mem_cons_of_mem _ hq)
  have Cb : Cx w x am mu L li sz it base := by
    rw [hbase]
    refine (C.mono [(Dk, _)] (off_up (oS := oS') (oE := oE') (oV := oV') (now := now) (t := tn) (n := nn) (rest := (hd, oH) :: rest) l8)).mono [(Db, _)] (off_up (oS := oS') (oE := oE') (oV := oV') (now := now) (t := tn) (n := nn) (rest := (hd, oH) :: rest) fun q hq => l7 q (List.mem_cons_of_mem _ hq))
  have offb : ∀ p ∈ base, p.1 ≠ hd := by
    rw [hbase]
    intro p hp
    rcases List.mem_cons.mp hp with rfl | hp
    · exact Nat.ne_of_gt (l7 (hd, oH) (List.mem_cons_of_mem _ hd_mem))
    · exact off_hd l8 D.off p hp
  have Nb : News g L h7 (M x oS' oE' oV' now tn nn ((hd, oH) :: base)) := news_sub N7 (by
    rw [hbase]; walk_at "jb_in")
  have hDb : (Db, listOf vs7.toArray cb) ∈ M x oS' oE' oV' now tn nn ((hd, oH) :: base) := sub_H _ (by rw [hbase]; exact List.mem_cons_self ..)
  clear N7
  refine for_list [] (by rfl) F7 Nb hDb (fun (_ : Unit) => fun y => if y = Str.ofString "n" then some (.int nv tnv) else if y = Str.ofString "which" then some (.int (bI b) tw) else if y = Str.ofString "amount" then some (.int (am b) ta) else if y = Str.ofString "length" then some (.int (unI b * mu b) tl) else if y = Str.ofString "name" then some (.ref Tn) else if y = Str.ofString "key" then some (.ref ka) else if y = Str.ofString "deed" then some (.int dv td) else if y = Str.ofString "cost" then some (.int cost tk) else if y = Str.ofString "store" then some (.ref x.st) else if y = Str.ofString "limiter" then some (.ref li) else if y = Str.ofString "items" then some (.ref it) else if y = Str.ofString "held" then some (.ref hd) else u y) (fun i _ l => ∃ oH1 r1, l = M x oS' oE' oV' now tn nn ((hd, oH1) :: r1) ∧ Hld w oH1 (swT now tab i) r1 ∧ (∀ p ∈ base, p ∈ r1) ∧ Cx w x am mu L li sz it r1 ∧ ∀ p ∈ r1, p.1 ≠ hd) () ⟨oH, base, rfl, by rw [swT_zero]; exact D.hld.mono hbs, fun _ h => h, Cb, offb⟩ (fun _ _ _ => rfl) ?turn ?done
  case turn =>
    rintro i v u1 c' news₁ h tk6 own I hv ⟨oH1, r1, rfl, H1, hsb, C1, off1⟩ hnI hltI hown hIo F1 N1
    obtain ⟨q, a, hq, rfl, hka⟩ := get7 i v hv
    have hzt := @swT_len now tab i
    have AbI : Ab x I := ⟨hltI (x.sd, oS') (by first | exact m_sd | simp), hltI (x.ed, oE') (by first | exact m_ed | simp), hltI (x.vd, oV') (by first | exact m_vd | simp), hltI (x.nl, listOf #[.int now tn] nn) (by first | exact m_nl | simp)⟩
    have AbD : Ab x Db := ⟨l7 (x.sd, oS') (by first | exact m_sd | simp), l7 (x.ed, oE') (by first | exact m_ed | simp), l7 (x.vd, oV') (by first | exact m_vd | simp), l7 (x.nl, listOf #[.int now tn] nn) (by first | exact m_nl | simp)⟩
    have hoI := off_own hown AbI AbD
    have C2 := C1.mono own hoI
    have off2 : ∀ p ∈ own ++ r1, p.1 ≠ hd := by
      intro p hp
      rcases List.mem_append.mp hp with hp | hp
      · rcases hown p hp with e | e <;> rw [e]
        · exact Nat.ne_of_gt (hltI (hd, oH) hd_mem)
        · exact Nat.ne_of_gt (l7 (hd, oH) (List.mem_cons_of_mem _ hd_mem))
      · exact off1 p hp
    have N2 : News g L h (M x oS' oE' oV' now tn nn ((hd, oH1) :: (own ++ r1))) := news_sub N1 (by
      walk_at "jb_in")
    obtain ⟨oI, hoI2, hcI0⟩ := hIo
    obtain ⟨rest2, hr2⟩ : ∃ r, r = own ++ r1 := ⟨_, rfl⟩
    have hI2 : (I, oI) ∈ rest2 := by rw [hr2]; exact List.mem_append_left _ hoI2
    have hs2 : ∀ p ∈ r1, p ∈ rest2 := by rw [hr2]; exact fun p hp => List.mem_append_right _ hp
    rw [← hr2] at N2 C2 off2
    change Fr g L h _ at F1
    clear N1 Nb F7 C Cb C3
    obtain ⟨oC, hc1, hc2⟩ := C2.cell
    k_steps
    show wpAny _ _ _ _ _ _
    refine' Tell.use (live_gen w x hd a oS' oE' oV' oH1 (swT now tab i) q.1 now tn _ nn r1 rest2 hs2 D.hne off2 H1 D.lo (hka.mono fun p hp => hsb p (hbs p hp)) (by omega)) ?k1 ?k2 ?k3 ?k4 ?k5 ?kK ?kd ?ku ?_
    case k1 => k_asm
    case k2 => k_asm
    case k3 => k_asm
    case k4 => k_asm
    case k5 => k_asm
    case kK => first | exact rfl | assumption
    case kd => ktr_room
    case ku => ktr_units
    intro v9 n9 h9 tk9 e9 F9 N9
    obtain ⟨oH', P, t0, tn', rfl, hP, H', hv'⟩ := e9
    rw [swT_at hq D.hld.nd] at H'
    k_steps
    have hPI : P ≠ I := Nat.ne_of_gt (hP (I, oI) (sub_H _ hI2))
    have hPr : ∀ q ∈ M x oS' oE' oV' now tn nn ((hd, oH1) :: r1), @LT.lt Nat _ q.1 P := by
      intro q hq
      refine hP q ?_
      simp only [List.mem_cons] at hq ⊢
      rcases hq with hq | hq | hq | hq | hq | hq
      iterate 5 simp [hq]
      simp [hs2 _ hq]
    have offP : OwnOff [(P, tupO [.int 0 t0, .int now tn'])] [x.sd, x.ed, x.vd, x.nl] := off_up hP
    subst hr2
    refine turn_end (r := (hd, oH') :: (P, tupO [.int 0 t0, .int now tn']) :: r1) (by k_asm) (news_sub N9 ?_) (a := oS') (b := oE') (c := oV') (now' := now) (t' := tn) (n' := nn) ?_ ⟨(), ⟨oH', (P, _) :: r1, rfl, H'.mono fun p hp => List.mem_cons_of_mem _ hp, fun p hp => List.mem_cons_of_mem _ (hsb p hp), C1.mono [(P, _)] offP, off_hd hPr off1⟩, ?_⟩
    · walk_at "jb_in"
    · intro p hp
      simp only [List.mem_cons] at hp
      rcases hp with rfl | rfl | rfl | rfl | rfl | rfl | hp
      · exact hnI (x.sd, oS') (by first | exact m_sd | simp)
      · exact hnI (x.ed, oE') (by first | exact m_ed | simp)
      · exact hnI (x.vd, oV') (by first | exact m_vd | simp)
      · exact hnI (x.nl, listOf #[.int now tn] nn) (by first | exact m_nl | simp)
      · exact hnI (hd, oH1) hd_mem
      · exact hPI
      · exact hnI p (sub_H _ hp)
    · intro y h1 h2; rw [if_neg h1, if_neg (by rw [h2]; decide)]
  rintro u1 c' news₁ h tk6 ⟨oH1, r1, rfl, H1, hsb, C1, off1⟩ F1 N1
  rw [len7, swT_end] at H1
  change Fr g L h _ at F1
  k_steps
  refine hQ _ hd oS' oE' oV' oH1 (tSweep now tab) r1 _ _ ?_ ?_ F1 N1 (fun p hp => hsb p (hbs p hp)) C1 ⟨hS', hE', hV', H1, tSweep_ok D.ok, Nat.le_trans tSweep_len D.len, off1, D.hne, D.lo⟩ (Nat.le_trans tSweep_len (Nat.le_succ _))
  · intro y h1 h2 h3 h4 h5; rw [if_neg h4, if_neg (by simp)]
  · with_unfolding_all rfl
theorem turn_A (w : World) (p : Program) (loose : List Str) (mean : ExcName → Option Value) (mg mb : Str → Option Value) (g : Heap) (L fa : Nat) (s : Shared) (Q : Flow → Shared → Prop) (E : Value → Shared → Prop)
    (X : (K w.params).In g) (T : Top p loose mean mg mb g) (B : Below callerA g [] g)
    (x : Fx) (am mu : Bool → Int) (hd li sz it : Nat) (oS oE oV oH : Obj) (tab : Tab) (now : Int) (tn : Tok) (nn : Nat) (rest : List (Addr × Obj)) (C : Cx w x am mu L li sz it rest) (D : Dy w x am mu hd oS oE oV oH tab rest)
    (b : Bool) (j : Nat) (Tn ka : Nat) (vs : List Value) (hk : KeyAt rest ka (b, j)) (hT : (Tn, tupO vs) ∈ rest) (hv : NmV j vs) (hz : tab.length ≤ 800) (nv dv cost : Int) (tnv tw ta tl td tkc : Tok) (u : Str → Option Value)
    (mi : Str → Option Value) (hmi : mi = fun y => if y = Str.ofString "n" then some (.int nv tnv) else if y = Str.ofString "which" then some (.int (bI b) tw) else if y = Str.ofString "amount" then some (.int (am b) ta) else if y = Str.ofString "length" then some (.int (unI b * mu b) tl) else if y = Str.ofString "name" then some (.ref Tn) else if y = Str.ofString "key" then some (.ref ka) else if y = Str.ofString "deed" then some (.int dv td) else if y = Str.ofString "cost" then some (.int cost tkc) else if y = Str.ofString "store" then some (.ref x.st) else if y = Str.ofString "limiter" then some (.ref li) else if y = Str.ofString "items" then some (.ref it) else if y = Str.ofString "held" then some (.ref hd) else u y) (F : Fr g L s.heap mi)
    (N : News g L s.heap (M x oS oE oV now tn nn ((hd, oH) :: rest)))
    (hQ : ∀ (m' : Str → Option Value) (hd' : Nat) (oS' oE' oV' oH' : Obj) (tab' : Tab) (rest' : List (Addr × Obj)) (h' : Heap) (tk' : Nat), (∀ y, y ≠ Str.ofString "told" → y ≠ Str.ofString "end" → y ≠ Str.ofString "count" → y ≠ Str.ofString "one" → y ≠ Str.ofString "held" → m' y = mi y) → m' (Str.ofString "held") = some (.ref hd') → Fr g L h' m' → News g L h' (M x oS' oE' oV' now tn nn ((hd', oH') :: rest')) → (∀ p ∈ rest, p ∈ rest') →
      Cx w x am mu L li sz it rest' → Dy w x am mu hd' oS' oE' oV' oH' tab' rest' → tab'.length ≤ tab.length + 1 → Q .next { s with heap := h', toks := tk' }) :
    wpAny (model PySem.Challenge.rw_jb0021_01.row.prog w) (callerA.deeper (envOfC (Str.ofString "law") lawS L fa (.ref 598))) (execs (loopT 7) (envOfC (Str.ofString "law") lawS L fa (.ref 598))) Q (fun _ _ => False) s := by
  have hmi0 := hmi
  rw [hmi] at F
  revert X; k_fill; intro X
  conv in (loopT 7) => whnf
  have eS : lawS = lawS := rfl
  conv at eS => rhs; whnf
  rw [eS]
  clear eS
  iterate 8 walk1
  · walk1
    refine' br_hit w p loose mean mg mb g L fa _ _ (fun _ _ => False) X T B x am mu hd li sz it oS oE oV oH tab now tn nn rest C D b j Tn ka vs hk hT hv hz nv dv cost tnv tw ta tl td tkc u mi hmi (hmi0 ▸ ‹Fr g L _ _›) ‹News _ _ _ _› ?hq
    case hq =>
      intro m' hd' oS' oE' oV' oH' tab' rest' h' tk' hm' hh' F' N' hsr C' D' hl'
      show wpAny _ _ (execs _ _) _ _ _
      refine' turn_B w p loose mean mg mb g L fa _ _ _ X T B x am mu hd' li sz it oS' oE' oV' oH' tab' now tn nn rest' C' D' b j Tn ka vs (hk.mono hsr) (hsr _ hT) hv nv tnv tw ta m' m' (ovr_self m' [(Str.ofString "n", .int nv tnv), (Str.ofString "which", .int (bI b) tw), (Str.ofString "amount", .int (am b) ta), (Str.ofString "name", .ref Tn), (Str.ofString "key", .ref ka), (Str.ofString "limiter", .ref li), (Str.ofString "items", .ref it), (Str.ofString "held", .ref hd')] ?ok) F' N' ?hq2
      case ok => exact ⟨(hm' _ (by decide) (by decide) (by decide) (by decide) (by decide)).trans (by rw [hmi0]; with_unfolding_all rfl), (hm' _ (by decide) (by decide) (by decide) (by decide) (by decide)).trans (by rw [hmi0]; with_unfolding_all rfl), (hm' _ (by decide) (by decide) (by decide) (by decide) (by decide)).trans (by rw [hmi0]; with_unfolding_all rfl), (hm' _ (by decide) (by decide) (by decide) (by decide) (by decide)).trans (by rw [hmi0]; with_unfolding_all rfl), (hm' _ (by decide) (by decide) (by decide) (by decide) (by decide)).trans (by rw [hmi0]; with_unfolding_all rfl), (hm' _ (by decide) (by decide) (by decide) (by decide) (by decide)).trans (by rw [hmi0]; with_unfolding_all rfl), (hm' _ (by decide) (by decide) (by decide) (by decide) (by decide)).trans (by rw [hmi0]; with_unfolding_all rfl), hh', trivial⟩
      case hq2 =>
        intro m2 oS2 oE2 oH2 tab2 rest2 h2 tk2 hm2 F2 N2 hsr2 C2 D2 hl2
        exact hQ m2 hd' oS2 oE2 oV' oH2 tab2 rest2 h2 tk2 (fun y h1 h2 h3 h4 h5 => (hm2 y h1 h2 h3).trans (hm' y h1 h2 h3 h4 h5)) ((hm2 _ (by decide) (by decide) (by decide)).trans hh') F2 N2 (fun q hq => hsr2 q (hsr q hq)) C2 D2 (Nat.le_trans hl2 hl')
  iterate 9 walk1
  · walk1
    refine' br_test w p loose mean mg mb g L fa _ _ (fun _ _ => False) X T B x am mu hd li sz it oS oE oV oH tab now tn nn rest C D b j Tn ka vs hk hT hv hz nv dv cost tnv tw ta tl td tkc u mi hmi (hmi0 ▸ ‹Fr g L _ _›) ‹News _ _ _ _› ?hq
    case hq =>
      intro m' hd' oS' oE' oV' oH' tab' rest' h' tk' hm' hh' F' N' hsr C' D' hl'
      iterate 1 walk1
      show wpAny _ _ (execs _ _) _ _ _
      refine' turn_B w p loose mean mg mb g L fa _ _ _ X T B x am mu hd' li sz it oS' oE' oV' oH' tab' now tn nn rest' C' D' b j Tn ka vs (hk.mono hsr) (hsr _ hT) hv nv tnv tw ta m' m' (ovr_self m' [(Str.ofString "n", .int nv tnv), (Str.ofString "which", .int (bI b) tw), (Str.ofString "amount", .int (am b) ta), (Str.ofString "name", .ref Tn), (Str.ofString "key", .ref ka), (Str.ofString "limiter", .ref li), (Str.ofString "items", .ref it), (Str.ofString "held", .ref hd')] ?ok) F' N' ?hq2
      case ok => exact ⟨(hm' _ (by decide) (by decide) (by decide) (by decide) (by decide)).trans (by rw [hmi0]; with_unfolding_all rfl), (hm' _ (by decide) (by decide) (by decide) (by decide) (by decide)).trans (by rw [hmi0]; with_unfolding_all rfl), (hm' _ (by decide) (by decide) (by decide) (by decide) (by decide)).trans (by rw [hmi0]; with_unfolding_all rfl), (hm' _ (by decide) (by decide) (by decide) (by decide) (by decide)).trans (by rw [hmi0]; with_unfolding_all rfl), (hm' _ (by decide) (by decide) (by decide) (by decide) (by decide)).trans (by rw [hmi0]; with_unfolding_all rfl), (hm' _ (by decide) (by decide) (by decide) (by decide) (by decide)).trans (by rw [hmi0]; with_unfolding_all rfl), (hm' _ (by decide) (by decide) (by decide) (by decide) (by decide)).trans (by rw [hmi0]; with_unfolding_all rfl), hh', trivial⟩
      case hq2 =>
        intro m2 oS2 oE2 oH2 tab2 rest2 h2 tk2 hm2 F2 N2 hsr2 C2 D2 hl2
        exact hQ m2 hd' oS2 oE2 oV' oH2 tab2 rest2 h2 tk2 (fun y h1 h2 h3 h4 h5 => (hm2 y h1 h2 h3).trans (hm' y h1 h2 h3 h4 h5)) ((hm2 _ (by decide) (by decide) (by decide)).trans hh') F2 N2 (fun q hq => hsr2 q (hsr q hq)) C2 D2 (Nat.le_trans hl2 hl')
  iterate 9 walk1
  · walk1
    refine' br_clear w p loose mean mg mb g L fa _ _ (fun _ _ => False) X T B x am mu hd li sz it oS oE oV oH tab now tn nn rest C D b j Tn ka vs hk hT hv hz nv dv cost tnv tw ta tl td tkc u mi hmi (hmi0 ▸ ‹Fr g L _ _›) ‹News _ _ _ _› ?hq
    case hq =>
      intro m' hd' oS' oE' oV' oH' tab' rest' h' tk' hm' hh' F' N' hsr C' D' hl'
      iterate 2 walk1
      show wpAny _ _ (execs _ _) _ _ _
      refine' turn_B w p loose mean mg mb g L fa _ _ _ X T B x am mu hd' li sz it oS' oE' oV' oH' tab' now tn nn rest' C' D' b j Tn ka vs (hk.mono hsr) (hsr _ hT) hv nv tnv tw ta m' m' (ovr_self m' [(Str.ofString "n", .int nv tnv), (Str.ofString "which", .int (bI b) tw), (Str.ofString "amount", .int (am b) ta), (Str.ofString "name", .ref Tn), (Str.ofString "key", .ref ka), (Str.ofString "limiter", .ref li), (Str.ofString "items", .ref it), (Str.ofString "held", .ref hd')] ?ok) F' N' ?hq2
      case ok => exact ⟨(hm' _ (by decide) (by decide) (by decide) (by decide) (by decide)).trans (by rw [hmi0]; with_unfolding_all rfl), (hm' _ (by decide) (by decide) (by decide) (by decide) (by decide)).trans (by rw [hmi0]; with_unfolding_all rfl), (hm' _ (by decide) (by decide) (by decide) (by decide) (by decide)).trans (by rw [hmi0]; with_unfolding_all rfl), (hm' _ (by decide) (by decide) (by decide) (by decide) (by decide)).trans (by rw [hmi0]; with_unfolding_all rfl), (hm' _ (by decide) (by decide) (by decide) (by decide) (by decide)).trans (by rw [hmi0]; with_unfolding_all rfl), (hm' _ (by decide) (by decide) (by decide) (by decide) (by decide)).trans (by rw [hmi0]; with_unfolding_all rfl), (hm' _ (by decide) (by decide) (by decide) (by decide) (by decide)).trans (by rw [hmi0]; with_unfolding_all rfl), hh', trivial⟩
      case hq2 =>
        intro m2 oS2 oE2 oH2 tab2 rest2 h2 tk2 hm2 F2 N2 hsr2 C2 D2 hl2
        exact hQ m2 hd' oS2 oE2 oV' oH2 tab2 rest2 h2 tk2 (fun y h1 h2 h3 h4 h5 => (hm2 y h1 h2 h3).trans (hm' y h1 h2 h3 h4 h5)) ((hm2 _ (by decide) (by decide) (by decide)).trans hh') F2 N2 (fun q hq => hsr2 q (hsr q hq)) C2 D2 (Nat.le_trans hl2 hl')
  iterate 10 walk1
  · iterate 2 walk1
    refine' br_sweep w p loose mean mg mb g L fa _ _ (fun _ _ => False) X T B x am mu hd li sz it oS oE oV oH tab now tn nn rest C D b j Tn ka vs hk hT hv hz nv dv cost tnv tw ta tl td tkc u mi hmi (hmi0 ▸ ‹Fr g L _ _›) ‹News _ _ _ _› ?hq
    case hq =>
      intro m' hd' oS' oE' oV' oH' tab' rest' h' tk' hm' hh' F' N' hsr C' D' hl'
      iterate 3 walk1
      show wpAny _ _ (execs _ _) _ _ _
      refine' turn_B w p loose mean mg mb g L fa _ _ _ X T B x am mu hd' li sz it oS' oE' oV' oH' tab' now tn nn rest' C' D' b j Tn ka vs (hk.mono hsr) (hsr _ hT) hv nv tnv tw ta m' m' (ovr_self m' [(Str.ofString "n", .int nv tnv), (Str.ofString "which", .int (bI b) tw), (Str.ofString "amount", .int (am b) ta), (Str.ofString "name", .ref Tn), (Str.ofString "key", .ref ka), (Str.ofString "limiter", .ref li), (Str.ofString "items", .ref it), (Str.ofString "held", .ref hd')] ?ok) F' N' ?hq2
      case ok => exact ⟨(hm' _ (by decide) (by decide) (by decide) (by decide) (by decide)).trans (by rw [hmi0]; with_unfolding_all rfl), (hm' _ (by decide) (by decide) (by decide) (by decide) (by decide)).trans (by rw [hmi0]; with_unfolding_all rfl), (hm' _ (by decide) (by decide) (by decide) (by decide) (by decide)).trans (by rw [hmi0]; with_unfolding_all rfl), (hm' _ (by decide) (by decide) (by decide) (by decide) (by decide)).trans (by rw [hmi0]; with_unfolding_all rfl), (hm' _ (by decide) (by decide) (by decide) (by decide) (by decide)).trans (by rw [hmi0]; with_unfolding_all rfl), (hm' _ (by decide) (by decide) (by decide) (by decide) (by decide)).trans (by rw [hmi0]; with_unfolding_all rfl), (hm' _ (by decide) (by decide) (by decide) (by decide) (by decide)).trans (by rw [hmi0]; with_unfolding_all rfl), hh', trivial⟩
      case hq2 =>
        intro m2 oS2 oE2 oH2 tab2 rest2 h2 tk2 hm2 F2 N2 hsr2 C2 D2 hl2
        exact hQ m2 hd' oS2 oE2 oV' oH2 tab2 rest2 h2 tk2 (fun y h1 h2 h3 h4 h5 => (hm2 y h1 h2 h3).trans (hm' y h1 h2 h3 h4 h5)) ((hm2 _ (by decide) (by decide) (by decide)).trans hh') F2 N2 (fun q hq => hsr2 q (hsr q hq)) C2 D2 (Nat.le_trans hl2 hl')
  iterate 13 walk1
  · iterate 2 walk1
    refine' br_sweep w p loose mean mg mb g L fa _ _ (fun _ _ => False) X T B x am mu hd li sz it oS oE oV oH tab now tn nn rest C D b j Tn ka vs hk hT hv hz nv dv cost tnv tw ta tl td tkc u mi hmi (hmi0 ▸ ‹Fr g L _ _›) ‹News _ _ _ _› ?hq
    case hq =>
      intro m' hd' oS' oE' oV' oH' tab' rest' h' tk' hm' hh' F' N' hsr C' D' hl'
      iterate 3 walk1
      show wpAny _ _ (execs _ _) _ _ _
      refine' turn_B w p loose mean mg mb g L fa _ _ _ X T B x am mu hd' li sz it oS' oE' oV' oH' tab' now tn nn rest' C' D' b j Tn ka vs (hk.mono hsr) (hsr _ hT) hv nv tnv tw ta m' m' (ovr_self m' [(Str.ofString "n", .int nv tnv), (Str.ofString "which", .int (bI b) tw), (Str.ofString "amount", .int (am b) ta), (Str.ofString "name", .ref Tn), (Str.ofString "key", .ref ka), (Str.ofString "limiter", .ref li), (Str.ofString "items", .ref it), (Str.ofString "held", .ref hd')] ?ok) F' N' ?hq2
      case ok => exact ⟨(hm' _ (by decide) (by decide) (by decide) (by decide) (by decide)).trans (by rw [hmi0]; with_unfolding_all rfl), (hm' _ (by decide) (by decide) (by decide) (by decide) (by decide)).trans (by rw [hmi0]; with_unfolding_all rfl), (hm' _ (by decide) (by decide) (by decide) (by decide) (by decide)).trans (by rw [hmi0]; with_unfolding_all rfl), (hm' _ (by decide) (by decide) (by decide) (by decide) (by decide)).trans (by rw [hmi0]; with_unfolding_all rfl), (hm' _ (by decide) (by decide) (by decide) (by decide) (by decide)).trans (by rw [hmi0]; with_unfolding_all rfl), (hm' _ (by decide) (by decide) (by decide) (by decide) (by decide)).trans (by rw [hmi0]; with_unfolding_all rfl), (hm' _ (by decide) (by decide) (by decide) (by decide) (by decide)).trans (by rw [hmi0]; with_unfolding_all rfl), hh', trivial⟩
      case hq2 =>
        intro m2 oS2 oE2 oH2 tab2 rest2 h2 tk2 hm2 F2 N2 hsr2 C2 D2 hl2
        exact hQ m2 hd' oS2 oE2 oV' oH2 tab2 rest2 h2 tk2 (fun y h1 h2 h3 h4 h5 => (hm2 y h1 h2 h3).trans (hm' y h1 h2 h3 h4 h5)) ((hm2 _ (by decide) (by decide) (by decide)).trans hh') F2 N2 (fun q hq => hsr2 q (hsr q hq)) C2 D2 (Nat.le_trans hl2 hl')
  iterate 3 walk1
  refine' br_reset w p loose mean mg mb g L fa _ _ (fun _ _ => False) X T B x am mu hd li sz it oS oE oV oH tab now tn nn rest C D b j Tn ka vs hk hT hv hz nv dv cost tnv tw ta tl td tkc u mi hmi (hmi0 ▸ ‹Fr g L _ _›) ‹News _ _ _ _› ?hq
  case hq =>
    intro m' hd' oS' oE' oV' oH' tab' rest' h' tk' hm' hh' F' N' hsr C' D' hl'
    iterate 3 walk1
    show wpAny _ _ (execs _ _) _ _ _
    refine' turn_B w p loose mean mg mb g L fa _ _ _ X T B x am mu hd' li sz it oS' oE' oV' oH' tab' now tn nn rest' C' D' b j Tn ka vs (hk.mono hsr) (hsr _ hT) hv nv tnv tw ta m' m' (ovr_self m' [(Str.ofString "n", .int nv tnv), (Str.ofString "which", .int (bI b) tw), (Str.ofString "amount", .int (am b) ta), (Str.ofString "name", .ref Tn), (Str.ofString "key", .ref ka), (Str.ofString "limiter", .ref li), (Str.ofString "items", .ref it), (Str.ofString "held", .ref hd')] ?ok) F' N' ?hq2
    case ok => exact ⟨(hm' _ (by decide) (by decide) (by decide) (by decide) (by decide)).trans (by rw [hmi0]; with_unfolding_all rfl), (hm' _ (by decide) (by decide) (by decide) (by decide) (by decide)).trans (by rw [hmi0]; with_unfolding_all rfl), (hm' _ (by decide) (by decide) (by decide) (by decide) (by decide)).trans (by rw [hmi0]; with_unfolding_all rfl), (hm' _ (by decide) (by decide) (by decide) (by decide) (by decide)).trans (by rw [hmi0]; with_unfolding_all rfl), (hm' _ (by decide) (by decide) (by decide) (by decide) (by decide)).trans (by rw [hmi0]; with_unfolding_all rfl), (hm' _ (by decide) (by decide) (by decide) (by decide) (by decide)).trans (by rw [hmi0]; with_unfolding_all rfl), (hm' _ (by decide) (by decide) (by decide) (by decide) (by decide)).trans (by rw [hmi0]; with_unfolding_all rfl), hh', trivial⟩
    case hq2 =>
      intro m2 oS2 oE2 oH2 tab2 rest2 h2 tk2 hm2 F2 N2 hsr2 C2 D2 hl2
      exact hQ m2 hd' oS2 oE2 oV' oH2 tab2 rest2 h2 tk2 (fun y h1 h2 h3 h4 h5 => (hm2 y h1 h2 h3).trans (hm' y h1 h2 h3 h4 h5)) ((hm2 _ (by decide) (by decide) (by decide)).trans hh') F2 N2 (fun q hq => hsr2 q (hsr q hq)) C2 D2 (Nat.le_trans hl2 hl')
section
local macro_rules | `(tactic| walk_at "subscriptTail") => `(tactic| (k_here; (with_reducible show wpAny _ _ (subscriptTail _ _ (Value.ref _) (Value.int _ _)) _ _ _); refine unholdK ?_))
theorem fm (a : Int) (k : Int) (hk : 0 < k) : 0 ≤ a.fmod k ∧ a.fmod k < k := by
  rw [Int.fmod_eq_emod_of_nonneg a (Int.le_of_lt hk)]
  exact ⟨Int.emod_nonneg a (by omega), Int.emod_lt_of_pos a hk⟩
theorem turn_P (w : World) (p : Program) (loose : List Str) (mean : ExcName → Option Value) (mg mb : Str → Option Value) (g : Heap) (L fa : Nat) (s : Shared) (Q : Flow → Shared → Prop)
    (X : (K w.params).In g) (T : Top p loose mean mg mb g) (B : Below callerA g [] g)
    (x : Fx) (am mu : Bool → Int) (hd li sz it : Nat) (oS oE oV oH : Obj) (tab : Tab) (now : Int) (tn : Tok) (nn : Nat) (rest : List (Addr × Obj)) (C : Cx w x am mu L li sz it rest) (D : Dy w x am mu hd oS oE oV oH tab rest)
    (hz : tab.length ≤ 800) (nv : Int) (tnv : Tok) (u : Str → Option Value)
    (mi : Str → Option Value) (hmi : mi = fun y => if y = Str.ofString "n" then some (.int nv tnv) else if y = Str.ofString "store" then some (.ref x.st) else if y = Str.ofString "limiter" then some (.ref li) else if y = Str.ofString "sizes" then some (.ref sz) else if y = Str.ofString "items" then some (.ref it) else if y = Str.ofString "held" then some (.ref hd) else u y) (F : Fr g L s.heap mi)
    (N : News g L s.heap (M x oS oE oV now tn nn ((hd, oH) :: rest)))
    (hQ : ∀ (m' : Str → Option Value) (hd' : Nat) (oS' oE' oV' oH' : Obj) (tab' : Tab) (now' : Int) (tn' : Tok) (nn' : Nat) (rest' : List (Addr × Obj)) (h' : Heap) (tk' : Nat), (∀ y, y ≠ Str.ofString "which" → y ≠ Str.ofString "amount" → y ≠ Str.ofString "length" → y ≠ Str.ofString "name" → y ≠ Str.ofString "key" → y ≠ Str.ofString "deed" → y ≠ Str.ofString "cost" → y ≠ Str.ofString "told" → y ≠ Str.ofString "end" → y ≠ Str.ofString "count" → y ≠ Str.ofString "one" → y ≠ Str.ofString "held" → m' y = mi y) → m' (Str.ofString "held") = some (.ref hd') → Fr g L h' m' → News g L h' (M x oS' oE' oV' now' tn' nn' ((hd', oH') :: rest')) → (∀ p ∈ rest, p ∈ rest') →
      Cx w x am mu L li sz it rest' → Dy w x am mu hd' oS' oE' oV' oH' tab' rest' → tab'.length ≤ tab.length + 1 → Q .next { s with heap := h', toks := tk' }) :
    wpAny (model PySem.Challenge.rw_jb0021_01.row.prog w) (callerA.deeper (envOfC (Str.ofString "law") lawS L fa (.ref 598))) (execs loopB (envOfC (Str.ofString "law") lawS L fa (.ref 598))) Q (fun _ _ => False) s := by
  have hmi0 := hmi
  rw [hmi] at F
  revert X; k_fill; intro X
  conv in loopB => whnf
  have eS : lawS = lawS := rfl
  conv at eS => rhs; whnf
  rw [eS]
  clear eS
  obtain ⟨b, hb⟩ : ∃ b : Bool, nv.fmod 2 = bI b := by
    have h1 := fm nv 2 (by decide)
    rcases (show nv.fmod 2 = 0 ∨ nv.fmod 2 = 1 by omega) with e | e
    · exact ⟨false, e⟩
    · exact ⟨true, e⟩
  obtain ⟨S, cs, ta, tl, hsz, hS⟩ := C.szs
  have C3 : Cx w x am mu L li sz it ((hd, oH) :: rest) := C.mono [(hd, oH)] (fun p hp b hb => by rw [List.mem_singleton.mp hp]; exact D.hne b hb)
  obtain ⟨r3, hr3⟩ : ∃ r, r = (hd, oH) :: rest := ⟨_, rfl⟩
  have hs3 : ∀ p ∈ rest, p ∈ r3 := by rw [hr3]; exact fun p hp => List.mem_cons_of_mem _ hp
  have hd3 : (hd, oH) ∈ r3 := by rw [hr3]; exact List.mem_cons_self ..
  rw [← hr3] at N C3
  k_steps
  show wpAny _ _ _ _ _ _
  rename Fr _ _ _ _ => F1
  rename News _ _ _ _ => N1
  rw [hb] at F1 ⊢
  refine at_list (c := cs) N1 (sub_M _ (hs3 _ hsz)) (bI_lo b) (bI_hi b) (two_at b) ?_
  have hp : (S b, ({ cls := .type "tuple", data := .seq #[.int (am b) (ta b), .int (unI b * mu b) (tl b)] } : Obj)) ∈ r3 := hs3 _ (hS b)
  k_steps
  show wpAny _ _ (call (.ref 585) []) _ _ _
  refine' Tell.use (names_tell w (M x oS oE oV now tn nn r3)) ?k1 ?k2 ?k3 ?k4 ?k5 ?kK ?kd ?ku ?_
  case k1 => k_asm
  case k2 => k_asm
  case k3 => k_asm
  case k4 => k_asm
  case k5 => k_asm
  case kK => first | exact rfl | assumption
  case kd => ktr_room
  case ku => ktr_units
  intro v9 n9 h9 tk9 e9 F9 N9
  obtain ⟨Dn, T0, T1, T2, y1, y2, y3, cn, rfl, rfl, hT0, hT1, hT2, hT3⟩ := e9
  have g0 : ∀ q ∈ M x oS oE oV now tn nn r3, @LT.lt Nat _ q.1 T0 := hT0
  have g1 : ∀ q ∈ M x oS oE oV now tn nn r3, @LT.lt Nat _ q.1 T1 := fun q hq => Nat.lt_trans (hT0 q hq) hT1
  have g2 : ∀ q ∈ M x oS oE oV now tn nn r3, @LT.lt Nat _ q.1 T2 := fun q hq => Nat.lt_trans (g1 q hq) hT2
  have g3 : ∀ q ∈ M x oS oE oV now tn nn r3, @LT.lt Nat _ q.1 Dn := fun q hq => Nat.lt_trans (g2 q hq) hT3
  obtain ⟨r4, hr4⟩ : ∃ r, r = (Dn, listOf #[.ref T0, .ref T1, .ref T2] cn) :: (T2, tupO [.str (Str.ofString "a") y2, .str (Str.ofString "b") y3]) :: (T1, tupO [.str (Str.ofString "a") y1]) :: (T0, tupO []) :: rest := ⟨_, rfl⟩
  have hs4 : ∀ p ∈ rest, p ∈ r4 := by rw [hr4]; intro p hp; simp [hp]
  have C4 : Cx w x am mu L li sz it r4 := by
    rw [hr4]
    exact (((C.mono [(T0, _)] (off_up g0)).mono [(T1, _)] (off_up g1)).mono [(T2, _)] (off_up g2)).mono [(Dn, _)] (off_up g3)
  have off4 : ∀ p ∈ r4, p.1 ≠ hd := by
    rw [hr4]; rw [hr3] at g0 g1 g2 g3
    intro p hp
    simp only [List.mem_cons] at hp
    rcases hp with rfl | rfl | rfl | rfl | hp
    · exact Nat.ne_of_gt (g3 (hd, oH) hd_mem)
    · exact Nat.ne_of_gt (g2 (hd, oH) hd_mem)
    · exact Nat.ne_of_gt (g1 (hd, oH) hd_mem)
    · exact Nat.ne_of_gt (g0 (hd, oH) hd_mem)
    · exact D.off p hp
  obtain ⟨r5, hr5⟩ : ∃ r, r = (hd, oH) :: r4 := ⟨_, rfl⟩
  have hs5 : ∀ p ∈ r4, p ∈ r5 := by rw [hr5]; exact fun p hp => List.mem_cons_of_mem _ hp
  have C5 : Cx w x am mu L li sz it r5 := by rw [hr5]; exact C4.mono [(hd, oH)] (fun p hp b hb => by rw [List.mem_singleton.mp hp]; exact D.hne b hb)
  have N5 : News g L h9 (M x oS oE oV now tn nn r5) := news_sub N9 (by
    rw [hr5, hr4, hr3]; walk_at "jb_in")
  have hj := fm (nv.fdiv 2) 3 (by decide)
  obtain ⟨Tn, vs, hTn, hT, hv⟩ : ∃ Tn vs, ([.ref T0, .ref T1, .ref T2] : List Value)[((nv.fdiv 2).fmod 3).toNat]? = some (.ref Tn) ∧ (Tn, tupO vs) ∈ r4 ∧ NmV ((nv.fdiv 2).fmod 3).toNat vs := by
    rw [hr4]
    rcases (show ((nv.fdiv 2).fmod 3).toNat = 0 ∨ ((nv.fdiv 2).fmod 3).toNat = 1 ∨ ((nv.fdiv 2).fmod 3).toNat = 2 by omega) with e | e | e <;> rw [e]
    · exact ⟨T0, [], rfl, by simp, .zero⟩
    · exact ⟨T1, [.str (Str.ofString "a") y1], rfl, by simp, .one _⟩
    · exact ⟨T2, [.str (Str.ofString "a") y2, .str (Str.ofString "b") y3], rfl, by simp, .two _ _⟩
  obtain ⟨j, hje⟩ : ∃ j, j = ((nv.fdiv 2).fmod 3).toNat := ⟨_, rfl⟩
  have hj3 : j < 3 := by omega
  rw [← hje] at hv
  have hDn : (Dn, listOf (List.toArray [.ref T0, .ref T1, .ref T2]) cn) ∈ M x oS oE oV now tn nn r5 := sub_M _ (hs5 _ (by rw [hr4]; exact List.mem_cons_self ..))
  clear N9
  obtain ⟨oC, hc1, hc2⟩ := C5.cell
  obtain ⟨hst, hstd, hoff, lo1, lo2, lo3, l1, ⟨fc, fod, ffd, fsl, hf⟩, clk⟩ := C5.sto
  k_steps
  show wpAny _ _ _ _ _ _
  refine at_list (c := cn) N5 hDn hj.1 (by omega) hTn ?_
  k_steps
  rename Fr _ _ _ _ => F6
  rename News _ _ _ (_ :: M _ _ _ _ _ _ _ _) => N6
  rename (@LT.lt Nat _ x.sd _ ∧ _) => l6
  have g6 : ∀ q ∈ M x oS oE oV now tn nn r5, @LT.lt Nat _ q.1 _ := kst_ltOf l6
  rename_i h61 D1 h62 h63
  obtain ⟨tk1, N6⟩ : ∃ tk1, News g L h63 ((D1, tupO [.int (bI b) tk1, .ref Tn]) :: M x oS oE oV now tn nn r5) := ⟨_, N6⟩
  obtain ⟨r6, hr6⟩ : ∃ r, r = (D1, tupO [.int (bI b) tk1, .ref Tn]) :: r4 := ⟨_, rfl⟩
  have hs6 : ∀ p ∈ r4, p ∈ r6 := by rw [hr6]; exact fun p hp => List.mem_cons_of_mem _ hp
  have hkA : KeyAt r6 D1 (b, j) := ⟨hj3, tk1, Tn, vs, by rw [hr6]; exact List.mem_cons_self .., hs6 _ hT, hv⟩
  have C6 : Cx w x am mu L li sz it r6 := by rw [hr6]; exact C4.mono [(D1, _)] (off_up g6)
  have off6 : ∀ p ∈ r6, p.1 ≠ hd := by rw [hr6]; rw [hr5] at g6; exact off_hd g6 off4
  obtain ⟨r7, hr7⟩ : ∃ r, r = (hd, oH) :: r6 := ⟨_, rfl⟩
  have C7 : Cx w x am mu L li sz it r7 := by rw [hr7]; exact C6.mono [(hd, oH)] (fun p hp b hb => by rw [List.mem_singleton.mp hp]; exact D.hne b hb)
  have N7 : News g L h63 (M x oS oE oV now tn nn r7) := news_sub N6 (by
    rw [hr7, hr6, hr5]; walk_at "jb_in")
  clear hst hstd hoff hf clk hc1 N6 l6
  obtain ⟨oC, hc1, hc2⟩ := C7.cell
  obtain ⟨hst, hstd, hoff, lo1, lo2, lo3, l1, ⟨fc, fod, ffd, fsl, hf⟩, clk⟩ := C7.sto
  refine li_get (vs := [.int now tn]) (c := nn) N7 (by simp) (Int.le_refl _) (by decide) rfl ?_
  k_steps
  show wpAny _ _ _ _ _ _
  have hk7 := fm (nv.fdiv 6) 7 (by decide)
  refine at_ints (c := 0) ‹News _ _ _ (_ :: M _ _ _ _ _ _ _ _)› (List.mem_cons_self ..) hk7.1 (by simp only [List.length_cons, List.length_nil]; omega) (by simp) (by intro v hv; simp only [List.mem_cons, List.not_mem_nil, or_false] at hv; rcases hv with rfl | rfl | rfl | rfl | rfl | rfl | rfl <;> exact ⟨_, _, rfl⟩) fun z tz => ?_
  k_steps
  show wpAny _ _ _ _ _ _
  have hk5 := fm (nv.fdiv 336) 5 (by decide)
  refine at_ints (c := 0) ‹News _ _ _ (_ :: _ :: (x.sd, oS) :: _)› (List.mem_cons_self ..) hk5.1 (by simp only [List.length_cons, List.length_nil]; omega) (by simp) (by intro v hv; simp only [List.mem_cons, List.not_mem_nil, or_false] at hv; rcases hv with rfl | rfl | rfl | rfl | rfl <;> exact ⟨_, _, rfl⟩) fun cost tc => ?_
  walk1
  have D6 : Dy w x am mu hd oS oE oV oH tab r6 := ⟨D.dS, D.dE, D.dV, D.hld.mono fun p hp => hs6 p (hs4 p hp), D.ok, D.len, off6, D.hne, D.lo⟩
  rename Fr _ _ _ _ => F8
  rename News _ _ _ (_ :: _ :: (x.sd, oS) :: _) => N8
  obtain ⟨oa, ob, tn8, N8⟩ : ∃ oa ob tn8, News g L _ (oa :: ob :: M x oS oE oV (now + z) tn8 nn r7) := ⟨_, _, _, N8⟩
  have N8 := news_sub (b := M x oS oE oV (now + z) tn8 nn ((hd, oH) :: r6)) N8 (by
    rw [hr7]; walk_at "jb_in")
  show wpAny _ _ (execs _ _) _ _ _
  refine' turn_A w p loose mean mg mb g L fa _ _ (fun _ _ => False) X T B x am mu hd li sz it oS oE oV oH tab (now + z) tn8 nn r6 C6 D6 b j Tn D1 vs hkA (hs6 _ hT) hv hz nv _ cost tnv _ _ _ _ _ _ _ (ovr_self _ [(Str.ofString "n", .int nv tnv), (Str.ofString "which", .int (bI b) _), (Str.ofString "amount", .int (am b) _), (Str.ofString "length", .int (unI b * mu b) _), (Str.ofString "name", .ref Tn), (Str.ofString "key", .ref D1), (Str.ofString "deed", .int _ _), (Str.ofString "cost", .int cost _), (Str.ofString "store", .ref x.st), (Str.ofString "limiter", .ref li), (Str.ofString "items", .ref it), (Str.ofString "held", .ref hd)] ?ok) F8 N8 ?hq
  case ok => exact ⟨by with_unfolding_all rfl, by with_unfolding_all rfl, by with_unfolding_all rfl, by with_unfolding_all rfl, by with_unfolding_all rfl, by with_unfolding_all rfl, by with_unfolding_all rfl, by with_unfolding_all rfl, by with_unfolding_all rfl, by with_unfolding_all rfl, by with_unfolding_all rfl, by with_unfolding_all rfl, trivial⟩
  case hq =>
    intro m' hd' oS' oE' oV' oH' tab' rest' h' tk' hm' hh' F' N' hsr C' D' hl'
    refine hQ m' hd' oS' oE' oV' oH' tab' (now + z) tn8 nn rest' h' tk' ?_ hh' F' N' (fun q hq => hsr q (hs6 q (hs4 q hq))) C' D' hl'
    intro y w1 w2 w3 w4 w5 w6 w7 w8 w9 w10 w11 w12
    rw [hm' y w8 w9 w10 w11 w12, hmi0]
    rw [if_neg w7, if_neg w6, if_neg w5, if_neg w4, if_neg w3, if_neg w2, if_neg w1]
end
theorem fin_turn (w : World) (p : Program) (loose : List Str) (mean : ExcName → Option Value) (mg mb : Str → Option Value) (g : Heap) (L fa : Nat) (s : Shared) (Q : Flow → Shared → Prop) (E : Value → Shared → Prop)
    (X : (K w.params).In g) (T : Top p loose mean mg mb g) (B : Below callerA g [] g)
    (x : Fx) (am mu : Bool → Int) (hd li sz it : Nat) (oS oE oV oH : Obj) (tab : Tab) (now : Int) (tn : Tok) (nn : Nat) (base rest : List (Addr × Obj)) (hbr : ∀ p ∈ base, p ∈ rest) (C : Cx w x am mu L li sz it rest) (D : Dy w x am mu hd oS oE oV oH tab base) (off : ∀ p ∈ rest, p.1 ≠ hd)
    (b : Bool) (j : Nat) (hj : j < 3) (Tn : Nat) (vs : List Value) (hT : (Tn, tupO vs) ∈ base) (hv : NmV j vs) (tw : Tok) (u : Str → Option Value)
    (mi : Str → Option Value) (hmi : mi = fun y => if y = Str.ofString "which" then some (.int (bI b) tw) else if y = Str.ofString "name" then some (.ref Tn) else if y = Str.ofString "limiter" then some (.ref li) else if y = Str.ofString "items" then some (.ref it) else if y = Str.ofString "sizes" then some (.ref sz) else if y = Str.ofString "held" then some (.ref hd) else u y) (F : Fr g L s.heap mi)
    (N : News g L s.heap (M x oS oE oV now tn nn ((hd, oH) :: rest)))
    (hQ : ∀ (m' : Str → Option Value) (oS' oE' oH' : Obj) (tab' : Tab) (pre : List (Addr × Obj)) (h' : Heap) (tk' : Nat), (∀ y, y ≠ Str.ofString "told" → y ≠ Str.ofString "end" → y ≠ Str.ofString "count" → m' y = mi y) → Fr g L h' m' → News g L h' (M x oS' oE' oV now tn nn ((hd, oH') :: (pre ++ rest))) → (∀ p ∈ pre, ∀ q ∈ M x oS oE oV now tn nn ((hd, oH) :: rest), @LT.lt Nat _ q.1 p.1) →
      Dy w x am mu hd oS' oE' oV oH' tab' (pre ++ base) → tab'.length ≤ tab.length → Q .next { s with heap := h', toks := tk' }) :
    wpAny (model PySem.Challenge.rw_jb0021_01.row.prog w) (callerA.deeper (envOfC (Str.ofString "law") lawS L fa (.ref 598))) (execs finB (envOfC (Str.ofString "law") lawS L fa (.ref 598))) Q E s := by
  subst hmi
  revert X; k_fill; intro X
  conv in finB => whnf
  have eS : lawS = lawS := rfl
  conv at eS => rhs; whnf
  rw [eS]
  clear eS
  obtain ⟨oC, hc1, hc2⟩ := C.cell
  obtain ⟨ld, lt, hl1, hl2⟩ := C.lim.here
  obtain ⟨hst, hstd, hoff, lo1, lo2, lo3, l1, ⟨fc, fod, ffd, fsl, hf⟩, clk⟩ := C.sto
  k_steps
  rename Fr _ _ _ _ => F1
  rename News _ _ _ (_ :: M _ _ _ _ _ _ _ _) => N1
  rename (@LT.lt Nat _ x.sd _ ∧ _) => l1
  have hD1 : ∀ q ∈ M x oS oE oV now tn nn ((hd, oH) :: rest), @LT.lt Nat _ q.1 _ := kst_ltOf l1
  refine at_list (vs := [.int now tn]) (c := nn) N1 (by simp) (Int.le_refl _) (by decide) (v := .int now tn) rfl ?_
  k_steps
  show wpAny _ _ (call (.ref 592) [.ref hd, .ref _, .int now tn]) _ _ _
  rename_i h61 D1 h62
  have N1 : News g L h62 ((D1, tupO [.int (bI b) tw, .ref Tn]) :: M x oS oE oV now tn nn ((hd, oH) :: rest)) := N1
  obtain ⟨r1, hr1⟩ : ∃ r, r = (D1, tupO [.int (bI b) tw, .ref Tn]) :: rest := ⟨_, rfl⟩
  obtain ⟨b1, hb1⟩ : ∃ r, r = (D1, tupO [.int (bI b) tw, .ref Tn]) :: base := ⟨_, rfl⟩
  have hs1 : ∀ p ∈ rest, p ∈ r1 := by rw [hr1]; exact fun p hp => List.mem_cons_of_mem _ hp
  have hsb1 : ∀ p ∈ base, p ∈ b1 := by rw [hb1]; exact fun p hp => List.mem_cons_of_mem _ hp
  have hbr1 : ∀ p ∈ b1, p ∈ r1 := by
    rw [hb1, hr1]; intro p hp
    rcases List.mem_cons.mp hp with rfl | hp
    · exact List.mem_cons_self ..
    · exact List.mem_cons_of_mem _ (hbr p hp)
  have C1 : Cx w x am mu L li sz it r1 := by rw [hr1]; exact C.mono [(D1, _)] (off_up hD1)
  have off1 : ∀ p ∈ r1, p.1 ≠ hd := by rw [hr1]; exact off_hd hD1 off
  have hk : KeyAt b1 D1 (b, j) := ⟨hj, tw, Tn, vs, by rw [hb1]; exact List.mem_cons_self .., hsb1 _ hT, hv⟩
  have N2 : News g L _ (M x oS oE oV now tn nn ((hd, oH) :: r1)) := news_sub N1 (by
    rw [hr1]; walk_at "jb_in")
  clear N1
  refine' Tell.use (live_gen w x hd D1 oS oE oV oH tab (b, j) now tn tn nn b1 r1 hbr1 D.hne off1 (D.hld.mono hsb1) D.lo hk (by have := D.len; omega)) ?k1 ?k2 ?k3 ?k4 ?k5 ?kK ?kd ?ku ?_
  case k1 => k_asm
  case k2 => k_asm
  case k3 => k_asm
  case k4 => k_asm
  case k5 => k_asm
  case kK => first | exact rfl | assumption
  case kd => ktr_room
  case ku => ktr_units
  intro v9 n9 h9 tk9 e9 F9 N9
  obtain ⟨oH', P, t0, tn', rfl, hP, H', pp, u1, u2, rfl, hp⟩ := e9
  obtain ⟨r2, hr2⟩ : ∃ r, r = (P, tupO [.int 0 t0, .int now tn']) :: r1 := ⟨_, rfl⟩
  obtain ⟨b2, hb2⟩ : ∃ r, r = (P, tupO [.int 0 t0, .int now tn']) :: b1 := ⟨_, rfl⟩
  have hs2 : ∀ q ∈ r1, q ∈ r2 := by intro q hq; rw [hr2]; exact List.mem_cons_of_mem _ hq
  have hsb2 : ∀ q ∈ b1, q ∈ b2 := by intro q hq; rw [hb2]; exact List.mem_cons_of_mem _ hq
  have hbr2 : ∀ p ∈ b2, p ∈ r2 := by
    rw [hb2, hr2]; intro p hp
    rcases List.mem_cons.mp hp with rfl | hp
    · exact List.mem_cons_self ..
    · exact List.mem_cons_of_mem _ (hbr1 p hp)
  have C2 : Cx w x am mu L li sz it r2 := by rw [hr2]; exact C1.mono [(P, _)] (off_up hP)
  have off2 : ∀ p ∈ r2, p.1 ≠ hd := by rw [hr2]; exact off_hd hP off1
  rw [← hr2] at N9
  rw [← hb2] at hp
  have hp : (pp, ({ cls := .type "tuple", data := .seq #[.int _ u1, .int _ u2] } : Obj)) ∈ r2 := hbr2 _ hp
  obtain ⟨oC, hc1, hc2⟩ := C2.cell
  obtain ⟨ld, lt, hl1, hl2⟩ := C2.lim.here
  obtain ⟨I, ci, hi1, hi2⟩ := C2.its
  obtain ⟨hst, hstd, hoff, lo1, lo2, lo3, l1, ⟨fc, fod, ffd, fsl, hf⟩, clk⟩ := C2.sto
  k_steps
  show wpAny _ _ _ _ _ _
  refine at_list (c := ci) ‹News _ _ _ _› (sub_H _ hi1) (bI_lo b) (bI_hi b) (two_at b) ?_
  k_steps
  show wpAny _ _ _ _ _ _
  have C3 : Cx w x am mu L li sz it ((hd, oH') :: r2) := C2.mono [(hd, oH')] (fun p hp b hb => by rw [List.mem_singleton.mp hp]; exact D.hne b hb)
  refine' Tell.use (stats_tell w x ((hd, oH') :: r2) C3.sto oS oE oV (tS am mu tab) (tE am mu tab) now tn nn D.dS D.dE D.dV (by rw [tS_len]; have := D.len; omega) (by rw [tE_len]; have := D.len; omega) li Tn C3.lim b (I b) (am b) (mu b) ((hi2 b).mono fun p hp => List.mem_cons_of_mem _ hp) j vs hv (List.mem_cons_of_mem _ (hs2 _ (hs1 _ (hbr _ hT))))) ?k1 ?k2 ?k3 ?k4 ?k5 ?kK ?kd ?ku ?_
  case k1 => k_asm
  case k2 => k_asm
  case k3 => k_asm
  case k4 => k_asm
  case k5 => k_asm
  case kK => first | exact rfl | assumption
  case kd => ktr_room
  case ku => ktr_units
  intro v9 n9 h9 tk9 e9 F9 N9
  obtain ⟨oS', oE', xw, dw, w1, w2, ⟨rfl, hS', hE'⟩, rfl, hlt, hdw⟩ := e9
  have hkl : (b, j).2 < 3 := hj
  have e1 := liveS_img (am := am) (mu := mu) (now := now) (k := (b, j)) D.ok hkl
  have e2 := liveE_img (am := am) (mu := mu) (now := now) (k := (b, j)) D.ok hkl
  have ok' : TOk (tLive now (b, j) tab) := tLive_ok D.ok
  have e3 := lookS_get (am := am) (mu := mu) (now := now) (k := (b, j)) ok' hkl
  unfold kap at e1 e2 e3
  dsimp only at e1 e2 e3
  have e4 := lookE_get (am := am) (mu := mu) (now := now) (k := (b, j)) ok' hkl
  unfold kap at e4
  dsimp only at e4
  rw [e1] at hS'
  rw [e2] at hE'
  rw [e1, e2, e3, e4] at N9
  obtain ⟨S, cs, ta, tl, hz1, hz2⟩ := C2.szs
  have hq2 : (S b, ({ cls := .type "tuple", data := .seq #[.int (am b) (ta b), .int (unI b * mu b) (tl b)] } : Obj)) ∈ r2 := hz2 b
  k_steps
  refine' told_rem ?k1 ?k2 ?k3 ?k4 ?k5 ?kK ?kd ?ku ?_
  case k1 => k_asm
  case k2 => k_asm
  case k3 => k_asm
  case k4 => k_asm
  case k5 => k_asm
  case kK => first | exact rfl | assumption
  case kd => ktr_room
  case ku => ktr_units
  intro h8 tk8 F8 N8
  k_steps
  show wpAny _ _ _ _ _ _
  refine at_list (c := cs) ‹News _ _ _ _› (List.mem_cons_of_mem _ (List.mem_cons_of_mem _ (sub_H _ hz1))) (bI_lo b) (bI_hi b) (two_at b) ?_
  k_steps
  · rename_i hne; exact absurd rfl hne
  refine' told_res ?k1 ?k2 ?k3 ?k4 ?k5 ?kK ?kd ?ku ?_
  case k1 => k_asm
  case k2 => k_asm
  case k3 => k_asm
  case k4 => k_asm
  case k5 => k_asm
  case kK => first | exact rfl | assumption
  case kd => ktr_room
  case ku => ktr_units
  intro h8 tk8 F8 N8
  k_steps
  · rename_i hne; exact absurd rfl hne
  have hx1 : ∀ q ∈ M x oS' oE' oV now tn nn ((hd, oH') :: (dw, emptyDict) :: r2), @LT.lt Nat _ q.1 xw := by
    intro q hq
    have : q = (dw, emptyDict) ∨ q ∈ M x oS' oE' oV now tn nn ((hd, oH') :: r2) := by
      simp only [List.mem_cons] at hq ⊢
      rcases hq with hq | hq | hq | hq | hq | hq | hq <;> simp [hq]
    rcases this with rfl | hq
    · exact hdw
    · exact Nat.lt_trans (hlt q hq) hdw
  have ord : ∀ D0 : Addr, (∀ q ∈ M x oS' oE' oV now tn nn ((hd, oH') :: r2), @LT.lt Nat _ q.1 D0) → ∀ q ∈ M x oS oE oV now tn nn ((hd, oH) :: rest), @LT.lt Nat _ q.1 D0 := by
    intro D0 h0 q hq
    simp only [List.mem_cons] at hq
    rcases hq with rfl | rfl | rfl | rfl | rfl | hq
    · exact h0 (x.sd, oS') (by first | exact m_sd | simp)
    · exact h0 (x.ed, oE') (by first | exact m_ed | simp)
    · exact h0 (x.vd, oV) (by first | exact m_vd | simp)
    · exact h0 (x.nl, listOf #[.int now tn] nn) (by first | exact m_nl | simp)
    · exact h0 (hd, oH') hd_mem
    · exact h0 q (sub_H _ (hs2 _ (hs1 _ hq)))
  have ordP : ∀ q ∈ M x oS oE oV now tn nn ((hd, oH) :: rest), @LT.lt Nat _ q.1 P := by
    intro q hq
    refine hP q ?_
    simp only [List.mem_cons] at hq ⊢
    rcases hq with hq | hq | hq | hq | hq | hq
    iterate 5 simp [hq]
    simp [hs1 _ hq]
  have hdd : ∀ q ∈ M x oS' oE' oV now tn nn ((hd, oH') :: r2), @LT.lt Nat _ q.1 xw := fun q hq => Nat.lt_trans (hlt q hq) hdw
  have hmem : (hd, oH) ∈ M x oS oE oV now tn nn ((hd, oH) :: rest) := hd_mem
  obtain ⟨oX, N8⟩ : ∃ oX, News g L _ ((xw, oX) :: (dw, emptyDict) :: M x oS' oE' oV now tn nn ((hd, oH') :: r2)) := ⟨_, by k_asm⟩
  refine hQ _ oS' oE' oH' (tLive now (b, j) tab) [(xw, oX), (dw, emptyDict), (P, tupO [.int 0 t0, .int now tn']), (D1, tupO [.int (bI b) tw, .ref Tn])] _ _ ?_ (by k_asm) (news_sub N8 ?_) ?_ ?_ tLive_len
  · intro y h1 h2 h3
    rw [if_neg h1, if_neg h2, if_neg h3]
  · rw [hr2, hr1]
    walk_at "jb_in"
  · intro q hq
    simp only [List.mem_cons, List.not_mem_nil, or_false] at hq
    rcases hq with rfl | rfl | rfl | rfl
    · exact ord xw hdd
    · exact ord dw hlt
    · exact ordP
    · exact hD1
  · refine ⟨hS', hE', D.dV, H'.mono ?_, ok', Nat.le_trans tLive_len D.len, ?_, D.hne, D.lo⟩
    · intro q hq
      rw [hb1] at hq
      simp only [List.mem_cons, List.mem_append, List.not_mem_nil, or_false] at hq ⊢
      rcases hq with hq | hq <;> simp [hq]
    · intro q hq
      simp only [List.mem_cons, List.mem_append, List.not_mem_nil, or_false] at hq
      rcases hq with (rfl | rfl | rfl | rfl) | hq
      · exact Nat.ne_of_gt (ord xw hdd _ hmem)
      · exact Nat.ne_of_gt (ord dw hlt _ hmem)
      · exact Nat.ne_of_gt (ordP _ hmem)
      · exact Nat.ne_of_gt (hD1 _ hmem)
      · exact D.off q hq
theorem off_ord {x : Fx} {oS oE oV oH : Obj} {now : Int} {tn : Tok} {n : Nat} {rest pre : List (Addr × Obj)} {hd : Addr} (hord : ∀ p ∈ pre, ∀ q ∈ M x oS oE oV now tn n ((hd, oH) :: rest), @LT.lt Nat _ q.1 p.1) : OwnOff pre [x.sd, x.ed, x.vd, x.nl] ∧ ∀ p ∈ pre, p.1 ≠ hd := by
  refine ⟨fun p hp c hc => ?_, fun p hp => Nat.ne_of_gt (hord p hp (hd, oH) hd_mem)⟩
  have h1 := hord p hp
  simp only [List.mem_cons, List.not_mem_nil, or_false] at hc
  rcases hc with rfl | rfl | rfl | rfl
  · exact Nat.ne_of_gt (h1 (x.sd, oS) (by first | exact m_sd | simp))
  · exact Nat.ne_of_gt (h1 (x.ed, oE) (by first | exact m_ed | simp))
  · exact Nat.ne_of_gt (h1 (x.vd, oV) (by first | exact m_vd | simp))
  · exact Nat.ne_of_gt (h1 (x.nl, listOf #[.int now tn] n) (by first | exact m_nl | simp))
theorem ord_of {x : Fx} {oS oE oV oH oS' oE' oV' oH' : Obj} {now now' : Int} {tn tn' : Tok} {n n' : Nat} {rest rest' : List (Addr × Obj)} {hd P : Addr} (hs : ∀ p ∈ rest, p ∈ rest') (h0 : ∀ q ∈ M x oS' oE' oV' now' tn' n' ((hd, oH') :: rest'), @LT.lt Nat _ q.1 P) : ∀ q ∈ M x oS oE oV now tn n ((hd, oH) :: rest), @LT.lt Nat _ q.1 P := by
  intro q hq
  simp only [List.mem_cons] at hq
  rcases hq with rfl | rfl | rfl | rfl | rfl | hq
  · exact h0 (x.sd, oS') (by first | exact m_sd | simp)
  · exact h0 (x.ed, oE') (by first | exact m_ed | simp)
  · exact h0 (x.vd, oV') (by first | exact m_vd | simp)
  · exact h0 (x.nl, listOf #[.int now' tn'] n') (by first | exact m_nl | simp)
  · exact h0 (hd, oH') hd_mem
  · exact h0 q (sub_H _ (hs _ hq))
theorem fin_inner (w : World) (p : Program) (loose : List Str) (mean : ExcName → Option Value) (mg mb : Str → Option Value) (g : Heap) (L fa : Nat) (s : Shared) (Q : Flow → Shared → Prop)
    (X : (K w.params).In g) (T : Top p loose mean mg mb g) (B : Below callerA g [] g)
    (x : Fx) (am mu : Bool → Int) (hd li sz it : Nat) (oS oE oV oH : Obj) (tab : Tab) (now : Int) (tn : Tok) (nn : Nat) (base rest : List (Addr × Obj)) (hbr : ∀ p ∈ base, p ∈ rest) (C : Cx w x am mu L li sz it rest) (D : Dy w x am mu hd oS oE oV oH tab base) (off : ∀ p ∈ rest, p.1 ≠ hd) (b : Bool) (tw : Tok) (u : Str → Option Value)
    (mi : Str → Option Value) (hmi : mi = fun y => if y = Str.ofString "which" then some (.int (bI b) tw) else if y = Str.ofString "limiter" then some (.ref li) else if y = Str.ofString "items" then some (.ref it) else if y = Str.ofString "sizes" then some (.ref sz) else if y = Str.ofString "held" then some (.ref hd) else u y) (F : Fr g L s.heap mi)
    (N : News g L s.heap (M x oS oE oV now tn nn ((hd, oH) :: rest)))
    (hQ : ∀ (m' : Str → Option Value) (oS' oE' oH' : Obj) (tab' : Tab) (pre : List (Addr × Obj)) (h' : Heap) (tk' : Nat), (∀ y, y ≠ Str.ofString "name" → y ≠ Str.ofString "told" → y ≠ Str.ofString "end" → y ≠ Str.ofString "count" → m' y = mi y) → Fr g L h' m' → News g L h' (M x oS' oE' oV now tn nn ((hd, oH') :: (pre ++ rest))) → (∀ p ∈ pre, ∀ q ∈ M x oS oE oV now tn nn ((hd, oH) :: rest), @LT.lt Nat _ q.1 p.1) →
      Dy w x am mu hd oS' oE' oV oH' tab' (pre ++ base) → Q .next { s with heap := h', toks := tk' }) :
    wpAny (model PySem.Challenge.rw_jb0021_01.row.prog w) (callerA.deeper (envOfC (Str.ofString "law") lawS L fa (.ref 598))) (execs finO (envOfC (Str.ofString "law") lawS L fa (.ref 598))) Q (fun _ _ => False) s := by
  subst hmi
  revert X; k_fill; intro X
  conv in finO => whnf
  have eS : lawS = lawS := rfl
  conv at eS => rhs; whnf
  rw [eS]
  clear eS
  k_steps
  show wpAny _ _ (call (.ref 585) []) _ _ _
  refine' Tell.use (names_tell w (M x oS oE oV now tn nn ((hd, oH) :: rest))) ?k1 ?k2 ?k3 ?k4 ?k5 ?kK ?kd ?ku ?_
  case k1 => k_asm
  case k2 => k_asm
  case k3 => k_asm
  case k4 => k_asm
  case k5 => k_asm
  case kK => first | exact rfl | assumption
  case kd => ktr_room
  case ku => ktr_units
  intro v9 n9 h9 tk9 e9 F9 N9
  obtain ⟨Dn, T0, T1, T2, y1, y2, y3, cn, rfl, rfl, hT0, hT1, hT2, hT3⟩ := e9
  have g0 : ∀ q ∈ M x oS oE oV now tn nn ((hd, oH) :: rest), @LT.lt Nat _ q.1 T0 := hT0
  have g1 : ∀ q ∈ M x oS oE oV now tn nn ((hd, oH) :: rest), @LT.lt Nat _ q.1 T1 := fun q hq => Nat.lt_trans (hT0 q hq) hT1
  have g2 : ∀ q ∈ M x oS oE oV now tn nn ((hd, oH) :: rest), @LT.lt Nat _ q.1 T2 := fun q hq => Nat.lt_trans (g1 q hq) hT2
  have g3 : ∀ q ∈ M x oS oE oV now tn nn ((hd, oH) :: rest), @LT.lt Nat _ q.1 Dn := fun q hq => Nat.lt_trans (g2 q hq) hT3
  obtain ⟨pre0, hp0⟩ : ∃ r : List (Addr × Obj), r = [(Dn, listOf #[.ref T0, .ref T1, .ref T2] cn), (T2, tupO [.str (Str.ofString "a") y2, .str (Str.ofString "b") y3]), (T1, tupO [.str (Str.ofString "a") y1]), (T0, tupO [])] := ⟨_, rfl⟩
  have hord0 : ∀ p ∈ pre0, ∀ q ∈ M x oS oE oV now tn nn ((hd, oH) :: rest), @LT.lt Nat _ q.1 p.1 := by
    rw [hp0]
    intro p hp
    simp only [List.mem_cons, List.not_mem_nil, or_false] at hp
    rcases hp with rfl | rfl | rfl | rfl
    · exact g3
    · exact g2
    · exact g1
    · exact g0
  have Db : Dy w x am mu hd oS oE oV oH tab (pre0 ++ base) := ⟨D.dS, D.dE, D.dV, D.hld.mono fun p hp => List.mem_append_right _ hp, D.ok, D.len, fun p hp => (List.mem_append.mp hp).elim ((off_ord hord0).2 p) (D.off p), D.hne, D.lo⟩
  have Nb : News g L h9 (M x oS oE oV now tn nn ((hd, oH) :: (pre0 ++ rest))) := news_sub N9 (by
    rw [hp0]; walk_at "jb_in")
  have hTs : ∀ (i : Nat) (v : Value), ([.ref T0, .ref T1, .ref T2] : List Value)[i]? = some v → i < 3 ∧ ∃ Tn vs, v = .ref Tn ∧ (Tn, tupO vs) ∈ pre0 ∧ NmV i vs := by
    intro i v hv
    rw [hp0]
    rcases i with _ | _ | _ | i
    · exact ⟨by omega, T0, [], (Option.some.inj hv).symm, by simp, .zero⟩
    · exact ⟨by omega, T1, [.str (Str.ofString "a") y1], (Option.some.inj hv).symm, by simp, .one _⟩
    · exact ⟨by omega, T2, [.str (Str.ofString "a") y2, .str (Str.ofString "b") y3], (Option.some.inj hv).symm, by simp, .two _ _⟩
    · simp at hv
  have hDp : (Dn, listOf (List.toArray [.ref T0, .ref T1, .ref T2]) cn) ∈ pre0 := by rw [hp0]; exact List.mem_cons_self ..
  have hDn : (Dn, listOf (List.toArray [.ref T0, .ref T1, .ref T2]) cn) ∈ M x oS oE oV now tn nn ((hd, oH) :: (pre0 ++ rest)) := sub_H _ (List.mem_append_left _ hDp)
  k_steps
  clear N9
  refine for_list [Str.ofString "count", Str.ofString "end", Str.ofString "told"] (by rfl) F9 Nb hDn (fun (_ : Unit) => fun y => if y = Str.ofString "which" then some (.int (bI b) tw) else if y = Str.ofString "limiter" then some (.ref li) else if y = Str.ofString "items" then some (.ref it) else if y = Str.ofString "sizes" then some (.ref sz) else if y = Str.ofString "held" then some (.ref hd) else u y) (fun i _ l => ∃ oS1 oE1 oH1 tab1 pre1, l = M x oS1 oE1 oV now tn nn ((hd, oH1) :: (pre1 ++ rest)) ∧ (∀ p ∈ pre0, p ∈ pre1) ∧ (∀ p ∈ pre1, ∀ q ∈ M x oS oE oV now tn nn ((hd, oH) :: rest), @LT.lt Nat _ q.1 p.1) ∧ Dy w x am mu hd oS1 oE1 oV oH1 tab1 (pre1 ++ base)) () ⟨oS, oE, oH, tab, pre0, rfl, fun _ h => h, hord0, Db⟩ (fun _ _ _ => rfl) ?turn ?done
  case turn =>
    rintro i v u1 c' news₁ h tk6 own I hv ⟨oS1, oE1, oH1, tab1, pre1, rfl, hsb, hord1, D1⟩ hnI hltI hown hIo F1 N1
    obtain ⟨hi3, Tn, vs, rfl, hT, hv⟩ := hTs i v hv
    have C1 : Cx w x am mu L li sz it (pre1 ++ rest) := C.mono pre1 (off_ord hord1).1
    have AbI : Ab x I := ⟨hltI (x.sd, oS) (by first | exact m_sd | simp), hltI (x.ed, oE) (by first | exact m_ed | simp), hltI (x.vd, oV) (by first | exact m_vd | simp), hltI (x.nl, listOf #[.int now tn] nn) (by first | exact m_nl | simp)⟩
    have AbD : Ab x Dn := ⟨g3 (x.sd, oS) (by first | exact m_sd | simp), g3 (x.ed, oE) (by first | exact m_ed | simp), g3 (x.vd, oV) (by first | exact m_vd | simp), g3 (x.nl, listOf #[.int now tn] nn) (by first | exact m_nl | simp)⟩
    have hoI := off_own hown AbI AbD
    have C2 := C1.mono own hoI
    have off2 : ∀ p ∈ own ++ (pre1 ++ rest), p.1 ≠ hd := by
      intro p hp
      rcases List.mem_append.mp hp with hp | hp
      · rcases hown p hp with e | e <;> rw [e]
        · exact Nat.ne_of_gt (hltI (hd, oH) hd_mem)
        · exact Nat.ne_of_gt (g3 (hd, oH) hd_mem)
      · exact (List.mem_append.mp hp).elim ((off_ord hord1).2 p) (off p)
    have N2 : News g L h (M x oS1 oE1 oV now tn nn ((hd, oH1) :: (own ++ (pre1 ++ rest)))) := news_sub N1 (by
      walk_at "jb_in")
    have hbr2 : ∀ p ∈ pre1 ++ base, p ∈ own ++ (pre1 ++ rest) := fun p hp => List.mem_append_right _ ((List.mem_append.mp hp).elim (List.mem_append_left _) fun h => List.mem_append_right _ (hbr p h))
    obtain ⟨oI, hoI2, hcI0⟩ := hIo
    change Fr g L h _ at F1
    refine' fin_turn w p loose mean mg mb g L fa _ _ (fun _ _ => False) X T B x am mu hd li sz it oS1 oE1 oV oH1 tab1 now tn nn (pre1 ++ base) (own ++ (pre1 ++ rest)) hbr2 C2 D1 off2 b i hi3 Tn vs (List.mem_append_left _ (hsb _ hT)) hv _ _ _ (ovr_self _ [(Str.ofString "which", .int (bI b) _), (Str.ofString "name", .ref Tn), (Str.ofString "limiter", .ref li), (Str.ofString "items", .ref it), (Str.ofString "sizes", .ref sz), (Str.ofString "held", .ref hd)] ?ok) F1 N2 ?hq
    case ok => exact ⟨by with_unfolding_all rfl, by with_unfolding_all rfl, by with_unfolding_all rfl, by with_unfolding_all rfl, by with_unfolding_all rfl, by with_unfolding_all rfl, trivial⟩
    case hq =>
      intro m' oS' oE' oH' tab' pre2 h' tk' hm' F' N' hord D' hl'
      refine turn_end (r := (hd, oH') :: ((pre2 ++ pre1) ++ rest)) F' (news_sub N' ?_) (a := oS') (b := oE') (c := oV) (now' := now) (t' := tn) (n' := nn) ?_ ⟨(), ⟨oS', oE', oH', tab', pre2 ++ pre1, rfl, fun p hp => List.mem_append_right _ (hsb p hp), ?_, ?_⟩, ?_⟩
      · walk_at "jb_in"
      · intro p hp
        simp only [List.mem_cons, List.mem_append] at hp
        rcases hp with rfl | rfl | rfl | rfl | rfl | (hp | hp) | hp
        · exact hnI (x.sd, oS1) (by first | exact m_sd | simp)
        · exact hnI (x.ed, oE1) (by first | exact m_ed | simp)
        · exact hnI (x.vd, oV) (by first | exact m_vd | simp)
        · exact hnI (x.nl, listOf #[.int now tn] nn) (by first | exact m_nl | simp)
        · exact hnI (hd, oH1) hd_mem
        · exact Nat.ne_of_gt (hord p hp (I, oI) (sub_H _ (List.mem_append_left _ hoI2)))
        · exact hnI p (sub_H _ (List.mem_append_left _ hp))
        · exact hnI p (sub_H _ (List.mem_append_right _ hp))
      · intro p hp
        rcases List.mem_append.mp hp with hp | hp
        · exact ord_of (fun q hq => List.mem_append_right _ (List.mem_append_right _ hq)) (hord p hp)
        · exact hord1 p hp
      · rw [List.append_assoc]; exact D'
      · intro y h1 h2
        simp only [List.contains_cons, List.contains_nil, Bool.or_false, Bool.or_eq_false_iff, beq_eq_false_iff_ne] at h2
        rw [hm' y h2.2.2 h2.2.1 h2.1, if_neg h1, if_neg (by simp [h2.1, h2.2.1, h2.2.2])]
  rintro u1 c' news₁ h tk6 ⟨oS1, oE1, oH1, tab1, pre1, rfl, hsb, hord1, D1⟩ F1 N1
  change Fr g L h _ at F1
  k_steps
  refine hQ _ oS1 oE1 oH1 tab1 pre1 _ _ ?_ F1 N1 hord1 D1
  intro y h1 h2 h3 h4
  rw [if_neg h1, if_neg (by simp [h2, h3, h4])]
theorem law_fin (w : World) (p : Program) (loose : List Str) (mean : ExcName → Option Value) (mg mb : Str → Option Value) (g : Heap) (L fa : Nat) (s : Shared) (Q : Flow → Shared → Prop)
    (X : (K w.params).In g) (T : Top p loose mean mg mb g) (B : Below callerA g [] g)
    (x : Fx) (am mu : Bool → Int) (hd li sz it : Nat) (oS oE oV oH : Obj) (tab : Tab) (now : Int) (tn : Tok) (nn : Nat) (rest : List (Addr × Obj)) (C : Cx w x am mu L li sz it rest) (D : Dy w x am mu hd oS oE oV oH tab rest) (u : Str → Option Value)
    (mi : Str → Option Value) (hmi : mi = fun y => if y = Str.ofString "limiter" then some (.ref li) else if y = Str.ofString "items" then some (.ref it) else if y = Str.ofString "sizes" then some (.ref sz) else if y = Str.ofString "held" then some (.ref hd) else u y) (F : Fr g L s.heap mi)
    (N : News g L s.heap (M x oS oE oV now tn nn ((hd, oH) :: rest)))
    (hQ : ∀ (m' : Str → Option Value) (h' : Heap) (tk' : Nat), Fr g L h' m' → News g L h' rest → Q (.ret (.bool true)) { s with heap := h', toks := tk' }) :
    wpAny (model PySem.Challenge.rw_jb0021_01.row.prog w) (callerA.deeper (envOfC (Str.ofString "law") lawS L fa (.ref 598))) (execs (lawT 8) (envOfC (Str.ofString "law") lawS L fa (.ref 598))) Q (fun _ _ => False) s := by
  subst hmi
  revert X; k_fill; intro X
  conv in (lawT 8) => whnf
  have eS : lawS = lawS := rfl
  conv at eS => rhs; whnf
  rw [eS]
  clear eS
  iterate 11 walk1
  rename Fr _ _ _ _ => F1
  rename News _ _ _ (_ :: M _ _ _ _ _ _ _ _) => N1
  rename (@LT.lt Nat _ x.sd _ ∧ _) => l1
  rename_i ii t1 h1 tk1
  have hi : ∀ q ∈ M x oS oE oV now tn nn ((hd, oH) :: rest), @LT.lt Nat _ q.1 ii := kst_ltOf l1
  obtain ⟨io, hio⟩ : ∃ io, io = itR (0 + ((0 + 1 : Nat) : Int)) (((2 : Nat) : Int) - ((0 + 1 : Nat) : Int)) := ⟨_, rfl⟩
  rw [← hio] at N1
  change Fr g L _ _ at F1
  change News g L _ _ at N1
  refine' fin_inner w p loose mean mg mb g L fa _ _ X T B x am mu hd li sz it oS oE oV oH tab now tn nn rest ((ii, io) :: rest) (fun p hp => List.mem_cons_of_mem _ hp) (C.mono [(ii, io)] (off_up hi)) D (off_hd hi D.off) false _ _ _ (ovr_self _ [(Str.ofString "which", .int (bI false) _), (Str.ofString "limiter", .ref li), (Str.ofString "items", .ref it), (Str.ofString "sizes", .ref sz), (Str.ofString "held", .ref hd)] ?ok) F1 (news_sub N1 ?sub) ?hq
  case ok => exact ⟨by with_unfolding_all rfl, by with_unfolding_all rfl, by with_unfolding_all rfl, by with_unfolding_all rfl, by with_unfolding_all rfl, trivial⟩
  case sub =>
    walk_at "jb_in"
  case hq =>
    intro m2 oS2 oE2 oH2 tab2 pre2 h2 tk2 hm2 F2 N2 hord2 D2
    have offi : ∀ p ∈ M x oS2 oE2 oV now tn nn ((hd, oH2) :: (pre2 ++ rest)), p.1 ≠ ii := by
      intro p hp
      simp only [List.mem_cons, List.mem_append] at hp
      rcases hp with rfl | rfl | rfl | rfl | rfl | hp | hp
      · exact Nat.ne_of_lt (hi (x.sd, oS) (by first | exact m_sd | simp))
      · exact Nat.ne_of_lt (hi (x.ed, oE) (by first | exact m_ed | simp))
      · exact Nat.ne_of_lt (hi (x.vd, oV) (by first | exact m_vd | simp))
      · exact Nat.ne_of_lt (hi (x.nl, listOf #[.int now tn] nn) (by first | exact m_nl | simp))
      · exact Nat.ne_of_lt (hi (hd, oH) hd_mem)
      · exact Nat.ne_of_gt (hord2 p hp (ii, io) (sub_H _ (List.mem_cons_self ..)))
      · exact Nat.ne_of_lt (hi p (sub_H _ hp))
    show UnrEnd _ _ _ _ _ _ _
    rw [hio] at N2
    refine UnrEnd.intro F2 N2 (M x oS2 oE2 oV now tn nn ((hd, oH2) :: (pre2 ++ rest))) ?_ offi ?_
    · walk_at "jb_in"
    refine RangeRest.succ fun t3 h3 tk3 F3 N3 => ?_
    change Fr g L _ _ at F3
    change News g L _ _ at N3
    obtain ⟨io3, hio3⟩ : ∃ io, io = itR (0 + ((0 + 1 + 1 : Nat) : Int)) (((2 : Nat) : Int) - ((0 + 1 + 1 : Nat) : Int)) := ⟨_, rfl⟩
    have C2 : Cx w x am mu L li sz it (pre2 ++ rest) := C.mono pre2 (off_ord hord2).1
    have hoff3 : OwnOff [(ii, io3)] [x.sd, x.ed, x.vd, x.nl] := off_one ⟨hi (x.sd, oS) (by first | exact m_sd | simp), hi (x.ed, oE) (by first | exact m_ed | simp), hi (x.vd, oV) (by first | exact m_vd | simp), hi (x.nl, listOf #[.int now tn] nn) (by first | exact m_nl | simp)⟩
    rw [← hio3] at N3
    refine' fin_inner w p loose mean mg mb g L fa _ _ X T B x am mu hd li sz it oS2 oE2 oV oH2 tab2 now tn nn (pre2 ++ rest) ((ii, io3) :: (pre2 ++ rest)) (fun p hp => List.mem_cons_of_mem _ hp) (C2.mono [(ii, io3)] hoff3) D2 ?off true _ _ _ (ovr_self _ [(Str.ofString "which", .int (bI true) _), (Str.ofString "limiter", .ref li), (Str.ofString "items", .ref it), (Str.ofString "sizes", .ref sz), (Str.ofString "held", .ref hd)] ?ok) F3 (news_sub N3 ?sub) ?hq
    case off =>
      intro p hp
      rcases List.mem_cons.mp hp with rfl | hp
      · exact Nat.ne_of_gt (hi (hd, oH) hd_mem)
      · exact D2.off p hp
    case ok => exact ⟨by with_unfolding_all rfl, (hm2 _ (by decide) (by decide) (by decide) (by decide)).trans (by with_unfolding_all rfl), (hm2 _ (by decide) (by decide) (by decide) (by decide)).trans (by with_unfolding_all rfl), (hm2 _ (by decide) (by decide) (by decide) (by decide)).trans (by with_unfolding_all rfl), (hm2 _ (by decide) (by decide) (by decide) (by decide)).trans (by with_unfolding_all rfl), trivial⟩
    case sub =>
      walk_at "jb_in"
    case hq =>
      intro m4 oS4 oE4 oH4 tab4 pre4 h4 tk4 hm4 F4 N4 hord4 D4
      show UnrEnd _ _ _ _ _ _ _
      rw [hio3] at N4
      refine UnrEnd.intro F4 N4 (pre2 ++ rest) ?_ ?_ ?_
      · walk_at "jb_in"
      · intro p hp
        exact offi p (sub_H _ hp)
      refine RangeRest.zero fun h5 tk5 F5 N5 => ?_
      change Fr g L _ _ at F5
      change News g L _ _ at N5
      show wpAny _ _ (execs _ _) _ _ _
      k_steps
      exact hQ _ _ _ F5 (news_sub N5 fun p hp => List.mem_append_right _ hp)
theorem Cx.sub {w : World} {x : Fx} {am mu : Bool → Int} {L li sz it : Nat} {r r' : List (Addr × Obj)} (C : Cx w x am mu L li sz it r) (hs : ∀ p ∈ r, p ∈ r') (off : OwnOff r' [x.sd, x.ed, x.vd, x.nl]) : Cx w x am mu L li sz it r' where
  sto := let S := C.sto; ⟨hs _ S.hst, hs _ S.hstd, off, S.lo1, S.lo2, S.lo3, S.l1, (let ⟨c, od, fd, sl, q⟩ := S.hf; ⟨c, od, fd, sl, hs _ q⟩), fun news now t n h hm => S.clk news now t n (fun p hp => h p (hs p hp)) hm⟩
  lim := ⟨let ⟨ld, t, a, b⟩ := C.lim.here; ⟨ld, t, hs _ a, hs _ b⟩⟩
  its := let ⟨I, c, a, b⟩ := C.its; ⟨I, c, hs _ a, fun z => (b z).mono hs⟩
  szs := let ⟨S, c, ta, tl, a, b⟩ := C.szs; ⟨S, c, ta, tl, hs _ a, fun z => hs _ (b z)⟩
  cell := let ⟨o, a, b⟩ := C.cell; ⟨o, hs _ a, b⟩
theorem KeyAt.sub {r r' : List (Addr × Obj)} {a : Addr} {k : TK} (h : KeyAt r a k) (hs : ∀ a vs, (a, tupO vs) ∈ r → (a, tupO vs) ∈ r') : KeyAt r' a k := ⟨h.lt, let ⟨t, T, vs, x, y, z⟩ := h.here; ⟨t, T, vs, hs _ _ x, hs _ _ y, z⟩⟩
theorem Ents.sub {r r' : List (Addr × Obj)} {xs tab} (h : Ents r xs tab) (hs : ∀ a vs, (a, tupO vs) ∈ r → (a, tupO vs) ∈ r') : Ents r' xs tab := by
  induction h with
  | nil => exact .nil
  | cons e _ ih => exact .cons ⟨e.key, e.at'.sub hs, let ⟨p, t1, t2, x, y⟩ := e.val; ⟨p, t1, t2, x, hs _ _ y⟩⟩ ih
theorem Hld.sub {w : World} {o : Obj} {tab : Tab} {r r' : List (Addr × Obj)} (h : Hld w o tab r) (hs : ∀ a vs, (a, tupO vs) ∈ r → (a, tupO vs) ∈ r') : Hld w o tab r' := ⟨h.nd, let ⟨es, ep, xs, a, b, c, d⟩ := h.here; ⟨es, ep, xs, a, b, c, d.sub hs⟩⟩
theorem Hld.cls {w : World} {o : Obj} {tab : Tab} {r : List (Addr × Obj)} (h : Hld w o tab r) : o.cls = .type "dict" := let ⟨es, ep, xs, a, _⟩ := h.here; a.1
theorem law_loop (w : World) (p : Program) (loose : List Str) (mean : ExcName → Option Value) (mg mb : Str → Option Value) (g : Heap) (L fa : Nat) (s : Shared) (Q : Flow → Shared → Prop)
    (X : (K w.params).In g) (T : Top p loose mean mg mb g) (B : Below callerA g [] g) (l : Nat) (vs : List Value) (ns : List Int) (hl : g.IsList l vs.toArray) (hI : IntsAre vs ns) (hlen : ns.length ≤ 63)
    (x : Fx) (am mu : Bool → Int) (hd li sz it : Nat) (oS oE oV oH : Obj) (now : Int) (tn : Tok) (nn : Nat) (rest : List (Addr × Obj)) (C : Cx w x am mu L li sz it rest) (D : Dy w x am mu hd oS oE oV oH [] rest) (fi : Int) (tf : Tok) (u : Str → Option Value)
    (mi : Str → Option Value) (hmi : mi = fun y => if y = Str.ofString "held" then some (.ref hd) else if y = Str.ofString "items" then some (.ref it) else if y = Str.ofString "sizes" then some (.ref sz) else if y = Str.ofString "limiter" then some (.ref li) else if y = Str.ofString "store" then some (.ref x.st) else if y = Str.ofString "first" then some (.int fi tf) else if y = Str.ofString "script" then some (.ref l) else u y) (F : Fr g L s.heap mi)
    (N : News g L s.heap (M x oS oE oV now tn nn ((hd, oH) :: rest)))
    (hQ : ∀ (m' : Str → Option Value) (h' : Heap) (tk' : Nat), Fr g L h' m' → News g L h' rest → Q (.ret (.bool true)) { s with heap := h', toks := tk' }) :
    wpAny (model PySem.Challenge.rw_jb0021_01.row.prog w) (callerA.deeper (envOfC (Str.ofString "law") lawS L fa (.ref 598))) (execs (lawT 7) (envOfC (Str.ofString "law") lawS L fa (.ref 598))) Q (fun _ _ => False) s := by
  subst hmi
  revert X; k_fill; intro X
  conv in (lawT 7) => whnf
  have eS : lawS = lawS := rfl
  conv at eS => rhs; whnf
  rw [eS]
  clear eS
  walk1
  rename Fr _ _ _ _ => F0
  with_unfolding_all refine' For_invVF F0 ?k1 ?k2 ?_
  case k1 => exact rfl
  case k2 => exact rfl
  k_steps
  rename Fr _ _ _ _ => F1
  rename News _ _ _ (_ :: M _ _ _ _ _ _ _ _) => N1
  rename IntsAre _ (List.take _ _) => hI1
  rename (@LT.lt Nat _ x.sd _ ∧ _) => l1
  rename (_ = min (min _ _ - 1) (_ - 1)) => hC1
  rename_i Dl ws h1 hL1
  have hDl : ∀ q ∈ M x oS oE oV now tn nn ((hd, oH) :: rest), @LT.lt Nat _ q.1 Dl := kst_ltOf l1
  have hwl : ws.length ≤ 16 := by have := hI1.length; rw [this, hC1]; omega
  obtain ⟨base, hba⟩ : ∃ r, r = (Dl, listOf ws.toArray 0) :: rest := ⟨_, rfl⟩
  have hbs : ∀ p ∈ rest, p ∈ base := by rw [hba]; exact fun p hp => List.mem_cons_of_mem _ hp
  have Cb : Cx w x am mu L li sz it base := by rw [hba]; exact C.mono [(Dl, _)] (off_up hDl)
  have offb : ∀ p ∈ base, p.1 ≠ hd := by rw [hba]; exact off_hd hDl D.off
  have Db : Dy w x am mu hd oS oE oV oH [] base := ⟨D.dS, D.dE, D.dV, D.hld.mono hbs, D.ok, D.len, offb, D.hne, D.lo⟩
  have Nb : News g L h1 (M x oS oE oV now tn nn ((hd, oH) :: base)) := news_sub N1 (by
    rw [hba]; walk_at "jb_in")
  have hDm : (Dl, listOf ws.toArray 0) ∈ M x oS oE oV now tn nn ((hd, oH) :: base) := sub_H _ (by rw [hba]; exact List.mem_cons_self ..)
  clear N1
  refine for_list [Str.ofString "which", Str.ofString "amount", Str.ofString "length", Str.ofString "name", Str.ofString "key", Str.ofString "deed", Str.ofString "cost", Str.ofString "told", Str.ofString "end", Str.ofString "count", Str.ofString "one"] (by rfl) F1 Nb hDm (fun (c : Nat) => fun y => if y = Str.ofString "held" then some (.ref c) else if y = Str.ofString "items" then some (.ref it) else if y = Str.ofString "sizes" then some (.ref sz) else if y = Str.ofString "limiter" then some (.ref li) else if y = Str.ofString "store" then some (.ref x.st) else if y = Str.ofString "first" then some (.int fi tf) else if y = Str.ofString "script" then some (.ref l) else u y) (fun i c l => ∃ oS1 oE1 oV1 oH1 tab1 now1 tn1 nn1 r1, l = M x oS1 oE1 oV1 now1 tn1 nn1 ((c, oH1) :: r1) ∧ (∀ p ∈ base, p ∈ r1) ∧ Cx w x am mu L li sz it r1 ∧ Dy w x am mu c oS1 oE1 oV1 oH1 tab1 r1 ∧ tab1.length ≤ i) hd ⟨oS, oE, oV, oH, [], now, tn, nn, base, rfl, fun _ h => h, Cb, Db, Nat.le_refl _⟩ (fun _ _ _ => rfl) ?turn ?done
  case turn =>
    rintro i v u1 c news₁ h tk6 own I hv ⟨oS1, oE1, oV1, oH1, tab1, now1, tn1, nn1, r1, rfl, hsb, C1, D1, hl1⟩ hnI hltI hown ⟨oI, hoI2, hcI⟩ F2 N2
    have hi16 : i < 16 := by
      have := (List.getElem?_eq_some_iff.mp hv).1
      omega
    obtain ⟨nv, tnv, rfl⟩ : ∃ nv tnv, v = .int nv tnv := let ⟨n, t, e, _⟩ := hI1.at i v hv; ⟨n, t, e⟩
    have AbI : Ab x I := ⟨hltI (x.sd, oS) (by first | exact m_sd | simp), hltI (x.ed, oE) (by first | exact m_ed | simp), hltI (x.vd, oV) (by first | exact m_vd | simp), hltI (x.nl, listOf #[.int now tn] nn) (by first | exact m_nl | simp)⟩
    have AbD : Ab x Dl := ⟨hDl (x.sd, oS) (by first | exact m_sd | simp), hDl (x.ed, oE) (by first | exact m_ed | simp), hDl (x.vd, oV) (by first | exact m_vd | simp), hDl (x.nl, listOf #[.int now tn] nn) (by first | exact m_nl | simp)⟩
    have hoI := off_own hown AbI AbD
    have C2 := C1.mono own hoI
    have hDlm : (Dl, listOf ws.toArray 0) ∈ r1 := hsb _ (by rw [hba]; exact List.mem_cons_self ..)
    have off2 : ∀ p ∈ own ++ r1, p.1 ≠ c := by
      intro p hp
      rcases List.mem_append.mp hp with hp | hp
      · rcases hown p hp with e | e <;> rw [e]
        · exact (hnI (c, oH1) hd_mem).symm
        · exact D1.off _ hDlm
      · exact D1.off p hp
    have D2 : Dy w x am mu c oS1 oE1 oV1 oH1 tab1 (own ++ r1) := ⟨D1.dS, D1.dE, D1.dV, D1.hld.mono fun p hp => List.mem_append_right _ hp, D1.ok, D1.len, off2, D1.hne, D1.lo⟩
    have N3 : News g L h (M x oS1 oE1 oV1 now1 tn1 nn1 ((c, oH1) :: (own ++ r1))) := news_sub N2 (by
      walk_at "jb_in")
    change Fr g L h _ at F2
    refine' turn_P w p loose mean mg mb g L fa _ _ X T B x am mu c li sz it oS1 oE1 oV1 oH1 tab1 now1 tn1 nn1 (own ++ r1) C2 D2 (by omega) nv tnv _ _ (ovr_self _ [(Str.ofString "n", .int nv tnv), (Str.ofString "store", .ref x.st), (Str.ofString "limiter", .ref li), (Str.ofString "sizes", .ref sz), (Str.ofString "items", .ref it), (Str.ofString "held", .ref c)] ?ok) F2 N3 ?hq
    case ok => exact ⟨by with_unfolding_all rfl, by with_unfolding_all rfl, by with_unfolding_all rfl, by with_unfolding_all rfl, by with_unfolding_all rfl, by with_unfolding_all rfl, trivial⟩
    case hq =>
      intro m' c' oS' oE' oV' oH' tab' now' tn' nn' rest' h' tk' hm' hh' F' N' hsr C' D' hl'
      have hIr : (I, oI) ∈ rest' := hsr _ (List.mem_append_left _ hoI2)
      have hgI := (N' _ (sub_H _ hIr)).1
      have tupI : ∀ a vs, (a, tupO vs) ∈ rest' → a ≠ I := by
        rintro a vs ha rfl
        have e : tupO vs = oI := Option.some.inj ((N' _ (sub_H _ ha)).1.symm.trans hgI)
        rw [← e] at hcI
        exact absurd hcI (show ¬ Value.type "tuple" = Value.type "list_iterator" by decide)
      have hcI' : c' ≠ I := by
        rintro rfl
        have e : oH' = oI := Option.some.inj ((N' _ (hd_mem)).1.symm.trans hgI)
        rw [← e, D'.hld.cls] at hcI
        exact absurd hcI (by decide)
      obtain ⟨r2, hr2⟩ : ∃ r2, r2 = rest'.filter fun p => decide (p.1 ≠ I) := ⟨_, rfl⟩
      have m2 : ∀ p, p ∈ r2 ↔ p ∈ rest' ∧ p.1 ≠ I := by intro p; rw [hr2, List.mem_filter]; simp
      have hs12 : ∀ p ∈ r1, p ∈ r2 := fun p hp => (m2 p).mpr ⟨hsr p (List.mem_append_right _ hp), hnI p (sub_H _ hp)⟩
      have C3 : Cx w x am mu L li sz it r2 := C1.sub hs12 fun p hp => C'.sto.hoff p ((m2 p).mp hp).1
      have D3 : Dy w x am mu c' oS' oE' oV' oH' tab' r2 := ⟨D'.dS, D'.dE, D'.dV, D'.hld.sub fun a vs ha => (m2 _).mpr ⟨ha, tupI a vs ha⟩, D'.ok, D'.len, fun p hp => D'.off p ((m2 p).mp hp).1, D'.hne, D'.lo⟩
      refine turn_end (r := (c', oH') :: r2) F' (news_sub N' ?_) (a := oS') (b := oE') (c := oV') (now' := now') (t' := tn') (n' := nn') ?_ ⟨c', ⟨oS', oE', oV', oH', tab', now', tn', nn', r2, rfl, fun p hp => hs12 p (hsb p hp), C3, D3, by omega⟩, ?_⟩
      · intro p hp
        simp only [List.mem_cons, List.mem_append] at hp ⊢
        rcases hp with hp | hp | hp | hp | hp | hp | hp
        iterate 4 simp [hp]
        · simp [hsr p (List.mem_append_left _ hp)]
        · simp [hp]
        · simp [((m2 p).mp hp).1]
      · intro p hp
        simp only [List.mem_cons] at hp
        rcases hp with rfl | rfl | rfl | rfl | rfl | hp
        · exact hnI (x.sd, oS1) (by first | exact m_sd | simp)
        · exact hnI (x.ed, oE1) (by first | exact m_ed | simp)
        · exact hnI (x.vd, oV1) (by first | exact m_vd | simp)
        · exact hnI (x.nl, listOf #[.int now1 tn1] nn1) (by first | exact m_nl | simp)
        · exact hcI'
        · exact ((m2 p).mp hp).2
      · intro y h1 h2
        simp only [List.contains_cons, List.contains_nil, Bool.or_false, Bool.or_eq_false_iff, beq_eq_false_iff_ne] at h2
        obtain ⟨w1, w2, w3, w4, w5, w6, w7, w8, w9, w10, w11⟩ := h2
        by_cases hy : y = Str.ofString "held"
        · rw [if_pos hy, hy]; exact hh'
        · rw [hm' y w1 w2 w3 w4 w5 w6 w7 w8 w9 w10 w11 hy, if_neg h1, if_neg (by simp [w1, w2, w3, w4, w5, w6, w7, w8, w9, w10, w11]), if_neg hy, if_neg hy]
  rintro u1 c news₁ h tk6 ⟨oS1, oE1, oV1, oH1, tab1, now1, tn1, nn1, r1, rfl, hsb, C1, D1, hl1⟩ F2 N2
  change Fr g L h _ at F2
  show wpAny _ _ (execs _ _) _ _ _
  refine' law_fin w p loose mean mg mb g L fa _ _ X T B x am mu c li sz it oS1 oE1 oV1 oH1 tab1 now1 tn1 nn1 r1 C1 D1 _ _ (ovr_self _ [(Str.ofString "limiter", .ref li), (Str.ofString "items", .ref it), (Str.ofString "sizes", .ref sz), (Str.ofString "held", .ref c)] ?ok) F2 N2 ?hq
  case ok => exact ⟨by with_unfolding_all rfl, by with_unfolding_all rfl, by with_unfolding_all rfl, by with_unfolding_all rfl, trivial⟩
  case hq =>
    intro m' h' tk' F' N'
    exact hQ m' h' tk' F' (news_sub N' fun p hp => hsb p (hbs p hp))
end
def amF (fi : Int) (b : Bool) : Int := if b then (fi.fdiv 63).fmod 5 + 1 else fi.fmod 7
def muF (fi : Int) (b : Bool) : Int := if b then 1 else (fi.fdiv 7).fmod 9 + 2
theorem set_3 (w : World) (p : Program) (loose : List Str) (mean : ExcName → Option Value) (mg mb : Str → Option Value) (g : Heap) (L fa : Nat) (s : Shared) (Q : Flow → Shared → Prop)
    (X : (K w.params).In g) (T : Top p loose mean mg mb g) (B : Below callerA g [] g) (l : Nat) (vs : List Value) (ns : List Int) (hl : g.IsList l vs.toArray) (hI : IntsAre vs ns) (hlen : ns.length ≤ 63)
    (x : Fx) (li : Nat) (oS oE oV : Obj) (now : Int) (tn : Tok) (nn : Nat) (rest : List (Addr × Obj)) (S : Sto w x rest) (hLim : Lim w x li rest) (hcell : ∃ oC : Obj, (L + 1, oC) ∈ rest ∧ oC.data = .cell (some (.ref x.nl))) (hS : Dct w oS []) (hE : Dct w oE []) (hV : Dct w oV []) (fi : Int) (tf : Tok) (u : Str → Option Value)
    (hd it i0 i1 d0 d1 sz S0 S1 : Nat) (oH : Obj) (c1 c2 : Nat) (e0 e1 e2 e3 e4 e5 f0 f1 f2 f3 f4 f5 y0 y1 y2 y3 : Tok) (hH : oH.IsDictOf (PySem.strKind PySem.Challenge.rw_jb0021_01.row.prog w) []) (lo : (hd == sysModules) = false)
    (o0 : ∀ q ∈ M x oS oE oV now tn nn rest, @LT.lt Nat _ q.1 S0) (o1 : @LT.lt Nat _ S0 S1) (o2 : @LT.lt Nat _ S1 sz) (o3 : @LT.lt Nat _ sz d0) (o4 : @LT.lt Nat _ d0 i0) (o5 : @LT.lt Nat _ i0 d1) (o6 : @LT.lt Nat _ d1 i1) (o7 : @LT.lt Nat _ i1 it) (o8 : @LT.lt Nat _ it hd)
    (mi : Str → Option Value) (hmi : mi = fun y => if y = Str.ofString "held" then some (.ref hd) else if y = Str.ofString "items" then some (.ref it) else if y = Str.ofString "sizes" then some (.ref sz) else if y = Str.ofString "limiter" then some (.ref li) else if y = Str.ofString "store" then some (.ref x.st) else if y = Str.ofString "first" then some (.int fi tf) else if y = Str.ofString "script" then some (.ref l) else u y) (F : Fr g L s.heap mi)
    (N : News g L s.heap ((hd, oH) :: (it, listOf #[.ref i0, .ref i1] c1) :: (i1, instObj 407 d1) :: (d1, itO w (amF fi true) (muF fi true) f0 f1 f2 f3 f4 f5) :: (i0, instObj 424 d0) :: (d0, itO w (amF fi false) (muF fi false) e0 e1 e2 e3 e4 e5) :: (sz, listOf #[.ref S0, .ref S1] c2) :: (S1, tupO [.int (amF fi true) y0, .int 60 y1]) :: (S0, tupO [.int (amF fi false) y2, .int (muF fi false) y3]) :: M x oS oE oV now tn nn rest))
    (hQ : ∀ (m' : Str → Option Value) (h' : Heap) (tk' : Nat), Fr g L h' m' → News g L h' rest → Q (.ret (.bool true)) { s with heap := h', toks := tk' }) :
    wpAny (model PySem.Challenge.rw_jb0021_01.row.prog w) (callerA.deeper (envOfC (Str.ofString "law") lawS L fa (.ref 598))) (execs (lawT 7) (envOfC (Str.ofString "law") lawS L fa (.ref 598))) Q (fun _ _ => False) s := by
  obtain ⟨new, hnw⟩ : ∃ r : List (Addr × Obj), r = [(it, listOf #[.ref i0, .ref i1] c1), (i1, instObj 407 d1), (d1, itO w (amF fi true) (muF fi true) f0 f1 f2 f3 f4 f5), (i0, instObj 424 d0), (d0, itO w (amF fi false) (muF fi false) e0 e1 e2 e3 e4 e5), (sz, listOf #[.ref S0, .ref S1] c2), (S1, tupO [.int (amF fi true) y0, .int 60 y1]), (S0, tupO [.int (amF fi false) y2, .int (muF fi false) y3])] := ⟨_, rfl⟩
  have up : ∀ p ∈ new, ∀ q ∈ M x oS oE oV now tn nn rest, @LT.lt Nat _ q.1 p.1 := by
    rw [hnw]
    intro p hp q hq
    have h0 := o0 q hq
    have h1 := Nat.lt_trans h0 o1
    have h2 := Nat.lt_trans h1 o2
    have h3 := Nat.lt_trans h2 o3
    have h4 := Nat.lt_trans h3 o4
    have h5 := Nat.lt_trans h4 o5
    have h6 := Nat.lt_trans h5 o6
    have h7 := Nat.lt_trans h6 o7
    simp only [List.mem_cons, List.not_mem_nil, or_false] at hp
    rcases hp with rfl | rfl | rfl | rfl | rfl | rfl | rfl | rfl
    · exact h7
    · exact h6
    · exact h5
    · exact h4
    · exact h3
    · exact h2
    · exact h1
    · exact h0
  have hoff : OwnOff new [x.sd, x.ed, x.vd, x.nl] := by
    intro p hp b hb
    have h1 := up p hp
    simp only [List.mem_cons, List.not_mem_nil, or_false] at hb
    rcases hb with rfl | rfl | rfl | rfl
    · exact Nat.ne_of_gt (h1 (x.sd, oS) (by first | exact m_sd | simp))
    · exact Nat.ne_of_gt (h1 (x.ed, oE) (by first | exact m_ed | simp))
    · exact Nat.ne_of_gt (h1 (x.vd, oV) (by first | exact m_vd | simp))
    · exact Nat.ne_of_gt (h1 (x.nl, listOf #[.int now tn] nn) (by first | exact m_nl | simp))
  have hhd : ∀ q ∈ M x oS oE oV now tn nn rest, @LT.lt Nat _ q.1 hd := by
    intro q hq
    have h0 := o0 q hq
    have h1 := Nat.lt_trans h0 o1
    have h2 := Nat.lt_trans h1 o2
    have h3 := Nat.lt_trans h2 o3
    have h4 := Nat.lt_trans h3 o4
    have h5 := Nat.lt_trans h4 o5
    have h6 := Nat.lt_trans h5 o6
    have h7 := Nat.lt_trans h6 o7
    exact Nat.lt_trans h7 o8
  have hnd : ∀ p ∈ new, p.1 ≠ hd := by
    rw [hnw]
    intro p hp
    simp only [List.mem_cons, List.not_mem_nil, or_false] at hp
    have k7 := o8
    have k6 := Nat.lt_trans o7 k7
    have k5 := Nat.lt_trans o6 k6
    have k4 := Nat.lt_trans o5 k5
    have k3 := Nat.lt_trans o4 k4
    have k2 := Nat.lt_trans o3 k3
    have k1 := Nat.lt_trans o2 k2
    have k0 := Nat.lt_trans o1 k1
    rcases hp with rfl | rfl | rfl | rfl | rfl | rfl | rfl | rfl
    · exact Nat.ne_of_lt k7
    · exact Nat.ne_of_lt k6
    · exact Nat.ne_of_lt k5
    · exact Nat.ne_of_lt k4
    · exact Nat.ne_of_lt k3
    · exact Nat.ne_of_lt k2
    · exact Nat.ne_of_lt k1
    · exact Nat.ne_of_lt k0
  have hm1 := fm fi 7 (by decide)
  have hm2 := fm (fi.fdiv 7) 9 (by decide)
  have hm3 := fm (fi.fdiv 63) 5 (by decide)
  have hA : ∀ b, 0 ≤ amF fi b ∧ amF fi b ≤ 100 := by intro b; cases b <;> simp only [amF, Bool.false_eq_true, if_false, if_true] <;> omega
  have hM : ∀ b, 0 ≤ muF fi b ∧ muF fi b ≤ 100 := by intro b; cases b <;> simp only [muF, Bool.false_eq_true, if_false, if_true] <;> omega
  have C : Cx w x (amF fi) (muF fi) L li sz it (new ++ rest) := by
    refine ⟨S.app new hoff, ⟨let ⟨ld, t, a, b⟩ := hLim.here; ⟨ld, t, List.mem_append_right _ a, List.mem_append_right _ b⟩⟩, ⟨fun b => if b then i1 else i0, c1, ?_, ?_⟩, ⟨fun b => if b then S1 else S0, c2, fun b => if b then y0 else y2, fun b => if b then y1 else y3, ?_, ?_⟩, let ⟨o, a, b⟩ := hcell; ⟨o, List.mem_append_right _ a, b⟩⟩
    · rw [hnw]; exact List.mem_append_left _ (by walk_at "jb_find")
    · intro b
      refine ⟨?_, hA b, hM b⟩
      cases b
      · exact ⟨d0, e0, e1, e2, e3, e4, e5, by rw [hnw]; exact List.mem_append_left _ (by walk_at "jb_find"), by rw [hnw]; exact List.mem_append_left _ (by walk_at "jb_find")⟩
      · exact ⟨d1, f0, f1, f2, f3, f4, f5, by rw [hnw]; exact List.mem_append_left _ (by walk_at "jb_find"), by rw [hnw]; exact List.mem_append_left _ (by walk_at "jb_find")⟩
    · rw [hnw]; exact List.mem_append_left _ (by walk_at "jb_find")
    · intro b
      rw [hnw]
      cases b
      · have e : unI false * muF fi false = muF fi false := by simp [unI]
        rw [e]; exact List.mem_append_left _ (by walk_at "jb_find")
      · have e : unI true * muF fi true = 60 := by simp [unI, muF]
        rw [e]; exact List.mem_append_left _ (by walk_at "jb_find")
  have D : Dy w x (amF fi) (muF fi) hd oS oE oV oH [] (new ++ rest) := by
    refine ⟨hS, hE, hV, Hld.empty hH, (fun q hq => nomatch hq), Nat.zero_le _, ?_, ?_, lo⟩
    · intro p hp
      rcases List.mem_append.mp hp with hp | hp
      · exact hnd p hp
      · exact Nat.ne_of_lt (hhd p (sub_M _ hp))
    · intro b hb
      simp only [List.mem_cons, List.not_mem_nil, or_false] at hb
      rcases hb with rfl | rfl | rfl | rfl
      · exact Nat.ne_of_gt (hhd (x.sd, oS) (by first | exact m_sd | simp))
      · exact Nat.ne_of_gt (hhd (x.ed, oE) (by first | exact m_ed | simp))
      · exact Nat.ne_of_gt (hhd (x.vd, oV) (by first | exact m_vd | simp))
      · exact Nat.ne_of_gt (hhd (x.nl, listOf #[.int now tn] nn) (by first | exact m_nl | simp))
  exact law_loop w p loose mean mg mb g L fa s Q X T B l vs ns hl hI hlen x (amF fi) (muF fi) hd li sz it oS oE oV oH now tn nn (new ++ rest) C D fi tf u mi hmi F (news_sub N (by
    rw [hnw]; walk_at "jb_in")) fun m' h' tk' F' N' => hQ m' h' tk' F' (news_sub N' fun p hp => List.mem_append_right _ hp)
theorem law_3 (w : World) (p : Program) (loose : List Str) (mean : ExcName → Option Value) (mg mb : Str → Option Value) (g : Heap) (L fa : Nat) (s : Shared) (Q : Flow → Shared → Prop)
    (X : (K w.params).In g) (T : Top p loose mean mg mb g) (B : Below callerA g [] g) (l : Nat) (vs : List Value) (ns : List Int) (hl : g.IsList l vs.toArray) (hI : IntsAre vs ns) (hlen : ns.length ≤ 63)
    (x : Fx) (li : Nat) (oS oE oV : Obj) (now : Int) (tn : Tok) (nn : Nat) (rest : List (Addr × Obj)) (S : Sto w x rest) (hLim : Lim w x li rest) (hcell : ∃ oC : Obj, (L + 1, oC) ∈ rest ∧ oC.data = .cell (some (.ref x.nl))) (hS : Dct w oS []) (hE : Dct w oE []) (hV : Dct w oV []) (fi : Int) (tf : Tok) (u : Str → Option Value)
    (mi : Str → Option Value) (hmi : mi = fun y => if y = Str.ofString "limiter" then some (.ref li) else if y = Str.ofString "store" then some (.ref x.st) else if y = Str.ofString "first" then some (.int fi tf) else if y = Str.ofString "script" then some (.ref l) else u y) (F : Fr g L s.heap mi)
    (N : News g L s.heap (M x oS oE oV now tn nn rest))
    (hQ : ∀ (m' : Str → Option Value) (h' : Heap) (tk' : Nat), Fr g L h' m' → News g L h' rest → Q (.ret (.bool true)) { s with heap := h', toks := tk' }) :
    wpAny (model PySem.Challenge.rw_jb0021_01.row.prog w) (callerA.deeper (envOfC (Str.ofString "law") lawS L fa (.ref 598))) (execs (lawT 4) (envOfC (Str.ofString "law") lawS L fa (.ref 598))) Q (fun _ _ => False) s := by
  subst hmi
  revert X; k_fill; intro X
  conv in (lawT 4) => whnf
  have eS : lawS = lawS := rfl
  conv at eS => rhs; whnf
  rw [eS]
  clear eS
  have hm2 := fm (fi.fdiv 7) 9 (by decide)
  have hm1 := fm fi 7 (by decide)
  have hm3 := fm (fi.fdiv 63) 5 (by decide)
  iterate 98 walk1
  · iterate 65 walk1
    show wpAny _ _ (execs _ _) _ _ _
    rename Fr _ _ _ _ => F8
    rename News _ _ _ _ => N8
    rename Obj.IsDictOf (PySem.strKind _ _) _ [] => hs9
    rename ((_ == sysModules) = false) => lo9
    rename (@LT.lt Nat _ x.sd _ ∧ _) => o9
    refine' set_3 w p loose mean mg mb g L fa _ _ X T B l vs ns hl hI hlen x li oS oE oV now tn nn rest S hLim hcell hS hE hV fi tf u _ _ _ _ _ _ _ _ _ _ _ _ _ _ _ _ _ _ _ _ _ _ _ _ _ _ _ _ hs9 lo9 (kst_ltOf o9) ?o1 ?o2 ?o3 ?o4 ?o5 ?o6 ?o7 ?o8 _ rfl F8 N8 ?hq
    case hq => exact hQ
    all_goals omega
  · exfalso
    omega
theorem clk_lam (w : World) (x : Fx) (rest : List (Addr × Obj)) (L : Nat) (oC oc : Obj) (c' : Nat) (qual : Str) (pm ct : Value) (p1 p2 p3 : Pos) (kq : Nat)
    (hf : (x.f, kla_obj (Str.ofString "<lambda>") qual { posonlyargs := [], args := [], vararg := none, kwonlyargs := [], kw_defaults := [], kwarg := none, defaults := [] } (.Subscript (.Name (Str.ofString "now") p1) (.Constant (.int 0) kq p2) p3) { kind := .function, names := [(Str.ofString "now", .free)], isGenerator := false, isCoroutine := false } [(Str.ofString "now", L + 1)] pm c' ct) ∈ rest)
    (hc : (c', oc) ∈ rest) (hcd : ∀ h : Heap, h.get? c' = some oc → h.CodeRec (.ref c') qual) (hcell : (L + 1, oC) ∈ rest) (hC : oC.data = .cell (some (.ref x.nl))) : Clk w x rest := by
  intro news now t n hs hm
  intro p loose mean mg mb dp un gd cn cs a ccd cl outer A₀ base h₀ L₀ m s Q E B F X N T hk hd hu hret
  have hf := hs _ hf
  have hc := hs _ hc
  have hcell := hs _ hcell
  revert X; k_fill; intro X
  refine wpAny_call ?_
  refine' kla_code ?k1 ?k2 ?k3 ?k4 ?k5 ?kA ?kF ?kK ?k6 ?k7 ?k8 ?k9 ?kB ?_ ?c2 ?c3 ?c4 ?c5
  case kA => exact rfl
  case kF => exact rfl
  case kK => assumption
  case k1 => k_asm
  case k2 => k_asm
  case k3 => k_asm
  case k4 => k_asm
  case k5 => k_asm
  case k6 => exact hf
  case k7 => exact hcd _ (N _ hc).1
  case k8 => ktr_room
  case k9 => exact rfl
  case c5 => decide
  case kB => exact locs rfl
  case c2 => exact rfl
  case c3 => exact rfl
  case c4 => exact rfl
  intro g' L' h' FG' F' N' B' X' T'
  (try k_lift B'); (try k_fold)
  walk1
  refine nameX_F N' rfl hcell hC ?_
  walk1
  refine at_list (vs := [.int now t]) (c := n) N' hm (Int.le_refl _) (by decide) (v := .int now t) rfl ?_
  walk1
  exact hret _ _ _ _ ⟨rfl, rfl⟩ (by k_asm) (by k_asm)
theorem off_of {a nl sd ed vd : Nat} (h : a < nl ∨ (nl < a ∧ a < sd) ∨ vd < a) (h1 : nl < sd) (h2 : sd < ed) (h3 : ed < vd) : ∀ b ∈ [sd, ed, vd, nl], a ≠ b := by
  intro b hb
  simp only [List.mem_cons, List.not_mem_nil, or_false] at hb
  omega
theorem off_cons {a : Addr} {o : Obj} {r : List (Addr × Obj)} {l : List Addr} (h : ∀ b ∈ l, a ≠ b) (h' : OwnOff r l) : OwnOff ((a, o) :: r) l := by
  intro p hp
  rcases List.mem_cons.mp hp with rfl | hp
  · exact h
  · exact h' p hp
theorem set_12 (w : World) (p : Program) (loose : List Str) (mean : ExcName → Option Value) (mg mb : Str → Option Value) (g : Heap) (L fa : Nat) (s : Shared) (Q : Flow → Shared → Prop)
    (X : (K w.params).In g) (T : Top p loose mean mg mb g) (B : Below callerA g [] g) (l : Nat) (vs : List Value) (ns : List Int) (hl : g.IsList l vs.toArray) (hI : IntsAre vs ns) (hlen : ns.length ≤ 63)
    (l0 : 473 < L ∧ 594 < L) (fi : Int) (tf : Tok) (nl c1 f std st sd ed vd ld li : Nat) (oS oE oV oc oD : Obj) (qual : Str) (pm ct : Value) (p1 p2 p3 : Pos) (kq : Nat) (vs1 : Array Value) (ps : Array Value) (t1 t2 t3 t4 t5 tq tn : Tok) (now : Int)
    (o1 : @LT.lt Nat _ (L + 1) nl) (o2 : @LT.lt Nat _ nl c1) (o3 : @LT.lt Nat _ c1 f) (o4 : @LT.lt Nat _ f std) (o5 : @LT.lt Nat _ std st) (o6 : @LT.lt Nat _ st sd) (o7 : @LT.lt Nat _ sd ed) (o8 : @LT.lt Nat _ ed vd) (o9 : @LT.lt Nat _ vd ld) (o10 : @LT.lt Nat _ ld li)
    (lo1 : (sd == sysModules) = false) (lo2 : (ed == sysModules) = false) (lo3 : (vd == sysModules) = false) (hS : oS.IsDictOf (PySem.strKind PySem.Challenge.rw_jb0021_01.row.prog w) []) (hE : oE.IsDictOf (PySem.strKind PySem.Challenge.rw_jb0021_01.row.prog w) []) (hV : oV.IsDictOf (PySem.strKind PySem.Challenge.rw_jb0021_01.row.prog w) [])
    (q1 : oc.data = .fields vs1) (q2 : vs1[1]? = some (.str qual tq)) (hD : oD.data = .cell (some (.ref nl)))
    (mi : Str → Option Value) (hmi : mi = fun y => if y = Str.ofString "limiter" then some (.ref li) else if y = Str.ofString "store" then some (.ref st) else if y = Str.ofString "first" then some (.int fi tf) else if y = Str.ofString "script" then some (.ref l) else (fun _ => none) y) (F : Fr g L s.heap mi)
    (N : News g L s.heap [(li, instObj 202 ld), (ld, dictOf [⟨PyData.keyHash w.params (Str.ofString "storage"), .str (Str.ofString "storage") t5, .ref st⟩] 1), (vd, oV), (ed, oE), (sd, oS), (st, instObj 576 std), (std, dictOf [⟨PyData.keyHash w.params (Str.ofString "clock"), .str (Str.ofString "clock") t1, .ref f⟩, ⟨PyData.keyHash w.params (Str.ofString "storage"), .str (Str.ofString "storage") t2, .ref sd⟩, ⟨PyData.keyHash w.params (Str.ofString "expirations"), .str (Str.ofString "expirations") t3, .ref ed⟩, ⟨PyData.keyHash w.params (Str.ofString "events"), .str (Str.ofString "events") t4, .ref vd⟩] 4), (f, kla_obj (Str.ofString "<lambda>") qual { posonlyargs := [], args := [], vararg := none, kwonlyargs := [], kw_defaults := [], kwarg := none, defaults := [] } (.Subscript (.Name (Str.ofString "now") p1) (.Constant (.int 0) kq p2) p3) { kind := .function, names := [(Str.ofString "now", .free)], isGenerator := false, isCoroutine := false } [(Str.ofString "now", L + 1)] pm c1 ct), (c1, oc), (nl, listOf #[.int now tn] 0), (L + 1, oD), (473, tabObj #[]), (594, tabObj ps)])
    (hQ : ∀ (m' : Str → Option Value) (h' : Heap) (tk' : Nat) (ps : Array Value), Fr g L h' m' → News g L h' [(473, tabObj #[]), (594, tabObj ps)] → Q (.ret (.bool true)) { s with heap := h', toks := tk' }) :
    wpAny (model PySem.Challenge.rw_jb0021_01.row.prog w) (callerA.deeper (envOfC (Str.ofString "law") lawS L fa (.ref 598))) (execs (lawT 4) (envOfC (Str.ofString "law") lawS L fa (.ref 598))) Q (fun _ _ => False) s := by
  obtain ⟨rest, hr⟩ : ∃ r : List (Addr × Obj), r = [(li, instObj 202 ld), (ld, dictOf [⟨PyData.keyHash w.params (Str.ofString "storage"), .str (Str.ofString "storage") t5, .ref st⟩] 1), (st, instObj 576 std), (std, dictOf [⟨PyData.keyHash w.params (Str.ofString "clock"), .str (Str.ofString "clock") t1, .ref f⟩, ⟨PyData.keyHash w.params (Str.ofString "storage"), .str (Str.ofString "storage") t2, .ref sd⟩, ⟨PyData.keyHash w.params (Str.ofString "expirations"), .str (Str.ofString "expirations") t3, .ref ed⟩, ⟨PyData.keyHash w.params (Str.ofString "events"), .str (Str.ofString "events") t4, .ref vd⟩] 4), (f, kla_obj (Str.ofString "<lambda>") qual { posonlyargs := [], args := [], vararg := none, kwonlyargs := [], kw_defaults := [], kwarg := none, defaults := [] } (.Subscript (.Name (Str.ofString "now") p1) (.Constant (.int 0) kq p2) p3) { kind := .function, names := [(Str.ofString "now", .free)], isGenerator := false, isCoroutine := false } [(Str.ofString "now", L + 1)] pm c1 ct), (c1, oc), (L + 1, oD), (473, tabObj #[]), (594, tabObj ps)] := ⟨_, rfl⟩
  have S : Sto w ⟨st, std, sd, ed, vd, nl, f, t1, t2, t3, t4⟩ rest := by
    refine ⟨by rw [hr]; walk_at "jb_find", by rw [hr]; walk_at "jb_find", ?_, lo1, lo2, lo3, ⟨show @LT.lt Nat _ nl sd by omega, o7, o8⟩, ⟨_, _, _, _, by rw [hr]; exact .tail _ (.tail _ (.tail _ (.tail _ (.head _))))⟩, ?_⟩
    · have n1 := o2
      have n2 := Nat.lt_trans n1 o3
      have n3 := Nat.lt_trans n2 o4
      have n4 := Nat.lt_trans n3 o5
      have s4 := o6
      have s3 := Nat.lt_trans o5 s4
      have s2 := Nat.lt_trans o4 s3
      have s1 := Nat.lt_trans o3 s2
      have ns := Nat.lt_trans n4 o6
      have z := Nat.lt_trans (Nat.lt_succ_self L) o1
      rw [hr]
      exact off_cons (off_of (.inr (.inr (Nat.lt_trans o9 o10))) ns o7 o8) (off_cons (off_of (.inr (.inr o9)) ns o7 o8) (off_cons (off_of (.inr (.inl ⟨n4, s4⟩)) ns o7 o8) (off_cons (off_of (.inr (.inl ⟨n3, s3⟩)) ns o7 o8) (off_cons (off_of (.inr (.inl ⟨n2, s2⟩)) ns o7 o8) (off_cons (off_of (.inr (.inl ⟨n1, s1⟩)) ns o7 o8) (off_cons (off_of (.inl o1) ns o7 o8) (off_cons (off_of (.inl (Nat.lt_trans l0.1 z)) ns o7 o8) (off_cons (off_of (.inl (Nat.lt_trans l0.2 z)) ns o7 o8) fun _ h => nomatch h))))))))
    · exact clk_lam w ⟨st, std, sd, ed, vd, nl, f, t1, t2, t3, t4⟩ rest L oD oc c1 qual pm ct p1 p2 p3 kq (by rw [hr]; exact .tail _ (.tail _ (.tail _ (.tail _ (.head _))))) (by rw [hr]; exact .tail _ (.tail _ (.tail _ (.tail _ (.tail _ (.head _)))))) (fun h e => ⟨c1, oc, vs1, tq, rfl, e, q1, q2⟩) (by rw [hr]; exact .tail _ (.tail _ (.tail _ (.tail _ (.tail _ (.tail _ (.head _))))))) hD
  refine law_3 w p loose mean mg mb g L fa s Q X T B l vs ns hl hI hlen ⟨st, std, sd, ed, vd, nl, f, t1, t2, t3, t4⟩ li oS oE oV now tn 0 rest S ⟨ld, t5, by rw [hr]; walk_at "jb_find", by rw [hr]; walk_at "jb_find"⟩ ⟨oD, by rw [hr]; walk_at "jb_find", hD⟩ ⟨[], hS, .nil⟩ ⟨[], hE, .nil⟩ ⟨[], hV, .nil⟩ fi tf (fun _ => none) mi hmi F (news_sub N ?_) fun m' h' tk' F' N' => hQ m' h' tk' ps F' (news_sub N' ?_)
  · rw [hr]
    walk_at "jb_in"
  · rw [hr]
    walk_at "jb_in"
theorem law_1 (w : World) (p : Program) (loose : List Str) (mean : ExcName → Option Value) (mg mb : Str → Option Value) (g : Heap) (L fa : Nat) (s : Shared) (Q : Flow → Shared → Prop)
    (X : (K w.params).In g) (T : Top p loose mean mg mb g) (B : Below callerA g [] g) (l : Nat) (vs : List Value) (ns : List Int) (hl : g.IsList l vs.toArray) (hI : IntsAre vs ns) (hlen : ns.length ≤ 63)
    (k1 : CodeHd g 477 473) (k2 : CodeHd g 598 594) (oC : Obj) (hC : oC.data = .cell none) (l0 : 473 < L ∧ 594 < L) (fi : Int) (tf : Tok)
    (mi : Str → Option Value) (hmi : mi = fun y => if y = Str.ofString "first" then some (.int fi tf) else if y = Str.ofString "script" then some (.ref l) else none) (F : Fr g L s.heap mi)
    (N : News g L s.heap [(L + 1, oC), (473, tabObj #[]), (594, tabObj #[])])
    (hQ : ∀ (m' : Str → Option Value) (h' : Heap) (tk' : Nat) (ps : Array Value), Fr g L h' m' → News g L h' [(473, tabObj #[]), (594, tabObj ps)] → Q (.ret (.bool true)) { s with heap := h', toks := tk' }) :
    wpAny (model PySem.Challenge.rw_jb0021_01.row.prog w) (callerA.deeper (envOfC (Str.ofString "law") lawS L fa (.ref 598))) (execs (lawT 1) (envOfC (Str.ofString "law") lawS L fa (.ref 598))) Q (fun _ _ => False) s := by
  subst hmi
  revert X; k_fill; intro X
  conv in (lawT 1) => whnf
  have eS : lawS = lawS := rfl
  conv at eS => rhs; whnf
  rw [eS]
  clear eS
  iterate 69 walk1
  show wpAny _ _ (execs _ _) _ _ _
  rename Fr _ _ _ _ => F8
  rename News _ _ _ _ => N8
  refine' set_12 w p loose mean mg mb g L fa _ _ X T B l vs ns hl hI hlen l0 fi tf _ _ _ _ _ _ _ _ _ _ _ _ _ _ _ _ _ _ _ _ _ _ _ _ _ _ _ _ _ _ _ _ ?o1 ?o2 ?o3 ?o4 ?o5 ?o6 ?o7 ?o8 ?o9 ?o10 ?lo1 ?lo2 ?lo3 ?hS ?hE ?hV ?q1 ?q2 ?hD _ rfl F8 N8 ?hq
  case hq => exact hQ
  case lo1 => assumption
  case lo2 => assumption
  case lo3 => assumption
  case hS => assumption
  case hE => assumption
  case hV => assumption
  case q1 => assumption
  case q2 => assumption
  case hD => assumption
  all_goals omega
theorem law_0 (w : World) (p : Program) (loose : List Str) (mean : ExcName → Option Value) (mg mb : Str → Option Value) (g : Heap) (L fa : Nat) (s : Shared) (Q : Flow → Shared → Prop)
    (X : (K w.params).In g) (T : Top p loose mean mg mb g) (B : Below callerA g [] g) (l : Nat) (vs : List Value) (ns : List Int) (hl : g.IsList l vs.toArray) (hI : IntsAre vs ns) (hlen : ns.length ≤ 63)
    (k1 : CodeHd g 477 473) (k2 : CodeHd g 598 594) (oC : Obj) (hC : oC.data = .cell none) (l0 : 473 < L ∧ 594 < L)
    (F : Fr g L s.heap (fun y => if y = Str.ofString "script" then some (.ref l) else none))
    (N : News g L s.heap [(L + 1, oC), (473, tabObj #[]), (594, tabObj #[])])
    (hQ : ∀ (m' : Str → Option Value) (h' : Heap) (tk' : Nat) (ps : Array Value), Fr g L h' m' → News g L h' [(473, tabObj #[]), (594, tabObj ps)] → Q (.ret (.bool true)) { s with heap := h', toks := tk' }) :
    wpAny (model PySem.Challenge.rw_jb0021_01.row.prog w) (callerA.deeper (envOfC (Str.ofString "law") lawS L fa (.ref 598))) (execs lawB (envOfC (Str.ofString "law") lawS L fa (.ref 598))) Q (fun _ _ => False) s := by
  revert X; k_fill; intro X
  conv in lawB => whnf
  have eS : lawS = lawS := rfl
  conv at eS => rhs; whnf
  rw [eS]
  clear eS
  iterate 7 walk1
  · iterate 5 walk1
    show wpAny _ _ (execs _ _) _ _ _
    rename Fr _ _ _ _ => F8
    rename News _ _ _ _ => N8
    exact law_1 w p loose mean mg mb g L fa _ _ X T B l vs ns hl hI hlen k1 k2 oC hC l0 _ _ _ rfl F8 N8 hQ
  · iterate 2 walk1
    show wpAny _ _ (execs _ _) _ _ _
    rename Fr _ _ _ _ => F8
    rename News _ _ _ _ => N8
    exact law_1 w p loose mean mg mb g L fa _ _ X T B l vs ns hl hI hlen k1 k2 oC hC l0 _ _ _ rfl F8 N8 hQ
end
end Jb
open PySem PySem.W PySem.W.Fast PySem.Calls PyProof.Rows PyProof.V PySem.Spec
local macro_rules | `(tactic| k_head) => `(tactic| (refine holds_open (q := Jb.vw) (loose := Jb.loose) (Xt := fun s => xlAt Jb.vw [] s && recOk [] s) (XP := XL Jb.vw []) (Yf := (kmHook Jb.K Jb.as Jb.kE [473, 594]).obs) (Ya := (kmHook Jb.K Jb.as Jb.kE [473, 594]).val) (YP := (kmHook Jb.K Jb.as Jb.kE [473, 594]).says) (N := 11490) Jb.top_left (kmHook Jb.K Jb.as Jb.kE [473, 594]).of (kmHook Jb.K Jb.as Jb.kE [473, 594]).keeps (fun s e => xl_of s (Bool.and_eq_true_iff.mp e).1) XL.keeps (by rfl) (by rfl) (by rfl) (fun s e => recFacts_of (Bool.and_eq_true_iff.mp e).2) rfl (by assumption) (by decide +kernel) ⟨rfl, rfl, rfl, rfl, rfl, by decide +kernel⟩ ?hw ?hc))
theorem PySem.Challenge.cw_jb0021_01_holds : PySem.Challenge.rw_jb0021_01.Holds := by
  w_on
  o_law
  k_head
  case hw => w_witness2
  k_go0
  all_goals try k_fold
  rename Fr _ _ _ _ => F8
  rename News _ _ _ _ => N8
  refine' wpAny_mono (Jb.law_0 _ _ _ _ _ _ _ _ _ _ _ ?X ?T ?B _ _ _ ?hl ?hI ?hlen ?k1 ?k2 _ ?hC ?l0 F8 N8 ?hq) (fun _ _ h => h) (fun _ _ h => h.elim)
  case X => assumption
  case T => assumption
  case B => assumption
  case hl => assumption
  case k1 => assumption
  case k2 => assumption
  case hC => assumption
  case l0 => assumption
  case hI => assumption
  case hlen => omega
  case hq =>
    intro m' h' tk' ps F' N'
    k_steps
