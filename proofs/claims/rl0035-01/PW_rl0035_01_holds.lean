import PyProof.Rows.All
import Wide.All
import OpenK.AllK
import Wide.FinOn
import Lean
import PySem.Challenge.RW_rl0035_01

set_option Elab.async false

section
open PySem PySem.W PyProof.Rows
set_option Elab.async false
set_option maxRecDepth 100000
set_option linter.unusedVariables false
namespace Mine
noncomputable section
noncomputable abbrev pw : Program := PySem.Challenge.pw_rl0035_01
noncomputable def stm (i : Nat) : Stmt := pw.main.body.getD i default
noncomputable def clsBody : Stmt → List Stmt
  | .ClassDef _ _ _ b _ _ _ _ _ _ _ => b
  | _ => []
noncomputable def mth (i j : Nat) : Stmt := (clsBody (stm i)).getD j default
noncomputable def fnName : Stmt → Str
  | .FunctionDef n _ _ _ _ _ _ _ _ _ => n
  | _ => Str.empty
noncomputable def fnArgs : Stmt → Arguments
  | .FunctionDef _ a _ _ _ _ _ _ _ _ => a
  | _ => default
noncomputable def fnBody : Stmt → List Stmt
  | .FunctionDef _ _ b _ _ _ _ _ _ _ => b
  | _ => []
noncomputable def fnScope : Stmt → Scope
  | .FunctionDef _ _ _ _ _ _ s _ _ _ => s
  | _ => default
noncomputable def fnObj (st : Stmt) (qual : Str) (clo : List (Str × Addr)) (glob : Addr) (dfl kwd doc pm : Value) (ann : Option Addr) (cd ct : Value) (blt : Addr) : FuncData :=
  { name := fnName st, qualname := qual, params := fnArgs st, body := .stmts (fnBody st), scope := fnScope st, globals := glob, closure := clo, defaults := dfl, kwdefaults := kwd, doc := doc, pyModule := pm, annotations := ann, code := cd, closureTuple := ct, builtins := blt }
noncomputable def lifeOf (P : Params) : Life := (boot_heap P).life
noncomputable def ob11_0 (P : Params) : Obj := ⟨(.type "tuple"), none, (.seq ⟨[]⟩ 0), ⟨[]⟩⟩
noncomputable def ob12_0 (P : Params) : Obj := ⟨.none, none, (.fields ⟨[]⟩), ⟨[]⟩⟩
noncomputable def ob13_0 (P : Params) : Obj := ⟨(.type "code"), none, (.fields ⟨[(.str (Str.ofString "<module>") 182), (.str (Str.ofString "<module>") 183), (.str (Str.ofString "/claim/cut.py") 184), (.int 1 0), (.int 0 0), (.int 0 0), (.int 0 0), (.int 0 0), (.ref 11), (.bool false), (.int 181 0), (.ref 12), .none, .none, .none, .none, (.int 185 0), (.int 1 0), (.str (Str.ofString "/claim/cut.py") 186)]⟩), ⟨[]⟩⟩
noncomputable def ob14_0 (P : Params) : Obj := ⟨(.type "frame"), none, .plain, ⟨[(some (.ref 13)), (some (.ref 3)), (some (.ref 3)), none, (some (.str (Str.ofString "__main__") 164)), none, (some (.ref 0))]⟩⟩
noncomputable def hpA (P : Params) : Heap := ⟨⟨[boot_o_0 P, boot_o_1 P, boot_o_2 P, boot_o_3 P, boot_o_4 P, boot_o_5 P, boot_o_6 P, boot_o_7 P, boot_o_8 P, boot_o_9 P, boot_o_10 P, ob11_0 P, ob12_0 P, ob13_0 P, ob14_0 P]⟩, lifeOf P⟩
noncomputable def tkA : Nat := 187
noncomputable def posA : Pos := ⟨0, 0, 0, 0⟩
noncomputable def ob3_1 (P : Params) : Obj := ⟨(.type "dict"), none, (.dict ⟨[⟨PyData.keyHash P (Str.ofString "__name__"), (.str (Str.ofString "__name__") 165), (.str (Str.ofString "cpy313.pstats") 187)⟩, ⟨PyData.keyHash P (Str.ofString "__doc__"), (.str (Str.ofString "__doc__") 166), .none⟩, ⟨PyData.keyHash P (Str.ofString "__package__"), (.str (Str.ofString "__package__") 167), .none⟩, ⟨PyData.keyHash P (Str.ofString "__loader__"), (.str (Str.ofString "__loader__") 168), (.builtin "__main__.__loader__#opaque")⟩, ⟨PyData.keyHash P (Str.ofString "__spec__"), (.str (Str.ofString "__spec__") 169), .none⟩, ⟨PyData.keyHash P (Str.ofString "__annotations__"), (.str (Str.ofString "__annotations__") 170), (.ref 6)⟩, ⟨PyData.keyHash P (Str.ofString "__builtins__"), (.str (Str.ofString "__builtins__") 171), (.ref 4)⟩, ⟨PyData.keyHash P (Str.ofString "__file__"), (.str (Str.ofString "__file__") 173), (.str (Str.ofString "/claim/cut.py") 172)⟩, ⟨PyData.keyHash P (Str.ofString "__cached__"), (.str (Str.ofString "__cached__") 174), .none⟩, ⟨PyData.keyHash P (Str.ofString "TupleComp"), (.str (Str.ofString "TupleComp") 230), (.ref 38)⟩, ⟨PyData.keyHash P (Str.ofString "add_func_stats"), (.str (Str.ofString "add_func_stats") 248), (.ref 49)⟩, ⟨PyData.keyHash P (Str.ofString "add_callers"), (.str (Str.ofString "add_callers") 259), (.ref 56)⟩, ⟨PyData.keyHash P (Str.ofString "NL"), (.str (Str.ofString "NL") 261), (.str (Str.ofString "\n") 260)⟩]⟩ 13), ⟨[]⟩⟩
noncomputable def ob12_1 (P : Params) : Obj := ⟨.none, none, (.fields ⟨[(.int 2 0), (.int 0 0), (.ref 20), (.int 16 0), (.int 0 0), (.ref 48), (.int 20 0), (.int 0 0), (.ref 55)]⟩), ⟨[]⟩⟩
noncomputable def ob15_0 (P : Params) : Obj := ⟨(.type "tuple"), none, (.seq ⟨[]⟩ 0), ⟨[]⟩⟩
noncomputable def ob16_0 (P : Params) : Obj := ⟨(.type "builtin_function_or_method"), none, (.fields ⟨[(.builtin "type.__prepare__"), (.type "type")]⟩), ⟨[]⟩⟩
noncomputable def ob17_0 (P : Params) : Obj := ⟨(.type "dict"), none, (.dict ⟨[⟨PyData.keyHash P (Str.ofString "__module__"), (.str (Str.ofString "__module__") 196), (.str (Str.ofString "cpy313.pstats") 187)⟩, ⟨PyData.keyHash P (Str.ofString "__qualname__"), (.str (Str.ofString "__qualname__") 198), (.str (Str.ofString "TupleComp") 197)⟩, ⟨PyData.keyHash P (Str.ofString "__firstlineno__"), (.str (Str.ofString "__firstlineno__") 200), (.int 2 199)⟩, ⟨PyData.keyHash P (Str.ofString "__init__"), (.str (Str.ofString "__init__") 208), (.ref 28)⟩, ⟨PyData.keyHash P (Str.ofString "compare"), (.str (Str.ofString "compare") 221), (.ref 35)⟩, ⟨PyData.keyHash P (Str.ofString "__static_attributes__"), (.str (Str.ofString "__static_attributes__") 223), (.ref 36)⟩]⟩ 6), ⟨[]⟩⟩
noncomputable def ob18_0 (P : Params) : Obj := ⟨(.type "tuple"), none, (.seq ⟨[]⟩ 0), ⟨[]⟩⟩
noncomputable def ob19_0 (P : Params) : Obj := ⟨.none, none, (.fields ⟨[(.int 4 0), (.int 4 0), (.ref 27), (.int 7 0), (.int 4 0), (.ref 34)]⟩), ⟨[]⟩⟩
noncomputable def ob20_0 (P : Params) : Obj := ⟨(.type "code"), none, (.fields ⟨[(.str (Str.ofString "TupleComp") 191), (.str (Str.ofString "TupleComp") 192), (.str (Str.ofString "/claim/cut.py") 193), (.int 2 0), (.int 0 0), (.int 0 0), (.int 0 0), (.int 0 0), (.ref 18), (.bool false), (.int 181 0), (.ref 19), .none, .none, .none, .none, (.int 194 0), (.int 2 0), (.str (Str.ofString "/claim/cut.py") 195)]⟩), ⟨[]⟩⟩
noncomputable def ob21_0 (P : Params) : Obj := ⟨(.type "frame"), none, .plain, ⟨[(some (.ref 20)), (some (.ref 3)), (some (.ref 17)), none, (some (.str (Str.ofString "cpy313.pstats") 187)), none, (some (.ref 0))]⟩⟩
noncomputable def ob22_0 (P : Params) : Obj := ⟨(.type "tuple"), none, (.seq ⟨[]⟩ 0), ⟨[]⟩⟩
noncomputable def ob23_0 (P : Params) : Obj := ⟨.none, none, (.fields ⟨[]⟩), ⟨[]⟩⟩
noncomputable def ob24_0 (P : Params) : Obj := ⟨(.type "tuple"), none, (.seq ⟨[(.str (Str.mk ⟨[115, 101, 108, 102]⟩) 204), (.str (Str.mk ⟨[99, 111, 109, 112, 95, 115, 101, 108, 101, 99, 116, 95, 108, 105, 115, 116]⟩) 205)]⟩ 0), ⟨[]⟩⟩
noncomputable def ob25_0 (P : Params) : Obj := ⟨(.type "tuple"), none, (.seq ⟨[]⟩ 0), ⟨[]⟩⟩
noncomputable def ob26_0 (P : Params) : Obj := ⟨.none, none, (.func (fnObj (mth 1 0) (Str.ofString "TupleComp.__init__") [] 0 .none .none .none .none none .none .none 0)), ⟨[]⟩⟩
noncomputable def ob27_0 (P : Params) : Obj := ⟨(.type "code"), none, (.fields ⟨[(.str (Str.ofString "__init__") 201), (.str (Str.ofString "TupleComp.__init__") 202), (.str (Str.ofString "/claim/cut.py") 203), (.int 4 0), (.int 2 0), (.int 0 0), (.int 0 0), (.int 3 0), (.ref 22), (.bool true), (.int 181 0), (.ref 23), .none, (.ref 24), (.ref 25), (.ref 26), (.int 206 0), (.int 4 0), (.str (Str.ofString "/claim/cut.py") 207)]⟩), ⟨[]⟩⟩
noncomputable def ob28_0 (P : Params) : Obj := ⟨(.type "function"), none, (.func (fnObj (mth 1 0) (Str.ofString "TupleComp.__init__") [] 3 .none .none .none (.str (Str.ofString "cpy313.pstats") 187) none (.ref 27) .none 0)), ⟨[]⟩⟩
noncomputable def ob29_0 (P : Params) : Obj := ⟨(.type "tuple"), none, (.seq ⟨[]⟩ 0), ⟨[]⟩⟩
noncomputable def ob30_0 (P : Params) : Obj := ⟨.none, none, (.fields ⟨[]⟩), ⟨[]⟩⟩
noncomputable def ob31_0 (P : Params) : Obj := ⟨(.type "tuple"), none, (.seq ⟨[(.str (Str.mk ⟨[115, 101, 108, 102]⟩) 212), (.str (Str.mk ⟨[108, 101, 102, 116]⟩) 213), (.str (Str.mk ⟨[114, 105, 103, 104, 116]⟩) 214), (.str (Str.mk ⟨[105, 110, 100, 101, 120]⟩) 215), (.str (Str.mk ⟨[100, 105, 114, 101, 99, 116, 105, 111, 110]⟩) 216), (.str (Str.mk ⟨[108]⟩) 217), (.str (Str.mk ⟨[114]⟩) 218)]⟩ 0), ⟨[]⟩⟩
noncomputable def ob32_0 (P : Params) : Obj := ⟨(.type "tuple"), none, (.seq ⟨[]⟩ 0), ⟨[]⟩⟩
noncomputable def ob33_0 (P : Params) : Obj := ⟨.none, none, (.func (fnObj (mth 1 1) (Str.ofString "TupleComp.compare") [] 0 .none .none .none .none none .none .none 0)), ⟨[]⟩⟩
noncomputable def ob34_0 (P : Params) : Obj := ⟨(.type "code"), none, (.fields ⟨[(.str (Str.ofString "compare") 209), (.str (Str.ofString "TupleComp.compare") 210), (.str (Str.ofString "/claim/cut.py") 211), (.int 7 0), (.int 3 0), (.int 0 0), (.int 0 0), (.int 3 0), (.ref 29), (.bool true), (.int 181 0), (.ref 30), .none, (.ref 31), (.ref 32), (.ref 33), (.int 219 0), (.int 7 0), (.str (Str.ofString "/claim/cut.py") 220)]⟩), ⟨[]⟩⟩
noncomputable def ob35_0 (P : Params) : Obj := ⟨(.type "function"), none, (.func (fnObj (mth 1 1) (Str.ofString "TupleComp.compare") [] 3 .none .none .none (.str (Str.ofString "cpy313.pstats") 187) none (.ref 34) .none 0)), ⟨[]⟩⟩
noncomputable def ob36_0 (P : Params) : Obj := ⟨(.type "tuple"), none, (.seq ⟨[(.str (Str.mk ⟨[99, 111, 109, 112, 95, 115, 101, 108, 101, 99, 116, 95, 108, 105, 115, 116]⟩) 222)]⟩ 0), ⟨[]⟩⟩
noncomputable def ob37_0 (P : Params) : Obj := ⟨(.type "dict"), none, (.dict ⟨[⟨PyData.keyHash P (Str.ofString "__module__"), (.str (Str.ofString "__module__") 196), (.str (Str.ofString "cpy313.pstats") 187)⟩, ⟨PyData.keyHash P (Str.ofString "__firstlineno__"), (.str (Str.ofString "__firstlineno__") 200), (.int 2 199)⟩, ⟨PyData.keyHash P (Str.ofString "__init__"), (.str (Str.ofString "__init__") 208), (.ref 28)⟩, ⟨PyData.keyHash P (Str.ofString "compare"), (.str (Str.ofString "compare") 221), (.ref 35)⟩, ⟨PyData.keyHash P (Str.ofString "__static_attributes__"), (.str (Str.ofString "__static_attributes__") 223), (.ref 36)⟩, ⟨PyData.keyHash P (Str.ofString "__dict__"), (.str (Str.ofString "__dict__") 225), (.ref 39)⟩, ⟨PyData.keyHash P (Str.ofString "__weakref__"), (.str (Str.ofString "__weakref__") 227), (.ref 40)⟩, ⟨PyData.keyHash P (Str.ofString "__doc__"), (.str (Str.ofString "__doc__") 228), .none⟩]⟩ 4), ⟨[]⟩⟩
noncomputable def ob38_0 (P : Params) : Obj := ⟨(.type "type"), none, (.cls (ClassData.mk (Str.ofString "TupleComp") [(.type "object")] [(.ref 38), (.type "object")] 37 (Str.ofString "TupleComp") true [] [] false none false)), ⟨[none, none, (some (.str (Str.ofString "TupleComp") 189)), (some (.str (Str.ofString "TupleComp") 197)), (some (.builtin "object.__new__")), (some (.bool true))]⟩⟩
noncomputable def ob39_0 (P : Params) : Obj := ⟨(.type "getset_descriptor"), none, (.fields ⟨[(.str (Str.ofString "__dict__") 224), (.ref 38), (.builtin "function.__dict__"), (.builtin "function.__dict__#set")]⟩), ⟨[]⟩⟩
noncomputable def ob40_0 (P : Params) : Obj := ⟨(.type "getset_descriptor"), none, (.fields ⟨[(.str (Str.ofString "__weakref__") 226), (.ref 38), (.builtin "ExceptionGroup.__weakref__"), .none]⟩), ⟨[]⟩⟩
noncomputable def ob41_0 (P : Params) : Obj := ⟨(.type "super"), none, (.fields ⟨[(.ref 38), (.ref 38), (.ref 38)]⟩), ⟨[]⟩⟩
noncomputable def ob42_0 (P : Params) : Obj := ⟨(.type "builtin_function_or_method"), none, (.fields ⟨[(.builtin "object.__init_subclass__"), (.ref 38)]⟩), ⟨[]⟩⟩
noncomputable def ob43_0 (P : Params) : Obj := ⟨(.type "tuple"), none, (.seq ⟨[]⟩ 0), ⟨[]⟩⟩
noncomputable def ob44_0 (P : Params) : Obj := ⟨.none, none, (.fields ⟨[]⟩), ⟨[]⟩⟩
noncomputable def ob45_0 (P : Params) : Obj := ⟨(.type "tuple"), none, (.seq ⟨[(.str (Str.mk ⟨[116, 97, 114, 103, 101, 116]⟩) 234), (.str (Str.mk ⟨[115, 111, 117, 114, 99, 101]⟩) 235), (.str (Str.mk ⟨[99, 99]⟩) 236), (.str (Str.mk ⟨[110, 99]⟩) 237), (.str (Str.mk ⟨[116, 116]⟩) 238), (.str (Str.mk ⟨[99, 116]⟩) 239), (.str (Str.mk ⟨[99, 97, 108, 108, 101, 114, 115]⟩) 240), (.str (Str.mk ⟨[116, 95, 99, 99]⟩) 241), (.str (Str.mk ⟨[116, 95, 110, 99]⟩) 242), (.str (Str.mk ⟨[116, 95, 116, 116]⟩) 243), (.str (Str.mk ⟨[116, 95, 99, 116]⟩) 244), (.str (Str.mk ⟨[116, 95, 99, 97, 108, 108, 101, 114, 115]⟩) 245)]⟩ 0), ⟨[]⟩⟩
noncomputable def ob46_0 (P : Params) : Obj := ⟨(.type "tuple"), none, (.seq ⟨[]⟩ 0), ⟨[]⟩⟩
noncomputable def ob47_0 (P : Params) : Obj := ⟨.none, none, (.func (fnObj (stm 2) (Str.ofString "add_func_stats") [] 0 .none .none .none .none none .none .none 0)), ⟨[]⟩⟩
noncomputable def ob48_0 (P : Params) : Obj := ⟨(.type "code"), none, (.fields ⟨[(.str (Str.ofString "add_func_stats") 231), (.str (Str.ofString "add_func_stats") 232), (.str (Str.ofString "/claim/cut.py") 233), (.int 16 0), (.int 2 0), (.int 0 0), (.int 0 0), (.int 3 0), (.ref 43), (.bool true), (.int 181 0), (.ref 44), .none, (.ref 45), (.ref 46), (.ref 47), (.int 246 0), (.int 16 0), (.str (Str.ofString "/claim/cut.py") 247)]⟩), ⟨[]⟩⟩
noncomputable def ob49_0 (P : Params) : Obj := ⟨(.type "function"), none, (.func (fnObj (stm 2) (Str.ofString "add_func_stats") [] 3 .none .none .none (.str (Str.ofString "cpy313.pstats") 187) none (.ref 48) .none 0)), ⟨[]⟩⟩
noncomputable def ob50_0 (P : Params) : Obj := ⟨(.type "tuple"), none, (.seq ⟨[]⟩ 0), ⟨[]⟩⟩
noncomputable def ob51_0 (P : Params) : Obj := ⟨.none, none, (.fields ⟨[]⟩), ⟨[]⟩⟩
noncomputable def ob52_0 (P : Params) : Obj := ⟨(.type "tuple"), none, (.seq ⟨[(.str (Str.mk ⟨[116, 97, 114, 103, 101, 116]⟩) 252), (.str (Str.mk ⟨[115, 111, 117, 114, 99, 101]⟩) 253), (.str (Str.mk ⟨[110, 101, 119, 95, 99, 97, 108, 108, 101, 114, 115]⟩) 254), (.str (Str.mk ⟨[102, 117, 110, 99]⟩) 255), (.str (Str.mk ⟨[99, 97, 108, 108, 101, 114]⟩) 256)]⟩ 0), ⟨[]⟩⟩
noncomputable def ob53_0 (P : Params) : Obj := ⟨(.type "tuple"), none, (.seq ⟨[]⟩ 0), ⟨[]⟩⟩
noncomputable def ob54_0 (P : Params) : Obj := ⟨.none, none, (.func (fnObj (stm 3) (Str.ofString "add_callers") [] 0 .none .none .none .none none .none .none 0)), ⟨[]⟩⟩
noncomputable def ob55_0 (P : Params) : Obj := ⟨(.type "code"), none, (.fields ⟨[(.str (Str.ofString "add_callers") 249), (.str (Str.ofString "add_callers") 250), (.str (Str.ofString "/claim/cut.py") 251), (.int 20 0), (.int 2 0), (.int 0 0), (.int 0 0), (.int 3 0), (.ref 50), (.bool true), (.int 181 0), (.ref 51), .none, (.ref 52), (.ref 53), (.ref 54), (.int 257 0), (.int 20 0), (.str (Str.ofString "/claim/cut.py") 258)]⟩), ⟨[]⟩⟩
noncomputable def ob56_0 (P : Params) : Obj := ⟨(.type "function"), none, (.func (fnObj (stm 3) (Str.ofString "add_callers") [] 3 .none .none .none (.str (Str.ofString "cpy313.pstats") 187) none (.ref 55) .none 0)), ⟨[]⟩⟩
noncomputable def hp4 (P : Params) : Heap := ⟨⟨[boot_o_0 P, boot_o_1 P, boot_o_2 P, ob3_1 P, boot_o_4 P, boot_o_5 P, boot_o_6 P, boot_o_7 P, boot_o_8 P, boot_o_9 P, boot_o_10 P, ob11_0 P, ob12_1 P, ob13_0 P, ob14_0 P, ob15_0 P, ob16_0 P, ob17_0 P, ob18_0 P, ob19_0 P, ob20_0 P, ob21_0 P, ob22_0 P, ob23_0 P, ob24_0 P, ob25_0 P, ob26_0 P, ob27_0 P, ob28_0 P, ob29_0 P, ob30_0 P, ob31_0 P, ob32_0 P, ob33_0 P, ob34_0 P, ob35_0 P, ob36_0 P, ob37_0 P, ob38_0 P, ob39_0 P, ob40_0 P, ob41_0 P, ob42_0 P, ob43_0 P, ob44_0 P, ob45_0 P, ob46_0 P, ob47_0 P, ob48_0 P, ob49_0 P, ob50_0 P, ob51_0 P, ob52_0 P, ob53_0 P, ob54_0 P, ob55_0 P, ob56_0 P]⟩, lifeOf P⟩
noncomputable def tk4 : Nat := 262
noncomputable def pos4 : Pos := ⟨33, 0, 33, 2⟩
noncomputable def ob57_0 (P : Params) : Obj := ⟨(.type "range"), none, (.fields ⟨[(.int 0 263), (.int 256 262), (.int 1 264)]⟩), ⟨[]⟩⟩
noncomputable def ob58_0 (P : Params) : Obj := ⟨(.type "range_iterator"), none, (.fields ⟨[(.int 0 0), (.int 256 0), (.int 1 0)]⟩), ⟨[]⟩⟩
noncomputable def ob59_0 (P : Params) : Obj := ⟨(.type "list"), none, (.seq ⟨[]⟩ 0), ⟨[]⟩⟩
noncomputable def ob60_0 (P : Params) : Obj := ⟨(.type "dict"), none, (.dict ⟨[]⟩ 0), ⟨[]⟩⟩
noncomputable def hp5_0 (P : Params) : Heap := ⟨⟨[boot_o_0 P, boot_o_1 P, boot_o_2 P, ob3_1 P, boot_o_4 P, boot_o_5 P, boot_o_6 P, boot_o_7 P, boot_o_8 P, boot_o_9 P, boot_o_10 P, ob11_0 P, ob12_1 P, ob13_0 P, ob14_0 P, ob15_0 P, ob16_0 P, ob17_0 P, ob18_0 P, ob19_0 P, ob20_0 P, ob21_0 P, ob22_0 P, ob23_0 P, ob24_0 P, ob25_0 P, ob26_0 P, ob27_0 P, ob28_0 P, ob29_0 P, ob30_0 P, ob31_0 P, ob32_0 P, ob33_0 P, ob34_0 P, ob35_0 P, ob36_0 P, ob37_0 P, ob38_0 P, ob39_0 P, ob40_0 P, ob41_0 P, ob42_0 P, ob43_0 P, ob44_0 P, ob45_0 P, ob46_0 P, ob47_0 P, ob48_0 P, ob49_0 P, ob50_0 P, ob51_0 P, ob52_0 P, ob53_0 P, ob54_0 P, ob55_0 P, ob56_0 P, ob57_0 P, ob58_0 P, ob59_0 P, ob60_0 P]⟩, lifeOf P⟩
noncomputable def tk5_0 : Nat := 265
noncomputable def pos5_0 : Pos := ⟨34, 36, 34, 46⟩
noncomputable def ob58_1 (P : Params) : Obj := ⟨(.type "range_iterator"), none, (.fields ⟨[(.int 64 0), (.int 192 0), (.int 1 0)]⟩), ⟨[]⟩⟩
noncomputable def ob59_1 (P : Params) : Obj := ⟨(.type "list"), none, (.seq ⟨[(.str (Str.mk ⟨[61, 48, 48]⟩) 268), (.str (Str.mk ⟨[61, 48, 49]⟩) 272), (.str (Str.mk ⟨[61, 48, 50]⟩) 276), (.str (Str.mk ⟨[61, 48, 51]⟩) 280), (.str (Str.mk ⟨[61, 48, 52]⟩) 284), (.str (Str.mk ⟨[61, 48, 53]⟩) 288), (.str (Str.mk ⟨[61, 48, 54]⟩) 292), (.str (Str.mk ⟨[61, 48, 55]⟩) 296), (.str (Str.mk ⟨[61, 48, 56]⟩) 300), (.str (Str.mk ⟨[61, 48, 57]⟩) 304), (.str (Str.mk ⟨[61, 48, 65]⟩) 308), (.str (Str.mk ⟨[61, 48, 66]⟩) 312), (.str (Str.mk ⟨[61, 48, 67]⟩) 316), (.str (Str.mk ⟨[61, 48, 68]⟩) 320), (.str (Str.mk ⟨[61, 48, 69]⟩) 324), (.str (Str.mk ⟨[61, 48, 70]⟩) 328), (.str (Str.mk ⟨[61, 49, 48]⟩) 332), (.str (Str.mk ⟨[61, 49, 49]⟩) 336), (.str (Str.mk ⟨[61, 49, 50]⟩) 340), (.str (Str.mk ⟨[61, 49, 51]⟩) 344), (.str (Str.mk ⟨[61, 49, 52]⟩) 348), (.str (Str.mk ⟨[61, 49, 53]⟩) 352), (.str (Str.mk ⟨[61, 49, 54]⟩) 356), (.str (Str.mk ⟨[61, 49, 55]⟩) 360), (.str (Str.mk ⟨[61, 49, 56]⟩) 364), (.str (Str.mk ⟨[61, 49, 57]⟩) 368), (.str (Str.mk ⟨[61, 49, 65]⟩) 372), (.str (Str.mk ⟨[61, 49, 66]⟩) 376), (.str (Str.mk ⟨[61, 49, 67]⟩) 380), (.str (Str.mk ⟨[61, 49, 68]⟩) 384), (.str (Str.mk ⟨[61, 49, 69]⟩) 388), (.str (Str.mk ⟨[61, 49, 70]⟩) 392), (.str (Str.mk ⟨[61, 50, 48]⟩) 396), (.str (Str.mk ⟨[61, 50, 49]⟩) 400), (.str (Str.mk ⟨[61, 50, 50]⟩) 404), (.str (Str.mk ⟨[61, 50, 51]⟩) 408), (.str (Str.mk ⟨[61, 50, 52]⟩) 412), (.str (Str.mk ⟨[61, 50, 53]⟩) 416), (.str (Str.mk ⟨[61, 50, 54]⟩) 420), (.str (Str.mk ⟨[61, 50, 55]⟩) 424), (.str (Str.mk ⟨[61, 50, 56]⟩) 428), (.str (Str.mk ⟨[61, 50, 57]⟩) 432), (.str (Str.mk ⟨[61, 50, 65]⟩) 436), (.str (Str.mk ⟨[61, 50, 66]⟩) 440), (.str (Str.mk ⟨[61, 50, 67]⟩) 444), (.str (Str.mk ⟨[61, 50, 68]⟩) 448), (.str (Str.mk ⟨[61, 50, 69]⟩) 452), (.str (Str.mk ⟨[61, 50, 70]⟩) 456), (.str (Str.mk ⟨[61, 51, 48]⟩) 460), (.str (Str.mk ⟨[61, 51, 49]⟩) 464), (.str (Str.mk ⟨[61, 51, 50]⟩) 468), (.str (Str.mk ⟨[61, 51, 51]⟩) 472), (.str (Str.mk ⟨[61, 51, 52]⟩) 476), (.str (Str.mk ⟨[61, 51, 53]⟩) 480), (.str (Str.mk ⟨[61, 51, 54]⟩) 484), (.str (Str.mk ⟨[61, 51, 55]⟩) 488), (.str (Str.mk ⟨[61, 51, 56]⟩) 492), (.str (Str.mk ⟨[61, 51, 57]⟩) 496), (.str (Str.mk ⟨[61, 51, 65]⟩) 500), (.str (Str.mk ⟨[61, 51, 66]⟩) 504), (.str (Str.mk ⟨[61, 51, 67]⟩) 508), (.str (Str.mk ⟨[61, 51, 68]⟩) 512), (.str (Str.mk ⟨[61, 51, 69]⟩) 516), (.str (Str.mk ⟨[61, 51, 70]⟩) 520)]⟩ 64), ⟨[]⟩⟩
noncomputable def ob60_1 (P : Params) : Obj := ⟨(.type "dict"), none, (.dict ⟨[⟨PyData.keyHash P (Str.ofString "c"), (.str (Str.ofString "c") 266), (.int 63 517)⟩]⟩ 1), ⟨[]⟩⟩
noncomputable def hp5_64 (P : Params) : Heap := ⟨⟨[boot_o_0 P, boot_o_1 P, boot_o_2 P, ob3_1 P, boot_o_4 P, boot_o_5 P, boot_o_6 P, boot_o_7 P, boot_o_8 P, boot_o_9 P, boot_o_10 P, ob11_0 P, ob12_1 P, ob13_0 P, ob14_0 P, ob15_0 P, ob16_0 P, ob17_0 P, ob18_0 P, ob19_0 P, ob20_0 P, ob21_0 P, ob22_0 P, ob23_0 P, ob24_0 P, ob25_0 P, ob26_0 P, ob27_0 P, ob28_0 P, ob29_0 P, ob30_0 P, ob31_0 P, ob32_0 P, ob33_0 P, ob34_0 P, ob35_0 P, ob36_0 P, ob37_0 P, ob38_0 P, ob39_0 P, ob40_0 P, ob41_0 P, ob42_0 P, ob43_0 P, ob44_0 P, ob45_0 P, ob46_0 P, ob47_0 P, ob48_0 P, ob49_0 P, ob50_0 P, ob51_0 P, ob52_0 P, ob53_0 P, ob54_0 P, ob55_0 P, ob56_0 P, ob57_0 P, ob58_1 P, ob59_1 P, ob60_1 P]⟩, lifeOf P⟩
noncomputable def tk5_64 : Nat := 521
noncomputable def pos5_64 : Pos := ⟨34, 15, 34, 26⟩
noncomputable def ob58_2 (P : Params) : Obj := ⟨(.type "range_iterator"), none, (.fields ⟨[(.int 128 0), (.int 128 0), (.int 1 0)]⟩), ⟨[]⟩⟩
noncomputable def ob59_2 (P : Params) : Obj := ⟨(.type "list"), none, (.seq ⟨[(.str (Str.mk ⟨[61, 48, 48]⟩) 268), (.str (Str.mk ⟨[61, 48, 49]⟩) 272), (.str (Str.mk ⟨[61, 48, 50]⟩) 276), (.str (Str.mk ⟨[61, 48, 51]⟩) 280), (.str (Str.mk ⟨[61, 48, 52]⟩) 284), (.str (Str.mk ⟨[61, 48, 53]⟩) 288), (.str (Str.mk ⟨[61, 48, 54]⟩) 292), (.str (Str.mk ⟨[61, 48, 55]⟩) 296), (.str (Str.mk ⟨[61, 48, 56]⟩) 300), (.str (Str.mk ⟨[61, 48, 57]⟩) 304), (.str (Str.mk ⟨[61, 48, 65]⟩) 308), (.str (Str.mk ⟨[61, 48, 66]⟩) 312), (.str (Str.mk ⟨[61, 48, 67]⟩) 316), (.str (Str.mk ⟨[61, 48, 68]⟩) 320), (.str (Str.mk ⟨[61, 48, 69]⟩) 324), (.str (Str.mk ⟨[61, 48, 70]⟩) 328), (.str (Str.mk ⟨[61, 49, 48]⟩) 332), (.str (Str.mk ⟨[61, 49, 49]⟩) 336), (.str (Str.mk ⟨[61, 49, 50]⟩) 340), (.str (Str.mk ⟨[61, 49, 51]⟩) 344), (.str (Str.mk ⟨[61, 49, 52]⟩) 348), (.str (Str.mk ⟨[61, 49, 53]⟩) 352), (.str (Str.mk ⟨[61, 49, 54]⟩) 356), (.str (Str.mk ⟨[61, 49, 55]⟩) 360), (.str (Str.mk ⟨[61, 49, 56]⟩) 364), (.str (Str.mk ⟨[61, 49, 57]⟩) 368), (.str (Str.mk ⟨[61, 49, 65]⟩) 372), (.str (Str.mk ⟨[61, 49, 66]⟩) 376), (.str (Str.mk ⟨[61, 49, 67]⟩) 380), (.str (Str.mk ⟨[61, 49, 68]⟩) 384), (.str (Str.mk ⟨[61, 49, 69]⟩) 388), (.str (Str.mk ⟨[61, 49, 70]⟩) 392), (.str (Str.mk ⟨[61, 50, 48]⟩) 396), (.str (Str.mk ⟨[61, 50, 49]⟩) 400), (.str (Str.mk ⟨[61, 50, 50]⟩) 404), (.str (Str.mk ⟨[61, 50, 51]⟩) 408), (.str (Str.mk ⟨[61, 50, 52]⟩) 412), (.str (Str.mk ⟨[61, 50, 53]⟩) 416), (.str (Str.mk ⟨[61, 50, 54]⟩) 420), (.str (Str.mk ⟨[61, 50, 55]⟩) 424), (.str (Str.mk ⟨[61, 50, 56]⟩) 428), (.str (Str.mk ⟨[61, 50, 57]⟩) 432), (.str (Str.mk ⟨[61, 50, 65]⟩) 436), (.str (Str.mk ⟨[61, 50, 66]⟩) 440), (.str (Str.mk ⟨[61, 50, 67]⟩) 444), (.str (Str.mk ⟨[61, 50, 68]⟩) 448), (.str (Str.mk ⟨[61, 50, 69]⟩) 452), (.str (Str.mk ⟨[61, 50, 70]⟩) 456), (.str (Str.mk ⟨[61, 51, 48]⟩) 460), (.str (Str.mk ⟨[61, 51, 49]⟩) 464), (.str (Str.mk ⟨[61, 51, 50]⟩) 468), (.str (Str.mk ⟨[61, 51, 51]⟩) 472), (.str (Str.mk ⟨[61, 51, 52]⟩) 476), (.str (Str.mk ⟨[61, 51, 53]⟩) 480), (.str (Str.mk ⟨[61, 51, 54]⟩) 484), (.str (Str.mk ⟨[61, 51, 55]⟩) 488), (.str (Str.mk ⟨[61, 51, 56]⟩) 492), (.str (Str.mk ⟨[61, 51, 57]⟩) 496), (.str (Str.mk ⟨[61, 51, 65]⟩) 500), (.str (Str.mk ⟨[61, 51, 66]⟩) 504), (.str (Str.mk ⟨[61, 51, 67]⟩) 508), (.str (Str.mk ⟨[61, 51, 68]⟩) 512), (.str (Str.mk ⟨[61, 51, 69]⟩) 516), (.str (Str.mk ⟨[61, 51, 70]⟩) 520), (.str (Str.mk ⟨[61, 52, 48]⟩) 524), (.str (Str.mk ⟨[61, 52, 49]⟩) 528), (.str (Str.mk ⟨[61, 52, 50]⟩) 532), (.str (Str.mk ⟨[61, 52, 51]⟩) 536), (.str (Str.mk ⟨[61, 52, 52]⟩) 540), (.str (Str.mk ⟨[61, 52, 53]⟩) 544), (.str (Str.mk ⟨[61, 52, 54]⟩) 548), (.str (Str.mk ⟨[61, 52, 55]⟩) 552), (.str (Str.mk ⟨[61, 52, 56]⟩) 556), (.str (Str.mk ⟨[61, 52, 57]⟩) 560), (.str (Str.mk ⟨[61, 52, 65]⟩) 564), (.str (Str.mk ⟨[61, 52, 66]⟩) 568), (.str (Str.mk ⟨[61, 52, 67]⟩) 572), (.str (Str.mk ⟨[61, 52, 68]⟩) 576), (.str (Str.mk ⟨[61, 52, 69]⟩) 580), (.str (Str.mk ⟨[61, 52, 70]⟩) 584), (.str (Str.mk ⟨[61, 53, 48]⟩) 588), (.str (Str.mk ⟨[61, 53, 49]⟩) 592), (.str (Str.mk ⟨[61, 53, 50]⟩) 596), (.str (Str.mk ⟨[61, 53, 51]⟩) 600), (.str (Str.mk ⟨[61, 53, 52]⟩) 604), (.str (Str.mk ⟨[61, 53, 53]⟩) 608), (.str (Str.mk ⟨[61, 53, 54]⟩) 612), (.str (Str.mk ⟨[61, 53, 55]⟩) 616), (.str (Str.mk ⟨[61, 53, 56]⟩) 620), (.str (Str.mk ⟨[61, 53, 57]⟩) 624), (.str (Str.mk ⟨[61, 53, 65]⟩) 628), (.str (Str.mk ⟨[61, 53, 66]⟩) 632), (.str (Str.mk ⟨[61, 53, 67]⟩) 636), (.str (Str.mk ⟨[61, 53, 68]⟩) 640), (.str (Str.mk ⟨[61, 53, 69]⟩) 644), (.str (Str.mk ⟨[61, 53, 70]⟩) 648), (.str (Str.mk ⟨[61, 54, 48]⟩) 652), (.str (Str.mk ⟨[61, 54, 49]⟩) 656), (.str (Str.mk ⟨[61, 54, 50]⟩) 660), (.str (Str.mk ⟨[61, 54, 51]⟩) 664), (.str (Str.mk ⟨[61, 54, 52]⟩) 668), (.str (Str.mk ⟨[61, 54, 53]⟩) 672), (.str (Str.mk ⟨[61, 54, 54]⟩) 676), (.str (Str.mk ⟨[61, 54, 55]⟩) 680), (.str (Str.mk ⟨[61, 54, 56]⟩) 684), (.str (Str.mk ⟨[61, 54, 57]⟩) 688), (.str (Str.mk ⟨[61, 54, 65]⟩) 692), (.str (Str.mk ⟨[61, 54, 66]⟩) 696), (.str (Str.mk ⟨[61, 54, 67]⟩) 700), (.str (Str.mk ⟨[61, 54, 68]⟩) 704), (.str (Str.mk ⟨[61, 54, 69]⟩) 708), (.str (Str.mk ⟨[61, 54, 70]⟩) 712), (.str (Str.mk ⟨[61, 55, 48]⟩) 716), (.str (Str.mk ⟨[61, 55, 49]⟩) 720), (.str (Str.mk ⟨[61, 55, 50]⟩) 724), (.str (Str.mk ⟨[61, 55, 51]⟩) 728), (.str (Str.mk ⟨[61, 55, 52]⟩) 732), (.str (Str.mk ⟨[61, 55, 53]⟩) 736), (.str (Str.mk ⟨[61, 55, 54]⟩) 740), (.str (Str.mk ⟨[61, 55, 55]⟩) 744), (.str (Str.mk ⟨[61, 55, 56]⟩) 748), (.str (Str.mk ⟨[61, 55, 57]⟩) 752), (.str (Str.mk ⟨[61, 55, 65]⟩) 756), (.str (Str.mk ⟨[61, 55, 66]⟩) 760), (.str (Str.mk ⟨[61, 55, 67]⟩) 764), (.str (Str.mk ⟨[61, 55, 68]⟩) 768), (.str (Str.mk ⟨[61, 55, 69]⟩) 772), (.str (Str.mk ⟨[61, 55, 70]⟩) 776)]⟩ 128), ⟨[]⟩⟩
noncomputable def ob60_2 (P : Params) : Obj := ⟨(.type "dict"), none, (.dict ⟨[⟨PyData.keyHash P (Str.ofString "c"), (.str (Str.ofString "c") 266), (.int 127 773)⟩]⟩ 1), ⟨[]⟩⟩
noncomputable def hp5_128 (P : Params) : Heap := ⟨⟨[boot_o_0 P, boot_o_1 P, boot_o_2 P, ob3_1 P, boot_o_4 P, boot_o_5 P, boot_o_6 P, boot_o_7 P, boot_o_8 P, boot_o_9 P, boot_o_10 P, ob11_0 P, ob12_1 P, ob13_0 P, ob14_0 P, ob15_0 P, ob16_0 P, ob17_0 P, ob18_0 P, ob19_0 P, ob20_0 P, ob21_0 P, ob22_0 P, ob23_0 P, ob24_0 P, ob25_0 P, ob26_0 P, ob27_0 P, ob28_0 P, ob29_0 P, ob30_0 P, ob31_0 P, ob32_0 P, ob33_0 P, ob34_0 P, ob35_0 P, ob36_0 P, ob37_0 P, ob38_0 P, ob39_0 P, ob40_0 P, ob41_0 P, ob42_0 P, ob43_0 P, ob44_0 P, ob45_0 P, ob46_0 P, ob47_0 P, ob48_0 P, ob49_0 P, ob50_0 P, ob51_0 P, ob52_0 P, ob53_0 P, ob54_0 P, ob55_0 P, ob56_0 P, ob57_0 P, ob58_2 P, ob59_2 P, ob60_2 P]⟩, lifeOf P⟩
noncomputable def tk5_128 : Nat := 777
noncomputable def pos5_128 : Pos := ⟨34, 15, 34, 26⟩
noncomputable def ob58_3 (P : Params) : Obj := ⟨(.type "range_iterator"), none, (.fields ⟨[(.int 192 0), (.int 64 0), (.int 1 0)]⟩), ⟨[]⟩⟩
noncomputable def ob59_3 (P : Params) : Obj := ⟨(.type "list"), none, (.seq ⟨[(.str (Str.mk ⟨[61, 48, 48]⟩) 268), (.str (Str.mk ⟨[61, 48, 49]⟩) 272), (.str (Str.mk ⟨[61, 48, 50]⟩) 276), (.str (Str.mk ⟨[61, 48, 51]⟩) 280), (.str (Str.mk ⟨[61, 48, 52]⟩) 284), (.str (Str.mk ⟨[61, 48, 53]⟩) 288), (.str (Str.mk ⟨[61, 48, 54]⟩) 292), (.str (Str.mk ⟨[61, 48, 55]⟩) 296), (.str (Str.mk ⟨[61, 48, 56]⟩) 300), (.str (Str.mk ⟨[61, 48, 57]⟩) 304), (.str (Str.mk ⟨[61, 48, 65]⟩) 308), (.str (Str.mk ⟨[61, 48, 66]⟩) 312), (.str (Str.mk ⟨[61, 48, 67]⟩) 316), (.str (Str.mk ⟨[61, 48, 68]⟩) 320), (.str (Str.mk ⟨[61, 48, 69]⟩) 324), (.str (Str.mk ⟨[61, 48, 70]⟩) 328), (.str (Str.mk ⟨[61, 49, 48]⟩) 332), (.str (Str.mk ⟨[61, 49, 49]⟩) 336), (.str (Str.mk ⟨[61, 49, 50]⟩) 340), (.str (Str.mk ⟨[61, 49, 51]⟩) 344), (.str (Str.mk ⟨[61, 49, 52]⟩) 348), (.str (Str.mk ⟨[61, 49, 53]⟩) 352), (.str (Str.mk ⟨[61, 49, 54]⟩) 356), (.str (Str.mk ⟨[61, 49, 55]⟩) 360), (.str (Str.mk ⟨[61, 49, 56]⟩) 364), (.str (Str.mk ⟨[61, 49, 57]⟩) 368), (.str (Str.mk ⟨[61, 49, 65]⟩) 372), (.str (Str.mk ⟨[61, 49, 66]⟩) 376), (.str (Str.mk ⟨[61, 49, 67]⟩) 380), (.str (Str.mk ⟨[61, 49, 68]⟩) 384), (.str (Str.mk ⟨[61, 49, 69]⟩) 388), (.str (Str.mk ⟨[61, 49, 70]⟩) 392), (.str (Str.mk ⟨[61, 50, 48]⟩) 396), (.str (Str.mk ⟨[61, 50, 49]⟩) 400), (.str (Str.mk ⟨[61, 50, 50]⟩) 404), (.str (Str.mk ⟨[61, 50, 51]⟩) 408), (.str (Str.mk ⟨[61, 50, 52]⟩) 412), (.str (Str.mk ⟨[61, 50, 53]⟩) 416), (.str (Str.mk ⟨[61, 50, 54]⟩) 420), (.str (Str.mk ⟨[61, 50, 55]⟩) 424), (.str (Str.mk ⟨[61, 50, 56]⟩) 428), (.str (Str.mk ⟨[61, 50, 57]⟩) 432), (.str (Str.mk ⟨[61, 50, 65]⟩) 436), (.str (Str.mk ⟨[61, 50, 66]⟩) 440), (.str (Str.mk ⟨[61, 50, 67]⟩) 444), (.str (Str.mk ⟨[61, 50, 68]⟩) 448), (.str (Str.mk ⟨[61, 50, 69]⟩) 452), (.str (Str.mk ⟨[61, 50, 70]⟩) 456), (.str (Str.mk ⟨[61, 51, 48]⟩) 460), (.str (Str.mk ⟨[61, 51, 49]⟩) 464), (.str (Str.mk ⟨[61, 51, 50]⟩) 468), (.str (Str.mk ⟨[61, 51, 51]⟩) 472), (.str (Str.mk ⟨[61, 51, 52]⟩) 476), (.str (Str.mk ⟨[61, 51, 53]⟩) 480), (.str (Str.mk ⟨[61, 51, 54]⟩) 484), (.str (Str.mk ⟨[61, 51, 55]⟩) 488), (.str (Str.mk ⟨[61, 51, 56]⟩) 492), (.str (Str.mk ⟨[61, 51, 57]⟩) 496), (.str (Str.mk ⟨[61, 51, 65]⟩) 500), (.str (Str.mk ⟨[61, 51, 66]⟩) 504), (.str (Str.mk ⟨[61, 51, 67]⟩) 508), (.str (Str.mk ⟨[61, 51, 68]⟩) 512), (.str (Str.mk ⟨[61, 51, 69]⟩) 516), (.str (Str.mk ⟨[61, 51, 70]⟩) 520), (.str (Str.mk ⟨[61, 52, 48]⟩) 524), (.str (Str.mk ⟨[61, 52, 49]⟩) 528), (.str (Str.mk ⟨[61, 52, 50]⟩) 532), (.str (Str.mk ⟨[61, 52, 51]⟩) 536), (.str (Str.mk ⟨[61, 52, 52]⟩) 540), (.str (Str.mk ⟨[61, 52, 53]⟩) 544), (.str (Str.mk ⟨[61, 52, 54]⟩) 548), (.str (Str.mk ⟨[61, 52, 55]⟩) 552), (.str (Str.mk ⟨[61, 52, 56]⟩) 556), (.str (Str.mk ⟨[61, 52, 57]⟩) 560), (.str (Str.mk ⟨[61, 52, 65]⟩) 564), (.str (Str.mk ⟨[61, 52, 66]⟩) 568), (.str (Str.mk ⟨[61, 52, 67]⟩) 572), (.str (Str.mk ⟨[61, 52, 68]⟩) 576), (.str (Str.mk ⟨[61, 52, 69]⟩) 580), (.str (Str.mk ⟨[61, 52, 70]⟩) 584), (.str (Str.mk ⟨[61, 53, 48]⟩) 588), (.str (Str.mk ⟨[61, 53, 49]⟩) 592), (.str (Str.mk ⟨[61, 53, 50]⟩) 596), (.str (Str.mk ⟨[61, 53, 51]⟩) 600), (.str (Str.mk ⟨[61, 53, 52]⟩) 604), (.str (Str.mk ⟨[61, 53, 53]⟩) 608), (.str (Str.mk ⟨[61, 53, 54]⟩) 612), (.str (Str.mk ⟨[61, 53, 55]⟩) 616), (.str (Str.mk ⟨[61, 53, 56]⟩) 620), (.str (Str.mk ⟨[61, 53, 57]⟩) 624), (.str (Str.mk ⟨[61, 53, 65]⟩) 628), (.str (Str.mk ⟨[61, 53, 66]⟩) 632), (.str (Str.mk ⟨[61, 53, 67]⟩) 636), (.str (Str.mk ⟨[61, 53, 68]⟩) 640), (.str (Str.mk ⟨[61, 53, 69]⟩) 644), (.str (Str.mk ⟨[61, 53, 70]⟩) 648), (.str (Str.mk ⟨[61, 54, 48]⟩) 652), (.str (Str.mk ⟨[61, 54, 49]⟩) 656), (.str (Str.mk ⟨[61, 54, 50]⟩) 660), (.str (Str.mk ⟨[61, 54, 51]⟩) 664), (.str (Str.mk ⟨[61, 54, 52]⟩) 668), (.str (Str.mk ⟨[61, 54, 53]⟩) 672), (.str (Str.mk ⟨[61, 54, 54]⟩) 676), (.str (Str.mk ⟨[61, 54, 55]⟩) 680), (.str (Str.mk ⟨[61, 54, 56]⟩) 684), (.str (Str.mk ⟨[61, 54, 57]⟩) 688), (.str (Str.mk ⟨[61, 54, 65]⟩) 692), (.str (Str.mk ⟨[61, 54, 66]⟩) 696), (.str (Str.mk ⟨[61, 54, 67]⟩) 700), (.str (Str.mk ⟨[61, 54, 68]⟩) 704), (.str (Str.mk ⟨[61, 54, 69]⟩) 708), (.str (Str.mk ⟨[61, 54, 70]⟩) 712), (.str (Str.mk ⟨[61, 55, 48]⟩) 716), (.str (Str.mk ⟨[61, 55, 49]⟩) 720), (.str (Str.mk ⟨[61, 55, 50]⟩) 724), (.str (Str.mk ⟨[61, 55, 51]⟩) 728), (.str (Str.mk ⟨[61, 55, 52]⟩) 732), (.str (Str.mk ⟨[61, 55, 53]⟩) 736), (.str (Str.mk ⟨[61, 55, 54]⟩) 740), (.str (Str.mk ⟨[61, 55, 55]⟩) 744), (.str (Str.mk ⟨[61, 55, 56]⟩) 748), (.str (Str.mk ⟨[61, 55, 57]⟩) 752), (.str (Str.mk ⟨[61, 55, 65]⟩) 756), (.str (Str.mk ⟨[61, 55, 66]⟩) 760), (.str (Str.mk ⟨[61, 55, 67]⟩) 764), (.str (Str.mk ⟨[61, 55, 68]⟩) 768), (.str (Str.mk ⟨[61, 55, 69]⟩) 772), (.str (Str.mk ⟨[61, 55, 70]⟩) 776), (.str (Str.mk ⟨[61, 56, 48]⟩) 780), (.str (Str.mk ⟨[61, 56, 49]⟩) 784), (.str (Str.mk ⟨[61, 56, 50]⟩) 788), (.str (Str.mk ⟨[61, 56, 51]⟩) 792), (.str (Str.mk ⟨[61, 56, 52]⟩) 796), (.str (Str.mk ⟨[61, 56, 53]⟩) 800), (.str (Str.mk ⟨[61, 56, 54]⟩) 804), (.str (Str.mk ⟨[61, 56, 55]⟩) 808), (.str (Str.mk ⟨[61, 56, 56]⟩) 812), (.str (Str.mk ⟨[61, 56, 57]⟩) 816), (.str (Str.mk ⟨[61, 56, 65]⟩) 820), (.str (Str.mk ⟨[61, 56, 66]⟩) 824), (.str (Str.mk ⟨[61, 56, 67]⟩) 828), (.str (Str.mk ⟨[61, 56, 68]⟩) 832), (.str (Str.mk ⟨[61, 56, 69]⟩) 836), (.str (Str.mk ⟨[61, 56, 70]⟩) 840), (.str (Str.mk ⟨[61, 57, 48]⟩) 844), (.str (Str.mk ⟨[61, 57, 49]⟩) 848), (.str (Str.mk ⟨[61, 57, 50]⟩) 852), (.str (Str.mk ⟨[61, 57, 51]⟩) 856), (.str (Str.mk ⟨[61, 57, 52]⟩) 860), (.str (Str.mk ⟨[61, 57, 53]⟩) 864), (.str (Str.mk ⟨[61, 57, 54]⟩) 868), (.str (Str.mk ⟨[61, 57, 55]⟩) 872), (.str (Str.mk ⟨[61, 57, 56]⟩) 876), (.str (Str.mk ⟨[61, 57, 57]⟩) 880), (.str (Str.mk ⟨[61, 57, 65]⟩) 884), (.str (Str.mk ⟨[61, 57, 66]⟩) 888), (.str (Str.mk ⟨[61, 57, 67]⟩) 892), (.str (Str.mk ⟨[61, 57, 68]⟩) 896), (.str (Str.mk ⟨[61, 57, 69]⟩) 900), (.str (Str.mk ⟨[61, 57, 70]⟩) 904), (.str (Str.mk ⟨[61, 65, 48]⟩) 908), (.str (Str.mk ⟨[61, 65, 49]⟩) 912), (.str (Str.mk ⟨[61, 65, 50]⟩) 916), (.str (Str.mk ⟨[61, 65, 51]⟩) 920), (.str (Str.mk ⟨[61, 65, 52]⟩) 924), (.str (Str.mk ⟨[61, 65, 53]⟩) 928), (.str (Str.mk ⟨[61, 65, 54]⟩) 932), (.str (Str.mk ⟨[61, 65, 55]⟩) 936), (.str (Str.mk ⟨[61, 65, 56]⟩) 940), (.str (Str.mk ⟨[61, 65, 57]⟩) 944), (.str (Str.mk ⟨[61, 65, 65]⟩) 948), (.str (Str.mk ⟨[61, 65, 66]⟩) 952), (.str (Str.mk ⟨[61, 65, 67]⟩) 956), (.str (Str.mk ⟨[61, 65, 68]⟩) 960), (.str (Str.mk ⟨[61, 65, 69]⟩) 964), (.str (Str.mk ⟨[61, 65, 70]⟩) 968), (.str (Str.mk ⟨[61, 66, 48]⟩) 972), (.str (Str.mk ⟨[61, 66, 49]⟩) 976), (.str (Str.mk ⟨[61, 66, 50]⟩) 980), (.str (Str.mk ⟨[61, 66, 51]⟩) 984), (.str (Str.mk ⟨[61, 66, 52]⟩) 988), (.str (Str.mk ⟨[61, 66, 53]⟩) 992), (.str (Str.mk ⟨[61, 66, 54]⟩) 996), (.str (Str.mk ⟨[61, 66, 55]⟩) 1000), (.str (Str.mk ⟨[61, 66, 56]⟩) 1004), (.str (Str.mk ⟨[61, 66, 57]⟩) 1008), (.str (Str.mk ⟨[61, 66, 65]⟩) 1012), (.str (Str.mk ⟨[61, 66, 66]⟩) 1016), (.str (Str.mk ⟨[61, 66, 67]⟩) 1020), (.str (Str.mk ⟨[61, 66, 68]⟩) 1024), (.str (Str.mk ⟨[61, 66, 69]⟩) 1028), (.str (Str.mk ⟨[61, 66, 70]⟩) 1032)]⟩ 192), ⟨[]⟩⟩
noncomputable def ob60_3 (P : Params) : Obj := ⟨(.type "dict"), none, (.dict ⟨[⟨PyData.keyHash P (Str.ofString "c"), (.str (Str.ofString "c") 266), (.int 191 1029)⟩]⟩ 1), ⟨[]⟩⟩
noncomputable def hp5_192 (P : Params) : Heap := ⟨⟨[boot_o_0 P, boot_o_1 P, boot_o_2 P, ob3_1 P, boot_o_4 P, boot_o_5 P, boot_o_6 P, boot_o_7 P, boot_o_8 P, boot_o_9 P, boot_o_10 P, ob11_0 P, ob12_1 P, ob13_0 P, ob14_0 P, ob15_0 P, ob16_0 P, ob17_0 P, ob18_0 P, ob19_0 P, ob20_0 P, ob21_0 P, ob22_0 P, ob23_0 P, ob24_0 P, ob25_0 P, ob26_0 P, ob27_0 P, ob28_0 P, ob29_0 P, ob30_0 P, ob31_0 P, ob32_0 P, ob33_0 P, ob34_0 P, ob35_0 P, ob36_0 P, ob37_0 P, ob38_0 P, ob39_0 P, ob40_0 P, ob41_0 P, ob42_0 P, ob43_0 P, ob44_0 P, ob45_0 P, ob46_0 P, ob47_0 P, ob48_0 P, ob49_0 P, ob50_0 P, ob51_0 P, ob52_0 P, ob53_0 P, ob54_0 P, ob55_0 P, ob56_0 P, ob57_0 P, ob58_3 P, ob59_3 P, ob60_3 P]⟩, lifeOf P⟩
noncomputable def tk5_192 : Nat := 1033
noncomputable def pos5_192 : Pos := ⟨34, 15, 34, 26⟩
noncomputable def ob3_2 (P : Params) : Obj := ⟨(.type "dict"), none, (.dict ⟨[⟨PyData.keyHash P (Str.ofString "__name__"), (.str (Str.ofString "__name__") 165), (.str (Str.ofString "cpy313.pstats") 187)⟩, ⟨PyData.keyHash P (Str.ofString "__doc__"), (.str (Str.ofString "__doc__") 166), .none⟩, ⟨PyData.keyHash P (Str.ofString "__package__"), (.str (Str.ofString "__package__") 167), .none⟩, ⟨PyData.keyHash P (Str.ofString "__loader__"), (.str (Str.ofString "__loader__") 168), (.builtin "__main__.__loader__#opaque")⟩, ⟨PyData.keyHash P (Str.ofString "__spec__"), (.str (Str.ofString "__spec__") 169), .none⟩, ⟨PyData.keyHash P (Str.ofString "__annotations__"), (.str (Str.ofString "__annotations__") 170), (.ref 6)⟩, ⟨PyData.keyHash P (Str.ofString "__builtins__"), (.str (Str.ofString "__builtins__") 171), (.ref 4)⟩, ⟨PyData.keyHash P (Str.ofString "__file__"), (.str (Str.ofString "__file__") 173), (.str (Str.ofString "/claim/cut.py") 172)⟩, ⟨PyData.keyHash P (Str.ofString "__cached__"), (.str (Str.ofString "__cached__") 174), .none⟩, ⟨PyData.keyHash P (Str.ofString "TupleComp"), (.str (Str.ofString "TupleComp") 230), (.ref 38)⟩, ⟨PyData.keyHash P (Str.ofString "add_func_stats"), (.str (Str.ofString "add_func_stats") 248), (.ref 49)⟩, ⟨PyData.keyHash P (Str.ofString "add_callers"), (.str (Str.ofString "add_callers") 259), (.ref 56)⟩, ⟨PyData.keyHash P (Str.ofString "NL"), (.str (Str.ofString "NL") 261), (.str (Str.ofString "\n") 260)⟩, ⟨PyData.keyHash P (Str.ofString "_QUOPRI_MAP"), (.str (Str.ofString "_QUOPRI_MAP") 1289), (.ref 59)⟩]⟩ 14), ⟨[]⟩⟩
noncomputable def ob58_4 (P : Params) : Obj := ⟨(.type "range_iterator"), none, (.fields ⟨[(.int 256 0), (.int 0 0), (.int 1 0)]⟩), ⟨[]⟩⟩
noncomputable def ob59_4 (P : Params) : Obj := ⟨(.type "list"), none, (.seq ⟨[(.str (Str.mk ⟨[61, 48, 48]⟩) 268), (.str (Str.mk ⟨[61, 48, 49]⟩) 272), (.str (Str.mk ⟨[61, 48, 50]⟩) 276), (.str (Str.mk ⟨[61, 48, 51]⟩) 280), (.str (Str.mk ⟨[61, 48, 52]⟩) 284), (.str (Str.mk ⟨[61, 48, 53]⟩) 288), (.str (Str.mk ⟨[61, 48, 54]⟩) 292), (.str (Str.mk ⟨[61, 48, 55]⟩) 296), (.str (Str.mk ⟨[61, 48, 56]⟩) 300), (.str (Str.mk ⟨[61, 48, 57]⟩) 304), (.str (Str.mk ⟨[61, 48, 65]⟩) 308), (.str (Str.mk ⟨[61, 48, 66]⟩) 312), (.str (Str.mk ⟨[61, 48, 67]⟩) 316), (.str (Str.mk ⟨[61, 48, 68]⟩) 320), (.str (Str.mk ⟨[61, 48, 69]⟩) 324), (.str (Str.mk ⟨[61, 48, 70]⟩) 328), (.str (Str.mk ⟨[61, 49, 48]⟩) 332), (.str (Str.mk ⟨[61, 49, 49]⟩) 336), (.str (Str.mk ⟨[61, 49, 50]⟩) 340), (.str (Str.mk ⟨[61, 49, 51]⟩) 344), (.str (Str.mk ⟨[61, 49, 52]⟩) 348), (.str (Str.mk ⟨[61, 49, 53]⟩) 352), (.str (Str.mk ⟨[61, 49, 54]⟩) 356), (.str (Str.mk ⟨[61, 49, 55]⟩) 360), (.str (Str.mk ⟨[61, 49, 56]⟩) 364), (.str (Str.mk ⟨[61, 49, 57]⟩) 368), (.str (Str.mk ⟨[61, 49, 65]⟩) 372), (.str (Str.mk ⟨[61, 49, 66]⟩) 376), (.str (Str.mk ⟨[61, 49, 67]⟩) 380), (.str (Str.mk ⟨[61, 49, 68]⟩) 384), (.str (Str.mk ⟨[61, 49, 69]⟩) 388), (.str (Str.mk ⟨[61, 49, 70]⟩) 392), (.str (Str.mk ⟨[61, 50, 48]⟩) 396), (.str (Str.mk ⟨[61, 50, 49]⟩) 400), (.str (Str.mk ⟨[61, 50, 50]⟩) 404), (.str (Str.mk ⟨[61, 50, 51]⟩) 408), (.str (Str.mk ⟨[61, 50, 52]⟩) 412), (.str (Str.mk ⟨[61, 50, 53]⟩) 416), (.str (Str.mk ⟨[61, 50, 54]⟩) 420), (.str (Str.mk ⟨[61, 50, 55]⟩) 424), (.str (Str.mk ⟨[61, 50, 56]⟩) 428), (.str (Str.mk ⟨[61, 50, 57]⟩) 432), (.str (Str.mk ⟨[61, 50, 65]⟩) 436), (.str (Str.mk ⟨[61, 50, 66]⟩) 440), (.str (Str.mk ⟨[61, 50, 67]⟩) 444), (.str (Str.mk ⟨[61, 50, 68]⟩) 448), (.str (Str.mk ⟨[61, 50, 69]⟩) 452), (.str (Str.mk ⟨[61, 50, 70]⟩) 456), (.str (Str.mk ⟨[61, 51, 48]⟩) 460), (.str (Str.mk ⟨[61, 51, 49]⟩) 464), (.str (Str.mk ⟨[61, 51, 50]⟩) 468), (.str (Str.mk ⟨[61, 51, 51]⟩) 472), (.str (Str.mk ⟨[61, 51, 52]⟩) 476), (.str (Str.mk ⟨[61, 51, 53]⟩) 480), (.str (Str.mk ⟨[61, 51, 54]⟩) 484), (.str (Str.mk ⟨[61, 51, 55]⟩) 488), (.str (Str.mk ⟨[61, 51, 56]⟩) 492), (.str (Str.mk ⟨[61, 51, 57]⟩) 496), (.str (Str.mk ⟨[61, 51, 65]⟩) 500), (.str (Str.mk ⟨[61, 51, 66]⟩) 504), (.str (Str.mk ⟨[61, 51, 67]⟩) 508), (.str (Str.mk ⟨[61, 51, 68]⟩) 512), (.str (Str.mk ⟨[61, 51, 69]⟩) 516), (.str (Str.mk ⟨[61, 51, 70]⟩) 520), (.str (Str.mk ⟨[61, 52, 48]⟩) 524), (.str (Str.mk ⟨[61, 52, 49]⟩) 528), (.str (Str.mk ⟨[61, 52, 50]⟩) 532), (.str (Str.mk ⟨[61, 52, 51]⟩) 536), (.str (Str.mk ⟨[61, 52, 52]⟩) 540), (.str (Str.mk ⟨[61, 52, 53]⟩) 544), (.str (Str.mk ⟨[61, 52, 54]⟩) 548), (.str (Str.mk ⟨[61, 52, 55]⟩) 552), (.str (Str.mk ⟨[61, 52, 56]⟩) 556), (.str (Str.mk ⟨[61, 52, 57]⟩) 560), (.str (Str.mk ⟨[61, 52, 65]⟩) 564), (.str (Str.mk ⟨[61, 52, 66]⟩) 568), (.str (Str.mk ⟨[61, 52, 67]⟩) 572), (.str (Str.mk ⟨[61, 52, 68]⟩) 576), (.str (Str.mk ⟨[61, 52, 69]⟩) 580), (.str (Str.mk ⟨[61, 52, 70]⟩) 584), (.str (Str.mk ⟨[61, 53, 48]⟩) 588), (.str (Str.mk ⟨[61, 53, 49]⟩) 592), (.str (Str.mk ⟨[61, 53, 50]⟩) 596), (.str (Str.mk ⟨[61, 53, 51]⟩) 600), (.str (Str.mk ⟨[61, 53, 52]⟩) 604), (.str (Str.mk ⟨[61, 53, 53]⟩) 608), (.str (Str.mk ⟨[61, 53, 54]⟩) 612), (.str (Str.mk ⟨[61, 53, 55]⟩) 616), (.str (Str.mk ⟨[61, 53, 56]⟩) 620), (.str (Str.mk ⟨[61, 53, 57]⟩) 624), (.str (Str.mk ⟨[61, 53, 65]⟩) 628), (.str (Str.mk ⟨[61, 53, 66]⟩) 632), (.str (Str.mk ⟨[61, 53, 67]⟩) 636), (.str (Str.mk ⟨[61, 53, 68]⟩) 640), (.str (Str.mk ⟨[61, 53, 69]⟩) 644), (.str (Str.mk ⟨[61, 53, 70]⟩) 648), (.str (Str.mk ⟨[61, 54, 48]⟩) 652), (.str (Str.mk ⟨[61, 54, 49]⟩) 656), (.str (Str.mk ⟨[61, 54, 50]⟩) 660), (.str (Str.mk ⟨[61, 54, 51]⟩) 664), (.str (Str.mk ⟨[61, 54, 52]⟩) 668), (.str (Str.mk ⟨[61, 54, 53]⟩) 672), (.str (Str.mk ⟨[61, 54, 54]⟩) 676), (.str (Str.mk ⟨[61, 54, 55]⟩) 680), (.str (Str.mk ⟨[61, 54, 56]⟩) 684), (.str (Str.mk ⟨[61, 54, 57]⟩) 688), (.str (Str.mk ⟨[61, 54, 65]⟩) 692), (.str (Str.mk ⟨[61, 54, 66]⟩) 696), (.str (Str.mk ⟨[61, 54, 67]⟩) 700), (.str (Str.mk ⟨[61, 54, 68]⟩) 704), (.str (Str.mk ⟨[61, 54, 69]⟩) 708), (.str (Str.mk ⟨[61, 54, 70]⟩) 712), (.str (Str.mk ⟨[61, 55, 48]⟩) 716), (.str (Str.mk ⟨[61, 55, 49]⟩) 720), (.str (Str.mk ⟨[61, 55, 50]⟩) 724), (.str (Str.mk ⟨[61, 55, 51]⟩) 728), (.str (Str.mk ⟨[61, 55, 52]⟩) 732), (.str (Str.mk ⟨[61, 55, 53]⟩) 736), (.str (Str.mk ⟨[61, 55, 54]⟩) 740), (.str (Str.mk ⟨[61, 55, 55]⟩) 744), (.str (Str.mk ⟨[61, 55, 56]⟩) 748), (.str (Str.mk ⟨[61, 55, 57]⟩) 752), (.str (Str.mk ⟨[61, 55, 65]⟩) 756), (.str (Str.mk ⟨[61, 55, 66]⟩) 760), (.str (Str.mk ⟨[61, 55, 67]⟩) 764), (.str (Str.mk ⟨[61, 55, 68]⟩) 768), (.str (Str.mk ⟨[61, 55, 69]⟩) 772), (.str (Str.mk ⟨[61, 55, 70]⟩) 776), (.str (Str.mk ⟨[61, 56, 48]⟩) 780), (.str (Str.mk ⟨[61, 56, 49]⟩) 784), (.str (Str.mk ⟨[61, 56, 50]⟩) 788), (.str (Str.mk ⟨[61, 56, 51]⟩) 792), (.str (Str.mk ⟨[61, 56, 52]⟩) 796), (.str (Str.mk ⟨[61, 56, 53]⟩) 800), (.str (Str.mk ⟨[61, 56, 54]⟩) 804), (.str (Str.mk ⟨[61, 56, 55]⟩) 808), (.str (Str.mk ⟨[61, 56, 56]⟩) 812), (.str (Str.mk ⟨[61, 56, 57]⟩) 816), (.str (Str.mk ⟨[61, 56, 65]⟩) 820), (.str (Str.mk ⟨[61, 56, 66]⟩) 824), (.str (Str.mk ⟨[61, 56, 67]⟩) 828), (.str (Str.mk ⟨[61, 56, 68]⟩) 832), (.str (Str.mk ⟨[61, 56, 69]⟩) 836), (.str (Str.mk ⟨[61, 56, 70]⟩) 840), (.str (Str.mk ⟨[61, 57, 48]⟩) 844), (.str (Str.mk ⟨[61, 57, 49]⟩) 848), (.str (Str.mk ⟨[61, 57, 50]⟩) 852), (.str (Str.mk ⟨[61, 57, 51]⟩) 856), (.str (Str.mk ⟨[61, 57, 52]⟩) 860), (.str (Str.mk ⟨[61, 57, 53]⟩) 864), (.str (Str.mk ⟨[61, 57, 54]⟩) 868), (.str (Str.mk ⟨[61, 57, 55]⟩) 872), (.str (Str.mk ⟨[61, 57, 56]⟩) 876), (.str (Str.mk ⟨[61, 57, 57]⟩) 880), (.str (Str.mk ⟨[61, 57, 65]⟩) 884), (.str (Str.mk ⟨[61, 57, 66]⟩) 888), (.str (Str.mk ⟨[61, 57, 67]⟩) 892), (.str (Str.mk ⟨[61, 57, 68]⟩) 896), (.str (Str.mk ⟨[61, 57, 69]⟩) 900), (.str (Str.mk ⟨[61, 57, 70]⟩) 904), (.str (Str.mk ⟨[61, 65, 48]⟩) 908), (.str (Str.mk ⟨[61, 65, 49]⟩) 912), (.str (Str.mk ⟨[61, 65, 50]⟩) 916), (.str (Str.mk ⟨[61, 65, 51]⟩) 920), (.str (Str.mk ⟨[61, 65, 52]⟩) 924), (.str (Str.mk ⟨[61, 65, 53]⟩) 928), (.str (Str.mk ⟨[61, 65, 54]⟩) 932), (.str (Str.mk ⟨[61, 65, 55]⟩) 936), (.str (Str.mk ⟨[61, 65, 56]⟩) 940), (.str (Str.mk ⟨[61, 65, 57]⟩) 944), (.str (Str.mk ⟨[61, 65, 65]⟩) 948), (.str (Str.mk ⟨[61, 65, 66]⟩) 952), (.str (Str.mk ⟨[61, 65, 67]⟩) 956), (.str (Str.mk ⟨[61, 65, 68]⟩) 960), (.str (Str.mk ⟨[61, 65, 69]⟩) 964), (.str (Str.mk ⟨[61, 65, 70]⟩) 968), (.str (Str.mk ⟨[61, 66, 48]⟩) 972), (.str (Str.mk ⟨[61, 66, 49]⟩) 976), (.str (Str.mk ⟨[61, 66, 50]⟩) 980), (.str (Str.mk ⟨[61, 66, 51]⟩) 984), (.str (Str.mk ⟨[61, 66, 52]⟩) 988), (.str (Str.mk ⟨[61, 66, 53]⟩) 992), (.str (Str.mk ⟨[61, 66, 54]⟩) 996), (.str (Str.mk ⟨[61, 66, 55]⟩) 1000), (.str (Str.mk ⟨[61, 66, 56]⟩) 1004), (.str (Str.mk ⟨[61, 66, 57]⟩) 1008), (.str (Str.mk ⟨[61, 66, 65]⟩) 1012), (.str (Str.mk ⟨[61, 66, 66]⟩) 1016), (.str (Str.mk ⟨[61, 66, 67]⟩) 1020), (.str (Str.mk ⟨[61, 66, 68]⟩) 1024), (.str (Str.mk ⟨[61, 66, 69]⟩) 1028), (.str (Str.mk ⟨[61, 66, 70]⟩) 1032), (.str (Str.mk ⟨[61, 67, 48]⟩) 1036), (.str (Str.mk ⟨[61, 67, 49]⟩) 1040), (.str (Str.mk ⟨[61, 67, 50]⟩) 1044), (.str (Str.mk ⟨[61, 67, 51]⟩) 1048), (.str (Str.mk ⟨[61, 67, 52]⟩) 1052), (.str (Str.mk ⟨[61, 67, 53]⟩) 1056), (.str (Str.mk ⟨[61, 67, 54]⟩) 1060), (.str (Str.mk ⟨[61, 67, 55]⟩) 1064), (.str (Str.mk ⟨[61, 67, 56]⟩) 1068), (.str (Str.mk ⟨[61, 67, 57]⟩) 1072), (.str (Str.mk ⟨[61, 67, 65]⟩) 1076), (.str (Str.mk ⟨[61, 67, 66]⟩) 1080), (.str (Str.mk ⟨[61, 67, 67]⟩) 1084), (.str (Str.mk ⟨[61, 67, 68]⟩) 1088), (.str (Str.mk ⟨[61, 67, 69]⟩) 1092), (.str (Str.mk ⟨[61, 67, 70]⟩) 1096), (.str (Str.mk ⟨[61, 68, 48]⟩) 1100), (.str (Str.mk ⟨[61, 68, 49]⟩) 1104), (.str (Str.mk ⟨[61, 68, 50]⟩) 1108), (.str (Str.mk ⟨[61, 68, 51]⟩) 1112), (.str (Str.mk ⟨[61, 68, 52]⟩) 1116), (.str (Str.mk ⟨[61, 68, 53]⟩) 1120), (.str (Str.mk ⟨[61, 68, 54]⟩) 1124), (.str (Str.mk ⟨[61, 68, 55]⟩) 1128), (.str (Str.mk ⟨[61, 68, 56]⟩) 1132), (.str (Str.mk ⟨[61, 68, 57]⟩) 1136), (.str (Str.mk ⟨[61, 68, 65]⟩) 1140), (.str (Str.mk ⟨[61, 68, 66]⟩) 1144), (.str (Str.mk ⟨[61, 68, 67]⟩) 1148), (.str (Str.mk ⟨[61, 68, 68]⟩) 1152), (.str (Str.mk ⟨[61, 68, 69]⟩) 1156), (.str (Str.mk ⟨[61, 68, 70]⟩) 1160), (.str (Str.mk ⟨[61, 69, 48]⟩) 1164), (.str (Str.mk ⟨[61, 69, 49]⟩) 1168), (.str (Str.mk ⟨[61, 69, 50]⟩) 1172), (.str (Str.mk ⟨[61, 69, 51]⟩) 1176), (.str (Str.mk ⟨[61, 69, 52]⟩) 1180), (.str (Str.mk ⟨[61, 69, 53]⟩) 1184), (.str (Str.mk ⟨[61, 69, 54]⟩) 1188), (.str (Str.mk ⟨[61, 69, 55]⟩) 1192), (.str (Str.mk ⟨[61, 69, 56]⟩) 1196), (.str (Str.mk ⟨[61, 69, 57]⟩) 1200), (.str (Str.mk ⟨[61, 69, 65]⟩) 1204), (.str (Str.mk ⟨[61, 69, 66]⟩) 1208), (.str (Str.mk ⟨[61, 69, 67]⟩) 1212), (.str (Str.mk ⟨[61, 69, 68]⟩) 1216), (.str (Str.mk ⟨[61, 69, 69]⟩) 1220), (.str (Str.mk ⟨[61, 69, 70]⟩) 1224), (.str (Str.mk ⟨[61, 70, 48]⟩) 1228), (.str (Str.mk ⟨[61, 70, 49]⟩) 1232), (.str (Str.mk ⟨[61, 70, 50]⟩) 1236), (.str (Str.mk ⟨[61, 70, 51]⟩) 1240), (.str (Str.mk ⟨[61, 70, 52]⟩) 1244), (.str (Str.mk ⟨[61, 70, 53]⟩) 1248), (.str (Str.mk ⟨[61, 70, 54]⟩) 1252), (.str (Str.mk ⟨[61, 70, 55]⟩) 1256), (.str (Str.mk ⟨[61, 70, 56]⟩) 1260), (.str (Str.mk ⟨[61, 70, 57]⟩) 1264), (.str (Str.mk ⟨[61, 70, 65]⟩) 1268), (.str (Str.mk ⟨[61, 70, 66]⟩) 1272), (.str (Str.mk ⟨[61, 70, 67]⟩) 1276), (.str (Str.mk ⟨[61, 70, 68]⟩) 1280), (.str (Str.mk ⟨[61, 70, 69]⟩) 1284), (.str (Str.mk ⟨[61, 70, 70]⟩) 1288)]⟩ 256), ⟨[]⟩⟩
noncomputable def ob60_4 (P : Params) : Obj := ⟨(.type "dict"), none, (.dict ⟨[]⟩ 2), ⟨[]⟩⟩
noncomputable def ob61_0 (P : Params) : Obj := ⟨(.type "tuple"), none, (.seq ⟨[]⟩ 0), ⟨[]⟩⟩
noncomputable def ob62_0 (P : Params) : Obj := ⟨(.type "StopIteration"), none, (.fields ⟨[(.ref 61), .none, .none, .none, (.bool false), .none]⟩), ⟨[]⟩⟩
noncomputable def hp5 (P : Params) : Heap := ⟨⟨[boot_o_0 P, boot_o_1 P, boot_o_2 P, ob3_2 P, boot_o_4 P, boot_o_5 P, boot_o_6 P, boot_o_7 P, boot_o_8 P, boot_o_9 P, boot_o_10 P, ob11_0 P, ob12_1 P, ob13_0 P, ob14_0 P, ob15_0 P, ob16_0 P, ob17_0 P, ob18_0 P, ob19_0 P, ob20_0 P, ob21_0 P, ob22_0 P, ob23_0 P, ob24_0 P, ob25_0 P, ob26_0 P, ob27_0 P, ob28_0 P, ob29_0 P, ob30_0 P, ob31_0 P, ob32_0 P, ob33_0 P, ob34_0 P, ob35_0 P, ob36_0 P, ob37_0 P, ob38_0 P, ob39_0 P, ob40_0 P, ob41_0 P, ob42_0 P, ob43_0 P, ob44_0 P, ob45_0 P, ob46_0 P, ob47_0 P, ob48_0 P, ob49_0 P, ob50_0 P, ob51_0 P, ob52_0 P, ob53_0 P, ob54_0 P, ob55_0 P, ob56_0 P, ob57_0 P, ob58_4 P, ob59_4 P, ob60_4 P, ob61_0 P, ob62_0 P]⟩, lifeOf P⟩
noncomputable def tk5 : Nat := 1290
noncomputable def pos5 : Pos := ⟨34, 0, 34, 11⟩
noncomputable def ob3_3 (P : Params) : Obj := ⟨(.type "dict"), none, (.dict ⟨[⟨PyData.keyHash P (Str.ofString "__name__"), (.str (Str.ofString "__name__") 165), (.str (Str.ofString "cpy313.email.quoprimime") 1305)⟩, ⟨PyData.keyHash P (Str.ofString "__doc__"), (.str (Str.ofString "__doc__") 166), .none⟩, ⟨PyData.keyHash P (Str.ofString "__package__"), (.str (Str.ofString "__package__") 167), .none⟩, ⟨PyData.keyHash P (Str.ofString "__loader__"), (.str (Str.ofString "__loader__") 168), (.builtin "__main__.__loader__#opaque")⟩, ⟨PyData.keyHash P (Str.ofString "__spec__"), (.str (Str.ofString "__spec__") 169), .none⟩, ⟨PyData.keyHash P (Str.ofString "__annotations__"), (.str (Str.ofString "__annotations__") 170), (.ref 6)⟩, ⟨PyData.keyHash P (Str.ofString "__builtins__"), (.str (Str.ofString "__builtins__") 171), (.ref 4)⟩, ⟨PyData.keyHash P (Str.ofString "__file__"), (.str (Str.ofString "__file__") 173), (.str (Str.ofString "/claim/cut.py") 172)⟩, ⟨PyData.keyHash P (Str.ofString "__cached__"), (.str (Str.ofString "__cached__") 174), .none⟩, ⟨PyData.keyHash P (Str.ofString "TupleComp"), (.str (Str.ofString "TupleComp") 230), (.ref 38)⟩, ⟨PyData.keyHash P (Str.ofString "add_func_stats"), (.str (Str.ofString "add_func_stats") 248), (.ref 49)⟩, ⟨PyData.keyHash P (Str.ofString "add_callers"), (.str (Str.ofString "add_callers") 259), (.ref 56)⟩, ⟨PyData.keyHash P (Str.ofString "NL"), (.str (Str.ofString "NL") 261), (.str (Str.ofString "\n") 260)⟩, ⟨PyData.keyHash P (Str.ofString "_QUOPRI_MAP"), (.str (Str.ofString "_QUOPRI_MAP") 1289), (.ref 59)⟩, ⟨PyData.keyHash P (Str.ofString "_QUOPRI_HEADER_MAP"), (.str (Str.ofString "_QUOPRI_HEADER_MAP") 1290), (.ref 64)⟩, ⟨PyData.keyHash P (Str.ofString "_QUOPRI_BODY_MAP"), (.str (Str.ofString "_QUOPRI_BODY_MAP") 1291), (.ref 66)⟩, ⟨PyData.keyHash P (Str.ofString "ascii_lowercase"), (.str (Str.ofString "ascii_lowercase") 1293), (.str (Str.ofString "abcdefghijklmnopqrstuvwxyz") 1292)⟩, ⟨PyData.keyHash P (Str.ofString "ascii_uppercase"), (.str (Str.ofString "ascii_uppercase") 1295), (.str (Str.ofString "ABCDEFGHIJKLMNOPQRSTUVWXYZ") 1294)⟩, ⟨PyData.keyHash P (Str.ofString "ascii_letters"), (.str (Str.ofString "ascii_letters") 1297), (.str (Str.ofString "abcdefghijklmnopqrstuvwxyzABCDEFGHIJKLMNOPQRSTUVWXYZ") 1296)⟩, ⟨PyData.keyHash P (Str.ofString "digits"), (.str (Str.ofString "digits") 1299), (.str (Str.ofString "0123456789") 1298)⟩, ⟨PyData.keyHash P (Str.ofString "hexdigits"), (.str (Str.ofString "hexdigits") 1304), (.str (Str.ofString "0123456789abcdefABCDEF") 1303)⟩]⟩ 21), ⟨[]⟩⟩
noncomputable def ob63_0 (P : Params) : Obj := ⟨(.type "slice"), none, (.fields ⟨[.none, .none, .none]⟩), ⟨[]⟩⟩
noncomputable def ob64_0 (P : Params) : Obj := ⟨(.type "list"), none, (.seq ⟨[(.str (Str.mk ⟨[61, 48, 48]⟩) 268), (.str (Str.mk ⟨[61, 48, 49]⟩) 272), (.str (Str.mk ⟨[61, 48, 50]⟩) 276), (.str (Str.mk ⟨[61, 48, 51]⟩) 280), (.str (Str.mk ⟨[61, 48, 52]⟩) 284), (.str (Str.mk ⟨[61, 48, 53]⟩) 288), (.str (Str.mk ⟨[61, 48, 54]⟩) 292), (.str (Str.mk ⟨[61, 48, 55]⟩) 296), (.str (Str.mk ⟨[61, 48, 56]⟩) 300), (.str (Str.mk ⟨[61, 48, 57]⟩) 304), (.str (Str.mk ⟨[61, 48, 65]⟩) 308), (.str (Str.mk ⟨[61, 48, 66]⟩) 312), (.str (Str.mk ⟨[61, 48, 67]⟩) 316), (.str (Str.mk ⟨[61, 48, 68]⟩) 320), (.str (Str.mk ⟨[61, 48, 69]⟩) 324), (.str (Str.mk ⟨[61, 48, 70]⟩) 328), (.str (Str.mk ⟨[61, 49, 48]⟩) 332), (.str (Str.mk ⟨[61, 49, 49]⟩) 336), (.str (Str.mk ⟨[61, 49, 50]⟩) 340), (.str (Str.mk ⟨[61, 49, 51]⟩) 344), (.str (Str.mk ⟨[61, 49, 52]⟩) 348), (.str (Str.mk ⟨[61, 49, 53]⟩) 352), (.str (Str.mk ⟨[61, 49, 54]⟩) 356), (.str (Str.mk ⟨[61, 49, 55]⟩) 360), (.str (Str.mk ⟨[61, 49, 56]⟩) 364), (.str (Str.mk ⟨[61, 49, 57]⟩) 368), (.str (Str.mk ⟨[61, 49, 65]⟩) 372), (.str (Str.mk ⟨[61, 49, 66]⟩) 376), (.str (Str.mk ⟨[61, 49, 67]⟩) 380), (.str (Str.mk ⟨[61, 49, 68]⟩) 384), (.str (Str.mk ⟨[61, 49, 69]⟩) 388), (.str (Str.mk ⟨[61, 49, 70]⟩) 392), (.str (Str.mk ⟨[61, 50, 48]⟩) 396), (.str (Str.mk ⟨[61, 50, 49]⟩) 400), (.str (Str.mk ⟨[61, 50, 50]⟩) 404), (.str (Str.mk ⟨[61, 50, 51]⟩) 408), (.str (Str.mk ⟨[61, 50, 52]⟩) 412), (.str (Str.mk ⟨[61, 50, 53]⟩) 416), (.str (Str.mk ⟨[61, 50, 54]⟩) 420), (.str (Str.mk ⟨[61, 50, 55]⟩) 424), (.str (Str.mk ⟨[61, 50, 56]⟩) 428), (.str (Str.mk ⟨[61, 50, 57]⟩) 432), (.str (Str.mk ⟨[61, 50, 65]⟩) 436), (.str (Str.mk ⟨[61, 50, 66]⟩) 440), (.str (Str.mk ⟨[61, 50, 67]⟩) 444), (.str (Str.mk ⟨[61, 50, 68]⟩) 448), (.str (Str.mk ⟨[61, 50, 69]⟩) 452), (.str (Str.mk ⟨[61, 50, 70]⟩) 456), (.str (Str.mk ⟨[61, 51, 48]⟩) 460), (.str (Str.mk ⟨[61, 51, 49]⟩) 464), (.str (Str.mk ⟨[61, 51, 50]⟩) 468), (.str (Str.mk ⟨[61, 51, 51]⟩) 472), (.str (Str.mk ⟨[61, 51, 52]⟩) 476), (.str (Str.mk ⟨[61, 51, 53]⟩) 480), (.str (Str.mk ⟨[61, 51, 54]⟩) 484), (.str (Str.mk ⟨[61, 51, 55]⟩) 488), (.str (Str.mk ⟨[61, 51, 56]⟩) 492), (.str (Str.mk ⟨[61, 51, 57]⟩) 496), (.str (Str.mk ⟨[61, 51, 65]⟩) 500), (.str (Str.mk ⟨[61, 51, 66]⟩) 504), (.str (Str.mk ⟨[61, 51, 67]⟩) 508), (.str (Str.mk ⟨[61, 51, 68]⟩) 512), (.str (Str.mk ⟨[61, 51, 69]⟩) 516), (.str (Str.mk ⟨[61, 51, 70]⟩) 520), (.str (Str.mk ⟨[61, 52, 48]⟩) 524), (.str (Str.mk ⟨[61, 52, 49]⟩) 528), (.str (Str.mk ⟨[61, 52, 50]⟩) 532), (.str (Str.mk ⟨[61, 52, 51]⟩) 536), (.str (Str.mk ⟨[61, 52, 52]⟩) 540), (.str (Str.mk ⟨[61, 52, 53]⟩) 544), (.str (Str.mk ⟨[61, 52, 54]⟩) 548), (.str (Str.mk ⟨[61, 52, 55]⟩) 552), (.str (Str.mk ⟨[61, 52, 56]⟩) 556), (.str (Str.mk ⟨[61, 52, 57]⟩) 560), (.str (Str.mk ⟨[61, 52, 65]⟩) 564), (.str (Str.mk ⟨[61, 52, 66]⟩) 568), (.str (Str.mk ⟨[61, 52, 67]⟩) 572), (.str (Str.mk ⟨[61, 52, 68]⟩) 576), (.str (Str.mk ⟨[61, 52, 69]⟩) 580), (.str (Str.mk ⟨[61, 52, 70]⟩) 584), (.str (Str.mk ⟨[61, 53, 48]⟩) 588), (.str (Str.mk ⟨[61, 53, 49]⟩) 592), (.str (Str.mk ⟨[61, 53, 50]⟩) 596), (.str (Str.mk ⟨[61, 53, 51]⟩) 600), (.str (Str.mk ⟨[61, 53, 52]⟩) 604), (.str (Str.mk ⟨[61, 53, 53]⟩) 608), (.str (Str.mk ⟨[61, 53, 54]⟩) 612), (.str (Str.mk ⟨[61, 53, 55]⟩) 616), (.str (Str.mk ⟨[61, 53, 56]⟩) 620), (.str (Str.mk ⟨[61, 53, 57]⟩) 624), (.str (Str.mk ⟨[61, 53, 65]⟩) 628), (.str (Str.mk ⟨[61, 53, 66]⟩) 632), (.str (Str.mk ⟨[61, 53, 67]⟩) 636), (.str (Str.mk ⟨[61, 53, 68]⟩) 640), (.str (Str.mk ⟨[61, 53, 69]⟩) 644), (.str (Str.mk ⟨[61, 53, 70]⟩) 648), (.str (Str.mk ⟨[61, 54, 48]⟩) 652), (.str (Str.mk ⟨[61, 54, 49]⟩) 656), (.str (Str.mk ⟨[61, 54, 50]⟩) 660), (.str (Str.mk ⟨[61, 54, 51]⟩) 664), (.str (Str.mk ⟨[61, 54, 52]⟩) 668), (.str (Str.mk ⟨[61, 54, 53]⟩) 672), (.str (Str.mk ⟨[61, 54, 54]⟩) 676), (.str (Str.mk ⟨[61, 54, 55]⟩) 680), (.str (Str.mk ⟨[61, 54, 56]⟩) 684), (.str (Str.mk ⟨[61, 54, 57]⟩) 688), (.str (Str.mk ⟨[61, 54, 65]⟩) 692), (.str (Str.mk ⟨[61, 54, 66]⟩) 696), (.str (Str.mk ⟨[61, 54, 67]⟩) 700), (.str (Str.mk ⟨[61, 54, 68]⟩) 704), (.str (Str.mk ⟨[61, 54, 69]⟩) 708), (.str (Str.mk ⟨[61, 54, 70]⟩) 712), (.str (Str.mk ⟨[61, 55, 48]⟩) 716), (.str (Str.mk ⟨[61, 55, 49]⟩) 720), (.str (Str.mk ⟨[61, 55, 50]⟩) 724), (.str (Str.mk ⟨[61, 55, 51]⟩) 728), (.str (Str.mk ⟨[61, 55, 52]⟩) 732), (.str (Str.mk ⟨[61, 55, 53]⟩) 736), (.str (Str.mk ⟨[61, 55, 54]⟩) 740), (.str (Str.mk ⟨[61, 55, 55]⟩) 744), (.str (Str.mk ⟨[61, 55, 56]⟩) 748), (.str (Str.mk ⟨[61, 55, 57]⟩) 752), (.str (Str.mk ⟨[61, 55, 65]⟩) 756), (.str (Str.mk ⟨[61, 55, 66]⟩) 760), (.str (Str.mk ⟨[61, 55, 67]⟩) 764), (.str (Str.mk ⟨[61, 55, 68]⟩) 768), (.str (Str.mk ⟨[61, 55, 69]⟩) 772), (.str (Str.mk ⟨[61, 55, 70]⟩) 776), (.str (Str.mk ⟨[61, 56, 48]⟩) 780), (.str (Str.mk ⟨[61, 56, 49]⟩) 784), (.str (Str.mk ⟨[61, 56, 50]⟩) 788), (.str (Str.mk ⟨[61, 56, 51]⟩) 792), (.str (Str.mk ⟨[61, 56, 52]⟩) 796), (.str (Str.mk ⟨[61, 56, 53]⟩) 800), (.str (Str.mk ⟨[61, 56, 54]⟩) 804), (.str (Str.mk ⟨[61, 56, 55]⟩) 808), (.str (Str.mk ⟨[61, 56, 56]⟩) 812), (.str (Str.mk ⟨[61, 56, 57]⟩) 816), (.str (Str.mk ⟨[61, 56, 65]⟩) 820), (.str (Str.mk ⟨[61, 56, 66]⟩) 824), (.str (Str.mk ⟨[61, 56, 67]⟩) 828), (.str (Str.mk ⟨[61, 56, 68]⟩) 832), (.str (Str.mk ⟨[61, 56, 69]⟩) 836), (.str (Str.mk ⟨[61, 56, 70]⟩) 840), (.str (Str.mk ⟨[61, 57, 48]⟩) 844), (.str (Str.mk ⟨[61, 57, 49]⟩) 848), (.str (Str.mk ⟨[61, 57, 50]⟩) 852), (.str (Str.mk ⟨[61, 57, 51]⟩) 856), (.str (Str.mk ⟨[61, 57, 52]⟩) 860), (.str (Str.mk ⟨[61, 57, 53]⟩) 864), (.str (Str.mk ⟨[61, 57, 54]⟩) 868), (.str (Str.mk ⟨[61, 57, 55]⟩) 872), (.str (Str.mk ⟨[61, 57, 56]⟩) 876), (.str (Str.mk ⟨[61, 57, 57]⟩) 880), (.str (Str.mk ⟨[61, 57, 65]⟩) 884), (.str (Str.mk ⟨[61, 57, 66]⟩) 888), (.str (Str.mk ⟨[61, 57, 67]⟩) 892), (.str (Str.mk ⟨[61, 57, 68]⟩) 896), (.str (Str.mk ⟨[61, 57, 69]⟩) 900), (.str (Str.mk ⟨[61, 57, 70]⟩) 904), (.str (Str.mk ⟨[61, 65, 48]⟩) 908), (.str (Str.mk ⟨[61, 65, 49]⟩) 912), (.str (Str.mk ⟨[61, 65, 50]⟩) 916), (.str (Str.mk ⟨[61, 65, 51]⟩) 920), (.str (Str.mk ⟨[61, 65, 52]⟩) 924), (.str (Str.mk ⟨[61, 65, 53]⟩) 928), (.str (Str.mk ⟨[61, 65, 54]⟩) 932), (.str (Str.mk ⟨[61, 65, 55]⟩) 936), (.str (Str.mk ⟨[61, 65, 56]⟩) 940), (.str (Str.mk ⟨[61, 65, 57]⟩) 944), (.str (Str.mk ⟨[61, 65, 65]⟩) 948), (.str (Str.mk ⟨[61, 65, 66]⟩) 952), (.str (Str.mk ⟨[61, 65, 67]⟩) 956), (.str (Str.mk ⟨[61, 65, 68]⟩) 960), (.str (Str.mk ⟨[61, 65, 69]⟩) 964), (.str (Str.mk ⟨[61, 65, 70]⟩) 968), (.str (Str.mk ⟨[61, 66, 48]⟩) 972), (.str (Str.mk ⟨[61, 66, 49]⟩) 976), (.str (Str.mk ⟨[61, 66, 50]⟩) 980), (.str (Str.mk ⟨[61, 66, 51]⟩) 984), (.str (Str.mk ⟨[61, 66, 52]⟩) 988), (.str (Str.mk ⟨[61, 66, 53]⟩) 992), (.str (Str.mk ⟨[61, 66, 54]⟩) 996), (.str (Str.mk ⟨[61, 66, 55]⟩) 1000), (.str (Str.mk ⟨[61, 66, 56]⟩) 1004), (.str (Str.mk ⟨[61, 66, 57]⟩) 1008), (.str (Str.mk ⟨[61, 66, 65]⟩) 1012), (.str (Str.mk ⟨[61, 66, 66]⟩) 1016), (.str (Str.mk ⟨[61, 66, 67]⟩) 1020), (.str (Str.mk ⟨[61, 66, 68]⟩) 1024), (.str (Str.mk ⟨[61, 66, 69]⟩) 1028), (.str (Str.mk ⟨[61, 66, 70]⟩) 1032), (.str (Str.mk ⟨[61, 67, 48]⟩) 1036), (.str (Str.mk ⟨[61, 67, 49]⟩) 1040), (.str (Str.mk ⟨[61, 67, 50]⟩) 1044), (.str (Str.mk ⟨[61, 67, 51]⟩) 1048), (.str (Str.mk ⟨[61, 67, 52]⟩) 1052), (.str (Str.mk ⟨[61, 67, 53]⟩) 1056), (.str (Str.mk ⟨[61, 67, 54]⟩) 1060), (.str (Str.mk ⟨[61, 67, 55]⟩) 1064), (.str (Str.mk ⟨[61, 67, 56]⟩) 1068), (.str (Str.mk ⟨[61, 67, 57]⟩) 1072), (.str (Str.mk ⟨[61, 67, 65]⟩) 1076), (.str (Str.mk ⟨[61, 67, 66]⟩) 1080), (.str (Str.mk ⟨[61, 67, 67]⟩) 1084), (.str (Str.mk ⟨[61, 67, 68]⟩) 1088), (.str (Str.mk ⟨[61, 67, 69]⟩) 1092), (.str (Str.mk ⟨[61, 67, 70]⟩) 1096), (.str (Str.mk ⟨[61, 68, 48]⟩) 1100), (.str (Str.mk ⟨[61, 68, 49]⟩) 1104), (.str (Str.mk ⟨[61, 68, 50]⟩) 1108), (.str (Str.mk ⟨[61, 68, 51]⟩) 1112), (.str (Str.mk ⟨[61, 68, 52]⟩) 1116), (.str (Str.mk ⟨[61, 68, 53]⟩) 1120), (.str (Str.mk ⟨[61, 68, 54]⟩) 1124), (.str (Str.mk ⟨[61, 68, 55]⟩) 1128), (.str (Str.mk ⟨[61, 68, 56]⟩) 1132), (.str (Str.mk ⟨[61, 68, 57]⟩) 1136), (.str (Str.mk ⟨[61, 68, 65]⟩) 1140), (.str (Str.mk ⟨[61, 68, 66]⟩) 1144), (.str (Str.mk ⟨[61, 68, 67]⟩) 1148), (.str (Str.mk ⟨[61, 68, 68]⟩) 1152), (.str (Str.mk ⟨[61, 68, 69]⟩) 1156), (.str (Str.mk ⟨[61, 68, 70]⟩) 1160), (.str (Str.mk ⟨[61, 69, 48]⟩) 1164), (.str (Str.mk ⟨[61, 69, 49]⟩) 1168), (.str (Str.mk ⟨[61, 69, 50]⟩) 1172), (.str (Str.mk ⟨[61, 69, 51]⟩) 1176), (.str (Str.mk ⟨[61, 69, 52]⟩) 1180), (.str (Str.mk ⟨[61, 69, 53]⟩) 1184), (.str (Str.mk ⟨[61, 69, 54]⟩) 1188), (.str (Str.mk ⟨[61, 69, 55]⟩) 1192), (.str (Str.mk ⟨[61, 69, 56]⟩) 1196), (.str (Str.mk ⟨[61, 69, 57]⟩) 1200), (.str (Str.mk ⟨[61, 69, 65]⟩) 1204), (.str (Str.mk ⟨[61, 69, 66]⟩) 1208), (.str (Str.mk ⟨[61, 69, 67]⟩) 1212), (.str (Str.mk ⟨[61, 69, 68]⟩) 1216), (.str (Str.mk ⟨[61, 69, 69]⟩) 1220), (.str (Str.mk ⟨[61, 69, 70]⟩) 1224), (.str (Str.mk ⟨[61, 70, 48]⟩) 1228), (.str (Str.mk ⟨[61, 70, 49]⟩) 1232), (.str (Str.mk ⟨[61, 70, 50]⟩) 1236), (.str (Str.mk ⟨[61, 70, 51]⟩) 1240), (.str (Str.mk ⟨[61, 70, 52]⟩) 1244), (.str (Str.mk ⟨[61, 70, 53]⟩) 1248), (.str (Str.mk ⟨[61, 70, 54]⟩) 1252), (.str (Str.mk ⟨[61, 70, 55]⟩) 1256), (.str (Str.mk ⟨[61, 70, 56]⟩) 1260), (.str (Str.mk ⟨[61, 70, 57]⟩) 1264), (.str (Str.mk ⟨[61, 70, 65]⟩) 1268), (.str (Str.mk ⟨[61, 70, 66]⟩) 1272), (.str (Str.mk ⟨[61, 70, 67]⟩) 1276), (.str (Str.mk ⟨[61, 70, 68]⟩) 1280), (.str (Str.mk ⟨[61, 70, 69]⟩) 1284), (.str (Str.mk ⟨[61, 70, 70]⟩) 1288)]⟩ 0), ⟨[]⟩⟩
noncomputable def ob65_0 (P : Params) : Obj := ⟨(.type "slice"), none, (.fields ⟨[.none, .none, .none]⟩), ⟨[]⟩⟩
noncomputable def ob66_0 (P : Params) : Obj := ⟨(.type "list"), none, (.seq ⟨[(.str (Str.mk ⟨[61, 48, 48]⟩) 268), (.str (Str.mk ⟨[61, 48, 49]⟩) 272), (.str (Str.mk ⟨[61, 48, 50]⟩) 276), (.str (Str.mk ⟨[61, 48, 51]⟩) 280), (.str (Str.mk ⟨[61, 48, 52]⟩) 284), (.str (Str.mk ⟨[61, 48, 53]⟩) 288), (.str (Str.mk ⟨[61, 48, 54]⟩) 292), (.str (Str.mk ⟨[61, 48, 55]⟩) 296), (.str (Str.mk ⟨[61, 48, 56]⟩) 300), (.str (Str.mk ⟨[61, 48, 57]⟩) 304), (.str (Str.mk ⟨[61, 48, 65]⟩) 308), (.str (Str.mk ⟨[61, 48, 66]⟩) 312), (.str (Str.mk ⟨[61, 48, 67]⟩) 316), (.str (Str.mk ⟨[61, 48, 68]⟩) 320), (.str (Str.mk ⟨[61, 48, 69]⟩) 324), (.str (Str.mk ⟨[61, 48, 70]⟩) 328), (.str (Str.mk ⟨[61, 49, 48]⟩) 332), (.str (Str.mk ⟨[61, 49, 49]⟩) 336), (.str (Str.mk ⟨[61, 49, 50]⟩) 340), (.str (Str.mk ⟨[61, 49, 51]⟩) 344), (.str (Str.mk ⟨[61, 49, 52]⟩) 348), (.str (Str.mk ⟨[61, 49, 53]⟩) 352), (.str (Str.mk ⟨[61, 49, 54]⟩) 356), (.str (Str.mk ⟨[61, 49, 55]⟩) 360), (.str (Str.mk ⟨[61, 49, 56]⟩) 364), (.str (Str.mk ⟨[61, 49, 57]⟩) 368), (.str (Str.mk ⟨[61, 49, 65]⟩) 372), (.str (Str.mk ⟨[61, 49, 66]⟩) 376), (.str (Str.mk ⟨[61, 49, 67]⟩) 380), (.str (Str.mk ⟨[61, 49, 68]⟩) 384), (.str (Str.mk ⟨[61, 49, 69]⟩) 388), (.str (Str.mk ⟨[61, 49, 70]⟩) 392), (.str (Str.mk ⟨[61, 50, 48]⟩) 396), (.str (Str.mk ⟨[61, 50, 49]⟩) 400), (.str (Str.mk ⟨[61, 50, 50]⟩) 404), (.str (Str.mk ⟨[61, 50, 51]⟩) 408), (.str (Str.mk ⟨[61, 50, 52]⟩) 412), (.str (Str.mk ⟨[61, 50, 53]⟩) 416), (.str (Str.mk ⟨[61, 50, 54]⟩) 420), (.str (Str.mk ⟨[61, 50, 55]⟩) 424), (.str (Str.mk ⟨[61, 50, 56]⟩) 428), (.str (Str.mk ⟨[61, 50, 57]⟩) 432), (.str (Str.mk ⟨[61, 50, 65]⟩) 436), (.str (Str.mk ⟨[61, 50, 66]⟩) 440), (.str (Str.mk ⟨[61, 50, 67]⟩) 444), (.str (Str.mk ⟨[61, 50, 68]⟩) 448), (.str (Str.mk ⟨[61, 50, 69]⟩) 452), (.str (Str.mk ⟨[61, 50, 70]⟩) 456), (.str (Str.mk ⟨[61, 51, 48]⟩) 460), (.str (Str.mk ⟨[61, 51, 49]⟩) 464), (.str (Str.mk ⟨[61, 51, 50]⟩) 468), (.str (Str.mk ⟨[61, 51, 51]⟩) 472), (.str (Str.mk ⟨[61, 51, 52]⟩) 476), (.str (Str.mk ⟨[61, 51, 53]⟩) 480), (.str (Str.mk ⟨[61, 51, 54]⟩) 484), (.str (Str.mk ⟨[61, 51, 55]⟩) 488), (.str (Str.mk ⟨[61, 51, 56]⟩) 492), (.str (Str.mk ⟨[61, 51, 57]⟩) 496), (.str (Str.mk ⟨[61, 51, 65]⟩) 500), (.str (Str.mk ⟨[61, 51, 66]⟩) 504), (.str (Str.mk ⟨[61, 51, 67]⟩) 508), (.str (Str.mk ⟨[61, 51, 68]⟩) 512), (.str (Str.mk ⟨[61, 51, 69]⟩) 516), (.str (Str.mk ⟨[61, 51, 70]⟩) 520), (.str (Str.mk ⟨[61, 52, 48]⟩) 524), (.str (Str.mk ⟨[61, 52, 49]⟩) 528), (.str (Str.mk ⟨[61, 52, 50]⟩) 532), (.str (Str.mk ⟨[61, 52, 51]⟩) 536), (.str (Str.mk ⟨[61, 52, 52]⟩) 540), (.str (Str.mk ⟨[61, 52, 53]⟩) 544), (.str (Str.mk ⟨[61, 52, 54]⟩) 548), (.str (Str.mk ⟨[61, 52, 55]⟩) 552), (.str (Str.mk ⟨[61, 52, 56]⟩) 556), (.str (Str.mk ⟨[61, 52, 57]⟩) 560), (.str (Str.mk ⟨[61, 52, 65]⟩) 564), (.str (Str.mk ⟨[61, 52, 66]⟩) 568), (.str (Str.mk ⟨[61, 52, 67]⟩) 572), (.str (Str.mk ⟨[61, 52, 68]⟩) 576), (.str (Str.mk ⟨[61, 52, 69]⟩) 580), (.str (Str.mk ⟨[61, 52, 70]⟩) 584), (.str (Str.mk ⟨[61, 53, 48]⟩) 588), (.str (Str.mk ⟨[61, 53, 49]⟩) 592), (.str (Str.mk ⟨[61, 53, 50]⟩) 596), (.str (Str.mk ⟨[61, 53, 51]⟩) 600), (.str (Str.mk ⟨[61, 53, 52]⟩) 604), (.str (Str.mk ⟨[61, 53, 53]⟩) 608), (.str (Str.mk ⟨[61, 53, 54]⟩) 612), (.str (Str.mk ⟨[61, 53, 55]⟩) 616), (.str (Str.mk ⟨[61, 53, 56]⟩) 620), (.str (Str.mk ⟨[61, 53, 57]⟩) 624), (.str (Str.mk ⟨[61, 53, 65]⟩) 628), (.str (Str.mk ⟨[61, 53, 66]⟩) 632), (.str (Str.mk ⟨[61, 53, 67]⟩) 636), (.str (Str.mk ⟨[61, 53, 68]⟩) 640), (.str (Str.mk ⟨[61, 53, 69]⟩) 644), (.str (Str.mk ⟨[61, 53, 70]⟩) 648), (.str (Str.mk ⟨[61, 54, 48]⟩) 652), (.str (Str.mk ⟨[61, 54, 49]⟩) 656), (.str (Str.mk ⟨[61, 54, 50]⟩) 660), (.str (Str.mk ⟨[61, 54, 51]⟩) 664), (.str (Str.mk ⟨[61, 54, 52]⟩) 668), (.str (Str.mk ⟨[61, 54, 53]⟩) 672), (.str (Str.mk ⟨[61, 54, 54]⟩) 676), (.str (Str.mk ⟨[61, 54, 55]⟩) 680), (.str (Str.mk ⟨[61, 54, 56]⟩) 684), (.str (Str.mk ⟨[61, 54, 57]⟩) 688), (.str (Str.mk ⟨[61, 54, 65]⟩) 692), (.str (Str.mk ⟨[61, 54, 66]⟩) 696), (.str (Str.mk ⟨[61, 54, 67]⟩) 700), (.str (Str.mk ⟨[61, 54, 68]⟩) 704), (.str (Str.mk ⟨[61, 54, 69]⟩) 708), (.str (Str.mk ⟨[61, 54, 70]⟩) 712), (.str (Str.mk ⟨[61, 55, 48]⟩) 716), (.str (Str.mk ⟨[61, 55, 49]⟩) 720), (.str (Str.mk ⟨[61, 55, 50]⟩) 724), (.str (Str.mk ⟨[61, 55, 51]⟩) 728), (.str (Str.mk ⟨[61, 55, 52]⟩) 732), (.str (Str.mk ⟨[61, 55, 53]⟩) 736), (.str (Str.mk ⟨[61, 55, 54]⟩) 740), (.str (Str.mk ⟨[61, 55, 55]⟩) 744), (.str (Str.mk ⟨[61, 55, 56]⟩) 748), (.str (Str.mk ⟨[61, 55, 57]⟩) 752), (.str (Str.mk ⟨[61, 55, 65]⟩) 756), (.str (Str.mk ⟨[61, 55, 66]⟩) 760), (.str (Str.mk ⟨[61, 55, 67]⟩) 764), (.str (Str.mk ⟨[61, 55, 68]⟩) 768), (.str (Str.mk ⟨[61, 55, 69]⟩) 772), (.str (Str.mk ⟨[61, 55, 70]⟩) 776), (.str (Str.mk ⟨[61, 56, 48]⟩) 780), (.str (Str.mk ⟨[61, 56, 49]⟩) 784), (.str (Str.mk ⟨[61, 56, 50]⟩) 788), (.str (Str.mk ⟨[61, 56, 51]⟩) 792), (.str (Str.mk ⟨[61, 56, 52]⟩) 796), (.str (Str.mk ⟨[61, 56, 53]⟩) 800), (.str (Str.mk ⟨[61, 56, 54]⟩) 804), (.str (Str.mk ⟨[61, 56, 55]⟩) 808), (.str (Str.mk ⟨[61, 56, 56]⟩) 812), (.str (Str.mk ⟨[61, 56, 57]⟩) 816), (.str (Str.mk ⟨[61, 56, 65]⟩) 820), (.str (Str.mk ⟨[61, 56, 66]⟩) 824), (.str (Str.mk ⟨[61, 56, 67]⟩) 828), (.str (Str.mk ⟨[61, 56, 68]⟩) 832), (.str (Str.mk ⟨[61, 56, 69]⟩) 836), (.str (Str.mk ⟨[61, 56, 70]⟩) 840), (.str (Str.mk ⟨[61, 57, 48]⟩) 844), (.str (Str.mk ⟨[61, 57, 49]⟩) 848), (.str (Str.mk ⟨[61, 57, 50]⟩) 852), (.str (Str.mk ⟨[61, 57, 51]⟩) 856), (.str (Str.mk ⟨[61, 57, 52]⟩) 860), (.str (Str.mk ⟨[61, 57, 53]⟩) 864), (.str (Str.mk ⟨[61, 57, 54]⟩) 868), (.str (Str.mk ⟨[61, 57, 55]⟩) 872), (.str (Str.mk ⟨[61, 57, 56]⟩) 876), (.str (Str.mk ⟨[61, 57, 57]⟩) 880), (.str (Str.mk ⟨[61, 57, 65]⟩) 884), (.str (Str.mk ⟨[61, 57, 66]⟩) 888), (.str (Str.mk ⟨[61, 57, 67]⟩) 892), (.str (Str.mk ⟨[61, 57, 68]⟩) 896), (.str (Str.mk ⟨[61, 57, 69]⟩) 900), (.str (Str.mk ⟨[61, 57, 70]⟩) 904), (.str (Str.mk ⟨[61, 65, 48]⟩) 908), (.str (Str.mk ⟨[61, 65, 49]⟩) 912), (.str (Str.mk ⟨[61, 65, 50]⟩) 916), (.str (Str.mk ⟨[61, 65, 51]⟩) 920), (.str (Str.mk ⟨[61, 65, 52]⟩) 924), (.str (Str.mk ⟨[61, 65, 53]⟩) 928), (.str (Str.mk ⟨[61, 65, 54]⟩) 932), (.str (Str.mk ⟨[61, 65, 55]⟩) 936), (.str (Str.mk ⟨[61, 65, 56]⟩) 940), (.str (Str.mk ⟨[61, 65, 57]⟩) 944), (.str (Str.mk ⟨[61, 65, 65]⟩) 948), (.str (Str.mk ⟨[61, 65, 66]⟩) 952), (.str (Str.mk ⟨[61, 65, 67]⟩) 956), (.str (Str.mk ⟨[61, 65, 68]⟩) 960), (.str (Str.mk ⟨[61, 65, 69]⟩) 964), (.str (Str.mk ⟨[61, 65, 70]⟩) 968), (.str (Str.mk ⟨[61, 66, 48]⟩) 972), (.str (Str.mk ⟨[61, 66, 49]⟩) 976), (.str (Str.mk ⟨[61, 66, 50]⟩) 980), (.str (Str.mk ⟨[61, 66, 51]⟩) 984), (.str (Str.mk ⟨[61, 66, 52]⟩) 988), (.str (Str.mk ⟨[61, 66, 53]⟩) 992), (.str (Str.mk ⟨[61, 66, 54]⟩) 996), (.str (Str.mk ⟨[61, 66, 55]⟩) 1000), (.str (Str.mk ⟨[61, 66, 56]⟩) 1004), (.str (Str.mk ⟨[61, 66, 57]⟩) 1008), (.str (Str.mk ⟨[61, 66, 65]⟩) 1012), (.str (Str.mk ⟨[61, 66, 66]⟩) 1016), (.str (Str.mk ⟨[61, 66, 67]⟩) 1020), (.str (Str.mk ⟨[61, 66, 68]⟩) 1024), (.str (Str.mk ⟨[61, 66, 69]⟩) 1028), (.str (Str.mk ⟨[61, 66, 70]⟩) 1032), (.str (Str.mk ⟨[61, 67, 48]⟩) 1036), (.str (Str.mk ⟨[61, 67, 49]⟩) 1040), (.str (Str.mk ⟨[61, 67, 50]⟩) 1044), (.str (Str.mk ⟨[61, 67, 51]⟩) 1048), (.str (Str.mk ⟨[61, 67, 52]⟩) 1052), (.str (Str.mk ⟨[61, 67, 53]⟩) 1056), (.str (Str.mk ⟨[61, 67, 54]⟩) 1060), (.str (Str.mk ⟨[61, 67, 55]⟩) 1064), (.str (Str.mk ⟨[61, 67, 56]⟩) 1068), (.str (Str.mk ⟨[61, 67, 57]⟩) 1072), (.str (Str.mk ⟨[61, 67, 65]⟩) 1076), (.str (Str.mk ⟨[61, 67, 66]⟩) 1080), (.str (Str.mk ⟨[61, 67, 67]⟩) 1084), (.str (Str.mk ⟨[61, 67, 68]⟩) 1088), (.str (Str.mk ⟨[61, 67, 69]⟩) 1092), (.str (Str.mk ⟨[61, 67, 70]⟩) 1096), (.str (Str.mk ⟨[61, 68, 48]⟩) 1100), (.str (Str.mk ⟨[61, 68, 49]⟩) 1104), (.str (Str.mk ⟨[61, 68, 50]⟩) 1108), (.str (Str.mk ⟨[61, 68, 51]⟩) 1112), (.str (Str.mk ⟨[61, 68, 52]⟩) 1116), (.str (Str.mk ⟨[61, 68, 53]⟩) 1120), (.str (Str.mk ⟨[61, 68, 54]⟩) 1124), (.str (Str.mk ⟨[61, 68, 55]⟩) 1128), (.str (Str.mk ⟨[61, 68, 56]⟩) 1132), (.str (Str.mk ⟨[61, 68, 57]⟩) 1136), (.str (Str.mk ⟨[61, 68, 65]⟩) 1140), (.str (Str.mk ⟨[61, 68, 66]⟩) 1144), (.str (Str.mk ⟨[61, 68, 67]⟩) 1148), (.str (Str.mk ⟨[61, 68, 68]⟩) 1152), (.str (Str.mk ⟨[61, 68, 69]⟩) 1156), (.str (Str.mk ⟨[61, 68, 70]⟩) 1160), (.str (Str.mk ⟨[61, 69, 48]⟩) 1164), (.str (Str.mk ⟨[61, 69, 49]⟩) 1168), (.str (Str.mk ⟨[61, 69, 50]⟩) 1172), (.str (Str.mk ⟨[61, 69, 51]⟩) 1176), (.str (Str.mk ⟨[61, 69, 52]⟩) 1180), (.str (Str.mk ⟨[61, 69, 53]⟩) 1184), (.str (Str.mk ⟨[61, 69, 54]⟩) 1188), (.str (Str.mk ⟨[61, 69, 55]⟩) 1192), (.str (Str.mk ⟨[61, 69, 56]⟩) 1196), (.str (Str.mk ⟨[61, 69, 57]⟩) 1200), (.str (Str.mk ⟨[61, 69, 65]⟩) 1204), (.str (Str.mk ⟨[61, 69, 66]⟩) 1208), (.str (Str.mk ⟨[61, 69, 67]⟩) 1212), (.str (Str.mk ⟨[61, 69, 68]⟩) 1216), (.str (Str.mk ⟨[61, 69, 69]⟩) 1220), (.str (Str.mk ⟨[61, 69, 70]⟩) 1224), (.str (Str.mk ⟨[61, 70, 48]⟩) 1228), (.str (Str.mk ⟨[61, 70, 49]⟩) 1232), (.str (Str.mk ⟨[61, 70, 50]⟩) 1236), (.str (Str.mk ⟨[61, 70, 51]⟩) 1240), (.str (Str.mk ⟨[61, 70, 52]⟩) 1244), (.str (Str.mk ⟨[61, 70, 53]⟩) 1248), (.str (Str.mk ⟨[61, 70, 54]⟩) 1252), (.str (Str.mk ⟨[61, 70, 55]⟩) 1256), (.str (Str.mk ⟨[61, 70, 56]⟩) 1260), (.str (Str.mk ⟨[61, 70, 57]⟩) 1264), (.str (Str.mk ⟨[61, 70, 65]⟩) 1268), (.str (Str.mk ⟨[61, 70, 66]⟩) 1272), (.str (Str.mk ⟨[61, 70, 67]⟩) 1276), (.str (Str.mk ⟨[61, 70, 68]⟩) 1280), (.str (Str.mk ⟨[61, 70, 69]⟩) 1284), (.str (Str.mk ⟨[61, 70, 70]⟩) 1288)]⟩ 0), ⟨[]⟩⟩
noncomputable def hp13 (P : Params) : Heap := ⟨⟨[boot_o_0 P, boot_o_1 P, boot_o_2 P, ob3_3 P, boot_o_4 P, boot_o_5 P, boot_o_6 P, boot_o_7 P, boot_o_8 P, boot_o_9 P, boot_o_10 P, ob11_0 P, ob12_1 P, ob13_0 P, ob14_0 P, ob15_0 P, ob16_0 P, ob17_0 P, ob18_0 P, ob19_0 P, ob20_0 P, ob21_0 P, ob22_0 P, ob23_0 P, ob24_0 P, ob25_0 P, ob26_0 P, ob27_0 P, ob28_0 P, ob29_0 P, ob30_0 P, ob31_0 P, ob32_0 P, ob33_0 P, ob34_0 P, ob35_0 P, ob36_0 P, ob37_0 P, ob38_0 P, ob39_0 P, ob40_0 P, ob41_0 P, ob42_0 P, ob43_0 P, ob44_0 P, ob45_0 P, ob46_0 P, ob47_0 P, ob48_0 P, ob49_0 P, ob50_0 P, ob51_0 P, ob52_0 P, ob53_0 P, ob54_0 P, ob55_0 P, ob56_0 P, ob57_0 P, ob58_4 P, ob59_4 P, ob60_4 P, ob61_0 P, ob62_0 P, ob63_0 P, ob64_0 P, ob65_0 P, ob66_0 P]⟩, lifeOf P⟩
noncomputable def tk13 : Nat := 1307
noncomputable def pos13 : Pos := ⟨42, 0, 42, 8⟩
noncomputable def ob67_0 (P : Params) : Obj := ⟨(.type "bytes_iterator"), none, (.fields ⟨[(.bytes ⟨[45, 33, 42, 43, 47, 97, 98, 99, 100, 101, 102, 103, 104, 105, 106, 107, 108, 109, 110, 111, 112, 113, 114, 115, 116, 117, 118, 119, 120, 121, 122, 65, 66, 67, 68, 69, 70, 71, 72, 73, 74, 75, 76, 77, 78, 79, 80, 81, 82, 83, 84, 85, 86, 87, 88, 89, 90, 48, 49, 50, 51, 52, 53, 54, 55, 56, 57]⟩ 1313), (.int 0 0)]⟩), ⟨[]⟩⟩
noncomputable def hp14_0 (P : Params) : Heap := ⟨⟨[boot_o_0 P, boot_o_1 P, boot_o_2 P, ob3_3 P, boot_o_4 P, boot_o_5 P, boot_o_6 P, boot_o_7 P, boot_o_8 P, boot_o_9 P, boot_o_10 P, ob11_0 P, ob12_1 P, ob13_0 P, ob14_0 P, ob15_0 P, ob16_0 P, ob17_0 P, ob18_0 P, ob19_0 P, ob20_0 P, ob21_0 P, ob22_0 P, ob23_0 P, ob24_0 P, ob25_0 P, ob26_0 P, ob27_0 P, ob28_0 P, ob29_0 P, ob30_0 P, ob31_0 P, ob32_0 P, ob33_0 P, ob34_0 P, ob35_0 P, ob36_0 P, ob37_0 P, ob38_0 P, ob39_0 P, ob40_0 P, ob41_0 P, ob42_0 P, ob43_0 P, ob44_0 P, ob45_0 P, ob46_0 P, ob47_0 P, ob48_0 P, ob49_0 P, ob50_0 P, ob51_0 P, ob52_0 P, ob53_0 P, ob54_0 P, ob55_0 P, ob56_0 P, ob57_0 P, ob58_4 P, ob59_4 P, ob60_4 P, ob61_0 P, ob62_0 P, ob63_0 P, ob64_0 P, ob65_0 P, ob66_0 P, ob67_0 P]⟩, lifeOf P⟩
noncomputable def tk14_0 : Nat := 1314
noncomputable def pos14_0 : Pos := ⟨43, 9, 43, 74⟩
noncomputable def ob3_4 (P : Params) : Obj := ⟨(.type "dict"), none, (.dict ⟨[⟨PyData.keyHash P (Str.ofString "__name__"), (.str (Str.ofString "__name__") 165), (.str (Str.ofString "cpy313.email.quoprimime") 1305)⟩, ⟨PyData.keyHash P (Str.ofString "__doc__"), (.str (Str.ofString "__doc__") 166), .none⟩, ⟨PyData.keyHash P (Str.ofString "__package__"), (.str (Str.ofString "__package__") 167), .none⟩, ⟨PyData.keyHash P (Str.ofString "__loader__"), (.str (Str.ofString "__loader__") 168), (.builtin "__main__.__loader__#opaque")⟩, ⟨PyData.keyHash P (Str.ofString "__spec__"), (.str (Str.ofString "__spec__") 169), .none⟩, ⟨PyData.keyHash P (Str.ofString "__annotations__"), (.str (Str.ofString "__annotations__") 170), (.ref 6)⟩, ⟨PyData.keyHash P (Str.ofString "__builtins__"), (.str (Str.ofString "__builtins__") 171), (.ref 4)⟩, ⟨PyData.keyHash P (Str.ofString "__file__"), (.str (Str.ofString "__file__") 173), (.str (Str.ofString "/claim/cut.py") 172)⟩, ⟨PyData.keyHash P (Str.ofString "__cached__"), (.str (Str.ofString "__cached__") 174), .none⟩, ⟨PyData.keyHash P (Str.ofString "TupleComp"), (.str (Str.ofString "TupleComp") 230), (.ref 38)⟩, ⟨PyData.keyHash P (Str.ofString "add_func_stats"), (.str (Str.ofString "add_func_stats") 248), (.ref 49)⟩, ⟨PyData.keyHash P (Str.ofString "add_callers"), (.str (Str.ofString "add_callers") 259), (.ref 56)⟩, ⟨PyData.keyHash P (Str.ofString "NL"), (.str (Str.ofString "NL") 261), (.str (Str.ofString "\n") 260)⟩, ⟨PyData.keyHash P (Str.ofString "_QUOPRI_MAP"), (.str (Str.ofString "_QUOPRI_MAP") 1289), (.ref 59)⟩, ⟨PyData.keyHash P (Str.ofString "_QUOPRI_HEADER_MAP"), (.str (Str.ofString "_QUOPRI_HEADER_MAP") 1290), (.ref 64)⟩, ⟨PyData.keyHash P (Str.ofString "_QUOPRI_BODY_MAP"), (.str (Str.ofString "_QUOPRI_BODY_MAP") 1291), (.ref 66)⟩, ⟨PyData.keyHash P (Str.ofString "ascii_lowercase"), (.str (Str.ofString "ascii_lowercase") 1293), (.str (Str.ofString "abcdefghijklmnopqrstuvwxyz") 1292)⟩, ⟨PyData.keyHash P (Str.ofString "ascii_uppercase"), (.str (Str.ofString "ascii_uppercase") 1295), (.str (Str.ofString "ABCDEFGHIJKLMNOPQRSTUVWXYZ") 1294)⟩, ⟨PyData.keyHash P (Str.ofString "ascii_letters"), (.str (Str.ofString "ascii_letters") 1297), (.str (Str.ofString "abcdefghijklmnopqrstuvwxyzABCDEFGHIJKLMNOPQRSTUVWXYZ") 1296)⟩, ⟨PyData.keyHash P (Str.ofString "digits"), (.str (Str.ofString "digits") 1299), (.str (Str.ofString "0123456789") 1298)⟩, ⟨PyData.keyHash P (Str.ofString "hexdigits"), (.str (Str.ofString "hexdigits") 1304), (.str (Str.ofString "0123456789abcdefABCDEF") 1303)⟩, ⟨PyData.keyHash P (Str.ofString "c"), (.str (Str.ofString "c") 1315), (.int 67 1413)⟩]⟩ 22), ⟨[]⟩⟩
noncomputable def ob64_1 (P : Params) : Obj := ⟨(.type "list"), none, (.seq ⟨[(.str (Str.mk ⟨[61, 48, 48]⟩) 268), (.str (Str.mk ⟨[61, 48, 49]⟩) 272), (.str (Str.mk ⟨[61, 48, 50]⟩) 276), (.str (Str.mk ⟨[61, 48, 51]⟩) 280), (.str (Str.mk ⟨[61, 48, 52]⟩) 284), (.str (Str.mk ⟨[61, 48, 53]⟩) 288), (.str (Str.mk ⟨[61, 48, 54]⟩) 292), (.str (Str.mk ⟨[61, 48, 55]⟩) 296), (.str (Str.mk ⟨[61, 48, 56]⟩) 300), (.str (Str.mk ⟨[61, 48, 57]⟩) 304), (.str (Str.mk ⟨[61, 48, 65]⟩) 308), (.str (Str.mk ⟨[61, 48, 66]⟩) 312), (.str (Str.mk ⟨[61, 48, 67]⟩) 316), (.str (Str.mk ⟨[61, 48, 68]⟩) 320), (.str (Str.mk ⟨[61, 48, 69]⟩) 324), (.str (Str.mk ⟨[61, 48, 70]⟩) 328), (.str (Str.mk ⟨[61, 49, 48]⟩) 332), (.str (Str.mk ⟨[61, 49, 49]⟩) 336), (.str (Str.mk ⟨[61, 49, 50]⟩) 340), (.str (Str.mk ⟨[61, 49, 51]⟩) 344), (.str (Str.mk ⟨[61, 49, 52]⟩) 348), (.str (Str.mk ⟨[61, 49, 53]⟩) 352), (.str (Str.mk ⟨[61, 49, 54]⟩) 356), (.str (Str.mk ⟨[61, 49, 55]⟩) 360), (.str (Str.mk ⟨[61, 49, 56]⟩) 364), (.str (Str.mk ⟨[61, 49, 57]⟩) 368), (.str (Str.mk ⟨[61, 49, 65]⟩) 372), (.str (Str.mk ⟨[61, 49, 66]⟩) 376), (.str (Str.mk ⟨[61, 49, 67]⟩) 380), (.str (Str.mk ⟨[61, 49, 68]⟩) 384), (.str (Str.mk ⟨[61, 49, 69]⟩) 388), (.str (Str.mk ⟨[61, 49, 70]⟩) 392), (.str (Str.mk ⟨[61, 50, 48]⟩) 396), (.str (Str.mk ⟨[33]⟩) 1319), (.str (Str.mk ⟨[61, 50, 50]⟩) 404), (.str (Str.mk ⟨[61, 50, 51]⟩) 408), (.str (Str.mk ⟨[61, 50, 52]⟩) 412), (.str (Str.mk ⟨[61, 50, 53]⟩) 416), (.str (Str.mk ⟨[61, 50, 54]⟩) 420), (.str (Str.mk ⟨[61, 50, 55]⟩) 424), (.str (Str.mk ⟨[61, 50, 56]⟩) 428), (.str (Str.mk ⟨[61, 50, 57]⟩) 432), (.str (Str.mk ⟨[42]⟩) 1322), (.str (Str.mk ⟨[43]⟩) 1325), (.str (Str.mk ⟨[61, 50, 67]⟩) 444), (.str (Str.mk ⟨[45]⟩) 1316), (.str (Str.mk ⟨[61, 50, 69]⟩) 452), (.str (Str.mk ⟨[47]⟩) 1328), (.str (Str.mk ⟨[61, 51, 48]⟩) 460), (.str (Str.mk ⟨[61, 51, 49]⟩) 464), (.str (Str.mk ⟨[61, 51, 50]⟩) 468), (.str (Str.mk ⟨[61, 51, 51]⟩) 472), (.str (Str.mk ⟨[61, 51, 52]⟩) 476), (.str (Str.mk ⟨[61, 51, 53]⟩) 480), (.str (Str.mk ⟨[61, 51, 54]⟩) 484), (.str (Str.mk ⟨[61, 51, 55]⟩) 488), (.str (Str.mk ⟨[61, 51, 56]⟩) 492), (.str (Str.mk ⟨[61, 51, 57]⟩) 496), (.str (Str.mk ⟨[61, 51, 65]⟩) 500), (.str (Str.mk ⟨[61, 51, 66]⟩) 504), (.str (Str.mk ⟨[61, 51, 67]⟩) 508), (.str (Str.mk ⟨[61, 51, 68]⟩) 512), (.str (Str.mk ⟨[61, 51, 69]⟩) 516), (.str (Str.mk ⟨[61, 51, 70]⟩) 520), (.str (Str.mk ⟨[61, 52, 48]⟩) 524), (.str (Str.mk ⟨[65]⟩) 1409), (.str (Str.mk ⟨[66]⟩) 1412), (.str (Str.mk ⟨[67]⟩) 1415), (.str (Str.mk ⟨[61, 52, 52]⟩) 540), (.str (Str.mk ⟨[61, 52, 53]⟩) 544), (.str (Str.mk ⟨[61, 52, 54]⟩) 548), (.str (Str.mk ⟨[61, 52, 55]⟩) 552), (.str (Str.mk ⟨[61, 52, 56]⟩) 556), (.str (Str.mk ⟨[61, 52, 57]⟩) 560), (.str (Str.mk ⟨[61, 52, 65]⟩) 564), (.str (Str.mk ⟨[61, 52, 66]⟩) 568), (.str (Str.mk ⟨[61, 52, 67]⟩) 572), (.str (Str.mk ⟨[61, 52, 68]⟩) 576), (.str (Str.mk ⟨[61, 52, 69]⟩) 580), (.str (Str.mk ⟨[61, 52, 70]⟩) 584), (.str (Str.mk ⟨[61, 53, 48]⟩) 588), (.str (Str.mk ⟨[61, 53, 49]⟩) 592), (.str (Str.mk ⟨[61, 53, 50]⟩) 596), (.str (Str.mk ⟨[61, 53, 51]⟩) 600), (.str (Str.mk ⟨[61, 53, 52]⟩) 604), (.str (Str.mk ⟨[61, 53, 53]⟩) 608), (.str (Str.mk ⟨[61, 53, 54]⟩) 612), (.str (Str.mk ⟨[61, 53, 55]⟩) 616), (.str (Str.mk ⟨[61, 53, 56]⟩) 620), (.str (Str.mk ⟨[61, 53, 57]⟩) 624), (.str (Str.mk ⟨[61, 53, 65]⟩) 628), (.str (Str.mk ⟨[61, 53, 66]⟩) 632), (.str (Str.mk ⟨[61, 53, 67]⟩) 636), (.str (Str.mk ⟨[61, 53, 68]⟩) 640), (.str (Str.mk ⟨[61, 53, 69]⟩) 644), (.str (Str.mk ⟨[61, 53, 70]⟩) 648), (.str (Str.mk ⟨[61, 54, 48]⟩) 652), (.str (Str.mk ⟨[97]⟩) 1331), (.str (Str.mk ⟨[98]⟩) 1334), (.str (Str.mk ⟨[99]⟩) 1337), (.str (Str.mk ⟨[100]⟩) 1340), (.str (Str.mk ⟨[101]⟩) 1343), (.str (Str.mk ⟨[102]⟩) 1346), (.str (Str.mk ⟨[103]⟩) 1349), (.str (Str.mk ⟨[104]⟩) 1352), (.str (Str.mk ⟨[105]⟩) 1355), (.str (Str.mk ⟨[106]⟩) 1358), (.str (Str.mk ⟨[107]⟩) 1361), (.str (Str.mk ⟨[108]⟩) 1364), (.str (Str.mk ⟨[109]⟩) 1367), (.str (Str.mk ⟨[110]⟩) 1370), (.str (Str.mk ⟨[111]⟩) 1373), (.str (Str.mk ⟨[112]⟩) 1376), (.str (Str.mk ⟨[113]⟩) 1379), (.str (Str.mk ⟨[114]⟩) 1382), (.str (Str.mk ⟨[115]⟩) 1385), (.str (Str.mk ⟨[116]⟩) 1388), (.str (Str.mk ⟨[117]⟩) 1391), (.str (Str.mk ⟨[118]⟩) 1394), (.str (Str.mk ⟨[119]⟩) 1397), (.str (Str.mk ⟨[120]⟩) 1400), (.str (Str.mk ⟨[121]⟩) 1403), (.str (Str.mk ⟨[122]⟩) 1406), (.str (Str.mk ⟨[61, 55, 66]⟩) 760), (.str (Str.mk ⟨[61, 55, 67]⟩) 764), (.str (Str.mk ⟨[61, 55, 68]⟩) 768), (.str (Str.mk ⟨[61, 55, 69]⟩) 772), (.str (Str.mk ⟨[61, 55, 70]⟩) 776), (.str (Str.mk ⟨[61, 56, 48]⟩) 780), (.str (Str.mk ⟨[61, 56, 49]⟩) 784), (.str (Str.mk ⟨[61, 56, 50]⟩) 788), (.str (Str.mk ⟨[61, 56, 51]⟩) 792), (.str (Str.mk ⟨[61, 56, 52]⟩) 796), (.str (Str.mk ⟨[61, 56, 53]⟩) 800), (.str (Str.mk ⟨[61, 56, 54]⟩) 804), (.str (Str.mk ⟨[61, 56, 55]⟩) 808), (.str (Str.mk ⟨[61, 56, 56]⟩) 812), (.str (Str.mk ⟨[61, 56, 57]⟩) 816), (.str (Str.mk ⟨[61, 56, 65]⟩) 820), (.str (Str.mk ⟨[61, 56, 66]⟩) 824), (.str (Str.mk ⟨[61, 56, 67]⟩) 828), (.str (Str.mk ⟨[61, 56, 68]⟩) 832), (.str (Str.mk ⟨[61, 56, 69]⟩) 836), (.str (Str.mk ⟨[61, 56, 70]⟩) 840), (.str (Str.mk ⟨[61, 57, 48]⟩) 844), (.str (Str.mk ⟨[61, 57, 49]⟩) 848), (.str (Str.mk ⟨[61, 57, 50]⟩) 852), (.str (Str.mk ⟨[61, 57, 51]⟩) 856), (.str (Str.mk ⟨[61, 57, 52]⟩) 860), (.str (Str.mk ⟨[61, 57, 53]⟩) 864), (.str (Str.mk ⟨[61, 57, 54]⟩) 868), (.str (Str.mk ⟨[61, 57, 55]⟩) 872), (.str (Str.mk ⟨[61, 57, 56]⟩) 876), (.str (Str.mk ⟨[61, 57, 57]⟩) 880), (.str (Str.mk ⟨[61, 57, 65]⟩) 884), (.str (Str.mk ⟨[61, 57, 66]⟩) 888), (.str (Str.mk ⟨[61, 57, 67]⟩) 892), (.str (Str.mk ⟨[61, 57, 68]⟩) 896), (.str (Str.mk ⟨[61, 57, 69]⟩) 900), (.str (Str.mk ⟨[61, 57, 70]⟩) 904), (.str (Str.mk ⟨[61, 65, 48]⟩) 908), (.str (Str.mk ⟨[61, 65, 49]⟩) 912), (.str (Str.mk ⟨[61, 65, 50]⟩) 916), (.str (Str.mk ⟨[61, 65, 51]⟩) 920), (.str (Str.mk ⟨[61, 65, 52]⟩) 924), (.str (Str.mk ⟨[61, 65, 53]⟩) 928), (.str (Str.mk ⟨[61, 65, 54]⟩) 932), (.str (Str.mk ⟨[61, 65, 55]⟩) 936), (.str (Str.mk ⟨[61, 65, 56]⟩) 940), (.str (Str.mk ⟨[61, 65, 57]⟩) 944), (.str (Str.mk ⟨[61, 65, 65]⟩) 948), (.str (Str.mk ⟨[61, 65, 66]⟩) 952), (.str (Str.mk ⟨[61, 65, 67]⟩) 956), (.str (Str.mk ⟨[61, 65, 68]⟩) 960), (.str (Str.mk ⟨[61, 65, 69]⟩) 964), (.str (Str.mk ⟨[61, 65, 70]⟩) 968), (.str (Str.mk ⟨[61, 66, 48]⟩) 972), (.str (Str.mk ⟨[61, 66, 49]⟩) 976), (.str (Str.mk ⟨[61, 66, 50]⟩) 980), (.str (Str.mk ⟨[61, 66, 51]⟩) 984), (.str (Str.mk ⟨[61, 66, 52]⟩) 988), (.str (Str.mk ⟨[61, 66, 53]⟩) 992), (.str (Str.mk ⟨[61, 66, 54]⟩) 996), (.str (Str.mk ⟨[61, 66, 55]⟩) 1000), (.str (Str.mk ⟨[61, 66, 56]⟩) 1004), (.str (Str.mk ⟨[61, 66, 57]⟩) 1008), (.str (Str.mk ⟨[61, 66, 65]⟩) 1012), (.str (Str.mk ⟨[61, 66, 66]⟩) 1016), (.str (Str.mk ⟨[61, 66, 67]⟩) 1020), (.str (Str.mk ⟨[61, 66, 68]⟩) 1024), (.str (Str.mk ⟨[61, 66, 69]⟩) 1028), (.str (Str.mk ⟨[61, 66, 70]⟩) 1032), (.str (Str.mk ⟨[61, 67, 48]⟩) 1036), (.str (Str.mk ⟨[61, 67, 49]⟩) 1040), (.str (Str.mk ⟨[61, 67, 50]⟩) 1044), (.str (Str.mk ⟨[61, 67, 51]⟩) 1048), (.str (Str.mk ⟨[61, 67, 52]⟩) 1052), (.str (Str.mk ⟨[61, 67, 53]⟩) 1056), (.str (Str.mk ⟨[61, 67, 54]⟩) 1060), (.str (Str.mk ⟨[61, 67, 55]⟩) 1064), (.str (Str.mk ⟨[61, 67, 56]⟩) 1068), (.str (Str.mk ⟨[61, 67, 57]⟩) 1072), (.str (Str.mk ⟨[61, 67, 65]⟩) 1076), (.str (Str.mk ⟨[61, 67, 66]⟩) 1080), (.str (Str.mk ⟨[61, 67, 67]⟩) 1084), (.str (Str.mk ⟨[61, 67, 68]⟩) 1088), (.str (Str.mk ⟨[61, 67, 69]⟩) 1092), (.str (Str.mk ⟨[61, 67, 70]⟩) 1096), (.str (Str.mk ⟨[61, 68, 48]⟩) 1100), (.str (Str.mk ⟨[61, 68, 49]⟩) 1104), (.str (Str.mk ⟨[61, 68, 50]⟩) 1108), (.str (Str.mk ⟨[61, 68, 51]⟩) 1112), (.str (Str.mk ⟨[61, 68, 52]⟩) 1116), (.str (Str.mk ⟨[61, 68, 53]⟩) 1120), (.str (Str.mk ⟨[61, 68, 54]⟩) 1124), (.str (Str.mk ⟨[61, 68, 55]⟩) 1128), (.str (Str.mk ⟨[61, 68, 56]⟩) 1132), (.str (Str.mk ⟨[61, 68, 57]⟩) 1136), (.str (Str.mk ⟨[61, 68, 65]⟩) 1140), (.str (Str.mk ⟨[61, 68, 66]⟩) 1144), (.str (Str.mk ⟨[61, 68, 67]⟩) 1148), (.str (Str.mk ⟨[61, 68, 68]⟩) 1152), (.str (Str.mk ⟨[61, 68, 69]⟩) 1156), (.str (Str.mk ⟨[61, 68, 70]⟩) 1160), (.str (Str.mk ⟨[61, 69, 48]⟩) 1164), (.str (Str.mk ⟨[61, 69, 49]⟩) 1168), (.str (Str.mk ⟨[61, 69, 50]⟩) 1172), (.str (Str.mk ⟨[61, 69, 51]⟩) 1176), (.str (Str.mk ⟨[61, 69, 52]⟩) 1180), (.str (Str.mk ⟨[61, 69, 53]⟩) 1184), (.str (Str.mk ⟨[61, 69, 54]⟩) 1188), (.str (Str.mk ⟨[61, 69, 55]⟩) 1192), (.str (Str.mk ⟨[61, 69, 56]⟩) 1196), (.str (Str.mk ⟨[61, 69, 57]⟩) 1200), (.str (Str.mk ⟨[61, 69, 65]⟩) 1204), (.str (Str.mk ⟨[61, 69, 66]⟩) 1208), (.str (Str.mk ⟨[61, 69, 67]⟩) 1212), (.str (Str.mk ⟨[61, 69, 68]⟩) 1216), (.str (Str.mk ⟨[61, 69, 69]⟩) 1220), (.str (Str.mk ⟨[61, 69, 70]⟩) 1224), (.str (Str.mk ⟨[61, 70, 48]⟩) 1228), (.str (Str.mk ⟨[61, 70, 49]⟩) 1232), (.str (Str.mk ⟨[61, 70, 50]⟩) 1236), (.str (Str.mk ⟨[61, 70, 51]⟩) 1240), (.str (Str.mk ⟨[61, 70, 52]⟩) 1244), (.str (Str.mk ⟨[61, 70, 53]⟩) 1248), (.str (Str.mk ⟨[61, 70, 54]⟩) 1252), (.str (Str.mk ⟨[61, 70, 55]⟩) 1256), (.str (Str.mk ⟨[61, 70, 56]⟩) 1260), (.str (Str.mk ⟨[61, 70, 57]⟩) 1264), (.str (Str.mk ⟨[61, 70, 65]⟩) 1268), (.str (Str.mk ⟨[61, 70, 66]⟩) 1272), (.str (Str.mk ⟨[61, 70, 67]⟩) 1276), (.str (Str.mk ⟨[61, 70, 68]⟩) 1280), (.str (Str.mk ⟨[61, 70, 69]⟩) 1284), (.str (Str.mk ⟨[61, 70, 70]⟩) 1288)]⟩ 0), ⟨[]⟩⟩
noncomputable def ob67_1 (P : Params) : Obj := ⟨(.type "bytes_iterator"), none, (.fields ⟨[(.bytes ⟨[45, 33, 42, 43, 47, 97, 98, 99, 100, 101, 102, 103, 104, 105, 106, 107, 108, 109, 110, 111, 112, 113, 114, 115, 116, 117, 118, 119, 120, 121, 122, 65, 66, 67, 68, 69, 70, 71, 72, 73, 74, 75, 76, 77, 78, 79, 80, 81, 82, 83, 84, 85, 86, 87, 88, 89, 90, 48, 49, 50, 51, 52, 53, 54, 55, 56, 57]⟩ 1313), (.int 34 0)]⟩), ⟨[]⟩⟩
noncomputable def hp14_34 (P : Params) : Heap := ⟨⟨[boot_o_0 P, boot_o_1 P, boot_o_2 P, ob3_4 P, boot_o_4 P, boot_o_5 P, boot_o_6 P, boot_o_7 P, boot_o_8 P, boot_o_9 P, boot_o_10 P, ob11_0 P, ob12_1 P, ob13_0 P, ob14_0 P, ob15_0 P, ob16_0 P, ob17_0 P, ob18_0 P, ob19_0 P, ob20_0 P, ob21_0 P, ob22_0 P, ob23_0 P, ob24_0 P, ob25_0 P, ob26_0 P, ob27_0 P, ob28_0 P, ob29_0 P, ob30_0 P, ob31_0 P, ob32_0 P, ob33_0 P, ob34_0 P, ob35_0 P, ob36_0 P, ob37_0 P, ob38_0 P, ob39_0 P, ob40_0 P, ob41_0 P, ob42_0 P, ob43_0 P, ob44_0 P, ob45_0 P, ob46_0 P, ob47_0 P, ob48_0 P, ob49_0 P, ob50_0 P, ob51_0 P, ob52_0 P, ob53_0 P, ob54_0 P, ob55_0 P, ob56_0 P, ob57_0 P, ob58_4 P, ob59_4 P, ob60_4 P, ob61_0 P, ob62_0 P, ob63_0 P, ob64_1 P, ob65_0 P, ob66_0 P, ob67_1 P]⟩, lifeOf P⟩
noncomputable def tk14_34 : Nat := 1416
noncomputable def pos14_34 : Pos := ⟨44, 4, 44, 25⟩
noncomputable def ob3_5 (P : Params) : Obj := ⟨(.type "dict"), none, (.dict ⟨[⟨PyData.keyHash P (Str.ofString "__name__"), (.str (Str.ofString "__name__") 165), (.str (Str.ofString "cpy313.email.quoprimime") 1305)⟩, ⟨PyData.keyHash P (Str.ofString "__doc__"), (.str (Str.ofString "__doc__") 166), .none⟩, ⟨PyData.keyHash P (Str.ofString "__package__"), (.str (Str.ofString "__package__") 167), .none⟩, ⟨PyData.keyHash P (Str.ofString "__loader__"), (.str (Str.ofString "__loader__") 168), (.builtin "__main__.__loader__#opaque")⟩, ⟨PyData.keyHash P (Str.ofString "__spec__"), (.str (Str.ofString "__spec__") 169), .none⟩, ⟨PyData.keyHash P (Str.ofString "__annotations__"), (.str (Str.ofString "__annotations__") 170), (.ref 6)⟩, ⟨PyData.keyHash P (Str.ofString "__builtins__"), (.str (Str.ofString "__builtins__") 171), (.ref 4)⟩, ⟨PyData.keyHash P (Str.ofString "__file__"), (.str (Str.ofString "__file__") 173), (.str (Str.ofString "/claim/cut.py") 172)⟩, ⟨PyData.keyHash P (Str.ofString "__cached__"), (.str (Str.ofString "__cached__") 174), .none⟩, ⟨PyData.keyHash P (Str.ofString "TupleComp"), (.str (Str.ofString "TupleComp") 230), (.ref 38)⟩, ⟨PyData.keyHash P (Str.ofString "add_func_stats"), (.str (Str.ofString "add_func_stats") 248), (.ref 49)⟩, ⟨PyData.keyHash P (Str.ofString "add_callers"), (.str (Str.ofString "add_callers") 259), (.ref 56)⟩, ⟨PyData.keyHash P (Str.ofString "NL"), (.str (Str.ofString "NL") 261), (.str (Str.ofString "\n") 260)⟩, ⟨PyData.keyHash P (Str.ofString "_QUOPRI_MAP"), (.str (Str.ofString "_QUOPRI_MAP") 1289), (.ref 59)⟩, ⟨PyData.keyHash P (Str.ofString "_QUOPRI_HEADER_MAP"), (.str (Str.ofString "_QUOPRI_HEADER_MAP") 1290), (.ref 64)⟩, ⟨PyData.keyHash P (Str.ofString "_QUOPRI_BODY_MAP"), (.str (Str.ofString "_QUOPRI_BODY_MAP") 1291), (.ref 66)⟩, ⟨PyData.keyHash P (Str.ofString "ascii_lowercase"), (.str (Str.ofString "ascii_lowercase") 1293), (.str (Str.ofString "abcdefghijklmnopqrstuvwxyz") 1292)⟩, ⟨PyData.keyHash P (Str.ofString "ascii_uppercase"), (.str (Str.ofString "ascii_uppercase") 1295), (.str (Str.ofString "ABCDEFGHIJKLMNOPQRSTUVWXYZ") 1294)⟩, ⟨PyData.keyHash P (Str.ofString "ascii_letters"), (.str (Str.ofString "ascii_letters") 1297), (.str (Str.ofString "abcdefghijklmnopqrstuvwxyzABCDEFGHIJKLMNOPQRSTUVWXYZ") 1296)⟩, ⟨PyData.keyHash P (Str.ofString "digits"), (.str (Str.ofString "digits") 1299), (.str (Str.ofString "0123456789") 1298)⟩, ⟨PyData.keyHash P (Str.ofString "hexdigits"), (.str (Str.ofString "hexdigits") 1304), (.str (Str.ofString "0123456789abcdefABCDEF") 1303)⟩, ⟨PyData.keyHash P (Str.ofString "c"), (.str (Str.ofString "c") 1315), (.int 57 1512)⟩]⟩ 22), ⟨[]⟩⟩
noncomputable def ob64_2 (P : Params) : Obj := ⟨(.type "list"), none, (.seq ⟨[(.str (Str.mk ⟨[61, 48, 48]⟩) 268), (.str (Str.mk ⟨[61, 48, 49]⟩) 272), (.str (Str.mk ⟨[61, 48, 50]⟩) 276), (.str (Str.mk ⟨[61, 48, 51]⟩) 280), (.str (Str.mk ⟨[61, 48, 52]⟩) 284), (.str (Str.mk ⟨[61, 48, 53]⟩) 288), (.str (Str.mk ⟨[61, 48, 54]⟩) 292), (.str (Str.mk ⟨[61, 48, 55]⟩) 296), (.str (Str.mk ⟨[61, 48, 56]⟩) 300), (.str (Str.mk ⟨[61, 48, 57]⟩) 304), (.str (Str.mk ⟨[61, 48, 65]⟩) 308), (.str (Str.mk ⟨[61, 48, 66]⟩) 312), (.str (Str.mk ⟨[61, 48, 67]⟩) 316), (.str (Str.mk ⟨[61, 48, 68]⟩) 320), (.str (Str.mk ⟨[61, 48, 69]⟩) 324), (.str (Str.mk ⟨[61, 48, 70]⟩) 328), (.str (Str.mk ⟨[61, 49, 48]⟩) 332), (.str (Str.mk ⟨[61, 49, 49]⟩) 336), (.str (Str.mk ⟨[61, 49, 50]⟩) 340), (.str (Str.mk ⟨[61, 49, 51]⟩) 344), (.str (Str.mk ⟨[61, 49, 52]⟩) 348), (.str (Str.mk ⟨[61, 49, 53]⟩) 352), (.str (Str.mk ⟨[61, 49, 54]⟩) 356), (.str (Str.mk ⟨[61, 49, 55]⟩) 360), (.str (Str.mk ⟨[61, 49, 56]⟩) 364), (.str (Str.mk ⟨[61, 49, 57]⟩) 368), (.str (Str.mk ⟨[61, 49, 65]⟩) 372), (.str (Str.mk ⟨[61, 49, 66]⟩) 376), (.str (Str.mk ⟨[61, 49, 67]⟩) 380), (.str (Str.mk ⟨[61, 49, 68]⟩) 384), (.str (Str.mk ⟨[61, 49, 69]⟩) 388), (.str (Str.mk ⟨[61, 49, 70]⟩) 392), (.str (Str.mk ⟨[61, 50, 48]⟩) 396), (.str (Str.mk ⟨[33]⟩) 1319), (.str (Str.mk ⟨[61, 50, 50]⟩) 404), (.str (Str.mk ⟨[61, 50, 51]⟩) 408), (.str (Str.mk ⟨[61, 50, 52]⟩) 412), (.str (Str.mk ⟨[61, 50, 53]⟩) 416), (.str (Str.mk ⟨[61, 50, 54]⟩) 420), (.str (Str.mk ⟨[61, 50, 55]⟩) 424), (.str (Str.mk ⟨[61, 50, 56]⟩) 428), (.str (Str.mk ⟨[61, 50, 57]⟩) 432), (.str (Str.mk ⟨[42]⟩) 1322), (.str (Str.mk ⟨[43]⟩) 1325), (.str (Str.mk ⟨[61, 50, 67]⟩) 444), (.str (Str.mk ⟨[45]⟩) 1316), (.str (Str.mk ⟨[61, 50, 69]⟩) 452), (.str (Str.mk ⟨[47]⟩) 1328), (.str (Str.mk ⟨[48]⟩) 1487), (.str (Str.mk ⟨[49]⟩) 1490), (.str (Str.mk ⟨[50]⟩) 1493), (.str (Str.mk ⟨[51]⟩) 1496), (.str (Str.mk ⟨[52]⟩) 1499), (.str (Str.mk ⟨[53]⟩) 1502), (.str (Str.mk ⟨[54]⟩) 1505), (.str (Str.mk ⟨[55]⟩) 1508), (.str (Str.mk ⟨[56]⟩) 1511), (.str (Str.mk ⟨[57]⟩) 1514), (.str (Str.mk ⟨[61, 51, 65]⟩) 500), (.str (Str.mk ⟨[61, 51, 66]⟩) 504), (.str (Str.mk ⟨[61, 51, 67]⟩) 508), (.str (Str.mk ⟨[61, 51, 68]⟩) 512), (.str (Str.mk ⟨[61, 51, 69]⟩) 516), (.str (Str.mk ⟨[61, 51, 70]⟩) 520), (.str (Str.mk ⟨[61, 52, 48]⟩) 524), (.str (Str.mk ⟨[65]⟩) 1409), (.str (Str.mk ⟨[66]⟩) 1412), (.str (Str.mk ⟨[67]⟩) 1415), (.str (Str.mk ⟨[68]⟩) 1418), (.str (Str.mk ⟨[69]⟩) 1421), (.str (Str.mk ⟨[70]⟩) 1424), (.str (Str.mk ⟨[71]⟩) 1427), (.str (Str.mk ⟨[72]⟩) 1430), (.str (Str.mk ⟨[73]⟩) 1433), (.str (Str.mk ⟨[74]⟩) 1436), (.str (Str.mk ⟨[75]⟩) 1439), (.str (Str.mk ⟨[76]⟩) 1442), (.str (Str.mk ⟨[77]⟩) 1445), (.str (Str.mk ⟨[78]⟩) 1448), (.str (Str.mk ⟨[79]⟩) 1451), (.str (Str.mk ⟨[80]⟩) 1454), (.str (Str.mk ⟨[81]⟩) 1457), (.str (Str.mk ⟨[82]⟩) 1460), (.str (Str.mk ⟨[83]⟩) 1463), (.str (Str.mk ⟨[84]⟩) 1466), (.str (Str.mk ⟨[85]⟩) 1469), (.str (Str.mk ⟨[86]⟩) 1472), (.str (Str.mk ⟨[87]⟩) 1475), (.str (Str.mk ⟨[88]⟩) 1478), (.str (Str.mk ⟨[89]⟩) 1481), (.str (Str.mk ⟨[90]⟩) 1484), (.str (Str.mk ⟨[61, 53, 66]⟩) 632), (.str (Str.mk ⟨[61, 53, 67]⟩) 636), (.str (Str.mk ⟨[61, 53, 68]⟩) 640), (.str (Str.mk ⟨[61, 53, 69]⟩) 644), (.str (Str.mk ⟨[61, 53, 70]⟩) 648), (.str (Str.mk ⟨[61, 54, 48]⟩) 652), (.str (Str.mk ⟨[97]⟩) 1331), (.str (Str.mk ⟨[98]⟩) 1334), (.str (Str.mk ⟨[99]⟩) 1337), (.str (Str.mk ⟨[100]⟩) 1340), (.str (Str.mk ⟨[101]⟩) 1343), (.str (Str.mk ⟨[102]⟩) 1346), (.str (Str.mk ⟨[103]⟩) 1349), (.str (Str.mk ⟨[104]⟩) 1352), (.str (Str.mk ⟨[105]⟩) 1355), (.str (Str.mk ⟨[106]⟩) 1358), (.str (Str.mk ⟨[107]⟩) 1361), (.str (Str.mk ⟨[108]⟩) 1364), (.str (Str.mk ⟨[109]⟩) 1367), (.str (Str.mk ⟨[110]⟩) 1370), (.str (Str.mk ⟨[111]⟩) 1373), (.str (Str.mk ⟨[112]⟩) 1376), (.str (Str.mk ⟨[113]⟩) 1379), (.str (Str.mk ⟨[114]⟩) 1382), (.str (Str.mk ⟨[115]⟩) 1385), (.str (Str.mk ⟨[116]⟩) 1388), (.str (Str.mk ⟨[117]⟩) 1391), (.str (Str.mk ⟨[118]⟩) 1394), (.str (Str.mk ⟨[119]⟩) 1397), (.str (Str.mk ⟨[120]⟩) 1400), (.str (Str.mk ⟨[121]⟩) 1403), (.str (Str.mk ⟨[122]⟩) 1406), (.str (Str.mk ⟨[61, 55, 66]⟩) 760), (.str (Str.mk ⟨[61, 55, 67]⟩) 764), (.str (Str.mk ⟨[61, 55, 68]⟩) 768), (.str (Str.mk ⟨[61, 55, 69]⟩) 772), (.str (Str.mk ⟨[61, 55, 70]⟩) 776), (.str (Str.mk ⟨[61, 56, 48]⟩) 780), (.str (Str.mk ⟨[61, 56, 49]⟩) 784), (.str (Str.mk ⟨[61, 56, 50]⟩) 788), (.str (Str.mk ⟨[61, 56, 51]⟩) 792), (.str (Str.mk ⟨[61, 56, 52]⟩) 796), (.str (Str.mk ⟨[61, 56, 53]⟩) 800), (.str (Str.mk ⟨[61, 56, 54]⟩) 804), (.str (Str.mk ⟨[61, 56, 55]⟩) 808), (.str (Str.mk ⟨[61, 56, 56]⟩) 812), (.str (Str.mk ⟨[61, 56, 57]⟩) 816), (.str (Str.mk ⟨[61, 56, 65]⟩) 820), (.str (Str.mk ⟨[61, 56, 66]⟩) 824), (.str (Str.mk ⟨[61, 56, 67]⟩) 828), (.str (Str.mk ⟨[61, 56, 68]⟩) 832), (.str (Str.mk ⟨[61, 56, 69]⟩) 836), (.str (Str.mk ⟨[61, 56, 70]⟩) 840), (.str (Str.mk ⟨[61, 57, 48]⟩) 844), (.str (Str.mk ⟨[61, 57, 49]⟩) 848), (.str (Str.mk ⟨[61, 57, 50]⟩) 852), (.str (Str.mk ⟨[61, 57, 51]⟩) 856), (.str (Str.mk ⟨[61, 57, 52]⟩) 860), (.str (Str.mk ⟨[61, 57, 53]⟩) 864), (.str (Str.mk ⟨[61, 57, 54]⟩) 868), (.str (Str.mk ⟨[61, 57, 55]⟩) 872), (.str (Str.mk ⟨[61, 57, 56]⟩) 876), (.str (Str.mk ⟨[61, 57, 57]⟩) 880), (.str (Str.mk ⟨[61, 57, 65]⟩) 884), (.str (Str.mk ⟨[61, 57, 66]⟩) 888), (.str (Str.mk ⟨[61, 57, 67]⟩) 892), (.str (Str.mk ⟨[61, 57, 68]⟩) 896), (.str (Str.mk ⟨[61, 57, 69]⟩) 900), (.str (Str.mk ⟨[61, 57, 70]⟩) 904), (.str (Str.mk ⟨[61, 65, 48]⟩) 908), (.str (Str.mk ⟨[61, 65, 49]⟩) 912), (.str (Str.mk ⟨[61, 65, 50]⟩) 916), (.str (Str.mk ⟨[61, 65, 51]⟩) 920), (.str (Str.mk ⟨[61, 65, 52]⟩) 924), (.str (Str.mk ⟨[61, 65, 53]⟩) 928), (.str (Str.mk ⟨[61, 65, 54]⟩) 932), (.str (Str.mk ⟨[61, 65, 55]⟩) 936), (.str (Str.mk ⟨[61, 65, 56]⟩) 940), (.str (Str.mk ⟨[61, 65, 57]⟩) 944), (.str (Str.mk ⟨[61, 65, 65]⟩) 948), (.str (Str.mk ⟨[61, 65, 66]⟩) 952), (.str (Str.mk ⟨[61, 65, 67]⟩) 956), (.str (Str.mk ⟨[61, 65, 68]⟩) 960), (.str (Str.mk ⟨[61, 65, 69]⟩) 964), (.str (Str.mk ⟨[61, 65, 70]⟩) 968), (.str (Str.mk ⟨[61, 66, 48]⟩) 972), (.str (Str.mk ⟨[61, 66, 49]⟩) 976), (.str (Str.mk ⟨[61, 66, 50]⟩) 980), (.str (Str.mk ⟨[61, 66, 51]⟩) 984), (.str (Str.mk ⟨[61, 66, 52]⟩) 988), (.str (Str.mk ⟨[61, 66, 53]⟩) 992), (.str (Str.mk ⟨[61, 66, 54]⟩) 996), (.str (Str.mk ⟨[61, 66, 55]⟩) 1000), (.str (Str.mk ⟨[61, 66, 56]⟩) 1004), (.str (Str.mk ⟨[61, 66, 57]⟩) 1008), (.str (Str.mk ⟨[61, 66, 65]⟩) 1012), (.str (Str.mk ⟨[61, 66, 66]⟩) 1016), (.str (Str.mk ⟨[61, 66, 67]⟩) 1020), (.str (Str.mk ⟨[61, 66, 68]⟩) 1024), (.str (Str.mk ⟨[61, 66, 69]⟩) 1028), (.str (Str.mk ⟨[61, 66, 70]⟩) 1032), (.str (Str.mk ⟨[61, 67, 48]⟩) 1036), (.str (Str.mk ⟨[61, 67, 49]⟩) 1040), (.str (Str.mk ⟨[61, 67, 50]⟩) 1044), (.str (Str.mk ⟨[61, 67, 51]⟩) 1048), (.str (Str.mk ⟨[61, 67, 52]⟩) 1052), (.str (Str.mk ⟨[61, 67, 53]⟩) 1056), (.str (Str.mk ⟨[61, 67, 54]⟩) 1060), (.str (Str.mk ⟨[61, 67, 55]⟩) 1064), (.str (Str.mk ⟨[61, 67, 56]⟩) 1068), (.str (Str.mk ⟨[61, 67, 57]⟩) 1072), (.str (Str.mk ⟨[61, 67, 65]⟩) 1076), (.str (Str.mk ⟨[61, 67, 66]⟩) 1080), (.str (Str.mk ⟨[61, 67, 67]⟩) 1084), (.str (Str.mk ⟨[61, 67, 68]⟩) 1088), (.str (Str.mk ⟨[61, 67, 69]⟩) 1092), (.str (Str.mk ⟨[61, 67, 70]⟩) 1096), (.str (Str.mk ⟨[61, 68, 48]⟩) 1100), (.str (Str.mk ⟨[61, 68, 49]⟩) 1104), (.str (Str.mk ⟨[61, 68, 50]⟩) 1108), (.str (Str.mk ⟨[61, 68, 51]⟩) 1112), (.str (Str.mk ⟨[61, 68, 52]⟩) 1116), (.str (Str.mk ⟨[61, 68, 53]⟩) 1120), (.str (Str.mk ⟨[61, 68, 54]⟩) 1124), (.str (Str.mk ⟨[61, 68, 55]⟩) 1128), (.str (Str.mk ⟨[61, 68, 56]⟩) 1132), (.str (Str.mk ⟨[61, 68, 57]⟩) 1136), (.str (Str.mk ⟨[61, 68, 65]⟩) 1140), (.str (Str.mk ⟨[61, 68, 66]⟩) 1144), (.str (Str.mk ⟨[61, 68, 67]⟩) 1148), (.str (Str.mk ⟨[61, 68, 68]⟩) 1152), (.str (Str.mk ⟨[61, 68, 69]⟩) 1156), (.str (Str.mk ⟨[61, 68, 70]⟩) 1160), (.str (Str.mk ⟨[61, 69, 48]⟩) 1164), (.str (Str.mk ⟨[61, 69, 49]⟩) 1168), (.str (Str.mk ⟨[61, 69, 50]⟩) 1172), (.str (Str.mk ⟨[61, 69, 51]⟩) 1176), (.str (Str.mk ⟨[61, 69, 52]⟩) 1180), (.str (Str.mk ⟨[61, 69, 53]⟩) 1184), (.str (Str.mk ⟨[61, 69, 54]⟩) 1188), (.str (Str.mk ⟨[61, 69, 55]⟩) 1192), (.str (Str.mk ⟨[61, 69, 56]⟩) 1196), (.str (Str.mk ⟨[61, 69, 57]⟩) 1200), (.str (Str.mk ⟨[61, 69, 65]⟩) 1204), (.str (Str.mk ⟨[61, 69, 66]⟩) 1208), (.str (Str.mk ⟨[61, 69, 67]⟩) 1212), (.str (Str.mk ⟨[61, 69, 68]⟩) 1216), (.str (Str.mk ⟨[61, 69, 69]⟩) 1220), (.str (Str.mk ⟨[61, 69, 70]⟩) 1224), (.str (Str.mk ⟨[61, 70, 48]⟩) 1228), (.str (Str.mk ⟨[61, 70, 49]⟩) 1232), (.str (Str.mk ⟨[61, 70, 50]⟩) 1236), (.str (Str.mk ⟨[61, 70, 51]⟩) 1240), (.str (Str.mk ⟨[61, 70, 52]⟩) 1244), (.str (Str.mk ⟨[61, 70, 53]⟩) 1248), (.str (Str.mk ⟨[61, 70, 54]⟩) 1252), (.str (Str.mk ⟨[61, 70, 55]⟩) 1256), (.str (Str.mk ⟨[61, 70, 56]⟩) 1260), (.str (Str.mk ⟨[61, 70, 57]⟩) 1264), (.str (Str.mk ⟨[61, 70, 65]⟩) 1268), (.str (Str.mk ⟨[61, 70, 66]⟩) 1272), (.str (Str.mk ⟨[61, 70, 67]⟩) 1276), (.str (Str.mk ⟨[61, 70, 68]⟩) 1280), (.str (Str.mk ⟨[61, 70, 69]⟩) 1284), (.str (Str.mk ⟨[61, 70, 70]⟩) 1288)]⟩ 0), ⟨[]⟩⟩
noncomputable def ob67_2 (P : Params) : Obj := ⟨(.type "bytes_iterator"), none, (.fields ⟨[.none, (.int 67 0)]⟩), ⟨[]⟩⟩
noncomputable def ob68_0 (P : Params) : Obj := ⟨(.type "tuple"), none, (.seq ⟨[]⟩ 0), ⟨[]⟩⟩
noncomputable def ob69_0 (P : Params) : Obj := ⟨(.type "StopIteration"), none, (.fields ⟨[(.ref 68), .none, .none, .none, (.bool false), .none]⟩), ⟨[]⟩⟩
noncomputable def hp14 (P : Params) : Heap := ⟨⟨[boot_o_0 P, boot_o_1 P, boot_o_2 P, ob3_5 P, boot_o_4 P, boot_o_5 P, boot_o_6 P, boot_o_7 P, boot_o_8 P, boot_o_9 P, boot_o_10 P, ob11_0 P, ob12_1 P, ob13_0 P, ob14_0 P, ob15_0 P, ob16_0 P, ob17_0 P, ob18_0 P, ob19_0 P, ob20_0 P, ob21_0 P, ob22_0 P, ob23_0 P, ob24_0 P, ob25_0 P, ob26_0 P, ob27_0 P, ob28_0 P, ob29_0 P, ob30_0 P, ob31_0 P, ob32_0 P, ob33_0 P, ob34_0 P, ob35_0 P, ob36_0 P, ob37_0 P, ob38_0 P, ob39_0 P, ob40_0 P, ob41_0 P, ob42_0 P, ob43_0 P, ob44_0 P, ob45_0 P, ob46_0 P, ob47_0 P, ob48_0 P, ob49_0 P, ob50_0 P, ob51_0 P, ob52_0 P, ob53_0 P, ob54_0 P, ob55_0 P, ob56_0 P, ob57_0 P, ob58_4 P, ob59_4 P, ob60_4 P, ob61_0 P, ob62_0 P, ob63_0 P, ob64_2 P, ob65_0 P, ob66_0 P, ob67_2 P, ob68_0 P, ob69_0 P]⟩, lifeOf P⟩
noncomputable def tk14 : Nat := 1515
noncomputable def pos14 : Pos := ⟨43, 9, 43, 74⟩
noncomputable def ob64_3 (P : Params) : Obj := ⟨(.type "list"), none, (.seq ⟨[(.str (Str.mk ⟨[61, 48, 48]⟩) 268), (.str (Str.mk ⟨[61, 48, 49]⟩) 272), (.str (Str.mk ⟨[61, 48, 50]⟩) 276), (.str (Str.mk ⟨[61, 48, 51]⟩) 280), (.str (Str.mk ⟨[61, 48, 52]⟩) 284), (.str (Str.mk ⟨[61, 48, 53]⟩) 288), (.str (Str.mk ⟨[61, 48, 54]⟩) 292), (.str (Str.mk ⟨[61, 48, 55]⟩) 296), (.str (Str.mk ⟨[61, 48, 56]⟩) 300), (.str (Str.mk ⟨[61, 48, 57]⟩) 304), (.str (Str.mk ⟨[61, 48, 65]⟩) 308), (.str (Str.mk ⟨[61, 48, 66]⟩) 312), (.str (Str.mk ⟨[61, 48, 67]⟩) 316), (.str (Str.mk ⟨[61, 48, 68]⟩) 320), (.str (Str.mk ⟨[61, 48, 69]⟩) 324), (.str (Str.mk ⟨[61, 48, 70]⟩) 328), (.str (Str.mk ⟨[61, 49, 48]⟩) 332), (.str (Str.mk ⟨[61, 49, 49]⟩) 336), (.str (Str.mk ⟨[61, 49, 50]⟩) 340), (.str (Str.mk ⟨[61, 49, 51]⟩) 344), (.str (Str.mk ⟨[61, 49, 52]⟩) 348), (.str (Str.mk ⟨[61, 49, 53]⟩) 352), (.str (Str.mk ⟨[61, 49, 54]⟩) 356), (.str (Str.mk ⟨[61, 49, 55]⟩) 360), (.str (Str.mk ⟨[61, 49, 56]⟩) 364), (.str (Str.mk ⟨[61, 49, 57]⟩) 368), (.str (Str.mk ⟨[61, 49, 65]⟩) 372), (.str (Str.mk ⟨[61, 49, 66]⟩) 376), (.str (Str.mk ⟨[61, 49, 67]⟩) 380), (.str (Str.mk ⟨[61, 49, 68]⟩) 384), (.str (Str.mk ⟨[61, 49, 69]⟩) 388), (.str (Str.mk ⟨[61, 49, 70]⟩) 392), (.str (Str.mk ⟨[95]⟩) 1515), (.str (Str.mk ⟨[33]⟩) 1319), (.str (Str.mk ⟨[61, 50, 50]⟩) 404), (.str (Str.mk ⟨[61, 50, 51]⟩) 408), (.str (Str.mk ⟨[61, 50, 52]⟩) 412), (.str (Str.mk ⟨[61, 50, 53]⟩) 416), (.str (Str.mk ⟨[61, 50, 54]⟩) 420), (.str (Str.mk ⟨[61, 50, 55]⟩) 424), (.str (Str.mk ⟨[61, 50, 56]⟩) 428), (.str (Str.mk ⟨[61, 50, 57]⟩) 432), (.str (Str.mk ⟨[42]⟩) 1322), (.str (Str.mk ⟨[43]⟩) 1325), (.str (Str.mk ⟨[61, 50, 67]⟩) 444), (.str (Str.mk ⟨[45]⟩) 1316), (.str (Str.mk ⟨[61, 50, 69]⟩) 452), (.str (Str.mk ⟨[47]⟩) 1328), (.str (Str.mk ⟨[48]⟩) 1487), (.str (Str.mk ⟨[49]⟩) 1490), (.str (Str.mk ⟨[50]⟩) 1493), (.str (Str.mk ⟨[51]⟩) 1496), (.str (Str.mk ⟨[52]⟩) 1499), (.str (Str.mk ⟨[53]⟩) 1502), (.str (Str.mk ⟨[54]⟩) 1505), (.str (Str.mk ⟨[55]⟩) 1508), (.str (Str.mk ⟨[56]⟩) 1511), (.str (Str.mk ⟨[57]⟩) 1514), (.str (Str.mk ⟨[61, 51, 65]⟩) 500), (.str (Str.mk ⟨[61, 51, 66]⟩) 504), (.str (Str.mk ⟨[61, 51, 67]⟩) 508), (.str (Str.mk ⟨[61, 51, 68]⟩) 512), (.str (Str.mk ⟨[61, 51, 69]⟩) 516), (.str (Str.mk ⟨[61, 51, 70]⟩) 520), (.str (Str.mk ⟨[61, 52, 48]⟩) 524), (.str (Str.mk ⟨[65]⟩) 1409), (.str (Str.mk ⟨[66]⟩) 1412), (.str (Str.mk ⟨[67]⟩) 1415), (.str (Str.mk ⟨[68]⟩) 1418), (.str (Str.mk ⟨[69]⟩) 1421), (.str (Str.mk ⟨[70]⟩) 1424), (.str (Str.mk ⟨[71]⟩) 1427), (.str (Str.mk ⟨[72]⟩) 1430), (.str (Str.mk ⟨[73]⟩) 1433), (.str (Str.mk ⟨[74]⟩) 1436), (.str (Str.mk ⟨[75]⟩) 1439), (.str (Str.mk ⟨[76]⟩) 1442), (.str (Str.mk ⟨[77]⟩) 1445), (.str (Str.mk ⟨[78]⟩) 1448), (.str (Str.mk ⟨[79]⟩) 1451), (.str (Str.mk ⟨[80]⟩) 1454), (.str (Str.mk ⟨[81]⟩) 1457), (.str (Str.mk ⟨[82]⟩) 1460), (.str (Str.mk ⟨[83]⟩) 1463), (.str (Str.mk ⟨[84]⟩) 1466), (.str (Str.mk ⟨[85]⟩) 1469), (.str (Str.mk ⟨[86]⟩) 1472), (.str (Str.mk ⟨[87]⟩) 1475), (.str (Str.mk ⟨[88]⟩) 1478), (.str (Str.mk ⟨[89]⟩) 1481), (.str (Str.mk ⟨[90]⟩) 1484), (.str (Str.mk ⟨[61, 53, 66]⟩) 632), (.str (Str.mk ⟨[61, 53, 67]⟩) 636), (.str (Str.mk ⟨[61, 53, 68]⟩) 640), (.str (Str.mk ⟨[61, 53, 69]⟩) 644), (.str (Str.mk ⟨[61, 53, 70]⟩) 648), (.str (Str.mk ⟨[61, 54, 48]⟩) 652), (.str (Str.mk ⟨[97]⟩) 1331), (.str (Str.mk ⟨[98]⟩) 1334), (.str (Str.mk ⟨[99]⟩) 1337), (.str (Str.mk ⟨[100]⟩) 1340), (.str (Str.mk ⟨[101]⟩) 1343), (.str (Str.mk ⟨[102]⟩) 1346), (.str (Str.mk ⟨[103]⟩) 1349), (.str (Str.mk ⟨[104]⟩) 1352), (.str (Str.mk ⟨[105]⟩) 1355), (.str (Str.mk ⟨[106]⟩) 1358), (.str (Str.mk ⟨[107]⟩) 1361), (.str (Str.mk ⟨[108]⟩) 1364), (.str (Str.mk ⟨[109]⟩) 1367), (.str (Str.mk ⟨[110]⟩) 1370), (.str (Str.mk ⟨[111]⟩) 1373), (.str (Str.mk ⟨[112]⟩) 1376), (.str (Str.mk ⟨[113]⟩) 1379), (.str (Str.mk ⟨[114]⟩) 1382), (.str (Str.mk ⟨[115]⟩) 1385), (.str (Str.mk ⟨[116]⟩) 1388), (.str (Str.mk ⟨[117]⟩) 1391), (.str (Str.mk ⟨[118]⟩) 1394), (.str (Str.mk ⟨[119]⟩) 1397), (.str (Str.mk ⟨[120]⟩) 1400), (.str (Str.mk ⟨[121]⟩) 1403), (.str (Str.mk ⟨[122]⟩) 1406), (.str (Str.mk ⟨[61, 55, 66]⟩) 760), (.str (Str.mk ⟨[61, 55, 67]⟩) 764), (.str (Str.mk ⟨[61, 55, 68]⟩) 768), (.str (Str.mk ⟨[61, 55, 69]⟩) 772), (.str (Str.mk ⟨[61, 55, 70]⟩) 776), (.str (Str.mk ⟨[61, 56, 48]⟩) 780), (.str (Str.mk ⟨[61, 56, 49]⟩) 784), (.str (Str.mk ⟨[61, 56, 50]⟩) 788), (.str (Str.mk ⟨[61, 56, 51]⟩) 792), (.str (Str.mk ⟨[61, 56, 52]⟩) 796), (.str (Str.mk ⟨[61, 56, 53]⟩) 800), (.str (Str.mk ⟨[61, 56, 54]⟩) 804), (.str (Str.mk ⟨[61, 56, 55]⟩) 808), (.str (Str.mk ⟨[61, 56, 56]⟩) 812), (.str (Str.mk ⟨[61, 56, 57]⟩) 816), (.str (Str.mk ⟨[61, 56, 65]⟩) 820), (.str (Str.mk ⟨[61, 56, 66]⟩) 824), (.str (Str.mk ⟨[61, 56, 67]⟩) 828), (.str (Str.mk ⟨[61, 56, 68]⟩) 832), (.str (Str.mk ⟨[61, 56, 69]⟩) 836), (.str (Str.mk ⟨[61, 56, 70]⟩) 840), (.str (Str.mk ⟨[61, 57, 48]⟩) 844), (.str (Str.mk ⟨[61, 57, 49]⟩) 848), (.str (Str.mk ⟨[61, 57, 50]⟩) 852), (.str (Str.mk ⟨[61, 57, 51]⟩) 856), (.str (Str.mk ⟨[61, 57, 52]⟩) 860), (.str (Str.mk ⟨[61, 57, 53]⟩) 864), (.str (Str.mk ⟨[61, 57, 54]⟩) 868), (.str (Str.mk ⟨[61, 57, 55]⟩) 872), (.str (Str.mk ⟨[61, 57, 56]⟩) 876), (.str (Str.mk ⟨[61, 57, 57]⟩) 880), (.str (Str.mk ⟨[61, 57, 65]⟩) 884), (.str (Str.mk ⟨[61, 57, 66]⟩) 888), (.str (Str.mk ⟨[61, 57, 67]⟩) 892), (.str (Str.mk ⟨[61, 57, 68]⟩) 896), (.str (Str.mk ⟨[61, 57, 69]⟩) 900), (.str (Str.mk ⟨[61, 57, 70]⟩) 904), (.str (Str.mk ⟨[61, 65, 48]⟩) 908), (.str (Str.mk ⟨[61, 65, 49]⟩) 912), (.str (Str.mk ⟨[61, 65, 50]⟩) 916), (.str (Str.mk ⟨[61, 65, 51]⟩) 920), (.str (Str.mk ⟨[61, 65, 52]⟩) 924), (.str (Str.mk ⟨[61, 65, 53]⟩) 928), (.str (Str.mk ⟨[61, 65, 54]⟩) 932), (.str (Str.mk ⟨[61, 65, 55]⟩) 936), (.str (Str.mk ⟨[61, 65, 56]⟩) 940), (.str (Str.mk ⟨[61, 65, 57]⟩) 944), (.str (Str.mk ⟨[61, 65, 65]⟩) 948), (.str (Str.mk ⟨[61, 65, 66]⟩) 952), (.str (Str.mk ⟨[61, 65, 67]⟩) 956), (.str (Str.mk ⟨[61, 65, 68]⟩) 960), (.str (Str.mk ⟨[61, 65, 69]⟩) 964), (.str (Str.mk ⟨[61, 65, 70]⟩) 968), (.str (Str.mk ⟨[61, 66, 48]⟩) 972), (.str (Str.mk ⟨[61, 66, 49]⟩) 976), (.str (Str.mk ⟨[61, 66, 50]⟩) 980), (.str (Str.mk ⟨[61, 66, 51]⟩) 984), (.str (Str.mk ⟨[61, 66, 52]⟩) 988), (.str (Str.mk ⟨[61, 66, 53]⟩) 992), (.str (Str.mk ⟨[61, 66, 54]⟩) 996), (.str (Str.mk ⟨[61, 66, 55]⟩) 1000), (.str (Str.mk ⟨[61, 66, 56]⟩) 1004), (.str (Str.mk ⟨[61, 66, 57]⟩) 1008), (.str (Str.mk ⟨[61, 66, 65]⟩) 1012), (.str (Str.mk ⟨[61, 66, 66]⟩) 1016), (.str (Str.mk ⟨[61, 66, 67]⟩) 1020), (.str (Str.mk ⟨[61, 66, 68]⟩) 1024), (.str (Str.mk ⟨[61, 66, 69]⟩) 1028), (.str (Str.mk ⟨[61, 66, 70]⟩) 1032), (.str (Str.mk ⟨[61, 67, 48]⟩) 1036), (.str (Str.mk ⟨[61, 67, 49]⟩) 1040), (.str (Str.mk ⟨[61, 67, 50]⟩) 1044), (.str (Str.mk ⟨[61, 67, 51]⟩) 1048), (.str (Str.mk ⟨[61, 67, 52]⟩) 1052), (.str (Str.mk ⟨[61, 67, 53]⟩) 1056), (.str (Str.mk ⟨[61, 67, 54]⟩) 1060), (.str (Str.mk ⟨[61, 67, 55]⟩) 1064), (.str (Str.mk ⟨[61, 67, 56]⟩) 1068), (.str (Str.mk ⟨[61, 67, 57]⟩) 1072), (.str (Str.mk ⟨[61, 67, 65]⟩) 1076), (.str (Str.mk ⟨[61, 67, 66]⟩) 1080), (.str (Str.mk ⟨[61, 67, 67]⟩) 1084), (.str (Str.mk ⟨[61, 67, 68]⟩) 1088), (.str (Str.mk ⟨[61, 67, 69]⟩) 1092), (.str (Str.mk ⟨[61, 67, 70]⟩) 1096), (.str (Str.mk ⟨[61, 68, 48]⟩) 1100), (.str (Str.mk ⟨[61, 68, 49]⟩) 1104), (.str (Str.mk ⟨[61, 68, 50]⟩) 1108), (.str (Str.mk ⟨[61, 68, 51]⟩) 1112), (.str (Str.mk ⟨[61, 68, 52]⟩) 1116), (.str (Str.mk ⟨[61, 68, 53]⟩) 1120), (.str (Str.mk ⟨[61, 68, 54]⟩) 1124), (.str (Str.mk ⟨[61, 68, 55]⟩) 1128), (.str (Str.mk ⟨[61, 68, 56]⟩) 1132), (.str (Str.mk ⟨[61, 68, 57]⟩) 1136), (.str (Str.mk ⟨[61, 68, 65]⟩) 1140), (.str (Str.mk ⟨[61, 68, 66]⟩) 1144), (.str (Str.mk ⟨[61, 68, 67]⟩) 1148), (.str (Str.mk ⟨[61, 68, 68]⟩) 1152), (.str (Str.mk ⟨[61, 68, 69]⟩) 1156), (.str (Str.mk ⟨[61, 68, 70]⟩) 1160), (.str (Str.mk ⟨[61, 69, 48]⟩) 1164), (.str (Str.mk ⟨[61, 69, 49]⟩) 1168), (.str (Str.mk ⟨[61, 69, 50]⟩) 1172), (.str (Str.mk ⟨[61, 69, 51]⟩) 1176), (.str (Str.mk ⟨[61, 69, 52]⟩) 1180), (.str (Str.mk ⟨[61, 69, 53]⟩) 1184), (.str (Str.mk ⟨[61, 69, 54]⟩) 1188), (.str (Str.mk ⟨[61, 69, 55]⟩) 1192), (.str (Str.mk ⟨[61, 69, 56]⟩) 1196), (.str (Str.mk ⟨[61, 69, 57]⟩) 1200), (.str (Str.mk ⟨[61, 69, 65]⟩) 1204), (.str (Str.mk ⟨[61, 69, 66]⟩) 1208), (.str (Str.mk ⟨[61, 69, 67]⟩) 1212), (.str (Str.mk ⟨[61, 69, 68]⟩) 1216), (.str (Str.mk ⟨[61, 69, 69]⟩) 1220), (.str (Str.mk ⟨[61, 69, 70]⟩) 1224), (.str (Str.mk ⟨[61, 70, 48]⟩) 1228), (.str (Str.mk ⟨[61, 70, 49]⟩) 1232), (.str (Str.mk ⟨[61, 70, 50]⟩) 1236), (.str (Str.mk ⟨[61, 70, 51]⟩) 1240), (.str (Str.mk ⟨[61, 70, 52]⟩) 1244), (.str (Str.mk ⟨[61, 70, 53]⟩) 1248), (.str (Str.mk ⟨[61, 70, 54]⟩) 1252), (.str (Str.mk ⟨[61, 70, 55]⟩) 1256), (.str (Str.mk ⟨[61, 70, 56]⟩) 1260), (.str (Str.mk ⟨[61, 70, 57]⟩) 1264), (.str (Str.mk ⟨[61, 70, 65]⟩) 1268), (.str (Str.mk ⟨[61, 70, 66]⟩) 1272), (.str (Str.mk ⟨[61, 70, 67]⟩) 1276), (.str (Str.mk ⟨[61, 70, 68]⟩) 1280), (.str (Str.mk ⟨[61, 70, 69]⟩) 1284), (.str (Str.mk ⟨[61, 70, 70]⟩) 1288)]⟩ 0), ⟨[]⟩⟩
noncomputable def hp15 (P : Params) : Heap := ⟨⟨[boot_o_0 P, boot_o_1 P, boot_o_2 P, ob3_5 P, boot_o_4 P, boot_o_5 P, boot_o_6 P, boot_o_7 P, boot_o_8 P, boot_o_9 P, boot_o_10 P, ob11_0 P, ob12_1 P, ob13_0 P, ob14_0 P, ob15_0 P, ob16_0 P, ob17_0 P, ob18_0 P, ob19_0 P, ob20_0 P, ob21_0 P, ob22_0 P, ob23_0 P, ob24_0 P, ob25_0 P, ob26_0 P, ob27_0 P, ob28_0 P, ob29_0 P, ob30_0 P, ob31_0 P, ob32_0 P, ob33_0 P, ob34_0 P, ob35_0 P, ob36_0 P, ob37_0 P, ob38_0 P, ob39_0 P, ob40_0 P, ob41_0 P, ob42_0 P, ob43_0 P, ob44_0 P, ob45_0 P, ob46_0 P, ob47_0 P, ob48_0 P, ob49_0 P, ob50_0 P, ob51_0 P, ob52_0 P, ob53_0 P, ob54_0 P, ob55_0 P, ob56_0 P, ob57_0 P, ob58_4 P, ob59_4 P, ob60_4 P, ob61_0 P, ob62_0 P, ob63_0 P, ob64_3 P, ob65_0 P, ob66_0 P, ob67_2 P, ob68_0 P, ob69_0 P]⟩, lifeOf P⟩
noncomputable def tk15 : Nat := 1518
noncomputable def pos15 : Pos := ⟨45, 0, 45, 28⟩
noncomputable def ob70_0 (P : Params) : Obj := ⟨(.type "bytes_iterator"), none, (.fields ⟨[(.bytes ⟨[32, 33, 34, 35, 36, 37, 38, 39, 40, 41, 42, 43, 44, 45, 46, 47, 48, 49, 50, 51, 52, 53, 54, 55, 56, 57, 58, 59, 60, 62, 63, 64, 65, 66, 67, 68, 69, 70, 71, 72, 73, 74, 75, 76, 77, 78, 79, 80, 81, 82, 83, 84, 85, 86, 87, 88, 89, 90, 91, 92, 93, 94, 95, 96, 97, 98, 99, 100, 101, 102, 103, 104, 105, 106, 107, 108, 109, 110, 111, 112, 113, 114, 115, 116, 117, 118, 119, 120, 121, 122, 123, 124, 125, 126, 9]⟩ 1518), (.int 0 0)]⟩), ⟨[]⟩⟩
noncomputable def hp16_0 (P : Params) : Heap := ⟨⟨[boot_o_0 P, boot_o_1 P, boot_o_2 P, ob3_5 P, boot_o_4 P, boot_o_5 P, boot_o_6 P, boot_o_7 P, boot_o_8 P, boot_o_9 P, boot_o_10 P, ob11_0 P, ob12_1 P, ob13_0 P, ob14_0 P, ob15_0 P, ob16_0 P, ob17_0 P, ob18_0 P, ob19_0 P, ob20_0 P, ob21_0 P, ob22_0 P, ob23_0 P, ob24_0 P, ob25_0 P, ob26_0 P, ob27_0 P, ob28_0 P, ob29_0 P, ob30_0 P, ob31_0 P, ob32_0 P, ob33_0 P, ob34_0 P, ob35_0 P, ob36_0 P, ob37_0 P, ob38_0 P, ob39_0 P, ob40_0 P, ob41_0 P, ob42_0 P, ob43_0 P, ob44_0 P, ob45_0 P, ob46_0 P, ob47_0 P, ob48_0 P, ob49_0 P, ob50_0 P, ob51_0 P, ob52_0 P, ob53_0 P, ob54_0 P, ob55_0 P, ob56_0 P, ob57_0 P, ob58_4 P, ob59_4 P, ob60_4 P, ob61_0 P, ob62_0 P, ob63_0 P, ob64_3 P, ob65_0 P, ob66_0 P, ob67_2 P, ob68_0 P, ob69_0 P, ob70_0 P]⟩, lifeOf P⟩
noncomputable def tk16_0 : Nat := 1519
noncomputable def pos16_0 : Pos := ⟨46, 9, 46, 110⟩
noncomputable def ob3_6 (P : Params) : Obj := ⟨(.type "dict"), none, (.dict ⟨[⟨PyData.keyHash P (Str.ofString "__name__"), (.str (Str.ofString "__name__") 165), (.str (Str.ofString "cpy313.email.quoprimime") 1305)⟩, ⟨PyData.keyHash P (Str.ofString "__doc__"), (.str (Str.ofString "__doc__") 166), .none⟩, ⟨PyData.keyHash P (Str.ofString "__package__"), (.str (Str.ofString "__package__") 167), .none⟩, ⟨PyData.keyHash P (Str.ofString "__loader__"), (.str (Str.ofString "__loader__") 168), (.builtin "__main__.__loader__#opaque")⟩, ⟨PyData.keyHash P (Str.ofString "__spec__"), (.str (Str.ofString "__spec__") 169), .none⟩, ⟨PyData.keyHash P (Str.ofString "__annotations__"), (.str (Str.ofString "__annotations__") 170), (.ref 6)⟩, ⟨PyData.keyHash P (Str.ofString "__builtins__"), (.str (Str.ofString "__builtins__") 171), (.ref 4)⟩, ⟨PyData.keyHash P (Str.ofString "__file__"), (.str (Str.ofString "__file__") 173), (.str (Str.ofString "/claim/cut.py") 172)⟩, ⟨PyData.keyHash P (Str.ofString "__cached__"), (.str (Str.ofString "__cached__") 174), .none⟩, ⟨PyData.keyHash P (Str.ofString "TupleComp"), (.str (Str.ofString "TupleComp") 230), (.ref 38)⟩, ⟨PyData.keyHash P (Str.ofString "add_func_stats"), (.str (Str.ofString "add_func_stats") 248), (.ref 49)⟩, ⟨PyData.keyHash P (Str.ofString "add_callers"), (.str (Str.ofString "add_callers") 259), (.ref 56)⟩, ⟨PyData.keyHash P (Str.ofString "NL"), (.str (Str.ofString "NL") 261), (.str (Str.ofString "\n") 260)⟩, ⟨PyData.keyHash P (Str.ofString "_QUOPRI_MAP"), (.str (Str.ofString "_QUOPRI_MAP") 1289), (.ref 59)⟩, ⟨PyData.keyHash P (Str.ofString "_QUOPRI_HEADER_MAP"), (.str (Str.ofString "_QUOPRI_HEADER_MAP") 1290), (.ref 64)⟩, ⟨PyData.keyHash P (Str.ofString "_QUOPRI_BODY_MAP"), (.str (Str.ofString "_QUOPRI_BODY_MAP") 1291), (.ref 66)⟩, ⟨PyData.keyHash P (Str.ofString "ascii_lowercase"), (.str (Str.ofString "ascii_lowercase") 1293), (.str (Str.ofString "abcdefghijklmnopqrstuvwxyz") 1292)⟩, ⟨PyData.keyHash P (Str.ofString "ascii_uppercase"), (.str (Str.ofString "ascii_uppercase") 1295), (.str (Str.ofString "ABCDEFGHIJKLMNOPQRSTUVWXYZ") 1294)⟩, ⟨PyData.keyHash P (Str.ofString "ascii_letters"), (.str (Str.ofString "ascii_letters") 1297), (.str (Str.ofString "abcdefghijklmnopqrstuvwxyzABCDEFGHIJKLMNOPQRSTUVWXYZ") 1296)⟩, ⟨PyData.keyHash P (Str.ofString "digits"), (.str (Str.ofString "digits") 1299), (.str (Str.ofString "0123456789") 1298)⟩, ⟨PyData.keyHash P (Str.ofString "hexdigits"), (.str (Str.ofString "hexdigits") 1304), (.str (Str.ofString "0123456789abcdefABCDEF") 1303)⟩, ⟨PyData.keyHash P (Str.ofString "c"), (.str (Str.ofString "c") 1315), (.int 64 1612)⟩]⟩ 22), ⟨[]⟩⟩
noncomputable def ob66_1 (P : Params) : Obj := ⟨(.type "list"), none, (.seq ⟨[(.str (Str.mk ⟨[61, 48, 48]⟩) 268), (.str (Str.mk ⟨[61, 48, 49]⟩) 272), (.str (Str.mk ⟨[61, 48, 50]⟩) 276), (.str (Str.mk ⟨[61, 48, 51]⟩) 280), (.str (Str.mk ⟨[61, 48, 52]⟩) 284), (.str (Str.mk ⟨[61, 48, 53]⟩) 288), (.str (Str.mk ⟨[61, 48, 54]⟩) 292), (.str (Str.mk ⟨[61, 48, 55]⟩) 296), (.str (Str.mk ⟨[61, 48, 56]⟩) 300), (.str (Str.mk ⟨[61, 48, 57]⟩) 304), (.str (Str.mk ⟨[61, 48, 65]⟩) 308), (.str (Str.mk ⟨[61, 48, 66]⟩) 312), (.str (Str.mk ⟨[61, 48, 67]⟩) 316), (.str (Str.mk ⟨[61, 48, 68]⟩) 320), (.str (Str.mk ⟨[61, 48, 69]⟩) 324), (.str (Str.mk ⟨[61, 48, 70]⟩) 328), (.str (Str.mk ⟨[61, 49, 48]⟩) 332), (.str (Str.mk ⟨[61, 49, 49]⟩) 336), (.str (Str.mk ⟨[61, 49, 50]⟩) 340), (.str (Str.mk ⟨[61, 49, 51]⟩) 344), (.str (Str.mk ⟨[61, 49, 52]⟩) 348), (.str (Str.mk ⟨[61, 49, 53]⟩) 352), (.str (Str.mk ⟨[61, 49, 54]⟩) 356), (.str (Str.mk ⟨[61, 49, 55]⟩) 360), (.str (Str.mk ⟨[61, 49, 56]⟩) 364), (.str (Str.mk ⟨[61, 49, 57]⟩) 368), (.str (Str.mk ⟨[61, 49, 65]⟩) 372), (.str (Str.mk ⟨[61, 49, 66]⟩) 376), (.str (Str.mk ⟨[61, 49, 67]⟩) 380), (.str (Str.mk ⟨[61, 49, 68]⟩) 384), (.str (Str.mk ⟨[61, 49, 69]⟩) 388), (.str (Str.mk ⟨[61, 49, 70]⟩) 392), (.str (Str.mk ⟨[32]⟩) 1521), (.str (Str.mk ⟨[33]⟩) 1524), (.str (Str.mk ⟨[34]⟩) 1527), (.str (Str.mk ⟨[35]⟩) 1530), (.str (Str.mk ⟨[36]⟩) 1533), (.str (Str.mk ⟨[37]⟩) 1536), (.str (Str.mk ⟨[38]⟩) 1539), (.str (Str.mk ⟨[39]⟩) 1542), (.str (Str.mk ⟨[40]⟩) 1545), (.str (Str.mk ⟨[41]⟩) 1548), (.str (Str.mk ⟨[42]⟩) 1551), (.str (Str.mk ⟨[43]⟩) 1554), (.str (Str.mk ⟨[44]⟩) 1557), (.str (Str.mk ⟨[45]⟩) 1560), (.str (Str.mk ⟨[46]⟩) 1563), (.str (Str.mk ⟨[47]⟩) 1566), (.str (Str.mk ⟨[48]⟩) 1569), (.str (Str.mk ⟨[49]⟩) 1572), (.str (Str.mk ⟨[50]⟩) 1575), (.str (Str.mk ⟨[51]⟩) 1578), (.str (Str.mk ⟨[52]⟩) 1581), (.str (Str.mk ⟨[53]⟩) 1584), (.str (Str.mk ⟨[54]⟩) 1587), (.str (Str.mk ⟨[55]⟩) 1590), (.str (Str.mk ⟨[56]⟩) 1593), (.str (Str.mk ⟨[57]⟩) 1596), (.str (Str.mk ⟨[58]⟩) 1599), (.str (Str.mk ⟨[59]⟩) 1602), (.str (Str.mk ⟨[60]⟩) 1605), (.str (Str.mk ⟨[61, 51, 68]⟩) 512), (.str (Str.mk ⟨[62]⟩) 1608), (.str (Str.mk ⟨[63]⟩) 1611), (.str (Str.mk ⟨[64]⟩) 1614), (.str (Str.mk ⟨[61, 52, 49]⟩) 528), (.str (Str.mk ⟨[61, 52, 50]⟩) 532), (.str (Str.mk ⟨[61, 52, 51]⟩) 536), (.str (Str.mk ⟨[61, 52, 52]⟩) 540), (.str (Str.mk ⟨[61, 52, 53]⟩) 544), (.str (Str.mk ⟨[61, 52, 54]⟩) 548), (.str (Str.mk ⟨[61, 52, 55]⟩) 552), (.str (Str.mk ⟨[61, 52, 56]⟩) 556), (.str (Str.mk ⟨[61, 52, 57]⟩) 560), (.str (Str.mk ⟨[61, 52, 65]⟩) 564), (.str (Str.mk ⟨[61, 52, 66]⟩) 568), (.str (Str.mk ⟨[61, 52, 67]⟩) 572), (.str (Str.mk ⟨[61, 52, 68]⟩) 576), (.str (Str.mk ⟨[61, 52, 69]⟩) 580), (.str (Str.mk ⟨[61, 52, 70]⟩) 584), (.str (Str.mk ⟨[61, 53, 48]⟩) 588), (.str (Str.mk ⟨[61, 53, 49]⟩) 592), (.str (Str.mk ⟨[61, 53, 50]⟩) 596), (.str (Str.mk ⟨[61, 53, 51]⟩) 600), (.str (Str.mk ⟨[61, 53, 52]⟩) 604), (.str (Str.mk ⟨[61, 53, 53]⟩) 608), (.str (Str.mk ⟨[61, 53, 54]⟩) 612), (.str (Str.mk ⟨[61, 53, 55]⟩) 616), (.str (Str.mk ⟨[61, 53, 56]⟩) 620), (.str (Str.mk ⟨[61, 53, 57]⟩) 624), (.str (Str.mk ⟨[61, 53, 65]⟩) 628), (.str (Str.mk ⟨[61, 53, 66]⟩) 632), (.str (Str.mk ⟨[61, 53, 67]⟩) 636), (.str (Str.mk ⟨[61, 53, 68]⟩) 640), (.str (Str.mk ⟨[61, 53, 69]⟩) 644), (.str (Str.mk ⟨[61, 53, 70]⟩) 648), (.str (Str.mk ⟨[61, 54, 48]⟩) 652), (.str (Str.mk ⟨[61, 54, 49]⟩) 656), (.str (Str.mk ⟨[61, 54, 50]⟩) 660), (.str (Str.mk ⟨[61, 54, 51]⟩) 664), (.str (Str.mk ⟨[61, 54, 52]⟩) 668), (.str (Str.mk ⟨[61, 54, 53]⟩) 672), (.str (Str.mk ⟨[61, 54, 54]⟩) 676), (.str (Str.mk ⟨[61, 54, 55]⟩) 680), (.str (Str.mk ⟨[61, 54, 56]⟩) 684), (.str (Str.mk ⟨[61, 54, 57]⟩) 688), (.str (Str.mk ⟨[61, 54, 65]⟩) 692), (.str (Str.mk ⟨[61, 54, 66]⟩) 696), (.str (Str.mk ⟨[61, 54, 67]⟩) 700), (.str (Str.mk ⟨[61, 54, 68]⟩) 704), (.str (Str.mk ⟨[61, 54, 69]⟩) 708), (.str (Str.mk ⟨[61, 54, 70]⟩) 712), (.str (Str.mk ⟨[61, 55, 48]⟩) 716), (.str (Str.mk ⟨[61, 55, 49]⟩) 720), (.str (Str.mk ⟨[61, 55, 50]⟩) 724), (.str (Str.mk ⟨[61, 55, 51]⟩) 728), (.str (Str.mk ⟨[61, 55, 52]⟩) 732), (.str (Str.mk ⟨[61, 55, 53]⟩) 736), (.str (Str.mk ⟨[61, 55, 54]⟩) 740), (.str (Str.mk ⟨[61, 55, 55]⟩) 744), (.str (Str.mk ⟨[61, 55, 56]⟩) 748), (.str (Str.mk ⟨[61, 55, 57]⟩) 752), (.str (Str.mk ⟨[61, 55, 65]⟩) 756), (.str (Str.mk ⟨[61, 55, 66]⟩) 760), (.str (Str.mk ⟨[61, 55, 67]⟩) 764), (.str (Str.mk ⟨[61, 55, 68]⟩) 768), (.str (Str.mk ⟨[61, 55, 69]⟩) 772), (.str (Str.mk ⟨[61, 55, 70]⟩) 776), (.str (Str.mk ⟨[61, 56, 48]⟩) 780), (.str (Str.mk ⟨[61, 56, 49]⟩) 784), (.str (Str.mk ⟨[61, 56, 50]⟩) 788), (.str (Str.mk ⟨[61, 56, 51]⟩) 792), (.str (Str.mk ⟨[61, 56, 52]⟩) 796), (.str (Str.mk ⟨[61, 56, 53]⟩) 800), (.str (Str.mk ⟨[61, 56, 54]⟩) 804), (.str (Str.mk ⟨[61, 56, 55]⟩) 808), (.str (Str.mk ⟨[61, 56, 56]⟩) 812), (.str (Str.mk ⟨[61, 56, 57]⟩) 816), (.str (Str.mk ⟨[61, 56, 65]⟩) 820), (.str (Str.mk ⟨[61, 56, 66]⟩) 824), (.str (Str.mk ⟨[61, 56, 67]⟩) 828), (.str (Str.mk ⟨[61, 56, 68]⟩) 832), (.str (Str.mk ⟨[61, 56, 69]⟩) 836), (.str (Str.mk ⟨[61, 56, 70]⟩) 840), (.str (Str.mk ⟨[61, 57, 48]⟩) 844), (.str (Str.mk ⟨[61, 57, 49]⟩) 848), (.str (Str.mk ⟨[61, 57, 50]⟩) 852), (.str (Str.mk ⟨[61, 57, 51]⟩) 856), (.str (Str.mk ⟨[61, 57, 52]⟩) 860), (.str (Str.mk ⟨[61, 57, 53]⟩) 864), (.str (Str.mk ⟨[61, 57, 54]⟩) 868), (.str (Str.mk ⟨[61, 57, 55]⟩) 872), (.str (Str.mk ⟨[61, 57, 56]⟩) 876), (.str (Str.mk ⟨[61, 57, 57]⟩) 880), (.str (Str.mk ⟨[61, 57, 65]⟩) 884), (.str (Str.mk ⟨[61, 57, 66]⟩) 888), (.str (Str.mk ⟨[61, 57, 67]⟩) 892), (.str (Str.mk ⟨[61, 57, 68]⟩) 896), (.str (Str.mk ⟨[61, 57, 69]⟩) 900), (.str (Str.mk ⟨[61, 57, 70]⟩) 904), (.str (Str.mk ⟨[61, 65, 48]⟩) 908), (.str (Str.mk ⟨[61, 65, 49]⟩) 912), (.str (Str.mk ⟨[61, 65, 50]⟩) 916), (.str (Str.mk ⟨[61, 65, 51]⟩) 920), (.str (Str.mk ⟨[61, 65, 52]⟩) 924), (.str (Str.mk ⟨[61, 65, 53]⟩) 928), (.str (Str.mk ⟨[61, 65, 54]⟩) 932), (.str (Str.mk ⟨[61, 65, 55]⟩) 936), (.str (Str.mk ⟨[61, 65, 56]⟩) 940), (.str (Str.mk ⟨[61, 65, 57]⟩) 944), (.str (Str.mk ⟨[61, 65, 65]⟩) 948), (.str (Str.mk ⟨[61, 65, 66]⟩) 952), (.str (Str.mk ⟨[61, 65, 67]⟩) 956), (.str (Str.mk ⟨[61, 65, 68]⟩) 960), (.str (Str.mk ⟨[61, 65, 69]⟩) 964), (.str (Str.mk ⟨[61, 65, 70]⟩) 968), (.str (Str.mk ⟨[61, 66, 48]⟩) 972), (.str (Str.mk ⟨[61, 66, 49]⟩) 976), (.str (Str.mk ⟨[61, 66, 50]⟩) 980), (.str (Str.mk ⟨[61, 66, 51]⟩) 984), (.str (Str.mk ⟨[61, 66, 52]⟩) 988), (.str (Str.mk ⟨[61, 66, 53]⟩) 992), (.str (Str.mk ⟨[61, 66, 54]⟩) 996), (.str (Str.mk ⟨[61, 66, 55]⟩) 1000), (.str (Str.mk ⟨[61, 66, 56]⟩) 1004), (.str (Str.mk ⟨[61, 66, 57]⟩) 1008), (.str (Str.mk ⟨[61, 66, 65]⟩) 1012), (.str (Str.mk ⟨[61, 66, 66]⟩) 1016), (.str (Str.mk ⟨[61, 66, 67]⟩) 1020), (.str (Str.mk ⟨[61, 66, 68]⟩) 1024), (.str (Str.mk ⟨[61, 66, 69]⟩) 1028), (.str (Str.mk ⟨[61, 66, 70]⟩) 1032), (.str (Str.mk ⟨[61, 67, 48]⟩) 1036), (.str (Str.mk ⟨[61, 67, 49]⟩) 1040), (.str (Str.mk ⟨[61, 67, 50]⟩) 1044), (.str (Str.mk ⟨[61, 67, 51]⟩) 1048), (.str (Str.mk ⟨[61, 67, 52]⟩) 1052), (.str (Str.mk ⟨[61, 67, 53]⟩) 1056), (.str (Str.mk ⟨[61, 67, 54]⟩) 1060), (.str (Str.mk ⟨[61, 67, 55]⟩) 1064), (.str (Str.mk ⟨[61, 67, 56]⟩) 1068), (.str (Str.mk ⟨[61, 67, 57]⟩) 1072), (.str (Str.mk ⟨[61, 67, 65]⟩) 1076), (.str (Str.mk ⟨[61, 67, 66]⟩) 1080), (.str (Str.mk ⟨[61, 67, 67]⟩) 1084), (.str (Str.mk ⟨[61, 67, 68]⟩) 1088), (.str (Str.mk ⟨[61, 67, 69]⟩) 1092), (.str (Str.mk ⟨[61, 67, 70]⟩) 1096), (.str (Str.mk ⟨[61, 68, 48]⟩) 1100), (.str (Str.mk ⟨[61, 68, 49]⟩) 1104), (.str (Str.mk ⟨[61, 68, 50]⟩) 1108), (.str (Str.mk ⟨[61, 68, 51]⟩) 1112), (.str (Str.mk ⟨[61, 68, 52]⟩) 1116), (.str (Str.mk ⟨[61, 68, 53]⟩) 1120), (.str (Str.mk ⟨[61, 68, 54]⟩) 1124), (.str (Str.mk ⟨[61, 68, 55]⟩) 1128), (.str (Str.mk ⟨[61, 68, 56]⟩) 1132), (.str (Str.mk ⟨[61, 68, 57]⟩) 1136), (.str (Str.mk ⟨[61, 68, 65]⟩) 1140), (.str (Str.mk ⟨[61, 68, 66]⟩) 1144), (.str (Str.mk ⟨[61, 68, 67]⟩) 1148), (.str (Str.mk ⟨[61, 68, 68]⟩) 1152), (.str (Str.mk ⟨[61, 68, 69]⟩) 1156), (.str (Str.mk ⟨[61, 68, 70]⟩) 1160), (.str (Str.mk ⟨[61, 69, 48]⟩) 1164), (.str (Str.mk ⟨[61, 69, 49]⟩) 1168), (.str (Str.mk ⟨[61, 69, 50]⟩) 1172), (.str (Str.mk ⟨[61, 69, 51]⟩) 1176), (.str (Str.mk ⟨[61, 69, 52]⟩) 1180), (.str (Str.mk ⟨[61, 69, 53]⟩) 1184), (.str (Str.mk ⟨[61, 69, 54]⟩) 1188), (.str (Str.mk ⟨[61, 69, 55]⟩) 1192), (.str (Str.mk ⟨[61, 69, 56]⟩) 1196), (.str (Str.mk ⟨[61, 69, 57]⟩) 1200), (.str (Str.mk ⟨[61, 69, 65]⟩) 1204), (.str (Str.mk ⟨[61, 69, 66]⟩) 1208), (.str (Str.mk ⟨[61, 69, 67]⟩) 1212), (.str (Str.mk ⟨[61, 69, 68]⟩) 1216), (.str (Str.mk ⟨[61, 69, 69]⟩) 1220), (.str (Str.mk ⟨[61, 69, 70]⟩) 1224), (.str (Str.mk ⟨[61, 70, 48]⟩) 1228), (.str (Str.mk ⟨[61, 70, 49]⟩) 1232), (.str (Str.mk ⟨[61, 70, 50]⟩) 1236), (.str (Str.mk ⟨[61, 70, 51]⟩) 1240), (.str (Str.mk ⟨[61, 70, 52]⟩) 1244), (.str (Str.mk ⟨[61, 70, 53]⟩) 1248), (.str (Str.mk ⟨[61, 70, 54]⟩) 1252), (.str (Str.mk ⟨[61, 70, 55]⟩) 1256), (.str (Str.mk ⟨[61, 70, 56]⟩) 1260), (.str (Str.mk ⟨[61, 70, 57]⟩) 1264), (.str (Str.mk ⟨[61, 70, 65]⟩) 1268), (.str (Str.mk ⟨[61, 70, 66]⟩) 1272), (.str (Str.mk ⟨[61, 70, 67]⟩) 1276), (.str (Str.mk ⟨[61, 70, 68]⟩) 1280), (.str (Str.mk ⟨[61, 70, 69]⟩) 1284), (.str (Str.mk ⟨[61, 70, 70]⟩) 1288)]⟩ 0), ⟨[]⟩⟩
noncomputable def ob70_1 (P : Params) : Obj := ⟨(.type "bytes_iterator"), none, (.fields ⟨[(.bytes ⟨[32, 33, 34, 35, 36, 37, 38, 39, 40, 41, 42, 43, 44, 45, 46, 47, 48, 49, 50, 51, 52, 53, 54, 55, 56, 57, 58, 59, 60, 62, 63, 64, 65, 66, 67, 68, 69, 70, 71, 72, 73, 74, 75, 76, 77, 78, 79, 80, 81, 82, 83, 84, 85, 86, 87, 88, 89, 90, 91, 92, 93, 94, 95, 96, 97, 98, 99, 100, 101, 102, 103, 104, 105, 106, 107, 108, 109, 110, 111, 112, 113, 114, 115, 116, 117, 118, 119, 120, 121, 122, 123, 124, 125, 126, 9]⟩ 1518), (.int 32 0)]⟩), ⟨[]⟩⟩
noncomputable def hp16_32 (P : Params) : Heap := ⟨⟨[boot_o_0 P, boot_o_1 P, boot_o_2 P, ob3_6 P, boot_o_4 P, boot_o_5 P, boot_o_6 P, boot_o_7 P, boot_o_8 P, boot_o_9 P, boot_o_10 P, ob11_0 P, ob12_1 P, ob13_0 P, ob14_0 P, ob15_0 P, ob16_0 P, ob17_0 P, ob18_0 P, ob19_0 P, ob20_0 P, ob21_0 P, ob22_0 P, ob23_0 P, ob24_0 P, ob25_0 P, ob26_0 P, ob27_0 P, ob28_0 P, ob29_0 P, ob30_0 P, ob31_0 P, ob32_0 P, ob33_0 P, ob34_0 P, ob35_0 P, ob36_0 P, ob37_0 P, ob38_0 P, ob39_0 P, ob40_0 P, ob41_0 P, ob42_0 P, ob43_0 P, ob44_0 P, ob45_0 P, ob46_0 P, ob47_0 P, ob48_0 P, ob49_0 P, ob50_0 P, ob51_0 P, ob52_0 P, ob53_0 P, ob54_0 P, ob55_0 P, ob56_0 P, ob57_0 P, ob58_4 P, ob59_4 P, ob60_4 P, ob61_0 P, ob62_0 P, ob63_0 P, ob64_3 P, ob65_0 P, ob66_1 P, ob67_2 P, ob68_0 P, ob69_0 P, ob70_1 P]⟩, lifeOf P⟩
noncomputable def tk16_32 : Nat := 1615
noncomputable def pos16_32 : Pos := ⟨47, 4, 47, 23⟩
noncomputable def ob3_7 (P : Params) : Obj := ⟨(.type "dict"), none, (.dict ⟨[⟨PyData.keyHash P (Str.ofString "__name__"), (.str (Str.ofString "__name__") 165), (.str (Str.ofString "cpy313.email.quoprimime") 1305)⟩, ⟨PyData.keyHash P (Str.ofString "__doc__"), (.str (Str.ofString "__doc__") 166), .none⟩, ⟨PyData.keyHash P (Str.ofString "__package__"), (.str (Str.ofString "__package__") 167), .none⟩, ⟨PyData.keyHash P (Str.ofString "__loader__"), (.str (Str.ofString "__loader__") 168), (.builtin "__main__.__loader__#opaque")⟩, ⟨PyData.keyHash P (Str.ofString "__spec__"), (.str (Str.ofString "__spec__") 169), .none⟩, ⟨PyData.keyHash P (Str.ofString "__annotations__"), (.str (Str.ofString "__annotations__") 170), (.ref 6)⟩, ⟨PyData.keyHash P (Str.ofString "__builtins__"), (.str (Str.ofString "__builtins__") 171), (.ref 4)⟩, ⟨PyData.keyHash P (Str.ofString "__file__"), (.str (Str.ofString "__file__") 173), (.str (Str.ofString "/claim/cut.py") 172)⟩, ⟨PyData.keyHash P (Str.ofString "__cached__"), (.str (Str.ofString "__cached__") 174), .none⟩, ⟨PyData.keyHash P (Str.ofString "TupleComp"), (.str (Str.ofString "TupleComp") 230), (.ref 38)⟩, ⟨PyData.keyHash P (Str.ofString "add_func_stats"), (.str (Str.ofString "add_func_stats") 248), (.ref 49)⟩, ⟨PyData.keyHash P (Str.ofString "add_callers"), (.str (Str.ofString "add_callers") 259), (.ref 56)⟩, ⟨PyData.keyHash P (Str.ofString "NL"), (.str (Str.ofString "NL") 261), (.str (Str.ofString "\n") 260)⟩, ⟨PyData.keyHash P (Str.ofString "_QUOPRI_MAP"), (.str (Str.ofString "_QUOPRI_MAP") 1289), (.ref 59)⟩, ⟨PyData.keyHash P (Str.ofString "_QUOPRI_HEADER_MAP"), (.str (Str.ofString "_QUOPRI_HEADER_MAP") 1290), (.ref 64)⟩, ⟨PyData.keyHash P (Str.ofString "_QUOPRI_BODY_MAP"), (.str (Str.ofString "_QUOPRI_BODY_MAP") 1291), (.ref 66)⟩, ⟨PyData.keyHash P (Str.ofString "ascii_lowercase"), (.str (Str.ofString "ascii_lowercase") 1293), (.str (Str.ofString "abcdefghijklmnopqrstuvwxyz") 1292)⟩, ⟨PyData.keyHash P (Str.ofString "ascii_uppercase"), (.str (Str.ofString "ascii_uppercase") 1295), (.str (Str.ofString "ABCDEFGHIJKLMNOPQRSTUVWXYZ") 1294)⟩, ⟨PyData.keyHash P (Str.ofString "ascii_letters"), (.str (Str.ofString "ascii_letters") 1297), (.str (Str.ofString "abcdefghijklmnopqrstuvwxyzABCDEFGHIJKLMNOPQRSTUVWXYZ") 1296)⟩, ⟨PyData.keyHash P (Str.ofString "digits"), (.str (Str.ofString "digits") 1299), (.str (Str.ofString "0123456789") 1298)⟩, ⟨PyData.keyHash P (Str.ofString "hexdigits"), (.str (Str.ofString "hexdigits") 1304), (.str (Str.ofString "0123456789abcdefABCDEF") 1303)⟩, ⟨PyData.keyHash P (Str.ofString "c"), (.str (Str.ofString "c") 1315), (.int 96 1708)⟩]⟩ 22), ⟨[]⟩⟩
noncomputable def ob66_2 (P : Params) : Obj := ⟨(.type "list"), none, (.seq ⟨[(.str (Str.mk ⟨[61, 48, 48]⟩) 268), (.str (Str.mk ⟨[61, 48, 49]⟩) 272), (.str (Str.mk ⟨[61, 48, 50]⟩) 276), (.str (Str.mk ⟨[61, 48, 51]⟩) 280), (.str (Str.mk ⟨[61, 48, 52]⟩) 284), (.str (Str.mk ⟨[61, 48, 53]⟩) 288), (.str (Str.mk ⟨[61, 48, 54]⟩) 292), (.str (Str.mk ⟨[61, 48, 55]⟩) 296), (.str (Str.mk ⟨[61, 48, 56]⟩) 300), (.str (Str.mk ⟨[61, 48, 57]⟩) 304), (.str (Str.mk ⟨[61, 48, 65]⟩) 308), (.str (Str.mk ⟨[61, 48, 66]⟩) 312), (.str (Str.mk ⟨[61, 48, 67]⟩) 316), (.str (Str.mk ⟨[61, 48, 68]⟩) 320), (.str (Str.mk ⟨[61, 48, 69]⟩) 324), (.str (Str.mk ⟨[61, 48, 70]⟩) 328), (.str (Str.mk ⟨[61, 49, 48]⟩) 332), (.str (Str.mk ⟨[61, 49, 49]⟩) 336), (.str (Str.mk ⟨[61, 49, 50]⟩) 340), (.str (Str.mk ⟨[61, 49, 51]⟩) 344), (.str (Str.mk ⟨[61, 49, 52]⟩) 348), (.str (Str.mk ⟨[61, 49, 53]⟩) 352), (.str (Str.mk ⟨[61, 49, 54]⟩) 356), (.str (Str.mk ⟨[61, 49, 55]⟩) 360), (.str (Str.mk ⟨[61, 49, 56]⟩) 364), (.str (Str.mk ⟨[61, 49, 57]⟩) 368), (.str (Str.mk ⟨[61, 49, 65]⟩) 372), (.str (Str.mk ⟨[61, 49, 66]⟩) 376), (.str (Str.mk ⟨[61, 49, 67]⟩) 380), (.str (Str.mk ⟨[61, 49, 68]⟩) 384), (.str (Str.mk ⟨[61, 49, 69]⟩) 388), (.str (Str.mk ⟨[61, 49, 70]⟩) 392), (.str (Str.mk ⟨[32]⟩) 1521), (.str (Str.mk ⟨[33]⟩) 1524), (.str (Str.mk ⟨[34]⟩) 1527), (.str (Str.mk ⟨[35]⟩) 1530), (.str (Str.mk ⟨[36]⟩) 1533), (.str (Str.mk ⟨[37]⟩) 1536), (.str (Str.mk ⟨[38]⟩) 1539), (.str (Str.mk ⟨[39]⟩) 1542), (.str (Str.mk ⟨[40]⟩) 1545), (.str (Str.mk ⟨[41]⟩) 1548), (.str (Str.mk ⟨[42]⟩) 1551), (.str (Str.mk ⟨[43]⟩) 1554), (.str (Str.mk ⟨[44]⟩) 1557), (.str (Str.mk ⟨[45]⟩) 1560), (.str (Str.mk ⟨[46]⟩) 1563), (.str (Str.mk ⟨[47]⟩) 1566), (.str (Str.mk ⟨[48]⟩) 1569), (.str (Str.mk ⟨[49]⟩) 1572), (.str (Str.mk ⟨[50]⟩) 1575), (.str (Str.mk ⟨[51]⟩) 1578), (.str (Str.mk ⟨[52]⟩) 1581), (.str (Str.mk ⟨[53]⟩) 1584), (.str (Str.mk ⟨[54]⟩) 1587), (.str (Str.mk ⟨[55]⟩) 1590), (.str (Str.mk ⟨[56]⟩) 1593), (.str (Str.mk ⟨[57]⟩) 1596), (.str (Str.mk ⟨[58]⟩) 1599), (.str (Str.mk ⟨[59]⟩) 1602), (.str (Str.mk ⟨[60]⟩) 1605), (.str (Str.mk ⟨[61, 51, 68]⟩) 512), (.str (Str.mk ⟨[62]⟩) 1608), (.str (Str.mk ⟨[63]⟩) 1611), (.str (Str.mk ⟨[64]⟩) 1614), (.str (Str.mk ⟨[65]⟩) 1617), (.str (Str.mk ⟨[66]⟩) 1620), (.str (Str.mk ⟨[67]⟩) 1623), (.str (Str.mk ⟨[68]⟩) 1626), (.str (Str.mk ⟨[69]⟩) 1629), (.str (Str.mk ⟨[70]⟩) 1632), (.str (Str.mk ⟨[71]⟩) 1635), (.str (Str.mk ⟨[72]⟩) 1638), (.str (Str.mk ⟨[73]⟩) 1641), (.str (Str.mk ⟨[74]⟩) 1644), (.str (Str.mk ⟨[75]⟩) 1647), (.str (Str.mk ⟨[76]⟩) 1650), (.str (Str.mk ⟨[77]⟩) 1653), (.str (Str.mk ⟨[78]⟩) 1656), (.str (Str.mk ⟨[79]⟩) 1659), (.str (Str.mk ⟨[80]⟩) 1662), (.str (Str.mk ⟨[81]⟩) 1665), (.str (Str.mk ⟨[82]⟩) 1668), (.str (Str.mk ⟨[83]⟩) 1671), (.str (Str.mk ⟨[84]⟩) 1674), (.str (Str.mk ⟨[85]⟩) 1677), (.str (Str.mk ⟨[86]⟩) 1680), (.str (Str.mk ⟨[87]⟩) 1683), (.str (Str.mk ⟨[88]⟩) 1686), (.str (Str.mk ⟨[89]⟩) 1689), (.str (Str.mk ⟨[90]⟩) 1692), (.str (Str.mk ⟨[91]⟩) 1695), (.str (Str.mk ⟨[92]⟩) 1698), (.str (Str.mk ⟨[93]⟩) 1701), (.str (Str.mk ⟨[94]⟩) 1704), (.str (Str.mk ⟨[95]⟩) 1707), (.str (Str.mk ⟨[96]⟩) 1710), (.str (Str.mk ⟨[61, 54, 49]⟩) 656), (.str (Str.mk ⟨[61, 54, 50]⟩) 660), (.str (Str.mk ⟨[61, 54, 51]⟩) 664), (.str (Str.mk ⟨[61, 54, 52]⟩) 668), (.str (Str.mk ⟨[61, 54, 53]⟩) 672), (.str (Str.mk ⟨[61, 54, 54]⟩) 676), (.str (Str.mk ⟨[61, 54, 55]⟩) 680), (.str (Str.mk ⟨[61, 54, 56]⟩) 684), (.str (Str.mk ⟨[61, 54, 57]⟩) 688), (.str (Str.mk ⟨[61, 54, 65]⟩) 692), (.str (Str.mk ⟨[61, 54, 66]⟩) 696), (.str (Str.mk ⟨[61, 54, 67]⟩) 700), (.str (Str.mk ⟨[61, 54, 68]⟩) 704), (.str (Str.mk ⟨[61, 54, 69]⟩) 708), (.str (Str.mk ⟨[61, 54, 70]⟩) 712), (.str (Str.mk ⟨[61, 55, 48]⟩) 716), (.str (Str.mk ⟨[61, 55, 49]⟩) 720), (.str (Str.mk ⟨[61, 55, 50]⟩) 724), (.str (Str.mk ⟨[61, 55, 51]⟩) 728), (.str (Str.mk ⟨[61, 55, 52]⟩) 732), (.str (Str.mk ⟨[61, 55, 53]⟩) 736), (.str (Str.mk ⟨[61, 55, 54]⟩) 740), (.str (Str.mk ⟨[61, 55, 55]⟩) 744), (.str (Str.mk ⟨[61, 55, 56]⟩) 748), (.str (Str.mk ⟨[61, 55, 57]⟩) 752), (.str (Str.mk ⟨[61, 55, 65]⟩) 756), (.str (Str.mk ⟨[61, 55, 66]⟩) 760), (.str (Str.mk ⟨[61, 55, 67]⟩) 764), (.str (Str.mk ⟨[61, 55, 68]⟩) 768), (.str (Str.mk ⟨[61, 55, 69]⟩) 772), (.str (Str.mk ⟨[61, 55, 70]⟩) 776), (.str (Str.mk ⟨[61, 56, 48]⟩) 780), (.str (Str.mk ⟨[61, 56, 49]⟩) 784), (.str (Str.mk ⟨[61, 56, 50]⟩) 788), (.str (Str.mk ⟨[61, 56, 51]⟩) 792), (.str (Str.mk ⟨[61, 56, 52]⟩) 796), (.str (Str.mk ⟨[61, 56, 53]⟩) 800), (.str (Str.mk ⟨[61, 56, 54]⟩) 804), (.str (Str.mk ⟨[61, 56, 55]⟩) 808), (.str (Str.mk ⟨[61, 56, 56]⟩) 812), (.str (Str.mk ⟨[61, 56, 57]⟩) 816), (.str (Str.mk ⟨[61, 56, 65]⟩) 820), (.str (Str.mk ⟨[61, 56, 66]⟩) 824), (.str (Str.mk ⟨[61, 56, 67]⟩) 828), (.str (Str.mk ⟨[61, 56, 68]⟩) 832), (.str (Str.mk ⟨[61, 56, 69]⟩) 836), (.str (Str.mk ⟨[61, 56, 70]⟩) 840), (.str (Str.mk ⟨[61, 57, 48]⟩) 844), (.str (Str.mk ⟨[61, 57, 49]⟩) 848), (.str (Str.mk ⟨[61, 57, 50]⟩) 852), (.str (Str.mk ⟨[61, 57, 51]⟩) 856), (.str (Str.mk ⟨[61, 57, 52]⟩) 860), (.str (Str.mk ⟨[61, 57, 53]⟩) 864), (.str (Str.mk ⟨[61, 57, 54]⟩) 868), (.str (Str.mk ⟨[61, 57, 55]⟩) 872), (.str (Str.mk ⟨[61, 57, 56]⟩) 876), (.str (Str.mk ⟨[61, 57, 57]⟩) 880), (.str (Str.mk ⟨[61, 57, 65]⟩) 884), (.str (Str.mk ⟨[61, 57, 66]⟩) 888), (.str (Str.mk ⟨[61, 57, 67]⟩) 892), (.str (Str.mk ⟨[61, 57, 68]⟩) 896), (.str (Str.mk ⟨[61, 57, 69]⟩) 900), (.str (Str.mk ⟨[61, 57, 70]⟩) 904), (.str (Str.mk ⟨[61, 65, 48]⟩) 908), (.str (Str.mk ⟨[61, 65, 49]⟩) 912), (.str (Str.mk ⟨[61, 65, 50]⟩) 916), (.str (Str.mk ⟨[61, 65, 51]⟩) 920), (.str (Str.mk ⟨[61, 65, 52]⟩) 924), (.str (Str.mk ⟨[61, 65, 53]⟩) 928), (.str (Str.mk ⟨[61, 65, 54]⟩) 932), (.str (Str.mk ⟨[61, 65, 55]⟩) 936), (.str (Str.mk ⟨[61, 65, 56]⟩) 940), (.str (Str.mk ⟨[61, 65, 57]⟩) 944), (.str (Str.mk ⟨[61, 65, 65]⟩) 948), (.str (Str.mk ⟨[61, 65, 66]⟩) 952), (.str (Str.mk ⟨[61, 65, 67]⟩) 956), (.str (Str.mk ⟨[61, 65, 68]⟩) 960), (.str (Str.mk ⟨[61, 65, 69]⟩) 964), (.str (Str.mk ⟨[61, 65, 70]⟩) 968), (.str (Str.mk ⟨[61, 66, 48]⟩) 972), (.str (Str.mk ⟨[61, 66, 49]⟩) 976), (.str (Str.mk ⟨[61, 66, 50]⟩) 980), (.str (Str.mk ⟨[61, 66, 51]⟩) 984), (.str (Str.mk ⟨[61, 66, 52]⟩) 988), (.str (Str.mk ⟨[61, 66, 53]⟩) 992), (.str (Str.mk ⟨[61, 66, 54]⟩) 996), (.str (Str.mk ⟨[61, 66, 55]⟩) 1000), (.str (Str.mk ⟨[61, 66, 56]⟩) 1004), (.str (Str.mk ⟨[61, 66, 57]⟩) 1008), (.str (Str.mk ⟨[61, 66, 65]⟩) 1012), (.str (Str.mk ⟨[61, 66, 66]⟩) 1016), (.str (Str.mk ⟨[61, 66, 67]⟩) 1020), (.str (Str.mk ⟨[61, 66, 68]⟩) 1024), (.str (Str.mk ⟨[61, 66, 69]⟩) 1028), (.str (Str.mk ⟨[61, 66, 70]⟩) 1032), (.str (Str.mk ⟨[61, 67, 48]⟩) 1036), (.str (Str.mk ⟨[61, 67, 49]⟩) 1040), (.str (Str.mk ⟨[61, 67, 50]⟩) 1044), (.str (Str.mk ⟨[61, 67, 51]⟩) 1048), (.str (Str.mk ⟨[61, 67, 52]⟩) 1052), (.str (Str.mk ⟨[61, 67, 53]⟩) 1056), (.str (Str.mk ⟨[61, 67, 54]⟩) 1060), (.str (Str.mk ⟨[61, 67, 55]⟩) 1064), (.str (Str.mk ⟨[61, 67, 56]⟩) 1068), (.str (Str.mk ⟨[61, 67, 57]⟩) 1072), (.str (Str.mk ⟨[61, 67, 65]⟩) 1076), (.str (Str.mk ⟨[61, 67, 66]⟩) 1080), (.str (Str.mk ⟨[61, 67, 67]⟩) 1084), (.str (Str.mk ⟨[61, 67, 68]⟩) 1088), (.str (Str.mk ⟨[61, 67, 69]⟩) 1092), (.str (Str.mk ⟨[61, 67, 70]⟩) 1096), (.str (Str.mk ⟨[61, 68, 48]⟩) 1100), (.str (Str.mk ⟨[61, 68, 49]⟩) 1104), (.str (Str.mk ⟨[61, 68, 50]⟩) 1108), (.str (Str.mk ⟨[61, 68, 51]⟩) 1112), (.str (Str.mk ⟨[61, 68, 52]⟩) 1116), (.str (Str.mk ⟨[61, 68, 53]⟩) 1120), (.str (Str.mk ⟨[61, 68, 54]⟩) 1124), (.str (Str.mk ⟨[61, 68, 55]⟩) 1128), (.str (Str.mk ⟨[61, 68, 56]⟩) 1132), (.str (Str.mk ⟨[61, 68, 57]⟩) 1136), (.str (Str.mk ⟨[61, 68, 65]⟩) 1140), (.str (Str.mk ⟨[61, 68, 66]⟩) 1144), (.str (Str.mk ⟨[61, 68, 67]⟩) 1148), (.str (Str.mk ⟨[61, 68, 68]⟩) 1152), (.str (Str.mk ⟨[61, 68, 69]⟩) 1156), (.str (Str.mk ⟨[61, 68, 70]⟩) 1160), (.str (Str.mk ⟨[61, 69, 48]⟩) 1164), (.str (Str.mk ⟨[61, 69, 49]⟩) 1168), (.str (Str.mk ⟨[61, 69, 50]⟩) 1172), (.str (Str.mk ⟨[61, 69, 51]⟩) 1176), (.str (Str.mk ⟨[61, 69, 52]⟩) 1180), (.str (Str.mk ⟨[61, 69, 53]⟩) 1184), (.str (Str.mk ⟨[61, 69, 54]⟩) 1188), (.str (Str.mk ⟨[61, 69, 55]⟩) 1192), (.str (Str.mk ⟨[61, 69, 56]⟩) 1196), (.str (Str.mk ⟨[61, 69, 57]⟩) 1200), (.str (Str.mk ⟨[61, 69, 65]⟩) 1204), (.str (Str.mk ⟨[61, 69, 66]⟩) 1208), (.str (Str.mk ⟨[61, 69, 67]⟩) 1212), (.str (Str.mk ⟨[61, 69, 68]⟩) 1216), (.str (Str.mk ⟨[61, 69, 69]⟩) 1220), (.str (Str.mk ⟨[61, 69, 70]⟩) 1224), (.str (Str.mk ⟨[61, 70, 48]⟩) 1228), (.str (Str.mk ⟨[61, 70, 49]⟩) 1232), (.str (Str.mk ⟨[61, 70, 50]⟩) 1236), (.str (Str.mk ⟨[61, 70, 51]⟩) 1240), (.str (Str.mk ⟨[61, 70, 52]⟩) 1244), (.str (Str.mk ⟨[61, 70, 53]⟩) 1248), (.str (Str.mk ⟨[61, 70, 54]⟩) 1252), (.str (Str.mk ⟨[61, 70, 55]⟩) 1256), (.str (Str.mk ⟨[61, 70, 56]⟩) 1260), (.str (Str.mk ⟨[61, 70, 57]⟩) 1264), (.str (Str.mk ⟨[61, 70, 65]⟩) 1268), (.str (Str.mk ⟨[61, 70, 66]⟩) 1272), (.str (Str.mk ⟨[61, 70, 67]⟩) 1276), (.str (Str.mk ⟨[61, 70, 68]⟩) 1280), (.str (Str.mk ⟨[61, 70, 69]⟩) 1284), (.str (Str.mk ⟨[61, 70, 70]⟩) 1288)]⟩ 0), ⟨[]⟩⟩
noncomputable def ob70_2 (P : Params) : Obj := ⟨(.type "bytes_iterator"), none, (.fields ⟨[(.bytes ⟨[32, 33, 34, 35, 36, 37, 38, 39, 40, 41, 42, 43, 44, 45, 46, 47, 48, 49, 50, 51, 52, 53, 54, 55, 56, 57, 58, 59, 60, 62, 63, 64, 65, 66, 67, 68, 69, 70, 71, 72, 73, 74, 75, 76, 77, 78, 79, 80, 81, 82, 83, 84, 85, 86, 87, 88, 89, 90, 91, 92, 93, 94, 95, 96, 97, 98, 99, 100, 101, 102, 103, 104, 105, 106, 107, 108, 109, 110, 111, 112, 113, 114, 115, 116, 117, 118, 119, 120, 121, 122, 123, 124, 125, 126, 9]⟩ 1518), (.int 64 0)]⟩), ⟨[]⟩⟩
noncomputable def hp16_64 (P : Params) : Heap := ⟨⟨[boot_o_0 P, boot_o_1 P, boot_o_2 P, ob3_7 P, boot_o_4 P, boot_o_5 P, boot_o_6 P, boot_o_7 P, boot_o_8 P, boot_o_9 P, boot_o_10 P, ob11_0 P, ob12_1 P, ob13_0 P, ob14_0 P, ob15_0 P, ob16_0 P, ob17_0 P, ob18_0 P, ob19_0 P, ob20_0 P, ob21_0 P, ob22_0 P, ob23_0 P, ob24_0 P, ob25_0 P, ob26_0 P, ob27_0 P, ob28_0 P, ob29_0 P, ob30_0 P, ob31_0 P, ob32_0 P, ob33_0 P, ob34_0 P, ob35_0 P, ob36_0 P, ob37_0 P, ob38_0 P, ob39_0 P, ob40_0 P, ob41_0 P, ob42_0 P, ob43_0 P, ob44_0 P, ob45_0 P, ob46_0 P, ob47_0 P, ob48_0 P, ob49_0 P, ob50_0 P, ob51_0 P, ob52_0 P, ob53_0 P, ob54_0 P, ob55_0 P, ob56_0 P, ob57_0 P, ob58_4 P, ob59_4 P, ob60_4 P, ob61_0 P, ob62_0 P, ob63_0 P, ob64_3 P, ob65_0 P, ob66_2 P, ob67_2 P, ob68_0 P, ob69_0 P, ob70_2 P]⟩, lifeOf P⟩
noncomputable def tk16_64 : Nat := 1711
noncomputable def pos16_64 : Pos := ⟨47, 4, 47, 23⟩
noncomputable def ob3_8 (P : Params) : Obj := ⟨(.type "dict"), none, (.dict ⟨[⟨PyData.keyHash P (Str.ofString "__name__"), (.str (Str.ofString "__name__") 165), (.str (Str.ofString "cpy313.email.quoprimime") 1305)⟩, ⟨PyData.keyHash P (Str.ofString "__doc__"), (.str (Str.ofString "__doc__") 166), .none⟩, ⟨PyData.keyHash P (Str.ofString "__package__"), (.str (Str.ofString "__package__") 167), .none⟩, ⟨PyData.keyHash P (Str.ofString "__loader__"), (.str (Str.ofString "__loader__") 168), (.builtin "__main__.__loader__#opaque")⟩, ⟨PyData.keyHash P (Str.ofString "__spec__"), (.str (Str.ofString "__spec__") 169), .none⟩, ⟨PyData.keyHash P (Str.ofString "__annotations__"), (.str (Str.ofString "__annotations__") 170), (.ref 6)⟩, ⟨PyData.keyHash P (Str.ofString "__builtins__"), (.str (Str.ofString "__builtins__") 171), (.ref 4)⟩, ⟨PyData.keyHash P (Str.ofString "__file__"), (.str (Str.ofString "__file__") 173), (.str (Str.ofString "/claim/cut.py") 172)⟩, ⟨PyData.keyHash P (Str.ofString "__cached__"), (.str (Str.ofString "__cached__") 174), .none⟩, ⟨PyData.keyHash P (Str.ofString "TupleComp"), (.str (Str.ofString "TupleComp") 230), (.ref 38)⟩, ⟨PyData.keyHash P (Str.ofString "add_func_stats"), (.str (Str.ofString "add_func_stats") 248), (.ref 49)⟩, ⟨PyData.keyHash P (Str.ofString "add_callers"), (.str (Str.ofString "add_callers") 259), (.ref 56)⟩, ⟨PyData.keyHash P (Str.ofString "NL"), (.str (Str.ofString "NL") 261), (.str (Str.ofString "\n") 260)⟩, ⟨PyData.keyHash P (Str.ofString "_QUOPRI_MAP"), (.str (Str.ofString "_QUOPRI_MAP") 1289), (.ref 59)⟩, ⟨PyData.keyHash P (Str.ofString "_QUOPRI_HEADER_MAP"), (.str (Str.ofString "_QUOPRI_HEADER_MAP") 1290), (.ref 64)⟩, ⟨PyData.keyHash P (Str.ofString "_QUOPRI_BODY_MAP"), (.str (Str.ofString "_QUOPRI_BODY_MAP") 1291), (.ref 66)⟩, ⟨PyData.keyHash P (Str.ofString "ascii_lowercase"), (.str (Str.ofString "ascii_lowercase") 1293), (.str (Str.ofString "abcdefghijklmnopqrstuvwxyz") 1292)⟩, ⟨PyData.keyHash P (Str.ofString "ascii_uppercase"), (.str (Str.ofString "ascii_uppercase") 1295), (.str (Str.ofString "ABCDEFGHIJKLMNOPQRSTUVWXYZ") 1294)⟩, ⟨PyData.keyHash P (Str.ofString "ascii_letters"), (.str (Str.ofString "ascii_letters") 1297), (.str (Str.ofString "abcdefghijklmnopqrstuvwxyzABCDEFGHIJKLMNOPQRSTUVWXYZ") 1296)⟩, ⟨PyData.keyHash P (Str.ofString "digits"), (.str (Str.ofString "digits") 1299), (.str (Str.ofString "0123456789") 1298)⟩, ⟨PyData.keyHash P (Str.ofString "hexdigits"), (.str (Str.ofString "hexdigits") 1304), (.str (Str.ofString "0123456789abcdefABCDEF") 1303)⟩, ⟨PyData.keyHash P (Str.ofString "c"), (.str (Str.ofString "c") 1315), (.int 9 1801)⟩]⟩ 22), ⟨[]⟩⟩
noncomputable def ob66_3 (P : Params) : Obj := ⟨(.type "list"), none, (.seq ⟨[(.str (Str.mk ⟨[61, 48, 48]⟩) 268), (.str (Str.mk ⟨[61, 48, 49]⟩) 272), (.str (Str.mk ⟨[61, 48, 50]⟩) 276), (.str (Str.mk ⟨[61, 48, 51]⟩) 280), (.str (Str.mk ⟨[61, 48, 52]⟩) 284), (.str (Str.mk ⟨[61, 48, 53]⟩) 288), (.str (Str.mk ⟨[61, 48, 54]⟩) 292), (.str (Str.mk ⟨[61, 48, 55]⟩) 296), (.str (Str.mk ⟨[61, 48, 56]⟩) 300), (.str (Str.mk ⟨[9]⟩) 1803), (.str (Str.mk ⟨[61, 48, 65]⟩) 308), (.str (Str.mk ⟨[61, 48, 66]⟩) 312), (.str (Str.mk ⟨[61, 48, 67]⟩) 316), (.str (Str.mk ⟨[61, 48, 68]⟩) 320), (.str (Str.mk ⟨[61, 48, 69]⟩) 324), (.str (Str.mk ⟨[61, 48, 70]⟩) 328), (.str (Str.mk ⟨[61, 49, 48]⟩) 332), (.str (Str.mk ⟨[61, 49, 49]⟩) 336), (.str (Str.mk ⟨[61, 49, 50]⟩) 340), (.str (Str.mk ⟨[61, 49, 51]⟩) 344), (.str (Str.mk ⟨[61, 49, 52]⟩) 348), (.str (Str.mk ⟨[61, 49, 53]⟩) 352), (.str (Str.mk ⟨[61, 49, 54]⟩) 356), (.str (Str.mk ⟨[61, 49, 55]⟩) 360), (.str (Str.mk ⟨[61, 49, 56]⟩) 364), (.str (Str.mk ⟨[61, 49, 57]⟩) 368), (.str (Str.mk ⟨[61, 49, 65]⟩) 372), (.str (Str.mk ⟨[61, 49, 66]⟩) 376), (.str (Str.mk ⟨[61, 49, 67]⟩) 380), (.str (Str.mk ⟨[61, 49, 68]⟩) 384), (.str (Str.mk ⟨[61, 49, 69]⟩) 388), (.str (Str.mk ⟨[61, 49, 70]⟩) 392), (.str (Str.mk ⟨[32]⟩) 1521), (.str (Str.mk ⟨[33]⟩) 1524), (.str (Str.mk ⟨[34]⟩) 1527), (.str (Str.mk ⟨[35]⟩) 1530), (.str (Str.mk ⟨[36]⟩) 1533), (.str (Str.mk ⟨[37]⟩) 1536), (.str (Str.mk ⟨[38]⟩) 1539), (.str (Str.mk ⟨[39]⟩) 1542), (.str (Str.mk ⟨[40]⟩) 1545), (.str (Str.mk ⟨[41]⟩) 1548), (.str (Str.mk ⟨[42]⟩) 1551), (.str (Str.mk ⟨[43]⟩) 1554), (.str (Str.mk ⟨[44]⟩) 1557), (.str (Str.mk ⟨[45]⟩) 1560), (.str (Str.mk ⟨[46]⟩) 1563), (.str (Str.mk ⟨[47]⟩) 1566), (.str (Str.mk ⟨[48]⟩) 1569), (.str (Str.mk ⟨[49]⟩) 1572), (.str (Str.mk ⟨[50]⟩) 1575), (.str (Str.mk ⟨[51]⟩) 1578), (.str (Str.mk ⟨[52]⟩) 1581), (.str (Str.mk ⟨[53]⟩) 1584), (.str (Str.mk ⟨[54]⟩) 1587), (.str (Str.mk ⟨[55]⟩) 1590), (.str (Str.mk ⟨[56]⟩) 1593), (.str (Str.mk ⟨[57]⟩) 1596), (.str (Str.mk ⟨[58]⟩) 1599), (.str (Str.mk ⟨[59]⟩) 1602), (.str (Str.mk ⟨[60]⟩) 1605), (.str (Str.mk ⟨[61, 51, 68]⟩) 512), (.str (Str.mk ⟨[62]⟩) 1608), (.str (Str.mk ⟨[63]⟩) 1611), (.str (Str.mk ⟨[64]⟩) 1614), (.str (Str.mk ⟨[65]⟩) 1617), (.str (Str.mk ⟨[66]⟩) 1620), (.str (Str.mk ⟨[67]⟩) 1623), (.str (Str.mk ⟨[68]⟩) 1626), (.str (Str.mk ⟨[69]⟩) 1629), (.str (Str.mk ⟨[70]⟩) 1632), (.str (Str.mk ⟨[71]⟩) 1635), (.str (Str.mk ⟨[72]⟩) 1638), (.str (Str.mk ⟨[73]⟩) 1641), (.str (Str.mk ⟨[74]⟩) 1644), (.str (Str.mk ⟨[75]⟩) 1647), (.str (Str.mk ⟨[76]⟩) 1650), (.str (Str.mk ⟨[77]⟩) 1653), (.str (Str.mk ⟨[78]⟩) 1656), (.str (Str.mk ⟨[79]⟩) 1659), (.str (Str.mk ⟨[80]⟩) 1662), (.str (Str.mk ⟨[81]⟩) 1665), (.str (Str.mk ⟨[82]⟩) 1668), (.str (Str.mk ⟨[83]⟩) 1671), (.str (Str.mk ⟨[84]⟩) 1674), (.str (Str.mk ⟨[85]⟩) 1677), (.str (Str.mk ⟨[86]⟩) 1680), (.str (Str.mk ⟨[87]⟩) 1683), (.str (Str.mk ⟨[88]⟩) 1686), (.str (Str.mk ⟨[89]⟩) 1689), (.str (Str.mk ⟨[90]⟩) 1692), (.str (Str.mk ⟨[91]⟩) 1695), (.str (Str.mk ⟨[92]⟩) 1698), (.str (Str.mk ⟨[93]⟩) 1701), (.str (Str.mk ⟨[94]⟩) 1704), (.str (Str.mk ⟨[95]⟩) 1707), (.str (Str.mk ⟨[96]⟩) 1710), (.str (Str.mk ⟨[97]⟩) 1713), (.str (Str.mk ⟨[98]⟩) 1716), (.str (Str.mk ⟨[99]⟩) 1719), (.str (Str.mk ⟨[100]⟩) 1722), (.str (Str.mk ⟨[101]⟩) 1725), (.str (Str.mk ⟨[102]⟩) 1728), (.str (Str.mk ⟨[103]⟩) 1731), (.str (Str.mk ⟨[104]⟩) 1734), (.str (Str.mk ⟨[105]⟩) 1737), (.str (Str.mk ⟨[106]⟩) 1740), (.str (Str.mk ⟨[107]⟩) 1743), (.str (Str.mk ⟨[108]⟩) 1746), (.str (Str.mk ⟨[109]⟩) 1749), (.str (Str.mk ⟨[110]⟩) 1752), (.str (Str.mk ⟨[111]⟩) 1755), (.str (Str.mk ⟨[112]⟩) 1758), (.str (Str.mk ⟨[113]⟩) 1761), (.str (Str.mk ⟨[114]⟩) 1764), (.str (Str.mk ⟨[115]⟩) 1767), (.str (Str.mk ⟨[116]⟩) 1770), (.str (Str.mk ⟨[117]⟩) 1773), (.str (Str.mk ⟨[118]⟩) 1776), (.str (Str.mk ⟨[119]⟩) 1779), (.str (Str.mk ⟨[120]⟩) 1782), (.str (Str.mk ⟨[121]⟩) 1785), (.str (Str.mk ⟨[122]⟩) 1788), (.str (Str.mk ⟨[123]⟩) 1791), (.str (Str.mk ⟨[124]⟩) 1794), (.str (Str.mk ⟨[125]⟩) 1797), (.str (Str.mk ⟨[126]⟩) 1800), (.str (Str.mk ⟨[61, 55, 70]⟩) 776), (.str (Str.mk ⟨[61, 56, 48]⟩) 780), (.str (Str.mk ⟨[61, 56, 49]⟩) 784), (.str (Str.mk ⟨[61, 56, 50]⟩) 788), (.str (Str.mk ⟨[61, 56, 51]⟩) 792), (.str (Str.mk ⟨[61, 56, 52]⟩) 796), (.str (Str.mk ⟨[61, 56, 53]⟩) 800), (.str (Str.mk ⟨[61, 56, 54]⟩) 804), (.str (Str.mk ⟨[61, 56, 55]⟩) 808), (.str (Str.mk ⟨[61, 56, 56]⟩) 812), (.str (Str.mk ⟨[61, 56, 57]⟩) 816), (.str (Str.mk ⟨[61, 56, 65]⟩) 820), (.str (Str.mk ⟨[61, 56, 66]⟩) 824), (.str (Str.mk ⟨[61, 56, 67]⟩) 828), (.str (Str.mk ⟨[61, 56, 68]⟩) 832), (.str (Str.mk ⟨[61, 56, 69]⟩) 836), (.str (Str.mk ⟨[61, 56, 70]⟩) 840), (.str (Str.mk ⟨[61, 57, 48]⟩) 844), (.str (Str.mk ⟨[61, 57, 49]⟩) 848), (.str (Str.mk ⟨[61, 57, 50]⟩) 852), (.str (Str.mk ⟨[61, 57, 51]⟩) 856), (.str (Str.mk ⟨[61, 57, 52]⟩) 860), (.str (Str.mk ⟨[61, 57, 53]⟩) 864), (.str (Str.mk ⟨[61, 57, 54]⟩) 868), (.str (Str.mk ⟨[61, 57, 55]⟩) 872), (.str (Str.mk ⟨[61, 57, 56]⟩) 876), (.str (Str.mk ⟨[61, 57, 57]⟩) 880), (.str (Str.mk ⟨[61, 57, 65]⟩) 884), (.str (Str.mk ⟨[61, 57, 66]⟩) 888), (.str (Str.mk ⟨[61, 57, 67]⟩) 892), (.str (Str.mk ⟨[61, 57, 68]⟩) 896), (.str (Str.mk ⟨[61, 57, 69]⟩) 900), (.str (Str.mk ⟨[61, 57, 70]⟩) 904), (.str (Str.mk ⟨[61, 65, 48]⟩) 908), (.str (Str.mk ⟨[61, 65, 49]⟩) 912), (.str (Str.mk ⟨[61, 65, 50]⟩) 916), (.str (Str.mk ⟨[61, 65, 51]⟩) 920), (.str (Str.mk ⟨[61, 65, 52]⟩) 924), (.str (Str.mk ⟨[61, 65, 53]⟩) 928), (.str (Str.mk ⟨[61, 65, 54]⟩) 932), (.str (Str.mk ⟨[61, 65, 55]⟩) 936), (.str (Str.mk ⟨[61, 65, 56]⟩) 940), (.str (Str.mk ⟨[61, 65, 57]⟩) 944), (.str (Str.mk ⟨[61, 65, 65]⟩) 948), (.str (Str.mk ⟨[61, 65, 66]⟩) 952), (.str (Str.mk ⟨[61, 65, 67]⟩) 956), (.str (Str.mk ⟨[61, 65, 68]⟩) 960), (.str (Str.mk ⟨[61, 65, 69]⟩) 964), (.str (Str.mk ⟨[61, 65, 70]⟩) 968), (.str (Str.mk ⟨[61, 66, 48]⟩) 972), (.str (Str.mk ⟨[61, 66, 49]⟩) 976), (.str (Str.mk ⟨[61, 66, 50]⟩) 980), (.str (Str.mk ⟨[61, 66, 51]⟩) 984), (.str (Str.mk ⟨[61, 66, 52]⟩) 988), (.str (Str.mk ⟨[61, 66, 53]⟩) 992), (.str (Str.mk ⟨[61, 66, 54]⟩) 996), (.str (Str.mk ⟨[61, 66, 55]⟩) 1000), (.str (Str.mk ⟨[61, 66, 56]⟩) 1004), (.str (Str.mk ⟨[61, 66, 57]⟩) 1008), (.str (Str.mk ⟨[61, 66, 65]⟩) 1012), (.str (Str.mk ⟨[61, 66, 66]⟩) 1016), (.str (Str.mk ⟨[61, 66, 67]⟩) 1020), (.str (Str.mk ⟨[61, 66, 68]⟩) 1024), (.str (Str.mk ⟨[61, 66, 69]⟩) 1028), (.str (Str.mk ⟨[61, 66, 70]⟩) 1032), (.str (Str.mk ⟨[61, 67, 48]⟩) 1036), (.str (Str.mk ⟨[61, 67, 49]⟩) 1040), (.str (Str.mk ⟨[61, 67, 50]⟩) 1044), (.str (Str.mk ⟨[61, 67, 51]⟩) 1048), (.str (Str.mk ⟨[61, 67, 52]⟩) 1052), (.str (Str.mk ⟨[61, 67, 53]⟩) 1056), (.str (Str.mk ⟨[61, 67, 54]⟩) 1060), (.str (Str.mk ⟨[61, 67, 55]⟩) 1064), (.str (Str.mk ⟨[61, 67, 56]⟩) 1068), (.str (Str.mk ⟨[61, 67, 57]⟩) 1072), (.str (Str.mk ⟨[61, 67, 65]⟩) 1076), (.str (Str.mk ⟨[61, 67, 66]⟩) 1080), (.str (Str.mk ⟨[61, 67, 67]⟩) 1084), (.str (Str.mk ⟨[61, 67, 68]⟩) 1088), (.str (Str.mk ⟨[61, 67, 69]⟩) 1092), (.str (Str.mk ⟨[61, 67, 70]⟩) 1096), (.str (Str.mk ⟨[61, 68, 48]⟩) 1100), (.str (Str.mk ⟨[61, 68, 49]⟩) 1104), (.str (Str.mk ⟨[61, 68, 50]⟩) 1108), (.str (Str.mk ⟨[61, 68, 51]⟩) 1112), (.str (Str.mk ⟨[61, 68, 52]⟩) 1116), (.str (Str.mk ⟨[61, 68, 53]⟩) 1120), (.str (Str.mk ⟨[61, 68, 54]⟩) 1124), (.str (Str.mk ⟨[61, 68, 55]⟩) 1128), (.str (Str.mk ⟨[61, 68, 56]⟩) 1132), (.str (Str.mk ⟨[61, 68, 57]⟩) 1136), (.str (Str.mk ⟨[61, 68, 65]⟩) 1140), (.str (Str.mk ⟨[61, 68, 66]⟩) 1144), (.str (Str.mk ⟨[61, 68, 67]⟩) 1148), (.str (Str.mk ⟨[61, 68, 68]⟩) 1152), (.str (Str.mk ⟨[61, 68, 69]⟩) 1156), (.str (Str.mk ⟨[61, 68, 70]⟩) 1160), (.str (Str.mk ⟨[61, 69, 48]⟩) 1164), (.str (Str.mk ⟨[61, 69, 49]⟩) 1168), (.str (Str.mk ⟨[61, 69, 50]⟩) 1172), (.str (Str.mk ⟨[61, 69, 51]⟩) 1176), (.str (Str.mk ⟨[61, 69, 52]⟩) 1180), (.str (Str.mk ⟨[61, 69, 53]⟩) 1184), (.str (Str.mk ⟨[61, 69, 54]⟩) 1188), (.str (Str.mk ⟨[61, 69, 55]⟩) 1192), (.str (Str.mk ⟨[61, 69, 56]⟩) 1196), (.str (Str.mk ⟨[61, 69, 57]⟩) 1200), (.str (Str.mk ⟨[61, 69, 65]⟩) 1204), (.str (Str.mk ⟨[61, 69, 66]⟩) 1208), (.str (Str.mk ⟨[61, 69, 67]⟩) 1212), (.str (Str.mk ⟨[61, 69, 68]⟩) 1216), (.str (Str.mk ⟨[61, 69, 69]⟩) 1220), (.str (Str.mk ⟨[61, 69, 70]⟩) 1224), (.str (Str.mk ⟨[61, 70, 48]⟩) 1228), (.str (Str.mk ⟨[61, 70, 49]⟩) 1232), (.str (Str.mk ⟨[61, 70, 50]⟩) 1236), (.str (Str.mk ⟨[61, 70, 51]⟩) 1240), (.str (Str.mk ⟨[61, 70, 52]⟩) 1244), (.str (Str.mk ⟨[61, 70, 53]⟩) 1248), (.str (Str.mk ⟨[61, 70, 54]⟩) 1252), (.str (Str.mk ⟨[61, 70, 55]⟩) 1256), (.str (Str.mk ⟨[61, 70, 56]⟩) 1260), (.str (Str.mk ⟨[61, 70, 57]⟩) 1264), (.str (Str.mk ⟨[61, 70, 65]⟩) 1268), (.str (Str.mk ⟨[61, 70, 66]⟩) 1272), (.str (Str.mk ⟨[61, 70, 67]⟩) 1276), (.str (Str.mk ⟨[61, 70, 68]⟩) 1280), (.str (Str.mk ⟨[61, 70, 69]⟩) 1284), (.str (Str.mk ⟨[61, 70, 70]⟩) 1288)]⟩ 0), ⟨[]⟩⟩
noncomputable def ob70_3 (P : Params) : Obj := ⟨(.type "bytes_iterator"), none, (.fields ⟨[.none, (.int 95 0)]⟩), ⟨[]⟩⟩
noncomputable def ob71_0 (P : Params) : Obj := ⟨(.type "tuple"), none, (.seq ⟨[]⟩ 0), ⟨[]⟩⟩
noncomputable def ob72_0 (P : Params) : Obj := ⟨(.type "StopIteration"), none, (.fields ⟨[(.ref 71), .none, .none, .none, (.bool false), .none]⟩), ⟨[]⟩⟩
noncomputable def hp16 (P : Params) : Heap := ⟨⟨[boot_o_0 P, boot_o_1 P, boot_o_2 P, ob3_8 P, boot_o_4 P, boot_o_5 P, boot_o_6 P, boot_o_7 P, boot_o_8 P, boot_o_9 P, boot_o_10 P, ob11_0 P, ob12_1 P, ob13_0 P, ob14_0 P, ob15_0 P, ob16_0 P, ob17_0 P, ob18_0 P, ob19_0 P, ob20_0 P, ob21_0 P, ob22_0 P, ob23_0 P, ob24_0 P, ob25_0 P, ob26_0 P, ob27_0 P, ob28_0 P, ob29_0 P, ob30_0 P, ob31_0 P, ob32_0 P, ob33_0 P, ob34_0 P, ob35_0 P, ob36_0 P, ob37_0 P, ob38_0 P, ob39_0 P, ob40_0 P, ob41_0 P, ob42_0 P, ob43_0 P, ob44_0 P, ob45_0 P, ob46_0 P, ob47_0 P, ob48_0 P, ob49_0 P, ob50_0 P, ob51_0 P, ob52_0 P, ob53_0 P, ob54_0 P, ob55_0 P, ob56_0 P, ob57_0 P, ob58_4 P, ob59_4 P, ob60_4 P, ob61_0 P, ob62_0 P, ob63_0 P, ob64_3 P, ob65_0 P, ob66_3 P, ob67_2 P, ob68_0 P, ob69_0 P, ob70_3 P, ob71_0 P, ob72_0 P]⟩, lifeOf P⟩
noncomputable def tk16 : Nat := 1804
noncomputable def pos16 : Pos := ⟨46, 9, 46, 110⟩
noncomputable def ob3_9 (P : Params) : Obj := ⟨(.type "dict"), none, (.dict ⟨[⟨PyData.keyHash P (Str.ofString "__name__"), (.str (Str.ofString "__name__") 165), (.str (Str.ofString "cpy313.email.quoprimime") 1305)⟩, ⟨PyData.keyHash P (Str.ofString "__doc__"), (.str (Str.ofString "__doc__") 166), .none⟩, ⟨PyData.keyHash P (Str.ofString "__package__"), (.str (Str.ofString "__package__") 167), .none⟩, ⟨PyData.keyHash P (Str.ofString "__loader__"), (.str (Str.ofString "__loader__") 168), (.builtin "__main__.__loader__#opaque")⟩, ⟨PyData.keyHash P (Str.ofString "__spec__"), (.str (Str.ofString "__spec__") 169), .none⟩, ⟨PyData.keyHash P (Str.ofString "__annotations__"), (.str (Str.ofString "__annotations__") 170), (.ref 6)⟩, ⟨PyData.keyHash P (Str.ofString "__builtins__"), (.str (Str.ofString "__builtins__") 171), (.ref 4)⟩, ⟨PyData.keyHash P (Str.ofString "__file__"), (.str (Str.ofString "__file__") 173), (.str (Str.ofString "/claim/cut.py") 172)⟩, ⟨PyData.keyHash P (Str.ofString "__cached__"), (.str (Str.ofString "__cached__") 174), .none⟩, ⟨PyData.keyHash P (Str.ofString "TupleComp"), (.str (Str.ofString "TupleComp") 230), (.ref 38)⟩, ⟨PyData.keyHash P (Str.ofString "add_func_stats"), (.str (Str.ofString "add_func_stats") 248), (.ref 49)⟩, ⟨PyData.keyHash P (Str.ofString "add_callers"), (.str (Str.ofString "add_callers") 259), (.ref 56)⟩, ⟨PyData.keyHash P (Str.ofString "NL"), (.str (Str.ofString "NL") 261), (.str (Str.ofString "\n") 260)⟩, ⟨PyData.keyHash P (Str.ofString "_QUOPRI_MAP"), (.str (Str.ofString "_QUOPRI_MAP") 1289), (.ref 59)⟩, ⟨PyData.keyHash P (Str.ofString "_QUOPRI_HEADER_MAP"), (.str (Str.ofString "_QUOPRI_HEADER_MAP") 1290), (.ref 64)⟩, ⟨PyData.keyHash P (Str.ofString "_QUOPRI_BODY_MAP"), (.str (Str.ofString "_QUOPRI_BODY_MAP") 1291), (.ref 66)⟩, ⟨PyData.keyHash P (Str.ofString "ascii_lowercase"), (.str (Str.ofString "ascii_lowercase") 1293), (.str (Str.ofString "abcdefghijklmnopqrstuvwxyz") 1292)⟩, ⟨PyData.keyHash P (Str.ofString "ascii_uppercase"), (.str (Str.ofString "ascii_uppercase") 1295), (.str (Str.ofString "ABCDEFGHIJKLMNOPQRSTUVWXYZ") 1294)⟩, ⟨PyData.keyHash P (Str.ofString "ascii_letters"), (.str (Str.ofString "ascii_letters") 1297), (.str (Str.ofString "abcdefghijklmnopqrstuvwxyzABCDEFGHIJKLMNOPQRSTUVWXYZ") 1296)⟩, ⟨PyData.keyHash P (Str.ofString "digits"), (.str (Str.ofString "digits") 1299), (.str (Str.ofString "0123456789") 1298)⟩, ⟨PyData.keyHash P (Str.ofString "hexdigits"), (.str (Str.ofString "hexdigits") 1304), (.str (Str.ofString "0123456789abcdefABCDEF") 1303)⟩, ⟨PyData.keyHash P (Str.ofString "c"), (.str (Str.ofString "c") 1315), (.int 9 1801)⟩, ⟨PyData.keyHash P (Str.ofString "unquote"), (.str (Str.ofString "unquote") 1810), (.ref 79)⟩, ⟨PyData.keyHash P (Str.ofString "quote"), (.str (Str.ofString "quote") 1817), (.ref 86)⟩, ⟨PyData.keyHash P (Str.ofString "_QUOPRI_BODY_ENCODE_MAP"), (.str (Str.ofString "_QUOPRI_BODY_ENCODE_MAP") 1818), (.ref 88)⟩]⟩ 25), ⟨[]⟩⟩
noncomputable def ob12_2 (P : Params) : Obj := ⟨.none, none, (.fields ⟨[(.int 2 0), (.int 0 0), (.ref 20), (.int 16 0), (.int 0 0), (.ref 48), (.int 20 0), (.int 0 0), (.ref 55), (.int 48 0), (.int 0 0), (.ref 78), (.int 50 0), (.int 0 0), (.ref 85)]⟩), ⟨[]⟩⟩
noncomputable def ob73_0 (P : Params) : Obj := ⟨(.type "tuple"), none, (.seq ⟨[]⟩ 0), ⟨[]⟩⟩
noncomputable def ob74_0 (P : Params) : Obj := ⟨.none, none, (.fields ⟨[]⟩), ⟨[]⟩⟩
noncomputable def ob75_0 (P : Params) : Obj := ⟨(.type "tuple"), none, (.seq ⟨[(.str (Str.mk ⟨[115]⟩) 1807)]⟩ 0), ⟨[]⟩⟩
noncomputable def ob76_0 (P : Params) : Obj := ⟨(.type "tuple"), none, (.seq ⟨[]⟩ 0), ⟨[]⟩⟩
noncomputable def ob77_0 (P : Params) : Obj := ⟨.none, none, (.func (fnObj (stm 17) (Str.ofString "unquote") [] 0 .none .none .none .none none .none .none 0)), ⟨[]⟩⟩
noncomputable def ob78_0 (P : Params) : Obj := ⟨(.type "code"), none, (.fields ⟨[(.str (Str.ofString "unquote") 1804), (.str (Str.ofString "unquote") 1805), (.str (Str.ofString "/claim/cut.py") 1806), (.int 48 0), (.int 1 0), (.int 0 0), (.int 0 0), (.int 3 0), (.ref 73), (.bool true), (.int 181 0), (.ref 74), .none, (.ref 75), (.ref 76), (.ref 77), (.int 1808 0), (.int 48 0), (.str (Str.ofString "/claim/cut.py") 1809)]⟩), ⟨[]⟩⟩
noncomputable def ob79_0 (P : Params) : Obj := ⟨(.type "function"), none, (.func (fnObj (stm 17) (Str.ofString "unquote") [] 3 .none .none .none (.str (Str.ofString "cpy313.email.quoprimime") 1305) none (.ref 78) .none 0)), ⟨[]⟩⟩
noncomputable def ob80_0 (P : Params) : Obj := ⟨(.type "tuple"), none, (.seq ⟨[]⟩ 0), ⟨[]⟩⟩
noncomputable def ob81_0 (P : Params) : Obj := ⟨.none, none, (.fields ⟨[]⟩), ⟨[]⟩⟩
noncomputable def ob82_0 (P : Params) : Obj := ⟨(.type "tuple"), none, (.seq ⟨[(.str (Str.mk ⟨[99]⟩) 1814)]⟩ 0), ⟨[]⟩⟩
noncomputable def ob83_0 (P : Params) : Obj := ⟨(.type "tuple"), none, (.seq ⟨[]⟩ 0), ⟨[]⟩⟩
noncomputable def ob84_0 (P : Params) : Obj := ⟨.none, none, (.func (fnObj (stm 18) (Str.ofString "quote") [] 0 .none .none .none .none none .none .none 0)), ⟨[]⟩⟩
noncomputable def ob85_0 (P : Params) : Obj := ⟨(.type "code"), none, (.fields ⟨[(.str (Str.ofString "quote") 1811), (.str (Str.ofString "quote") 1812), (.str (Str.ofString "/claim/cut.py") 1813), (.int 50 0), (.int 1 0), (.int 0 0), (.int 0 0), (.int 3 0), (.ref 80), (.bool true), (.int 181 0), (.ref 81), .none, (.ref 82), (.ref 83), (.ref 84), (.int 1815 0), (.int 50 0), (.str (Str.ofString "/claim/cut.py") 1816)]⟩), ⟨[]⟩⟩
noncomputable def ob86_0 (P : Params) : Obj := ⟨(.type "function"), none, (.func (fnObj (stm 18) (Str.ofString "quote") [] 3 .none .none .none (.str (Str.ofString "cpy313.email.quoprimime") 1305) none (.ref 85) .none 0)), ⟨[]⟩⟩
noncomputable def ob87_0 (P : Params) : Obj := ⟨(.type "slice"), none, (.fields ⟨[.none, .none, .none]⟩), ⟨[]⟩⟩
noncomputable def ob88_0 (P : Params) : Obj := ⟨(.type "list"), none, (.seq ⟨[(.str (Str.mk ⟨[61, 48, 48]⟩) 268), (.str (Str.mk ⟨[61, 48, 49]⟩) 272), (.str (Str.mk ⟨[61, 48, 50]⟩) 276), (.str (Str.mk ⟨[61, 48, 51]⟩) 280), (.str (Str.mk ⟨[61, 48, 52]⟩) 284), (.str (Str.mk ⟨[61, 48, 53]⟩) 288), (.str (Str.mk ⟨[61, 48, 54]⟩) 292), (.str (Str.mk ⟨[61, 48, 55]⟩) 296), (.str (Str.mk ⟨[61, 48, 56]⟩) 300), (.str (Str.mk ⟨[9]⟩) 1803), (.str (Str.mk ⟨[61, 48, 65]⟩) 308), (.str (Str.mk ⟨[61, 48, 66]⟩) 312), (.str (Str.mk ⟨[61, 48, 67]⟩) 316), (.str (Str.mk ⟨[61, 48, 68]⟩) 320), (.str (Str.mk ⟨[61, 48, 69]⟩) 324), (.str (Str.mk ⟨[61, 48, 70]⟩) 328), (.str (Str.mk ⟨[61, 49, 48]⟩) 332), (.str (Str.mk ⟨[61, 49, 49]⟩) 336), (.str (Str.mk ⟨[61, 49, 50]⟩) 340), (.str (Str.mk ⟨[61, 49, 51]⟩) 344), (.str (Str.mk ⟨[61, 49, 52]⟩) 348), (.str (Str.mk ⟨[61, 49, 53]⟩) 352), (.str (Str.mk ⟨[61, 49, 54]⟩) 356), (.str (Str.mk ⟨[61, 49, 55]⟩) 360), (.str (Str.mk ⟨[61, 49, 56]⟩) 364), (.str (Str.mk ⟨[61, 49, 57]⟩) 368), (.str (Str.mk ⟨[61, 49, 65]⟩) 372), (.str (Str.mk ⟨[61, 49, 66]⟩) 376), (.str (Str.mk ⟨[61, 49, 67]⟩) 380), (.str (Str.mk ⟨[61, 49, 68]⟩) 384), (.str (Str.mk ⟨[61, 49, 69]⟩) 388), (.str (Str.mk ⟨[61, 49, 70]⟩) 392), (.str (Str.mk ⟨[32]⟩) 1521), (.str (Str.mk ⟨[33]⟩) 1524), (.str (Str.mk ⟨[34]⟩) 1527), (.str (Str.mk ⟨[35]⟩) 1530), (.str (Str.mk ⟨[36]⟩) 1533), (.str (Str.mk ⟨[37]⟩) 1536), (.str (Str.mk ⟨[38]⟩) 1539), (.str (Str.mk ⟨[39]⟩) 1542), (.str (Str.mk ⟨[40]⟩) 1545), (.str (Str.mk ⟨[41]⟩) 1548), (.str (Str.mk ⟨[42]⟩) 1551), (.str (Str.mk ⟨[43]⟩) 1554), (.str (Str.mk ⟨[44]⟩) 1557), (.str (Str.mk ⟨[45]⟩) 1560), (.str (Str.mk ⟨[46]⟩) 1563), (.str (Str.mk ⟨[47]⟩) 1566), (.str (Str.mk ⟨[48]⟩) 1569), (.str (Str.mk ⟨[49]⟩) 1572), (.str (Str.mk ⟨[50]⟩) 1575), (.str (Str.mk ⟨[51]⟩) 1578), (.str (Str.mk ⟨[52]⟩) 1581), (.str (Str.mk ⟨[53]⟩) 1584), (.str (Str.mk ⟨[54]⟩) 1587), (.str (Str.mk ⟨[55]⟩) 1590), (.str (Str.mk ⟨[56]⟩) 1593), (.str (Str.mk ⟨[57]⟩) 1596), (.str (Str.mk ⟨[58]⟩) 1599), (.str (Str.mk ⟨[59]⟩) 1602), (.str (Str.mk ⟨[60]⟩) 1605), (.str (Str.mk ⟨[61, 51, 68]⟩) 512), (.str (Str.mk ⟨[62]⟩) 1608), (.str (Str.mk ⟨[63]⟩) 1611), (.str (Str.mk ⟨[64]⟩) 1614), (.str (Str.mk ⟨[65]⟩) 1617), (.str (Str.mk ⟨[66]⟩) 1620), (.str (Str.mk ⟨[67]⟩) 1623), (.str (Str.mk ⟨[68]⟩) 1626), (.str (Str.mk ⟨[69]⟩) 1629), (.str (Str.mk ⟨[70]⟩) 1632), (.str (Str.mk ⟨[71]⟩) 1635), (.str (Str.mk ⟨[72]⟩) 1638), (.str (Str.mk ⟨[73]⟩) 1641), (.str (Str.mk ⟨[74]⟩) 1644), (.str (Str.mk ⟨[75]⟩) 1647), (.str (Str.mk ⟨[76]⟩) 1650), (.str (Str.mk ⟨[77]⟩) 1653), (.str (Str.mk ⟨[78]⟩) 1656), (.str (Str.mk ⟨[79]⟩) 1659), (.str (Str.mk ⟨[80]⟩) 1662), (.str (Str.mk ⟨[81]⟩) 1665), (.str (Str.mk ⟨[82]⟩) 1668), (.str (Str.mk ⟨[83]⟩) 1671), (.str (Str.mk ⟨[84]⟩) 1674), (.str (Str.mk ⟨[85]⟩) 1677), (.str (Str.mk ⟨[86]⟩) 1680), (.str (Str.mk ⟨[87]⟩) 1683), (.str (Str.mk ⟨[88]⟩) 1686), (.str (Str.mk ⟨[89]⟩) 1689), (.str (Str.mk ⟨[90]⟩) 1692), (.str (Str.mk ⟨[91]⟩) 1695), (.str (Str.mk ⟨[92]⟩) 1698), (.str (Str.mk ⟨[93]⟩) 1701), (.str (Str.mk ⟨[94]⟩) 1704), (.str (Str.mk ⟨[95]⟩) 1707), (.str (Str.mk ⟨[96]⟩) 1710), (.str (Str.mk ⟨[97]⟩) 1713), (.str (Str.mk ⟨[98]⟩) 1716), (.str (Str.mk ⟨[99]⟩) 1719), (.str (Str.mk ⟨[100]⟩) 1722), (.str (Str.mk ⟨[101]⟩) 1725), (.str (Str.mk ⟨[102]⟩) 1728), (.str (Str.mk ⟨[103]⟩) 1731), (.str (Str.mk ⟨[104]⟩) 1734), (.str (Str.mk ⟨[105]⟩) 1737), (.str (Str.mk ⟨[106]⟩) 1740), (.str (Str.mk ⟨[107]⟩) 1743), (.str (Str.mk ⟨[108]⟩) 1746), (.str (Str.mk ⟨[109]⟩) 1749), (.str (Str.mk ⟨[110]⟩) 1752), (.str (Str.mk ⟨[111]⟩) 1755), (.str (Str.mk ⟨[112]⟩) 1758), (.str (Str.mk ⟨[113]⟩) 1761), (.str (Str.mk ⟨[114]⟩) 1764), (.str (Str.mk ⟨[115]⟩) 1767), (.str (Str.mk ⟨[116]⟩) 1770), (.str (Str.mk ⟨[117]⟩) 1773), (.str (Str.mk ⟨[118]⟩) 1776), (.str (Str.mk ⟨[119]⟩) 1779), (.str (Str.mk ⟨[120]⟩) 1782), (.str (Str.mk ⟨[121]⟩) 1785), (.str (Str.mk ⟨[122]⟩) 1788), (.str (Str.mk ⟨[123]⟩) 1791), (.str (Str.mk ⟨[124]⟩) 1794), (.str (Str.mk ⟨[125]⟩) 1797), (.str (Str.mk ⟨[126]⟩) 1800), (.str (Str.mk ⟨[61, 55, 70]⟩) 776), (.str (Str.mk ⟨[61, 56, 48]⟩) 780), (.str (Str.mk ⟨[61, 56, 49]⟩) 784), (.str (Str.mk ⟨[61, 56, 50]⟩) 788), (.str (Str.mk ⟨[61, 56, 51]⟩) 792), (.str (Str.mk ⟨[61, 56, 52]⟩) 796), (.str (Str.mk ⟨[61, 56, 53]⟩) 800), (.str (Str.mk ⟨[61, 56, 54]⟩) 804), (.str (Str.mk ⟨[61, 56, 55]⟩) 808), (.str (Str.mk ⟨[61, 56, 56]⟩) 812), (.str (Str.mk ⟨[61, 56, 57]⟩) 816), (.str (Str.mk ⟨[61, 56, 65]⟩) 820), (.str (Str.mk ⟨[61, 56, 66]⟩) 824), (.str (Str.mk ⟨[61, 56, 67]⟩) 828), (.str (Str.mk ⟨[61, 56, 68]⟩) 832), (.str (Str.mk ⟨[61, 56, 69]⟩) 836), (.str (Str.mk ⟨[61, 56, 70]⟩) 840), (.str (Str.mk ⟨[61, 57, 48]⟩) 844), (.str (Str.mk ⟨[61, 57, 49]⟩) 848), (.str (Str.mk ⟨[61, 57, 50]⟩) 852), (.str (Str.mk ⟨[61, 57, 51]⟩) 856), (.str (Str.mk ⟨[61, 57, 52]⟩) 860), (.str (Str.mk ⟨[61, 57, 53]⟩) 864), (.str (Str.mk ⟨[61, 57, 54]⟩) 868), (.str (Str.mk ⟨[61, 57, 55]⟩) 872), (.str (Str.mk ⟨[61, 57, 56]⟩) 876), (.str (Str.mk ⟨[61, 57, 57]⟩) 880), (.str (Str.mk ⟨[61, 57, 65]⟩) 884), (.str (Str.mk ⟨[61, 57, 66]⟩) 888), (.str (Str.mk ⟨[61, 57, 67]⟩) 892), (.str (Str.mk ⟨[61, 57, 68]⟩) 896), (.str (Str.mk ⟨[61, 57, 69]⟩) 900), (.str (Str.mk ⟨[61, 57, 70]⟩) 904), (.str (Str.mk ⟨[61, 65, 48]⟩) 908), (.str (Str.mk ⟨[61, 65, 49]⟩) 912), (.str (Str.mk ⟨[61, 65, 50]⟩) 916), (.str (Str.mk ⟨[61, 65, 51]⟩) 920), (.str (Str.mk ⟨[61, 65, 52]⟩) 924), (.str (Str.mk ⟨[61, 65, 53]⟩) 928), (.str (Str.mk ⟨[61, 65, 54]⟩) 932), (.str (Str.mk ⟨[61, 65, 55]⟩) 936), (.str (Str.mk ⟨[61, 65, 56]⟩) 940), (.str (Str.mk ⟨[61, 65, 57]⟩) 944), (.str (Str.mk ⟨[61, 65, 65]⟩) 948), (.str (Str.mk ⟨[61, 65, 66]⟩) 952), (.str (Str.mk ⟨[61, 65, 67]⟩) 956), (.str (Str.mk ⟨[61, 65, 68]⟩) 960), (.str (Str.mk ⟨[61, 65, 69]⟩) 964), (.str (Str.mk ⟨[61, 65, 70]⟩) 968), (.str (Str.mk ⟨[61, 66, 48]⟩) 972), (.str (Str.mk ⟨[61, 66, 49]⟩) 976), (.str (Str.mk ⟨[61, 66, 50]⟩) 980), (.str (Str.mk ⟨[61, 66, 51]⟩) 984), (.str (Str.mk ⟨[61, 66, 52]⟩) 988), (.str (Str.mk ⟨[61, 66, 53]⟩) 992), (.str (Str.mk ⟨[61, 66, 54]⟩) 996), (.str (Str.mk ⟨[61, 66, 55]⟩) 1000), (.str (Str.mk ⟨[61, 66, 56]⟩) 1004), (.str (Str.mk ⟨[61, 66, 57]⟩) 1008), (.str (Str.mk ⟨[61, 66, 65]⟩) 1012), (.str (Str.mk ⟨[61, 66, 66]⟩) 1016), (.str (Str.mk ⟨[61, 66, 67]⟩) 1020), (.str (Str.mk ⟨[61, 66, 68]⟩) 1024), (.str (Str.mk ⟨[61, 66, 69]⟩) 1028), (.str (Str.mk ⟨[61, 66, 70]⟩) 1032), (.str (Str.mk ⟨[61, 67, 48]⟩) 1036), (.str (Str.mk ⟨[61, 67, 49]⟩) 1040), (.str (Str.mk ⟨[61, 67, 50]⟩) 1044), (.str (Str.mk ⟨[61, 67, 51]⟩) 1048), (.str (Str.mk ⟨[61, 67, 52]⟩) 1052), (.str (Str.mk ⟨[61, 67, 53]⟩) 1056), (.str (Str.mk ⟨[61, 67, 54]⟩) 1060), (.str (Str.mk ⟨[61, 67, 55]⟩) 1064), (.str (Str.mk ⟨[61, 67, 56]⟩) 1068), (.str (Str.mk ⟨[61, 67, 57]⟩) 1072), (.str (Str.mk ⟨[61, 67, 65]⟩) 1076), (.str (Str.mk ⟨[61, 67, 66]⟩) 1080), (.str (Str.mk ⟨[61, 67, 67]⟩) 1084), (.str (Str.mk ⟨[61, 67, 68]⟩) 1088), (.str (Str.mk ⟨[61, 67, 69]⟩) 1092), (.str (Str.mk ⟨[61, 67, 70]⟩) 1096), (.str (Str.mk ⟨[61, 68, 48]⟩) 1100), (.str (Str.mk ⟨[61, 68, 49]⟩) 1104), (.str (Str.mk ⟨[61, 68, 50]⟩) 1108), (.str (Str.mk ⟨[61, 68, 51]⟩) 1112), (.str (Str.mk ⟨[61, 68, 52]⟩) 1116), (.str (Str.mk ⟨[61, 68, 53]⟩) 1120), (.str (Str.mk ⟨[61, 68, 54]⟩) 1124), (.str (Str.mk ⟨[61, 68, 55]⟩) 1128), (.str (Str.mk ⟨[61, 68, 56]⟩) 1132), (.str (Str.mk ⟨[61, 68, 57]⟩) 1136), (.str (Str.mk ⟨[61, 68, 65]⟩) 1140), (.str (Str.mk ⟨[61, 68, 66]⟩) 1144), (.str (Str.mk ⟨[61, 68, 67]⟩) 1148), (.str (Str.mk ⟨[61, 68, 68]⟩) 1152), (.str (Str.mk ⟨[61, 68, 69]⟩) 1156), (.str (Str.mk ⟨[61, 68, 70]⟩) 1160), (.str (Str.mk ⟨[61, 69, 48]⟩) 1164), (.str (Str.mk ⟨[61, 69, 49]⟩) 1168), (.str (Str.mk ⟨[61, 69, 50]⟩) 1172), (.str (Str.mk ⟨[61, 69, 51]⟩) 1176), (.str (Str.mk ⟨[61, 69, 52]⟩) 1180), (.str (Str.mk ⟨[61, 69, 53]⟩) 1184), (.str (Str.mk ⟨[61, 69, 54]⟩) 1188), (.str (Str.mk ⟨[61, 69, 55]⟩) 1192), (.str (Str.mk ⟨[61, 69, 56]⟩) 1196), (.str (Str.mk ⟨[61, 69, 57]⟩) 1200), (.str (Str.mk ⟨[61, 69, 65]⟩) 1204), (.str (Str.mk ⟨[61, 69, 66]⟩) 1208), (.str (Str.mk ⟨[61, 69, 67]⟩) 1212), (.str (Str.mk ⟨[61, 69, 68]⟩) 1216), (.str (Str.mk ⟨[61, 69, 69]⟩) 1220), (.str (Str.mk ⟨[61, 69, 70]⟩) 1224), (.str (Str.mk ⟨[61, 70, 48]⟩) 1228), (.str (Str.mk ⟨[61, 70, 49]⟩) 1232), (.str (Str.mk ⟨[61, 70, 50]⟩) 1236), (.str (Str.mk ⟨[61, 70, 51]⟩) 1240), (.str (Str.mk ⟨[61, 70, 52]⟩) 1244), (.str (Str.mk ⟨[61, 70, 53]⟩) 1248), (.str (Str.mk ⟨[61, 70, 54]⟩) 1252), (.str (Str.mk ⟨[61, 70, 55]⟩) 1256), (.str (Str.mk ⟨[61, 70, 56]⟩) 1260), (.str (Str.mk ⟨[61, 70, 57]⟩) 1264), (.str (Str.mk ⟨[61, 70, 65]⟩) 1268), (.str (Str.mk ⟨[61, 70, 66]⟩) 1272), (.str (Str.mk ⟨[61, 70, 67]⟩) 1276), (.str (Str.mk ⟨[61, 70, 68]⟩) 1280), (.str (Str.mk ⟨[61, 70, 69]⟩) 1284), (.str (Str.mk ⟨[61, 70, 70]⟩) 1288)]⟩ 0), ⟨[]⟩⟩
noncomputable def hp19 (P : Params) : Heap := ⟨⟨[boot_o_0 P, boot_o_1 P, boot_o_2 P, ob3_9 P, boot_o_4 P, boot_o_5 P, boot_o_6 P, boot_o_7 P, boot_o_8 P, boot_o_9 P, boot_o_10 P, ob11_0 P, ob12_2 P, ob13_0 P, ob14_0 P, ob15_0 P, ob16_0 P, ob17_0 P, ob18_0 P, ob19_0 P, ob20_0 P, ob21_0 P, ob22_0 P, ob23_0 P, ob24_0 P, ob25_0 P, ob26_0 P, ob27_0 P, ob28_0 P, ob29_0 P, ob30_0 P, ob31_0 P, ob32_0 P, ob33_0 P, ob34_0 P, ob35_0 P, ob36_0 P, ob37_0 P, ob38_0 P, ob39_0 P, ob40_0 P, ob41_0 P, ob42_0 P, ob43_0 P, ob44_0 P, ob45_0 P, ob46_0 P, ob47_0 P, ob48_0 P, ob49_0 P, ob50_0 P, ob51_0 P, ob52_0 P, ob53_0 P, ob54_0 P, ob55_0 P, ob56_0 P, ob57_0 P, ob58_4 P, ob59_4 P, ob60_4 P, ob61_0 P, ob62_0 P, ob63_0 P, ob64_3 P, ob65_0 P, ob66_3 P, ob67_2 P, ob68_0 P, ob69_0 P, ob70_3 P, ob71_0 P, ob72_0 P, ob73_0 P, ob74_0 P, ob75_0 P, ob76_0 P, ob77_0 P, ob78_0 P, ob79_0 P, ob80_0 P, ob81_0 P, ob82_0 P, ob83_0 P, ob84_0 P, ob85_0 P, ob86_0 P, ob87_0 P, ob88_0 P]⟩, lifeOf P⟩
noncomputable def tk19 : Nat := 1819
noncomputable def pos19 : Pos := ⟨52, 0, 52, 23⟩
noncomputable def ob3_10 (P : Params) : Obj := ⟨(.type "dict"), none, (.dict ⟨[⟨PyData.keyHash P (Str.ofString "__name__"), (.str (Str.ofString "__name__") 165), (.str (Str.ofString "cpy313.email.quoprimime") 1305)⟩, ⟨PyData.keyHash P (Str.ofString "__doc__"), (.str (Str.ofString "__doc__") 166), .none⟩, ⟨PyData.keyHash P (Str.ofString "__package__"), (.str (Str.ofString "__package__") 167), .none⟩, ⟨PyData.keyHash P (Str.ofString "__loader__"), (.str (Str.ofString "__loader__") 168), (.builtin "__main__.__loader__#opaque")⟩, ⟨PyData.keyHash P (Str.ofString "__spec__"), (.str (Str.ofString "__spec__") 169), .none⟩, ⟨PyData.keyHash P (Str.ofString "__annotations__"), (.str (Str.ofString "__annotations__") 170), (.ref 6)⟩, ⟨PyData.keyHash P (Str.ofString "__builtins__"), (.str (Str.ofString "__builtins__") 171), (.ref 4)⟩, ⟨PyData.keyHash P (Str.ofString "__file__"), (.str (Str.ofString "__file__") 173), (.str (Str.ofString "/claim/cut.py") 172)⟩, ⟨PyData.keyHash P (Str.ofString "__cached__"), (.str (Str.ofString "__cached__") 174), .none⟩, ⟨PyData.keyHash P (Str.ofString "TupleComp"), (.str (Str.ofString "TupleComp") 230), (.ref 38)⟩, ⟨PyData.keyHash P (Str.ofString "add_func_stats"), (.str (Str.ofString "add_func_stats") 248), (.ref 49)⟩, ⟨PyData.keyHash P (Str.ofString "add_callers"), (.str (Str.ofString "add_callers") 259), (.ref 56)⟩, ⟨PyData.keyHash P (Str.ofString "NL"), (.str (Str.ofString "NL") 261), (.str (Str.ofString "\n") 260)⟩, ⟨PyData.keyHash P (Str.ofString "_QUOPRI_MAP"), (.str (Str.ofString "_QUOPRI_MAP") 1289), (.ref 59)⟩, ⟨PyData.keyHash P (Str.ofString "_QUOPRI_HEADER_MAP"), (.str (Str.ofString "_QUOPRI_HEADER_MAP") 1290), (.ref 64)⟩, ⟨PyData.keyHash P (Str.ofString "_QUOPRI_BODY_MAP"), (.str (Str.ofString "_QUOPRI_BODY_MAP") 1291), (.ref 66)⟩, ⟨PyData.keyHash P (Str.ofString "ascii_lowercase"), (.str (Str.ofString "ascii_lowercase") 1293), (.str (Str.ofString "abcdefghijklmnopqrstuvwxyz") 1292)⟩, ⟨PyData.keyHash P (Str.ofString "ascii_uppercase"), (.str (Str.ofString "ascii_uppercase") 1295), (.str (Str.ofString "ABCDEFGHIJKLMNOPQRSTUVWXYZ") 1294)⟩, ⟨PyData.keyHash P (Str.ofString "ascii_letters"), (.str (Str.ofString "ascii_letters") 1297), (.str (Str.ofString "abcdefghijklmnopqrstuvwxyzABCDEFGHIJKLMNOPQRSTUVWXYZ") 1296)⟩, ⟨PyData.keyHash P (Str.ofString "digits"), (.str (Str.ofString "digits") 1299), (.str (Str.ofString "0123456789") 1298)⟩, ⟨PyData.keyHash P (Str.ofString "hexdigits"), (.str (Str.ofString "hexdigits") 1304), (.str (Str.ofString "0123456789abcdefABCDEF") 1303)⟩, ⟨PyData.keyHash P (Str.ofString "c"), (.str (Str.ofString "c") 1315), (.int 10 1823)⟩, ⟨PyData.keyHash P (Str.ofString "unquote"), (.str (Str.ofString "unquote") 1810), (.ref 79)⟩, ⟨PyData.keyHash P (Str.ofString "quote"), (.str (Str.ofString "quote") 1817), (.ref 86)⟩, ⟨PyData.keyHash P (Str.ofString "_QUOPRI_BODY_ENCODE_MAP"), (.str (Str.ofString "_QUOPRI_BODY_ENCODE_MAP") 1818), (.ref 88)⟩]⟩ 25), ⟨[]⟩⟩
noncomputable def ob88_1 (P : Params) : Obj := ⟨(.type "list"), none, (.seq ⟨[(.str (Str.mk ⟨[61, 48, 48]⟩) 268), (.str (Str.mk ⟨[61, 48, 49]⟩) 272), (.str (Str.mk ⟨[61, 48, 50]⟩) 276), (.str (Str.mk ⟨[61, 48, 51]⟩) 280), (.str (Str.mk ⟨[61, 48, 52]⟩) 284), (.str (Str.mk ⟨[61, 48, 53]⟩) 288), (.str (Str.mk ⟨[61, 48, 54]⟩) 292), (.str (Str.mk ⟨[61, 48, 55]⟩) 296), (.str (Str.mk ⟨[61, 48, 56]⟩) 300), (.str (Str.mk ⟨[9]⟩) 1803), (.str (Str.mk ⟨[10]⟩) 1825), (.str (Str.mk ⟨[61, 48, 66]⟩) 312), (.str (Str.mk ⟨[61, 48, 67]⟩) 316), (.str (Str.mk ⟨[13]⟩) 1822), (.str (Str.mk ⟨[61, 48, 69]⟩) 324), (.str (Str.mk ⟨[61, 48, 70]⟩) 328), (.str (Str.mk ⟨[61, 49, 48]⟩) 332), (.str (Str.mk ⟨[61, 49, 49]⟩) 336), (.str (Str.mk ⟨[61, 49, 50]⟩) 340), (.str (Str.mk ⟨[61, 49, 51]⟩) 344), (.str (Str.mk ⟨[61, 49, 52]⟩) 348), (.str (Str.mk ⟨[61, 49, 53]⟩) 352), (.str (Str.mk ⟨[61, 49, 54]⟩) 356), (.str (Str.mk ⟨[61, 49, 55]⟩) 360), (.str (Str.mk ⟨[61, 49, 56]⟩) 364), (.str (Str.mk ⟨[61, 49, 57]⟩) 368), (.str (Str.mk ⟨[61, 49, 65]⟩) 372), (.str (Str.mk ⟨[61, 49, 66]⟩) 376), (.str (Str.mk ⟨[61, 49, 67]⟩) 380), (.str (Str.mk ⟨[61, 49, 68]⟩) 384), (.str (Str.mk ⟨[61, 49, 69]⟩) 388), (.str (Str.mk ⟨[61, 49, 70]⟩) 392), (.str (Str.mk ⟨[32]⟩) 1521), (.str (Str.mk ⟨[33]⟩) 1524), (.str (Str.mk ⟨[34]⟩) 1527), (.str (Str.mk ⟨[35]⟩) 1530), (.str (Str.mk ⟨[36]⟩) 1533), (.str (Str.mk ⟨[37]⟩) 1536), (.str (Str.mk ⟨[38]⟩) 1539), (.str (Str.mk ⟨[39]⟩) 1542), (.str (Str.mk ⟨[40]⟩) 1545), (.str (Str.mk ⟨[41]⟩) 1548), (.str (Str.mk ⟨[42]⟩) 1551), (.str (Str.mk ⟨[43]⟩) 1554), (.str (Str.mk ⟨[44]⟩) 1557), (.str (Str.mk ⟨[45]⟩) 1560), (.str (Str.mk ⟨[46]⟩) 1563), (.str (Str.mk ⟨[47]⟩) 1566), (.str (Str.mk ⟨[48]⟩) 1569), (.str (Str.mk ⟨[49]⟩) 1572), (.str (Str.mk ⟨[50]⟩) 1575), (.str (Str.mk ⟨[51]⟩) 1578), (.str (Str.mk ⟨[52]⟩) 1581), (.str (Str.mk ⟨[53]⟩) 1584), (.str (Str.mk ⟨[54]⟩) 1587), (.str (Str.mk ⟨[55]⟩) 1590), (.str (Str.mk ⟨[56]⟩) 1593), (.str (Str.mk ⟨[57]⟩) 1596), (.str (Str.mk ⟨[58]⟩) 1599), (.str (Str.mk ⟨[59]⟩) 1602), (.str (Str.mk ⟨[60]⟩) 1605), (.str (Str.mk ⟨[61, 51, 68]⟩) 512), (.str (Str.mk ⟨[62]⟩) 1608), (.str (Str.mk ⟨[63]⟩) 1611), (.str (Str.mk ⟨[64]⟩) 1614), (.str (Str.mk ⟨[65]⟩) 1617), (.str (Str.mk ⟨[66]⟩) 1620), (.str (Str.mk ⟨[67]⟩) 1623), (.str (Str.mk ⟨[68]⟩) 1626), (.str (Str.mk ⟨[69]⟩) 1629), (.str (Str.mk ⟨[70]⟩) 1632), (.str (Str.mk ⟨[71]⟩) 1635), (.str (Str.mk ⟨[72]⟩) 1638), (.str (Str.mk ⟨[73]⟩) 1641), (.str (Str.mk ⟨[74]⟩) 1644), (.str (Str.mk ⟨[75]⟩) 1647), (.str (Str.mk ⟨[76]⟩) 1650), (.str (Str.mk ⟨[77]⟩) 1653), (.str (Str.mk ⟨[78]⟩) 1656), (.str (Str.mk ⟨[79]⟩) 1659), (.str (Str.mk ⟨[80]⟩) 1662), (.str (Str.mk ⟨[81]⟩) 1665), (.str (Str.mk ⟨[82]⟩) 1668), (.str (Str.mk ⟨[83]⟩) 1671), (.str (Str.mk ⟨[84]⟩) 1674), (.str (Str.mk ⟨[85]⟩) 1677), (.str (Str.mk ⟨[86]⟩) 1680), (.str (Str.mk ⟨[87]⟩) 1683), (.str (Str.mk ⟨[88]⟩) 1686), (.str (Str.mk ⟨[89]⟩) 1689), (.str (Str.mk ⟨[90]⟩) 1692), (.str (Str.mk ⟨[91]⟩) 1695), (.str (Str.mk ⟨[92]⟩) 1698), (.str (Str.mk ⟨[93]⟩) 1701), (.str (Str.mk ⟨[94]⟩) 1704), (.str (Str.mk ⟨[95]⟩) 1707), (.str (Str.mk ⟨[96]⟩) 1710), (.str (Str.mk ⟨[97]⟩) 1713), (.str (Str.mk ⟨[98]⟩) 1716), (.str (Str.mk ⟨[99]⟩) 1719), (.str (Str.mk ⟨[100]⟩) 1722), (.str (Str.mk ⟨[101]⟩) 1725), (.str (Str.mk ⟨[102]⟩) 1728), (.str (Str.mk ⟨[103]⟩) 1731), (.str (Str.mk ⟨[104]⟩) 1734), (.str (Str.mk ⟨[105]⟩) 1737), (.str (Str.mk ⟨[106]⟩) 1740), (.str (Str.mk ⟨[107]⟩) 1743), (.str (Str.mk ⟨[108]⟩) 1746), (.str (Str.mk ⟨[109]⟩) 1749), (.str (Str.mk ⟨[110]⟩) 1752), (.str (Str.mk ⟨[111]⟩) 1755), (.str (Str.mk ⟨[112]⟩) 1758), (.str (Str.mk ⟨[113]⟩) 1761), (.str (Str.mk ⟨[114]⟩) 1764), (.str (Str.mk ⟨[115]⟩) 1767), (.str (Str.mk ⟨[116]⟩) 1770), (.str (Str.mk ⟨[117]⟩) 1773), (.str (Str.mk ⟨[118]⟩) 1776), (.str (Str.mk ⟨[119]⟩) 1779), (.str (Str.mk ⟨[120]⟩) 1782), (.str (Str.mk ⟨[121]⟩) 1785), (.str (Str.mk ⟨[122]⟩) 1788), (.str (Str.mk ⟨[123]⟩) 1791), (.str (Str.mk ⟨[124]⟩) 1794), (.str (Str.mk ⟨[125]⟩) 1797), (.str (Str.mk ⟨[126]⟩) 1800), (.str (Str.mk ⟨[61, 55, 70]⟩) 776), (.str (Str.mk ⟨[61, 56, 48]⟩) 780), (.str (Str.mk ⟨[61, 56, 49]⟩) 784), (.str (Str.mk ⟨[61, 56, 50]⟩) 788), (.str (Str.mk ⟨[61, 56, 51]⟩) 792), (.str (Str.mk ⟨[61, 56, 52]⟩) 796), (.str (Str.mk ⟨[61, 56, 53]⟩) 800), (.str (Str.mk ⟨[61, 56, 54]⟩) 804), (.str (Str.mk ⟨[61, 56, 55]⟩) 808), (.str (Str.mk ⟨[61, 56, 56]⟩) 812), (.str (Str.mk ⟨[61, 56, 57]⟩) 816), (.str (Str.mk ⟨[61, 56, 65]⟩) 820), (.str (Str.mk ⟨[61, 56, 66]⟩) 824), (.str (Str.mk ⟨[61, 56, 67]⟩) 828), (.str (Str.mk ⟨[61, 56, 68]⟩) 832), (.str (Str.mk ⟨[61, 56, 69]⟩) 836), (.str (Str.mk ⟨[61, 56, 70]⟩) 840), (.str (Str.mk ⟨[61, 57, 48]⟩) 844), (.str (Str.mk ⟨[61, 57, 49]⟩) 848), (.str (Str.mk ⟨[61, 57, 50]⟩) 852), (.str (Str.mk ⟨[61, 57, 51]⟩) 856), (.str (Str.mk ⟨[61, 57, 52]⟩) 860), (.str (Str.mk ⟨[61, 57, 53]⟩) 864), (.str (Str.mk ⟨[61, 57, 54]⟩) 868), (.str (Str.mk ⟨[61, 57, 55]⟩) 872), (.str (Str.mk ⟨[61, 57, 56]⟩) 876), (.str (Str.mk ⟨[61, 57, 57]⟩) 880), (.str (Str.mk ⟨[61, 57, 65]⟩) 884), (.str (Str.mk ⟨[61, 57, 66]⟩) 888), (.str (Str.mk ⟨[61, 57, 67]⟩) 892), (.str (Str.mk ⟨[61, 57, 68]⟩) 896), (.str (Str.mk ⟨[61, 57, 69]⟩) 900), (.str (Str.mk ⟨[61, 57, 70]⟩) 904), (.str (Str.mk ⟨[61, 65, 48]⟩) 908), (.str (Str.mk ⟨[61, 65, 49]⟩) 912), (.str (Str.mk ⟨[61, 65, 50]⟩) 916), (.str (Str.mk ⟨[61, 65, 51]⟩) 920), (.str (Str.mk ⟨[61, 65, 52]⟩) 924), (.str (Str.mk ⟨[61, 65, 53]⟩) 928), (.str (Str.mk ⟨[61, 65, 54]⟩) 932), (.str (Str.mk ⟨[61, 65, 55]⟩) 936), (.str (Str.mk ⟨[61, 65, 56]⟩) 940), (.str (Str.mk ⟨[61, 65, 57]⟩) 944), (.str (Str.mk ⟨[61, 65, 65]⟩) 948), (.str (Str.mk ⟨[61, 65, 66]⟩) 952), (.str (Str.mk ⟨[61, 65, 67]⟩) 956), (.str (Str.mk ⟨[61, 65, 68]⟩) 960), (.str (Str.mk ⟨[61, 65, 69]⟩) 964), (.str (Str.mk ⟨[61, 65, 70]⟩) 968), (.str (Str.mk ⟨[61, 66, 48]⟩) 972), (.str (Str.mk ⟨[61, 66, 49]⟩) 976), (.str (Str.mk ⟨[61, 66, 50]⟩) 980), (.str (Str.mk ⟨[61, 66, 51]⟩) 984), (.str (Str.mk ⟨[61, 66, 52]⟩) 988), (.str (Str.mk ⟨[61, 66, 53]⟩) 992), (.str (Str.mk ⟨[61, 66, 54]⟩) 996), (.str (Str.mk ⟨[61, 66, 55]⟩) 1000), (.str (Str.mk ⟨[61, 66, 56]⟩) 1004), (.str (Str.mk ⟨[61, 66, 57]⟩) 1008), (.str (Str.mk ⟨[61, 66, 65]⟩) 1012), (.str (Str.mk ⟨[61, 66, 66]⟩) 1016), (.str (Str.mk ⟨[61, 66, 67]⟩) 1020), (.str (Str.mk ⟨[61, 66, 68]⟩) 1024), (.str (Str.mk ⟨[61, 66, 69]⟩) 1028), (.str (Str.mk ⟨[61, 66, 70]⟩) 1032), (.str (Str.mk ⟨[61, 67, 48]⟩) 1036), (.str (Str.mk ⟨[61, 67, 49]⟩) 1040), (.str (Str.mk ⟨[61, 67, 50]⟩) 1044), (.str (Str.mk ⟨[61, 67, 51]⟩) 1048), (.str (Str.mk ⟨[61, 67, 52]⟩) 1052), (.str (Str.mk ⟨[61, 67, 53]⟩) 1056), (.str (Str.mk ⟨[61, 67, 54]⟩) 1060), (.str (Str.mk ⟨[61, 67, 55]⟩) 1064), (.str (Str.mk ⟨[61, 67, 56]⟩) 1068), (.str (Str.mk ⟨[61, 67, 57]⟩) 1072), (.str (Str.mk ⟨[61, 67, 65]⟩) 1076), (.str (Str.mk ⟨[61, 67, 66]⟩) 1080), (.str (Str.mk ⟨[61, 67, 67]⟩) 1084), (.str (Str.mk ⟨[61, 67, 68]⟩) 1088), (.str (Str.mk ⟨[61, 67, 69]⟩) 1092), (.str (Str.mk ⟨[61, 67, 70]⟩) 1096), (.str (Str.mk ⟨[61, 68, 48]⟩) 1100), (.str (Str.mk ⟨[61, 68, 49]⟩) 1104), (.str (Str.mk ⟨[61, 68, 50]⟩) 1108), (.str (Str.mk ⟨[61, 68, 51]⟩) 1112), (.str (Str.mk ⟨[61, 68, 52]⟩) 1116), (.str (Str.mk ⟨[61, 68, 53]⟩) 1120), (.str (Str.mk ⟨[61, 68, 54]⟩) 1124), (.str (Str.mk ⟨[61, 68, 55]⟩) 1128), (.str (Str.mk ⟨[61, 68, 56]⟩) 1132), (.str (Str.mk ⟨[61, 68, 57]⟩) 1136), (.str (Str.mk ⟨[61, 68, 65]⟩) 1140), (.str (Str.mk ⟨[61, 68, 66]⟩) 1144), (.str (Str.mk ⟨[61, 68, 67]⟩) 1148), (.str (Str.mk ⟨[61, 68, 68]⟩) 1152), (.str (Str.mk ⟨[61, 68, 69]⟩) 1156), (.str (Str.mk ⟨[61, 68, 70]⟩) 1160), (.str (Str.mk ⟨[61, 69, 48]⟩) 1164), (.str (Str.mk ⟨[61, 69, 49]⟩) 1168), (.str (Str.mk ⟨[61, 69, 50]⟩) 1172), (.str (Str.mk ⟨[61, 69, 51]⟩) 1176), (.str (Str.mk ⟨[61, 69, 52]⟩) 1180), (.str (Str.mk ⟨[61, 69, 53]⟩) 1184), (.str (Str.mk ⟨[61, 69, 54]⟩) 1188), (.str (Str.mk ⟨[61, 69, 55]⟩) 1192), (.str (Str.mk ⟨[61, 69, 56]⟩) 1196), (.str (Str.mk ⟨[61, 69, 57]⟩) 1200), (.str (Str.mk ⟨[61, 69, 65]⟩) 1204), (.str (Str.mk ⟨[61, 69, 66]⟩) 1208), (.str (Str.mk ⟨[61, 69, 67]⟩) 1212), (.str (Str.mk ⟨[61, 69, 68]⟩) 1216), (.str (Str.mk ⟨[61, 69, 69]⟩) 1220), (.str (Str.mk ⟨[61, 69, 70]⟩) 1224), (.str (Str.mk ⟨[61, 70, 48]⟩) 1228), (.str (Str.mk ⟨[61, 70, 49]⟩) 1232), (.str (Str.mk ⟨[61, 70, 50]⟩) 1236), (.str (Str.mk ⟨[61, 70, 51]⟩) 1240), (.str (Str.mk ⟨[61, 70, 52]⟩) 1244), (.str (Str.mk ⟨[61, 70, 53]⟩) 1248), (.str (Str.mk ⟨[61, 70, 54]⟩) 1252), (.str (Str.mk ⟨[61, 70, 55]⟩) 1256), (.str (Str.mk ⟨[61, 70, 56]⟩) 1260), (.str (Str.mk ⟨[61, 70, 57]⟩) 1264), (.str (Str.mk ⟨[61, 70, 65]⟩) 1268), (.str (Str.mk ⟨[61, 70, 66]⟩) 1272), (.str (Str.mk ⟨[61, 70, 67]⟩) 1276), (.str (Str.mk ⟨[61, 70, 68]⟩) 1280), (.str (Str.mk ⟨[61, 70, 69]⟩) 1284), (.str (Str.mk ⟨[61, 70, 70]⟩) 1288)]⟩ 0), ⟨[]⟩⟩
noncomputable def ob89_0 (P : Params) : Obj := ⟨(.type "bytes_iterator"), none, (.fields ⟨[.none, (.int 2 0)]⟩), ⟨[]⟩⟩
noncomputable def ob90_0 (P : Params) : Obj := ⟨(.type "tuple"), none, (.seq ⟨[]⟩ 0), ⟨[]⟩⟩
noncomputable def ob91_0 (P : Params) : Obj := ⟨(.type "StopIteration"), none, (.fields ⟨[(.ref 90), .none, .none, .none, (.bool false), .none]⟩), ⟨[]⟩⟩
noncomputable def hp20 (P : Params) : Heap := ⟨⟨[boot_o_0 P, boot_o_1 P, boot_o_2 P, ob3_10 P, boot_o_4 P, boot_o_5 P, boot_o_6 P, boot_o_7 P, boot_o_8 P, boot_o_9 P, boot_o_10 P, ob11_0 P, ob12_2 P, ob13_0 P, ob14_0 P, ob15_0 P, ob16_0 P, ob17_0 P, ob18_0 P, ob19_0 P, ob20_0 P, ob21_0 P, ob22_0 P, ob23_0 P, ob24_0 P, ob25_0 P, ob26_0 P, ob27_0 P, ob28_0 P, ob29_0 P, ob30_0 P, ob31_0 P, ob32_0 P, ob33_0 P, ob34_0 P, ob35_0 P, ob36_0 P, ob37_0 P, ob38_0 P, ob39_0 P, ob40_0 P, ob41_0 P, ob42_0 P, ob43_0 P, ob44_0 P, ob45_0 P, ob46_0 P, ob47_0 P, ob48_0 P, ob49_0 P, ob50_0 P, ob51_0 P, ob52_0 P, ob53_0 P, ob54_0 P, ob55_0 P, ob56_0 P, ob57_0 P, ob58_4 P, ob59_4 P, ob60_4 P, ob61_0 P, ob62_0 P, ob63_0 P, ob64_3 P, ob65_0 P, ob66_3 P, ob67_2 P, ob68_0 P, ob69_0 P, ob70_3 P, ob71_0 P, ob72_0 P, ob73_0 P, ob74_0 P, ob75_0 P, ob76_0 P, ob77_0 P, ob78_0 P, ob79_0 P, ob80_0 P, ob81_0 P, ob82_0 P, ob83_0 P, ob84_0 P, ob85_0 P, ob86_0 P, ob87_0 P, ob88_1 P, ob89_0 P, ob90_0 P, ob91_0 P]⟩, lifeOf P⟩
noncomputable def tk20 : Nat := 1826
noncomputable def pos20 : Pos := ⟨53, 9, 53, 16⟩
noncomputable def ob3_11 (P : Params) : Obj := ⟨(.type "dict"), none, (.dict ⟨[⟨PyData.keyHash P (Str.ofString "__name__"), (.str (Str.ofString "__name__") 165), (.str (Str.ofString "law_rl0035_01") 1839)⟩, ⟨PyData.keyHash P (Str.ofString "__doc__"), (.str (Str.ofString "__doc__") 166), .none⟩, ⟨PyData.keyHash P (Str.ofString "__package__"), (.str (Str.ofString "__package__") 167), .none⟩, ⟨PyData.keyHash P (Str.ofString "__loader__"), (.str (Str.ofString "__loader__") 168), (.builtin "__main__.__loader__#opaque")⟩, ⟨PyData.keyHash P (Str.ofString "__spec__"), (.str (Str.ofString "__spec__") 169), .none⟩, ⟨PyData.keyHash P (Str.ofString "__annotations__"), (.str (Str.ofString "__annotations__") 170), (.ref 6)⟩, ⟨PyData.keyHash P (Str.ofString "__builtins__"), (.str (Str.ofString "__builtins__") 171), (.ref 4)⟩, ⟨PyData.keyHash P (Str.ofString "__file__"), (.str (Str.ofString "__file__") 173), (.str (Str.ofString "/claim/cut.py") 172)⟩, ⟨PyData.keyHash P (Str.ofString "__cached__"), (.str (Str.ofString "__cached__") 174), .none⟩, ⟨PyData.keyHash P (Str.ofString "TupleComp"), (.str (Str.ofString "TupleComp") 230), (.ref 38)⟩, ⟨PyData.keyHash P (Str.ofString "add_func_stats"), (.str (Str.ofString "add_func_stats") 248), (.ref 49)⟩, ⟨PyData.keyHash P (Str.ofString "add_callers"), (.str (Str.ofString "add_callers") 259), (.ref 56)⟩, ⟨PyData.keyHash P (Str.ofString "NL"), (.str (Str.ofString "NL") 261), (.str (Str.ofString "\n") 260)⟩, ⟨PyData.keyHash P (Str.ofString "_QUOPRI_MAP"), (.str (Str.ofString "_QUOPRI_MAP") 1289), (.ref 59)⟩, ⟨PyData.keyHash P (Str.ofString "_QUOPRI_HEADER_MAP"), (.str (Str.ofString "_QUOPRI_HEADER_MAP") 1290), (.ref 64)⟩, ⟨PyData.keyHash P (Str.ofString "_QUOPRI_BODY_MAP"), (.str (Str.ofString "_QUOPRI_BODY_MAP") 1291), (.ref 66)⟩, ⟨PyData.keyHash P (Str.ofString "ascii_lowercase"), (.str (Str.ofString "ascii_lowercase") 1293), (.str (Str.ofString "abcdefghijklmnopqrstuvwxyz") 1292)⟩, ⟨PyData.keyHash P (Str.ofString "ascii_uppercase"), (.str (Str.ofString "ascii_uppercase") 1295), (.str (Str.ofString "ABCDEFGHIJKLMNOPQRSTUVWXYZ") 1294)⟩, ⟨PyData.keyHash P (Str.ofString "ascii_letters"), (.str (Str.ofString "ascii_letters") 1297), (.str (Str.ofString "abcdefghijklmnopqrstuvwxyzABCDEFGHIJKLMNOPQRSTUVWXYZ") 1296)⟩, ⟨PyData.keyHash P (Str.ofString "digits"), (.str (Str.ofString "digits") 1299), (.str (Str.ofString "0123456789") 1298)⟩, ⟨PyData.keyHash P (Str.ofString "hexdigits"), (.str (Str.ofString "hexdigits") 1304), (.str (Str.ofString "0123456789abcdefABCDEF") 1303)⟩, ⟨PyData.keyHash P (Str.ofString "unquote"), (.str (Str.ofString "unquote") 1810), (.ref 79)⟩, ⟨PyData.keyHash P (Str.ofString "quote"), (.str (Str.ofString "quote") 1817), (.ref 86)⟩, ⟨PyData.keyHash P (Str.ofString "_QUOPRI_BODY_ENCODE_MAP"), (.str (Str.ofString "_QUOPRI_BODY_ENCODE_MAP") 1818), (.ref 88)⟩, ⟨PyData.keyHash P (Str.ofString "decode"), (.str (Str.ofString "decode") 1838), (.ref 99)⟩, ⟨PyData.keyHash P (Str.ofString "_law_terms"), (.str (Str.ofString "_law_terms") 1846), (.ref 104)⟩, ⟨PyData.keyHash P (Str.ofString "_law_left"), (.str (Str.ofString "_law_left") 1852), (.ref 109)⟩, ⟨PyData.keyHash P (Str.ofString "_law_greatest"), (.str (Str.ofString "_law_greatest") 1858), (.ref 114)⟩, ⟨PyData.keyHash P (Str.ofString "_law_worth"), (.str (Str.ofString "_law_worth") 1864), (.ref 119)⟩, ⟨PyData.keyHash P (Str.ofString "law"), (.str (Str.ofString "law") 1870), (.ref 124)⟩]⟩ 32), ⟨[]⟩⟩
noncomputable def ob12_3 (P : Params) : Obj := ⟨.none, none, (.fields ⟨[(.int 2 0), (.int 0 0), (.ref 20), (.int 16 0), (.int 0 0), (.ref 48), (.int 20 0), (.int 0 0), (.ref 55), (.int 48 0), (.int 0 0), (.ref 78), (.int 50 0), (.int 0 0), (.ref 85), (.int 56 0), (.int 0 0), (.ref 98), (.int 87 0), (.int 0 0), (.ref 103), (.int 94 0), (.int 0 0), (.ref 108), (.int 101 0), (.int 0 0), (.ref 113), (.int 111 0), (.int 0 0), (.ref 118), (.int 113 0), (.int 0 0), (.ref 123)]⟩), ⟨[]⟩⟩
noncomputable def ob92_0 (P : Params) : Obj := ⟨(.type "tuple"), none, (.seq ⟨[(.str (Str.mk ⟨[10]⟩) 260)]⟩ 0), ⟨[]⟩⟩
noncomputable def ob93_0 (P : Params) : Obj := ⟨(.type "tuple"), none, (.seq ⟨[]⟩ 0), ⟨[]⟩⟩
noncomputable def ob94_0 (P : Params) : Obj := ⟨.none, none, (.fields ⟨[]⟩), ⟨[]⟩⟩
noncomputable def ob95_0 (P : Params) : Obj := ⟨(.type "tuple"), none, (.seq ⟨[(.str (Str.mk ⟨[101, 110, 99, 111, 100, 101, 100]⟩) 1829), (.str (Str.mk ⟨[101, 111, 108]⟩) 1830), (.str (Str.mk ⟨[100, 101, 99, 111, 100, 101, 100]⟩) 1831), (.str (Str.mk ⟨[108, 105, 110, 101]⟩) 1832), (.str (Str.mk ⟨[105]⟩) 1833), (.str (Str.mk ⟨[110]⟩) 1834), (.str (Str.mk ⟨[99]⟩) 1835)]⟩ 0), ⟨[]⟩⟩
noncomputable def ob96_0 (P : Params) : Obj := ⟨(.type "tuple"), none, (.seq ⟨[]⟩ 0), ⟨[]⟩⟩
noncomputable def ob97_0 (P : Params) : Obj := ⟨.none, none, (.func (fnObj (stm 22) (Str.ofString "decode") [] 0 .none .none .none .none none .none .none 0)), ⟨[]⟩⟩
noncomputable def ob98_0 (P : Params) : Obj := ⟨(.type "code"), none, (.fields ⟨[(.str (Str.ofString "decode") 1826), (.str (Str.ofString "decode") 1827), (.str (Str.ofString "/claim/cut.py") 1828), (.int 56 0), (.int 2 0), (.int 0 0), (.int 0 0), (.int 3 0), (.ref 93), (.bool true), (.int 181 0), (.ref 94), .none, (.ref 95), (.ref 96), (.ref 97), (.int 1836 0), (.int 56 0), (.str (Str.ofString "/claim/cut.py") 1837)]⟩), ⟨[]⟩⟩
noncomputable def ob99_0 (P : Params) : Obj := ⟨(.type "function"), none, (.func (fnObj (stm 22) (Str.ofString "decode") [] 3 (.ref 92) .none .none (.str (Str.ofString "cpy313.email.quoprimime") 1305) none (.ref 98) .none 0)), ⟨[]⟩⟩
noncomputable def ob100_0 (P : Params) : Obj := ⟨(.type "tuple"), none, (.seq ⟨[]⟩ 0), ⟨[]⟩⟩
noncomputable def ob101_0 (P : Params) : Obj := ⟨.none, none, (.fields ⟨[]⟩), ⟨[]⟩⟩
noncomputable def ob102_0 (P : Params) : Obj := ⟨.none, none, (.func (fnObj (stm 24) (Str.ofString "_law_terms") [] 0 .none .none .none .none none .none .none 0)), ⟨[]⟩⟩
noncomputable def ob103_0 (P : Params) : Obj := ⟨(.type "code"), none, (.fields ⟨[(.str (Str.ofString "_law_terms") 1841), (.str (Str.ofString "_law_terms") 1842), (.str (Str.ofString "/claim/cut.py") 1843), (.int 87 0), (.int 1 0), (.int 0 0), (.int 0 0), (.int 3 0), (.ref 100), (.bool true), (.int 181 0), (.ref 101), .none, .none, .none, (.ref 102), (.int 1844 0), (.int 87 0), (.str (Str.ofString "/claim/cut.py") 1845)]⟩), ⟨[]⟩⟩
noncomputable def ob104_0 (P : Params) : Obj := ⟨(.type "function"), none, (.func (fnObj (stm 24) (Str.ofString "_law_terms") [] 3 .none .none .none (.str (Str.ofString "law_rl0035_01") 1839) none (.ref 103) .none 0)), ⟨[]⟩⟩
noncomputable def ob105_0 (P : Params) : Obj := ⟨(.type "tuple"), none, (.seq ⟨[]⟩ 0), ⟨[]⟩⟩
noncomputable def ob106_0 (P : Params) : Obj := ⟨.none, none, (.fields ⟨[]⟩), ⟨[]⟩⟩
noncomputable def ob107_0 (P : Params) : Obj := ⟨.none, none, (.func (fnObj (stm 25) (Str.ofString "_law_left") [] 0 .none .none .none .none none .none .none 0)), ⟨[]⟩⟩
noncomputable def ob108_0 (P : Params) : Obj := ⟨(.type "code"), none, (.fields ⟨[(.str (Str.ofString "_law_left") 1847), (.str (Str.ofString "_law_left") 1848), (.str (Str.ofString "/claim/cut.py") 1849), (.int 94 0), (.int 1 0), (.int 0 0), (.int 0 0), (.int 3 0), (.ref 105), (.bool true), (.int 181 0), (.ref 106), .none, .none, .none, (.ref 107), (.int 1850 0), (.int 94 0), (.str (Str.ofString "/claim/cut.py") 1851)]⟩), ⟨[]⟩⟩
noncomputable def ob109_0 (P : Params) : Obj := ⟨(.type "function"), none, (.func (fnObj (stm 25) (Str.ofString "_law_left") [] 3 .none .none .none (.str (Str.ofString "law_rl0035_01") 1839) none (.ref 108) .none 0)), ⟨[]⟩⟩
noncomputable def ob110_0 (P : Params) : Obj := ⟨(.type "tuple"), none, (.seq ⟨[]⟩ 0), ⟨[]⟩⟩
noncomputable def ob111_0 (P : Params) : Obj := ⟨.none, none, (.fields ⟨[]⟩), ⟨[]⟩⟩
noncomputable def ob112_0 (P : Params) : Obj := ⟨.none, none, (.func (fnObj (stm 26) (Str.ofString "_law_greatest") [] 0 .none .none .none .none none .none .none 0)), ⟨[]⟩⟩
noncomputable def ob113_0 (P : Params) : Obj := ⟨(.type "code"), none, (.fields ⟨[(.str (Str.ofString "_law_greatest") 1853), (.str (Str.ofString "_law_greatest") 1854), (.str (Str.ofString "/claim/cut.py") 1855), (.int 101 0), (.int 2 0), (.int 0 0), (.int 0 0), (.int 3 0), (.ref 110), (.bool true), (.int 181 0), (.ref 111), .none, .none, .none, (.ref 112), (.int 1856 0), (.int 101 0), (.str (Str.ofString "/claim/cut.py") 1857)]⟩), ⟨[]⟩⟩
noncomputable def ob114_0 (P : Params) : Obj := ⟨(.type "function"), none, (.func (fnObj (stm 26) (Str.ofString "_law_greatest") [] 3 .none .none .none (.str (Str.ofString "law_rl0035_01") 1839) none (.ref 113) .none 0)), ⟨[]⟩⟩
noncomputable def ob115_0 (P : Params) : Obj := ⟨(.type "tuple"), none, (.seq ⟨[]⟩ 0), ⟨[]⟩⟩
noncomputable def ob116_0 (P : Params) : Obj := ⟨.none, none, (.fields ⟨[]⟩), ⟨[]⟩⟩
noncomputable def ob117_0 (P : Params) : Obj := ⟨.none, none, (.func (fnObj (stm 27) (Str.ofString "_law_worth") [] 0 .none .none .none .none none .none .none 0)), ⟨[]⟩⟩
noncomputable def ob118_0 (P : Params) : Obj := ⟨(.type "code"), none, (.fields ⟨[(.str (Str.ofString "_law_worth") 1859), (.str (Str.ofString "_law_worth") 1860), (.str (Str.ofString "/claim/cut.py") 1861), (.int 111 0), (.int 3 0), (.int 0 0), (.int 0 0), (.int 3 0), (.ref 115), (.bool true), (.int 181 0), (.ref 116), .none, .none, .none, (.ref 117), (.int 1862 0), (.int 111 0), (.str (Str.ofString "/claim/cut.py") 1863)]⟩), ⟨[]⟩⟩
noncomputable def ob119_0 (P : Params) : Obj := ⟨(.type "function"), none, (.func (fnObj (stm 27) (Str.ofString "_law_worth") [] 3 .none .none .none (.str (Str.ofString "law_rl0035_01") 1839) none (.ref 118) .none 0)), ⟨[]⟩⟩
noncomputable def ob120_0 (P : Params) : Obj := ⟨(.type "tuple"), none, (.seq ⟨[]⟩ 0), ⟨[]⟩⟩
noncomputable def ob121_0 (P : Params) : Obj := ⟨.none, none, (.fields ⟨[]⟩), ⟨[]⟩⟩
noncomputable def ob122_0 (P : Params) : Obj := ⟨.none, none, (.func (fnObj (stm 28) (Str.ofString "law") [] 0 .none .none .none .none none .none .none 0)), ⟨[]⟩⟩
noncomputable def ob123_0 (P : Params) : Obj := ⟨(.type "code"), none, (.fields ⟨[(.str (Str.ofString "law") 1865), (.str (Str.ofString "law") 1866), (.str (Str.ofString "/claim/cut.py") 1867), (.int 113 0), (.int 1 0), (.int 0 0), (.int 0 0), (.int 3 0), (.ref 120), (.bool true), (.int 181 0), (.ref 121), .none, .none, .none, (.ref 122), (.int 1868 0), (.int 113 0), (.str (Str.ofString "/claim/cut.py") 1869)]⟩), ⟨[]⟩⟩
noncomputable def ob124_0 (P : Params) : Obj := ⟨(.type "function"), none, (.func (fnObj (stm 28) (Str.ofString "law") [] 3 .none .none .none (.str (Str.ofString "law_rl0035_01") 1839) none (.ref 123) .none 0)), ⟨[]⟩⟩
noncomputable def hp28 (P : Params) : Heap := ⟨⟨[boot_o_0 P, boot_o_1 P, boot_o_2 P, ob3_11 P, boot_o_4 P, boot_o_5 P, boot_o_6 P, boot_o_7 P, boot_o_8 P, boot_o_9 P, boot_o_10 P, ob11_0 P, ob12_3 P, ob13_0 P, ob14_0 P, ob15_0 P, ob16_0 P, ob17_0 P, ob18_0 P, ob19_0 P, ob20_0 P, ob21_0 P, ob22_0 P, ob23_0 P, ob24_0 P, ob25_0 P, ob26_0 P, ob27_0 P, ob28_0 P, ob29_0 P, ob30_0 P, ob31_0 P, ob32_0 P, ob33_0 P, ob34_0 P, ob35_0 P, ob36_0 P, ob37_0 P, ob38_0 P, ob39_0 P, ob40_0 P, ob41_0 P, ob42_0 P, ob43_0 P, ob44_0 P, ob45_0 P, ob46_0 P, ob47_0 P, ob48_0 P, ob49_0 P, ob50_0 P, ob51_0 P, ob52_0 P, ob53_0 P, ob54_0 P, ob55_0 P, ob56_0 P, ob57_0 P, ob58_4 P, ob59_4 P, ob60_4 P, ob61_0 P, ob62_0 P, ob63_0 P, ob64_3 P, ob65_0 P, ob66_3 P, ob67_2 P, ob68_0 P, ob69_0 P, ob70_3 P, ob71_0 P, ob72_0 P, ob73_0 P, ob74_0 P, ob75_0 P, ob76_0 P, ob77_0 P, ob78_0 P, ob79_0 P, ob80_0 P, ob81_0 P, ob82_0 P, ob83_0 P, ob84_0 P, ob85_0 P, ob86_0 P, ob87_0 P, ob88_1 P, ob89_0 P, ob90_0 P, ob91_0 P, ob92_0 P, ob93_0 P, ob94_0 P, ob95_0 P, ob96_0 P, ob97_0 P, ob98_0 P, ob99_0 P, ob100_0 P, ob101_0 P, ob102_0 P, ob103_0 P, ob104_0 P, ob105_0 P, ob106_0 P, ob107_0 P, ob108_0 P, ob109_0 P, ob110_0 P, ob111_0 P, ob112_0 P, ob113_0 P, ob114_0 P, ob115_0 P, ob116_0 P, ob117_0 P, ob118_0 P, ob119_0 P, ob120_0 P, ob121_0 P, ob122_0 P, ob123_0 P, ob124_0 P]⟩, lifeOf P⟩
noncomputable def tk28 : Nat := 1871
noncomputable def pos28 : Pos := ⟨113, 0, 136, 15⟩
noncomputable def hpfin (P : Params) : Heap := ⟨⟨[boot_o_0 P, boot_o_1 P, boot_o_2 P, ob3_11 P, boot_o_4 P, boot_o_5 P, boot_o_6 P, boot_o_7 P, boot_o_8 P, boot_o_9 P, boot_o_10 P, ob11_0 P, ob12_3 P, ob13_0 P, ob14_0 P, ob15_0 P, ob16_0 P, ob17_0 P, ob18_0 P, ob19_0 P, ob20_0 P, ob21_0 P, ob22_0 P, ob23_0 P, ob24_0 P, ob25_0 P, ob26_0 P, ob27_0 P, ob28_0 P, ob29_0 P, ob30_0 P, ob31_0 P, ob32_0 P, ob33_0 P, ob34_0 P, ob35_0 P, ob36_0 P, ob37_0 P, ob38_0 P, ob39_0 P, ob40_0 P, ob41_0 P, ob42_0 P, ob43_0 P, ob44_0 P, ob45_0 P, ob46_0 P, ob47_0 P, ob48_0 P, ob49_0 P, ob50_0 P, ob51_0 P, ob52_0 P, ob53_0 P, ob54_0 P, ob55_0 P, ob56_0 P, ob57_0 P, ob58_4 P, ob59_4 P, ob60_4 P, ob61_0 P, ob62_0 P, ob63_0 P, ob64_3 P, ob65_0 P, ob66_3 P, ob67_2 P, ob68_0 P, ob69_0 P, ob70_3 P, ob71_0 P, ob72_0 P, ob73_0 P, ob74_0 P, ob75_0 P, ob76_0 P, ob77_0 P, ob78_0 P, ob79_0 P, ob80_0 P, ob81_0 P, ob82_0 P, ob83_0 P, ob84_0 P, ob85_0 P, ob86_0 P, ob87_0 P, ob88_1 P, ob89_0 P, ob90_0 P, ob91_0 P, ob92_0 P, ob93_0 P, ob94_0 P, ob95_0 P, ob96_0 P, ob97_0 P, ob98_0 P, ob99_0 P, ob100_0 P, ob101_0 P, ob102_0 P, ob103_0 P, ob104_0 P, ob105_0 P, ob106_0 P, ob107_0 P, ob108_0 P, ob109_0 P, ob110_0 P, ob111_0 P, ob112_0 P, ob113_0 P, ob114_0 P, ob115_0 P, ob116_0 P, ob117_0 P, ob118_0 P, ob119_0 P, ob120_0 P, ob121_0 P, ob122_0 P, ob123_0 P, ob124_0 P]⟩, lifeOf P⟩
noncomputable def tkfin : Nat := 1871
noncomputable def posfin : Pos := ⟨113, 0, 136, 15⟩
noncomputable def stA (w : World) (os : OsState) : Shared := ⟨hpA w.params, ⟨[]⟩, boot_drawn, tkA, os⟩
noncomputable def st4 (w : World) (os : OsState) : Shared := ⟨hp4 w.params, ⟨[]⟩, boot_drawn, tk4, os⟩
noncomputable def st5_0 (w : World) (os : OsState) : Shared := ⟨hp5_0 w.params, ⟨[]⟩, boot_drawn, tk5_0, os⟩
noncomputable def st5_64 (w : World) (os : OsState) : Shared := ⟨hp5_64 w.params, ⟨[]⟩, boot_drawn, tk5_64, os⟩
noncomputable def st5_128 (w : World) (os : OsState) : Shared := ⟨hp5_128 w.params, ⟨[]⟩, boot_drawn, tk5_128, os⟩
noncomputable def st5_192 (w : World) (os : OsState) : Shared := ⟨hp5_192 w.params, ⟨[]⟩, boot_drawn, tk5_192, os⟩
noncomputable def st5 (w : World) (os : OsState) : Shared := ⟨hp5 w.params, ⟨[]⟩, boot_drawn, tk5, os⟩
noncomputable def st13 (w : World) (os : OsState) : Shared := ⟨hp13 w.params, ⟨[]⟩, boot_drawn, tk13, os⟩
noncomputable def st14_0 (w : World) (os : OsState) : Shared := ⟨hp14_0 w.params, ⟨[]⟩, boot_drawn, tk14_0, os⟩
noncomputable def st14_34 (w : World) (os : OsState) : Shared := ⟨hp14_34 w.params, ⟨[]⟩, boot_drawn, tk14_34, os⟩
noncomputable def st14 (w : World) (os : OsState) : Shared := ⟨hp14 w.params, ⟨[]⟩, boot_drawn, tk14, os⟩
noncomputable def st15 (w : World) (os : OsState) : Shared := ⟨hp15 w.params, ⟨[]⟩, boot_drawn, tk15, os⟩
noncomputable def st16_0 (w : World) (os : OsState) : Shared := ⟨hp16_0 w.params, ⟨[]⟩, boot_drawn, tk16_0, os⟩
noncomputable def st16_32 (w : World) (os : OsState) : Shared := ⟨hp16_32 w.params, ⟨[]⟩, boot_drawn, tk16_32, os⟩
noncomputable def st16_64 (w : World) (os : OsState) : Shared := ⟨hp16_64 w.params, ⟨[]⟩, boot_drawn, tk16_64, os⟩
noncomputable def st16 (w : World) (os : OsState) : Shared := ⟨hp16 w.params, ⟨[]⟩, boot_drawn, tk16, os⟩
noncomputable def st19 (w : World) (os : OsState) : Shared := ⟨hp19 w.params, ⟨[]⟩, boot_drawn, tk19, os⟩
noncomputable def st20 (w : World) (os : OsState) : Shared := ⟨hp20 w.params, ⟨[]⟩, boot_drawn, tk20, os⟩
noncomputable def st28 (w : World) (os : OsState) : Shared := ⟨hp28 w.params, ⟨[]⟩, boot_drawn, tk28, os⟩
noncomputable def stfin (w : World) (os : OsState) : Shared := ⟨hpfin w.params, ⟨[]⟩, boot_drawn, tkfin, os⟩
noncomputable def st0 (w : World) (os : OsState) : Shared := ⟨boot_heap w.params, ⟨[]⟩, boot_drawn, boot_toks, os⟩
noncomputable def env0 : Env := { scope := pw.main.scope, locals := mainNs, globals := mainNs, cells := [], code := .ref 13, frame := some 14 }
noncomputable def b0 : List Stmt := behindTheImports pw
noncomputable def c0 : Code := .body b0 env0
noncomputable def fr0 : List Frame := [topFrame ⟨0, 0, 0, 0⟩]
noncomputable def part (lo hi : Nat) : List Stmt := (b0.drop lo).take (hi - lo)
noncomputable abbrev an0 : Option Value := some (.ref 6)
end
end Mine
end

section
open PySem PySem.W PyProof.Rows
set_option Elab.async false
set_option maxRecDepth 100000
set_option maxHeartbeats 0
set_option linter.unusedVariables false
namespace Mine
noncomputable section
noncomputable abbrev rG : String := "special-get-raises"
noncomputable abbrev rT : String := "comprehension-iter-twice"
noncomputable def thrOf (r : Option (Shared × Thread)) : Thread := match r with
  | some (_, t) => t
  | none => ⟨doneF .next, c0, posA, []⟩
/-- the thread where a loop is called -/
noncomputable def thr5 (w : World) (os : OsState) : Thread := thrOf (segGo treeTable pw (w.withFollow rG false) 11 an0 1 40 (st4 (w.withFollow rG false) os) (piecesOf (part 5 6) env0 c0 pos4 fr0))
noncomputable def head5 (pos : Pos) (w : World) (os : OsState) : Thread := match (thr5 w os).code with
  | .compStart e d it acc env => ⟨denote treeTable (.compLoop e d it acc env), .compLoop e d it acc env, pos, (thr5 w os).stack⟩
  | _ => thr5 w os
noncomputable def thr14 (w : World) (os : OsState) : Thread := thrOf (segGo treeTable pw (w.withFollow rG false) 11 an0 1 44 (st13 (w.withFollow rG false) os) (piecesOf (part 14 15) env0 c0 pos13 fr0))
noncomputable def head14 (pos : Pos) (w : World) (os : OsState) : Thread := ⟨denote treeTable (thr14 w os).code, (thr14 w os).code, pos, (thr14 w os).stack⟩
noncomputable def thr16 (w : World) (os : OsState) : Thread := thrOf (segGo treeTable pw (w.withFollow rG false) 11 an0 1 10 (st15 (w.withFollow rG false) os) (piecesOf (part 16 17) env0 c0 pos15 fr0))
noncomputable def head16 (pos : Pos) (w : World) (os : OsState) : Thread := ⟨denote treeTable (thr16 w os).code, (thr16 w os).code, pos, (thr16 w os).stack⟩
end
end Mine
end

section
open PySem PySem.W PyProof.Rows
set_option Elab.async false
set_option maxRecDepth 100000
set_option maxHeartbeats 0
set_option linter.unusedVariables false
namespace Mine
theorem run_pre : ∀ w, (fun os => topGo treeTable pw w 11 an0 12 (st0 w os) (topStub pw)) = fun os => some (stA w os, ⟨denote treeTable c0, c0, posA, fr0⟩) := by
  intro w; kernel_rfl
theorem run_block : ∀ w, (fun os => segRun treeTable pw w 11 an0 1 1 (stA w os) (blockOf b0 env0 c0 posA fr0)) = fun os => some (.next, stA w os, c0, posA) := by
  intro w; kernel_rfl
end Mine
end

section
open PySem PySem.W PyProof.Rows
set_option Elab.async false
set_option maxRecDepth 100000
set_option maxHeartbeats 0
set_option linter.unusedVariables false
namespace Mine
theorem run_4 : ∀ w, (fun os => segRun treeTable pw w 11 an0 1 351 (stA w os) (piecesOf (part 0 5) env0 c0 posA fr0)) = fun os => some (.next, st4 w os, c0, pos4) := by
  intro w; kernel_rfl
end Mine
end

section
open PySem PySem.W PyProof.Rows
set_option Elab.async false
set_option maxRecDepth 100000
set_option maxHeartbeats 0
set_option linter.unusedVariables false
namespace Mine
noncomputable section
theorem run_5a_ff : ∀ w : World, (fun os => segGo treeTable pw ((w.withFollow rG false).withFollow rT false) 11 an0 1 52 (st4 ((w.withFollow rG false).withFollow rT false) os) (piecesOf (part 5 6) env0 c0 pos4 fr0)) = fun os => some (st5_0 ((w.withFollow rG false).withFollow rT false) os, head5 pos5_0 ((w.withFollow rG false).withFollow rT false) os) := by
  intro w; kernel_rfl
theorem run_5a_ft : ∀ w : World, (fun os => segGo treeTable pw ((w.withFollow rG false).withFollow rT true) 11 an0 1 42 (st4 ((w.withFollow rG false).withFollow rT true) os) (piecesOf (part 5 6) env0 c0 pos4 fr0)) = fun os => some (st5_0 ((w.withFollow rG false).withFollow rT true) os, head5 pos5_0 ((w.withFollow rG false).withFollow rT true) os) := by
  intro w; kernel_rfl
theorem run_5a_tf : ∀ w : World, (fun os => segGo treeTable pw ((w.withFollow rG true).withFollow rT false) 11 an0 1 52 (st4 ((w.withFollow rG true).withFollow rT false) os) (piecesOf (part 5 6) env0 c0 pos4 fr0)) = fun os => some (st5_0 ((w.withFollow rG true).withFollow rT false) os, head5 pos5_0 ((w.withFollow rG true).withFollow rT false) os) := by
  intro w; kernel_rfl
theorem run_5a_tt : ∀ w : World, (fun os => segGo treeTable pw ((w.withFollow rG true).withFollow rT true) 11 an0 1 42 (st4 ((w.withFollow rG true).withFollow rT true) os) (piecesOf (part 5 6) env0 c0 pos4 fr0)) = fun os => some (st5_0 ((w.withFollow rG true).withFollow rT true) os, head5 pos5_0 ((w.withFollow rG true).withFollow rT true) os) := by
  intro w; kernel_rfl
end
end Mine
end

section
open PySem PySem.W PyProof.Rows
set_option Elab.async false
set_option maxRecDepth 100000
set_option maxHeartbeats 0
set_option linter.unusedVariables false
namespace Mine
noncomputable section
theorem run_5b : ∀ w : World, (fun os => segGo treeTable pw w 11 an0 1 2368 (st5_0 w os) (head5 pos5_0 w os)) = fun os => some (st5_64 w os, head5 pos5_64 w os) := by
  intro w; kernel_rfl
end
end Mine
end

section
open PySem PySem.W PyProof.Rows
set_option Elab.async false
set_option maxRecDepth 100000
set_option maxHeartbeats 0
set_option linter.unusedVariables false
namespace Mine
noncomputable section
theorem run_5c : ∀ w : World, (fun os => segGo treeTable pw w 11 an0 1 2368 (st5_64 w os) (head5 pos5_64 w os)) = fun os => some (st5_128 w os, head5 pos5_128 w os) := by
  intro w; kernel_rfl
end
end Mine
end

section
open PySem PySem.W PyProof.Rows
set_option Elab.async false
set_option maxRecDepth 100000
set_option maxHeartbeats 0
set_option linter.unusedVariables false
namespace Mine
noncomputable section
theorem run_5d : ∀ w : World, (fun os => segGo treeTable pw w 11 an0 1 2368 (st5_128 w os) (head5 pos5_128 w os)) = fun os => some (st5_192 w os, head5 pos5_192 w os) := by
  intro w; kernel_rfl
end
end Mine
end

section
open PySem PySem.W PyProof.Rows
set_option Elab.async false
set_option maxRecDepth 100000
set_option maxHeartbeats 0
set_option linter.unusedVariables false
namespace Mine
noncomputable section
theorem run_5e : ∀ w : World, (fun os => segRun treeTable pw w 11 an0 1 2408 (st5_192 w os) (head5 pos5_192 w os)) = fun os => some (.next, st5 w os, c0, pos5) := by
  intro w; kernel_rfl
end
end Mine
end

section
open PySem PySem.W PyProof.Rows
set_option Elab.async false
set_option maxRecDepth 100000
set_option maxHeartbeats 0
set_option linter.unusedVariables false
namespace Mine
noncomputable section
theorem run_13 : ∀ w : World, (fun os => segRun treeTable pw w 11 an0 1 134 (st5 w os) (piecesOf (part 6 14) env0 c0 pos5 fr0)) = fun os => some (.next, st13 w os, c0, pos13) := by
  intro w; kernel_rfl
end
end Mine
end

section
open PySem PySem.W PyProof.Rows
set_option Elab.async false
set_option maxRecDepth 100000
set_option maxHeartbeats 0
set_option linter.unusedVariables false
namespace Mine
noncomputable section
theorem run_14a_f : ∀ w : World, (fun os => segGo treeTable pw (w.withFollow rG false) 11 an0 1 44 (st13 (w.withFollow rG false) os) (piecesOf (part 14 15) env0 c0 pos13 fr0)) = fun os => some (st14_0 (w.withFollow rG false) os, head14 pos14_0 (w.withFollow rG false) os) := by
  intro w; kernel_rfl
theorem run_14a_t : ∀ w : World, (fun os => segGo treeTable pw (w.withFollow rG true) 11 an0 1 44 (st13 (w.withFollow rG true) os) (piecesOf (part 14 15) env0 c0 pos13 fr0)) = fun os => some (st14_0 (w.withFollow rG true) os, head14 pos14_0 (w.withFollow rG true) os) := by
  intro w; kernel_rfl
end
end Mine
end

section
open PySem PySem.W PyProof.Rows
set_option Elab.async false
set_option maxRecDepth 100000
set_option maxHeartbeats 0
set_option linter.unusedVariables false
namespace Mine
noncomputable section
theorem run_14b : ∀ w : World, (fun os => segGo treeTable pw w 11 an0 1 1530 (st14_0 w os) (head14 pos14_0 w os)) = fun os => some (st14_34 w os, head14 pos14_34 w os) := by
  intro w; kernel_rfl
end
end Mine
end

section
open PySem PySem.W PyProof.Rows
set_option Elab.async false
set_option maxRecDepth 100000
set_option maxHeartbeats 0
set_option linter.unusedVariables false
namespace Mine
noncomputable section
theorem run_14c : ∀ w : World, (fun os => segRun treeTable pw w 11 an0 1 1504 (st14_34 w os) (head14 pos14_34 w os)) = fun os => some (.next, st14 w os, c0, pos14) := by
  intro w; kernel_rfl
end
end Mine
end

section
open PySem PySem.W PyProof.Rows
set_option Elab.async false
set_option maxRecDepth 100000
set_option maxHeartbeats 0
set_option linter.unusedVariables false
namespace Mine
noncomputable section
theorem run_15 : ∀ w : World, (fun os => segRun treeTable pw w 11 an0 1 26 (st14 w os) (piecesOf (part 15 16) env0 c0 pos14 fr0)) = fun os => some (.next, st15 w os, c0, pos15) := by
  intro w; kernel_rfl
end
end Mine
end

section
open PySem PySem.W PyProof.Rows
set_option Elab.async false
set_option maxRecDepth 100000
set_option maxHeartbeats 0
set_option linter.unusedVariables false
namespace Mine
noncomputable section
theorem run_16a_f : ∀ w : World, (fun os => segGo treeTable pw (w.withFollow rG false) 11 an0 1 10 (st15 (w.withFollow rG false) os) (piecesOf (part 16 17) env0 c0 pos15 fr0)) = fun os => some (st16_0 (w.withFollow rG false) os, head16 pos16_0 (w.withFollow rG false) os) := by
  intro w; kernel_rfl
theorem run_16a_t : ∀ w : World, (fun os => segGo treeTable pw (w.withFollow rG true) 11 an0 1 10 (st15 (w.withFollow rG true) os) (piecesOf (part 16 17) env0 c0 pos15 fr0)) = fun os => some (st16_0 (w.withFollow rG true) os, head16 pos16_0 (w.withFollow rG true) os) := by
  intro w; kernel_rfl
end
end Mine
end

section
open PySem PySem.W PyProof.Rows
set_option Elab.async false
set_option maxRecDepth 100000
set_option maxHeartbeats 0
set_option linter.unusedVariables false
namespace Mine
noncomputable section
theorem run_16b : ∀ w : World, (fun os => segGo treeTable pw w 11 an0 1 1440 (st16_0 w os) (head16 pos16_0 w os)) = fun os => some (st16_32 w os, head16 pos16_32 w os) := by
  intro w; kernel_rfl
end
end Mine
end

section
open PySem PySem.W PyProof.Rows
set_option Elab.async false
set_option maxRecDepth 100000
set_option maxHeartbeats 0
set_option linter.unusedVariables false
namespace Mine
noncomputable section
theorem run_16c : ∀ w : World, (fun os => segGo treeTable pw w 11 an0 1 1440 (st16_32 w os) (head16 pos16_32 w os)) = fun os => some (st16_64 w os, head16 pos16_64 w os) := by
  intro w; kernel_rfl
end
end Mine
end

section
open PySem PySem.W PyProof.Rows
set_option Elab.async false
set_option maxRecDepth 100000
set_option maxHeartbeats 0
set_option linter.unusedVariables false
namespace Mine
noncomputable section
theorem run_16d : ∀ w : World, (fun os => segRun treeTable pw w 11 an0 1 1414 (st16_64 w os) (head16 pos16_64 w os)) = fun os => some (.next, st16 w os, c0, pos16) := by
  intro w; kernel_rfl
end
end Mine
end

section
open PySem PySem.W PyProof.Rows
set_option Elab.async false
set_option maxRecDepth 100000
set_option maxHeartbeats 0
set_option linter.unusedVariables false
namespace Mine
noncomputable section
theorem run_19 : ∀ w : World, (fun os => segRun treeTable pw w 11 an0 1 87 (st16 w os) (piecesOf (part 17 20) env0 c0 pos16 fr0)) = fun os => some (.next, st19 w os, c0, pos19) := by
  intro w; kernel_rfl
end
end Mine
end

section
open PySem PySem.W PyProof.Rows
set_option Elab.async false
set_option maxRecDepth 100000
set_option maxHeartbeats 0
set_option linter.unusedVariables false
namespace Mine
noncomputable section
theorem run_20_f : ∀ w : World, (fun os => segRun treeTable pw (w.withFollow rG false) 11 an0 1 119 (st19 (w.withFollow rG false) os) (piecesOf (part 20 21) env0 c0 pos19 fr0)) = fun os => some (.next, st20 (w.withFollow rG false) os, c0, pos20) := by
  intro w; kernel_rfl
theorem run_20_t : ∀ w : World, (fun os => segRun treeTable pw (w.withFollow rG true) 11 an0 1 119 (st19 (w.withFollow rG true) os) (piecesOf (part 20 21) env0 c0 pos19 fr0)) = fun os => some (.next, st20 (w.withFollow rG true) os, c0, pos20) := by
  intro w; kernel_rfl
end
end Mine
end

section
open PySem PySem.W PyProof.Rows
set_option Elab.async false
set_option maxRecDepth 100000
set_option maxHeartbeats 0
set_option linter.unusedVariables false
namespace Mine
noncomputable section
theorem run_28 : ∀ w : World, (fun os => segRun treeTable pw w 11 an0 1 185 (st20 w os) (piecesOf (part 21 29) env0 c0 pos20 fr0)) = fun os => some (.next, st28 w os, c0, pos28) := by
  intro w; kernel_rfl
end
end Mine
end

section
open PySem PySem.W PyProof.Rows
set_option Elab.async false
set_option maxRecDepth 100000
set_option maxHeartbeats 0
set_option linter.unusedVariables false
namespace Mine
noncomputable section
theorem run_fin : ∀ w : World, (fun os => topRun treeTable pw w 11 an0 2 (st28 w os) ⟨doneF .next, c0, pos28, fr0⟩) = fun os => some (stfin w os) := by
  intro w; kernel_rfl
end
end Mine
end

section
open PySem PySem.W PyProof.Rows
set_option Elab.async false
set_option maxRecDepth 100000
set_option maxHeartbeats 0
set_option linter.unusedVariables false
namespace Mine
theorem segRun_mono {tb : String → Option Builtin} {p : Program} {w : World} {n₀ : Nat} {ann : Option Value} {b : Nat} (k : Nat) : ∀ (n : Nat) (s : Shared) (t : Thread) (r : Flow × Shared × Code × Pos), segRun tb p w n₀ ann b n s t = some r → segRun tb p w n₀ ann b (n + k) s t = some r
  | 0, _, _, _, h => by simp [segRun] at h
  | n + 1, s, t, r, h => by
    rw [show n + 1 + k = n + k + 1 by omega]
    unfold segRun at h ⊢
    cases he : endAt b t with
    | some f => rw [he] at h; exact h
    | none =>
      rw [he] at h
      cases hk : stepOk n₀ ann t with
      | false => rw [hk] at h; cases h
      | true =>
        rw [hk] at h
        cases hs : step (denote tb) p w s t with
        | halt o s' => rw [hs] at h; cases h
        | go s' t' => rw [hs] at h; exact segRun_mono k n s' t' r h
theorem run_5r (w : World) (os : OsState) : segRun treeTable pw w 11 an0 1 9512 (st5_0 w os) (head5 pos5_0 w os) = some (.next, st5 w os, c0, pos5) :=
  seg_go (n := 2368) (N := 7144) (congrFun (run_5b w) os) (seg_go (n := 2368) (N := 4776) (congrFun (run_5c w) os) (seg_go (n := 2368) (N := 2408) (congrFun (run_5d w) os) (congrFun (run_5e w) os)))
theorem run_5 (w : World) : ∀ os, segRun treeTable pw w 11 an0 1 9564 (st4 w os) (piecesOf (part 5 6) env0 c0 pos4 fr0) = some (.next, st5 w os, c0, pos5) := by
  refine byRow2 rT (P := fun w => ∀ os, segRun treeTable pw w 11 an0 1 9564 (st4 w os) (piecesOf (part 5 6) env0 c0 pos4 fr0) = some (.next, st5 w os, c0, pos5)) ?_ ?_ w
  · intro w
    refine byRow2 rG (P := fun w => ∀ os, segRun treeTable pw (w.withFollow rT false) 11 an0 1 9564 (st4 (w.withFollow rT false) os) (piecesOf (part 5 6) env0 c0 pos4 fr0) = some (.next, st5 (w.withFollow rT false) os, c0, pos5)) ?_ ?_ w
    · exact fun w os => seg_go (n := 52) (N := 9512) (congrFun (run_5a_ff w) os) (run_5r _ os)
    · exact fun w os => seg_go (n := 52) (N := 9512) (congrFun (run_5a_tf w) os) (run_5r _ os)
  · intro w
    refine byRow2 rG (P := fun w => ∀ os, segRun treeTable pw (w.withFollow rT true) 11 an0 1 9564 (st4 (w.withFollow rT true) os) (piecesOf (part 5 6) env0 c0 pos4 fr0) = some (.next, st5 (w.withFollow rT true) os, c0, pos5)) ?_ ?_ w
    · exact fun w os => seg_go (n := 42) (N := 9522) (congrFun (run_5a_ft w) os) (segRun_mono 10 _ _ _ _ (run_5r _ os))
    · exact fun w os => seg_go (n := 42) (N := 9522) (congrFun (run_5a_tt w) os) (segRun_mono 10 _ _ _ _ (run_5r _ os))
theorem run_14 (w : World) : ∀ os, segRun treeTable pw w 11 an0 1 3078 (st13 w os) (piecesOf (part 14 15) env0 c0 pos13 fr0) = some (.next, st14 w os, c0, pos14) := by
  have r : ∀ (w : World) os, segRun treeTable pw w 11 an0 1 3034 (st14_0 w os) (head14 pos14_0 w os) = some (.next, st14 w os, c0, pos14) := fun w os => seg_go (n := 1530) (N := 1504) (congrFun (run_14b w) os) (congrFun (run_14c w) os)
  refine byRow2 rG (P := fun w => ∀ os, segRun treeTable pw w 11 an0 1 3078 (st13 w os) (piecesOf (part 14 15) env0 c0 pos13 fr0) = some (.next, st14 w os, c0, pos14)) ?_ ?_ w
  · exact fun w os => seg_go (n := 44) (N := 3034) (congrFun (run_14a_f w) os) (r _ os)
  · exact fun w os => seg_go (n := 44) (N := 3034) (congrFun (run_14a_t w) os) (r _ os)
theorem run_16 (w : World) : ∀ os, segRun treeTable pw w 11 an0 1 4304 (st15 w os) (piecesOf (part 16 17) env0 c0 pos15 fr0) = some (.next, st16 w os, c0, pos16) := by
  have r : ∀ (w : World) os, segRun treeTable pw w 11 an0 1 4294 (st16_0 w os) (head16 pos16_0 w os) = some (.next, st16 w os, c0, pos16) := fun w os => seg_go (n := 1440) (N := 2854) (congrFun (run_16b w) os) (seg_go (n := 1440) (N := 1414) (congrFun (run_16c w) os) (congrFun (run_16d w) os))
  refine byRow2 rG (P := fun w => ∀ os, segRun treeTable pw w 11 an0 1 4304 (st15 w os) (piecesOf (part 16 17) env0 c0 pos15 fr0) = some (.next, st16 w os, c0, pos16)) ?_ ?_ w
  · exact fun w os => seg_go (n := 10) (N := 4294) (congrFun (run_16a_f w) os) (r _ os)
  · exact fun w os => seg_go (n := 10) (N := 4294) (congrFun (run_16a_t w) os) (r _ os)
theorem run_20 (w : World) : ∀ os, segRun treeTable pw w 11 an0 1 119 (st19 w os) (piecesOf (part 20 21) env0 c0 pos19 fr0) = some (.next, st20 w os, c0, pos20) := by
  refine byRow2 rG (P := fun w => ∀ os, segRun treeTable pw w 11 an0 1 119 (st19 w os) (piecesOf (part 20 21) env0 c0 pos19 fr0) = some (.next, st20 w os, c0, pos20)) ?_ ?_ w
  · exact fun w os => congrFun (run_20_f w) os
  · exact fun w os => congrFun (run_20_t w) os
theorem drop_part (lo hi : Nat) (h : lo ≤ hi) : b0.drop lo = part lo hi ++ b0.drop hi := by
  unfold part
  rw [show b0.drop hi = (b0.drop lo).drop (hi - lo) by rw [List.drop_drop]; congr 1; omega, List.take_append_drop]
theorem step_part {w : World} {n N lo hi : Nat} {s s' r : Shared} {pos p' : Pos} (hle : lo ≤ hi) (h : segRun treeTable pw w 11 an0 1 n s (piecesOf (part lo hi) env0 c0 pos fr0) = some (.next, s', c0, p'))
    (k : topRun treeTable pw w 11 an0 N s' (restOf (b0.drop hi) env0 c0 p' fr0) = some r) : topRun treeTable pw w 11 an0 (n + N) s (restOf (b0.drop lo) env0 c0 pos fr0) = some r := by
  rw [drop_part lo hi hle]
  exact piece_app h k
theorem drop_all : b0.drop 29 = [] := by kernel_rfl
theorem topRun_le {w : World} {M M' : Nat} {s r : Shared} {t : Thread} (h : topRun treeTable pw w 11 an0 M s t = some r) (le : M ≤ M') : topRun treeTable pw w 11 an0 M' s t = some r := by
  have := topRun_mono (M' - M) _ _ _ _ h
  rwa [show M + (M' - M) = M' by omega] at this
theorem run_all (w : World) (os : OsState) : topRun treeTable pw w 11 an0 18000 (st0 w os) (topStub pw) = some (stfin w os) := by
  have z : topRun treeTable pw w 11 an0 2 (st28 w os) (restOf (b0.drop 29) env0 c0 pos28 fr0) = some (stfin w os) := by rw [drop_all]; exact piece_nil (congrFun (run_fin w) os)
  have z := step_part (by decide) (congrFun (run_28 w) os) z
  have z := step_part (by decide) (run_20 w os) z
  have z := step_part (by decide) (congrFun (run_19 w) os) z
  have z := step_part (by decide) (run_16 w os) z
  have z := step_part (by decide) (congrFun (run_15 w) os) z
  have z := step_part (by decide) (run_14 w os) z
  have z := step_part (by decide) (congrFun (run_13 w) os) z
  have z := step_part (by decide) (run_5 w os) z
  have z := step_part (by decide) (congrFun (run_4 w) os) z
  have z := piece_block (b := b0) (c := c0) (congrFun (run_block w) os) z
  have z := go_top (congrFun (run_pre w) os) z
  exact topRun_le z (by decide)
end Mine
end

section
open PySem PySem.W PyProof.Rows
set_option Elab.async false
set_option maxRecDepth 100000
set_option maxHeartbeats 0
set_option linter.unusedVariables false
namespace Mine
noncomputable section
/-- the top's objects that the call reads -/
noncomputable def K0 (P : Params) : Frag := [(1, boot_o_1 P), (3, ob3_11 P), (27, ob27_0 P), (28, ob28_0 P), (34, ob34_0 P), (35, ob35_0 P), (37, ob37_0 P), (38, ob38_0 P), (39, ob39_0 P), (40, ob40_0 P), (48, ob48_0 P), (49, ob49_0 P), (55, ob55_0 P), (56, ob56_0 P),
  (59, ob59_4 P), (78, ob78_0 P), (79, ob79_0 P), (85, ob85_0 P), (86, ob86_0 P), (92, ob92_0 P), (98, ob98_0 P), (99, ob99_0 P), (103, ob103_0 P), (104, ob104_0 P), (108, ob108_0 P), (109, ob109_0 P), (113, ob113_0 P), (114, ob114_0 P), (118, ob118_0 P), (119, ob119_0 P), (123, ob123_0 P), (124, ob124_0 P)]
noncomputable def as0 : List Addr := [1, 3, 27, 28, 34, 35, 37, 38, 39, 40, 48, 49, 55, 56, 59, 78, 79, 85, 86, 92, 98, 99, 103, 104, 108, 109, 113, 114, 118, 119, 123, 124]
theorem as0_ok : ∀ P, as0 = (K0 P).map (·.1) := fun _ => rfl
noncomputable def q0 : Program := { pw with main := { pw.main with body := [stm 28] } }
noncomputable def loose0 : List Str := ["TupleComp", "add_func_stats", "add_callers", "NL", "_QUOPRI_MAP", "_QUOPRI_HEADER_MAP", "_QUOPRI_BODY_MAP", "ascii_lowercase", "ascii_uppercase", "ascii_letters", "digits", "hexdigits", "unquote", "quote", "_QUOPRI_BODY_ENCODE_MAP", "decode", "_law_terms", "_law_left", "_law_greatest", "_law_worth"].map Str.ofString
noncomputable abbrev row0 : OpenRow := PySem.Challenge.rw_rl0035_01.row
noncomputable def Xt0 (s : Shared) : Bool := xlAt q0 [] s && recOk (RowW.records row0.toRowW) s
noncomputable abbrev hook0 : Hook := kHook K0 as0 as0_ok
theorem look_a : ∀ w : World, (fun os : OsState => (staticsOk (importedModules pw.main.body) (boot_heap w.params) (hpfin w.params) && namesBound pw (hpfin w.params) && gensDone (stfin w os) && laidKept (boot_heap w.params) (hpfin w.params))) = fun _ => true := by intro w; kernel_rfl
theorem look_y : ∀ w : World, (fun os : OsState => as0.map (stfin w os).heap.get?) = fun _ => (K0 w.params).map fun p => some p.2 := by intro w; kernel_rfl
end
end Mine
end

section
open PySem PySem.W PyProof.Rows
set_option Elab.async false
set_option maxRecDepth 100000
set_option maxHeartbeats 0
set_option linter.unusedVariables false
namespace Mine
theorem lk1 : ∀ w : World, (fun os : OsState => seen ((recsOf q0).map (·.name)) (ownsOf q0) [] { stfin w os with gens := #[] }) = fun _ => expectedOf q0 := by intro w; kernel_rfl
theorem lk2 : ∀ w : World, (fun os : OsState => (stfin w os).heap.bltView) = fun _ => bltViewBooted := by intro w; kernel_rfl
theorem lk3 : ∀ w : World, (fun os : OsState => (stfin w os).heap.keysOk (looseW q0 loose0) ((recsOf q0).map (·.name)) ((litsOf q0).map (·.1)) ((clssOf q0 (looseW q0 loose0)).map (·.name)) && (stfin w os).heap.accountedOkI (importedModules pw.main.body) && (stfin w os).heap.isNs mainGlobals && (stfin w os).heap.isNs builtinsNs && tablesOk q0 (stfin w os).heap && Xt0 (stfin w os) && (stfin w os).gens.size == 0) = fun _ => true := by intro w; kernel_rfl
theorem lk4 : ∀ w : World, (fun os : OsState => tabsOk q0 (stfin w os)) = fun _ => true := by intro w; kernel_rfl
theorem lk5 : ∀ w : World, (fun os : OsState => pinSeenD q0 (drecsOf q0) (stfin w os)) = fun _ => pinGoodD (drecsOf q0) := by intro w; kernel_rfl
theorem lk6 : ∀ w : World, (fun os : OsState => plainSeenE q0 (looseW q0 loose0) (stfin w os)) = fun _ => plainGoodE q0 (looseW q0 loose0) := by intro w; kernel_rfl
theorem lk7 : ∀ w : World, (fun os : OsState => plainSeenD q0 loose0 (stfin w os)) = fun _ => plainGoodD q0 loose0 := by intro w; kernel_rfl
theorem lk8 : ∀ w : World, (fun os : OsState => wideSeen q0 (stfin w os)) = fun _ => wideGood q0 := by intro w; kernel_rfl
theorem lk9 : ∀ w : World, (fun os : OsState => clsSeenW q0 loose0 (stfin w os)) = fun _ => clsGoodW q0 loose0 := by intro w; kernel_rfl
end Mine
end

section
open PySem PySem.W PyProof.Rows
set_option Elab.async false
set_option maxRecDepth 100000
set_option maxHeartbeats 0
set_option linter.unusedVariables false
namespace Mine
theorem boot0 : ∀ w : World, importEnds treeTable (opening pw) w 600 (start (opening pw)).1 (start (opening pw)).2 = some ⟨boot_heap w.params, Array.mk [], boot_drawn, boot_toks, (start (opening pw)).1.os⟩ := by intro w; kernel_rfl
theorem open0 : ∀ w : World, (fencedOpening treeTable pw w 40000).map (fun s => (s.heap, s.gens, s.drawn, s.toks)) = some (boot_heap w.params, Array.mk [], boot_drawn, boot_toks) :=
  open_cut boot0 (by decide) (fun w => by kernel_rfl)
theorem size0 : ∀ w : World, ((boot_heap w.params).isNs mainGlobals && (Array.mk [] : Array GenState).size == 0, (boot_heap w.params).objs.size, (boot_heap w.params).nsMap mainGlobals "__annotations__") = (true, 11, an0) := by intro w; kernel_rfl
theorem left0 : LeftO pw q0 loose0 Xt0 hook0.obs hook0.val 40000 := by
  refine LeftO.of_pieces (M := 18000) (H₀ := boot_heap) (H₁ := hpfin) (gs₀ := Array.mk []) (gs₁ := Array.mk []) (d₀ := boot_drawn) (d₁ := boot_drawn) (k₀ := boot_toks) (k₁ := tkfin) open0 size0 (fun w os => run_all w os) (by decide) fun w => ?_
  funext os
  have h1 := congrFun (lk1 w) os
  have h2 := congrFun (lk2 w) os
  have h3 := congrFun (lk3 w) os
  have h4 := congrFun (lk4 w) os
  have h5 := congrFun (lk5 w) os
  have h6 := congrFun (lk6 w) os
  have h7 := congrFun (lk7 w) os
  have h8 := congrFun (lk8 w) os
  have h9 := congrFun (lk9 w) os
  have ha := congrFun (look_a w) os
  have hy := congrFun (look_y w) os
  refine looks_pair ha (looks_pair ?_ hy)
  exact looks_pair h1 (looks_pair h2 (looks_pair h3 (looks_pair h4 (looks_pair h5 (looks_pair h6 (looks_pair h7 (looks_pair h8 h9)))))))
noncomputable def lawRec : DefRec := ⟨Str.ofString "law", fnArgs (stm 28), fnBody (stm 28), fnScope (stm 28), (stm 28).pos⟩
theorem def0 : defOf q0 (Str.ofString "law") = some (lawRec, []) := by kernel_rfl
end Mine
end

section
open PySem PySem.W PyProof.Rows
set_option Elab.async false
namespace Mine

/-- plain data -/
inductive D where
  | none
  | bool (b : Bool)
  | int (i : Int)
  | str (x : Str)
  | tup (ds : List D)
  | lst (ds : List D)
  | dict0
  | comp (d : D)
  | rng (a b c : Int)
  | val (v : Value)

mutual
/-- in heap h the value v reads as d, and no object of it lies in X -/
inductive Rd (X : List Addr) (h : Heap) : Value → D → Prop
  | none : Rd X h Value.none D.none
  | bool (b : Bool) : Rd X h (Value.bool b) (D.bool b)
  | int (i : Int) (t : Tok) : Rd X h (Value.int i t) (D.int i)
  | str (x : Str) (t : Tok) : Rd X h (Value.str x t) (D.str x)
  | tup {a : Addr} {vs : List Value} {n : Nat} {ds : List D} : a ∉ X → h.get? a = some { cls := .type "tuple", data := .seq vs.toArray n } → RdL X h vs ds → Rd X h (Value.ref a) (D.tup ds)
  | lst {a : Addr} {vs : List Value} {n : Nat} {ds : List D} {dk : Option Addr} {sl : Array (Option Value)} : a ∉ X → h.get? a = some { cls := .type "list", dict := dk, data := .seq vs.toArray n, slots := sl } → RdL X h vs ds → Rd X h (Value.ref a) (D.lst ds)
  | dict0 {a : Addr} {n : Nat} : a ∉ X → h.get? a = some { cls := .type "dict", data := .dict #[] n } → Rd X h (Value.ref a) D.dict0
  | comp {a da : Addr} {hs : Int} {tk : Tok} {v : Value} {n : Nat} {d : D} : a ∉ X → da ∉ X →
      h.get? a = some (instObj 38 da) → h.get? da = some { cls := .type "dict", data := .dict #[⟨hs, .str (Str.ofString "comp_select_list") tk, v⟩] n } →
      Rd X h v d → Rd X h (Value.ref a) (D.comp d)
  | rng {a : Addr} {i j k : Int} {t u v : Tok} : a ∉ X → IsRange h a i j k t u v → Rd X h (Value.ref a) (D.rng i j k)
  | val (v : Value) : Rd X h v (D.val v)
inductive RdL (X : List Addr) (h : Heap) : List Value → List D → Prop
  | nil : RdL X h [] []
  | cons {v : Value} {vs : List Value} {d : D} {ds : List D} : Rd X h v d → RdL X h vs ds → RdL X h (v :: vs) (d :: ds)
end

noncomputable def Kp (h h' : Heap) : Prop := ∀ b o, h.get? b = some o → h'.get? b = some o
noncomputable def KpX (X : List Addr) (h h' : Heap) : Prop := ∀ b o, b ∉ X → h.get? b = some o → h'.get? b = some o
theorem Kp.x {h h' : Heap} (k : Kp h h') (X : List Addr) : KpX X h h' := fun b o _ e => k b o e
theorem Kp.refl (h : Heap) : Kp h h := fun _ _ e => e
theorem Kp.trans {h h' h'' : Heap} (a : Kp h h') (b : Kp h' h'') : Kp h h'' := fun x o e => b x o (a x o e)
theorem KpX.refl (X : List Addr) (h : Heap) : KpX X h h := fun _ _ _ e => e
theorem KpX.trans {X : List Addr} {h h' h'' : Heap} (a : KpX X h h') (b : KpX X h' h'') : KpX X h h'' := fun x o n e => b x o n (a x o n e)
theorem KpX.sub {X Y : List Addr} {h h' : Heap} (a : KpX X h h') (s : ∀ x ∈ X, x ∈ Y) : KpX Y h h' := fun x o n e => a x o (fun m => n (s x m)) e

mutual
theorem Rd.kpx {X : List Addr} {h h' : Heap} (k : KpX X h h') : ∀ {v : Value} {d : D}, Rd X h v d → Rd X h' v d
  | _, _, .none => .none
  | _, _, .bool b => .bool b
  | _, _, .int i t => .int i t
  | _, _, .str x t => .str x t
  | _, _, .tup a e r => .tup a (k _ _ a e) (RdL.kpx k r)
  | _, _, .lst a e r => .lst a (k _ _ a e) (RdL.kpx k r)
  | _, _, .dict0 a e => .dict0 a (k _ _ a e)
  | _, _, .comp a b e f r => .comp a b (k _ _ a e) (k _ _ b f) (Rd.kpx k r)
  | _, _, .rng a e => .rng a (k _ _ a e)
  | _, _, .val v => .val v
theorem RdL.kpx {X : List Addr} {h h' : Heap} (k : KpX X h h') : ∀ {vs : List Value} {ds : List D}, RdL X h vs ds → RdL X h' vs ds
  | _, _, .nil => .nil
  | _, _, .cons a r => .cons (Rd.kpx k a) (RdL.kpx k r)
end
/-- every address of Y lies in X or bears nothing -/
noncomputable def Off (X Y : List Addr) (h : Heap) : Prop := ∀ a ∈ Y, a ∈ X ∨ h.get? a = none
theorem Off.no {X Y : List Addr} {h : Heap} (o : Off X Y h) {a : Addr} {x : Obj} (n : a ∉ X) (e : h.get? a = some x) : a ∉ Y := fun m => (o a m).elim n fun q => by rw [e] at q; cases q
mutual
theorem Rd.off {X Y : List Addr} {h : Heap} (k : Off X Y h) : ∀ {v : Value} {d : D}, Rd X h v d → Rd Y h v d
  | _, _, .none => .none
  | _, _, .bool b => .bool b
  | _, _, .int i t => .int i t
  | _, _, .str x t => .str x t
  | _, _, .tup a e r => .tup (k.no a e) e (RdL.off k r)
  | _, _, .lst a e r => .lst (k.no a e) e (RdL.off k r)
  | _, _, .dict0 a e => .dict0 (k.no a e) e
  | _, _, .comp a b e f r => .comp (k.no a e) (k.no b f) e f (Rd.off k r)
  | _, _, .rng a e => .rng (k.no a e) e
  | _, _, .val v => .val v
theorem RdL.off {X Y : List Addr} {h : Heap} (k : Off X Y h) : ∀ {vs : List Value} {ds : List D}, RdL X h vs ds → RdL Y h vs ds
  | _, _, .nil => .nil
  | _, _, .cons a r => .cons (Rd.off k a) (RdL.off k r)
end
theorem Rd.kp {X : List Addr} {h h' : Heap} {v : Value} {d : D} (r : Rd X h v d) (k : Kp h h') : Rd X h' v d := r.kpx (k.x X)
theorem RdL.kp {X : List Addr} {h h' : Heap} {v : List Value} {d : List D} (r : RdL X h v d) (k : Kp h h') : RdL X h' v d := r.kpx (k.x X)

section
variable {X : List Addr} {h : Heap} {v : Value} {d : D} {vs ws : List Value} {ds es : List D}
theorem RdL.length (r : RdL X h vs ds) : vs.length = ds.length := by
  induction vs generalizing ds with
  | nil => cases r; rfl
  | cons v vs ih => cases r with | cons _ r => rw [List.length_cons, List.length_cons, ih r]
theorem RdL.append (r : RdL X h vs ds) (k : RdL X h ws es) : RdL X h (vs ++ ws) (ds ++ es) := by
  induction vs generalizing ds with
  | nil => cases r; exact k
  | cons v vs ih => cases r with | cons a r => exact .cons a (ih r)
theorem RdL.one (r : Rd X h v d) : RdL X h [v] [d] := .cons r .nil
theorem RdL.get (r : RdL X h vs ds) {k : Nat} {d : D} (hk : ds[k]? = some d) : ∃ v, vs[k]? = some v ∧ Rd X h v d := by
  induction vs generalizing ds k with
  | nil => cases r; simp at hk
  | cons v vs ih =>
    cases r with
    | cons a r =>
      cases k with
      | zero => simp at hk; subst hk; exact ⟨v, rfl, a⟩
      | succ k => simp at hk; simpa using ih r hk
theorem RdL.get' (r : RdL X h vs ds) {k : Nat} {v : Value} (hk : vs[k]? = some v) : ∃ d, ds[k]? = some d ∧ Rd X h v d := by
  induction vs generalizing ds k with
  | nil => simp at hk
  | cons u vs ih =>
    cases r with
    | cons a r =>
      cases k with
      | zero => simp at hk; subst hk; exact ⟨_, rfl, a⟩
      | succ k => simp at hk; simpa using ih r hk
theorem RdL.take (r : RdL X h vs ds) (n : Nat) : RdL X h (vs.take n) (ds.take n) := by
  induction vs generalizing ds n with
  | nil => cases r; simpa using RdL.nil
  | cons v vs ih =>
    cases r with
    | cons a r => cases n with
      | zero => exact .nil
      | succ n => exact .cons a (ih r n)
theorem RdL.drop (r : RdL X h vs ds) (n : Nat) : RdL X h (vs.drop n) (ds.drop n) := by
  induction vs generalizing ds n with
  | nil => cases r; simpa using RdL.nil
  | cons v vs ih =>
    cases r with
    | cons a r => cases n with
      | zero => exact .cons a r
      | succ n => exact ih r n
theorem RdL.ints {is : List Int} (r : RdL X h vs (is.map D.int)) : IntsAre vs is := by
  induction vs generalizing is with
  | nil => cases is with
    | nil => exact .nil
    | cons i is => cases r
  | cons v vs ih => cases is with
    | nil => cases r
    | cons i is => cases r with
      | cons a r => cases a with
        | int i t => exact .cons i t (ih r)
end

theorem get_size (h : Heap) : h.get? h.objs.size = none := by
  cases e : h.get? h.objs.size with
  | none => rfl
  | some o => exact absurd (Heap.lt_size e) (Nat.lt_irrefl _)

/-- the call's fixed parts: program, world, the top's objects, the names of the top -/
structure Cx where
  prog : Program
  w : World
  K : Frag
  G : List (Str × Value)

noncomputable def GlobIs (h : Heap) (x : Str) (v : Value) : Prop :=
  (∃ m, h.Ns mainGlobals m ∧ m x = some v) ∨ (∃ m m', h.Ns mainGlobals m ∧ m x = none ∧ h.Ns builtinsNs m' ∧ m' x = some v)
structure TopOk (c : Cx) (h : Heap) : Prop where
  kin : c.K.In h
  lim : h.NoLimit
  glob : ∀ x v, c.G.lookup x = some v → GlobIs h x v
  sys : ∃ o es n, h.get? sysModules = some o ∧ o.data = .dict es n ∧ es.size ≠ 0
theorem TopOk.kp {c : Cx} {h h' : Heap} (t : TopOk c h) (k : Kp h h') : TopOk c h' :=
  ⟨fun a o e => k _ _ (t.kin a o e), t.lim.keeps k, fun x v e => (t.glob x v e).elim (fun ⟨m, a, b⟩ => .inl ⟨m, a.keeps k, b⟩) fun ⟨m, m', a, b, a', b'⟩ => .inr ⟨m, m', a.keeps k, b, a'.keeps k, b'⟩, let ⟨o, es, n, a, b⟩ := t.sys; ⟨o, es, n, k _ _ a, b⟩⟩

/-- the top's facts, by a heap whose objects all stand and none of which lies in X -/
noncomputable def TopX (c : Cx) (X : List Addr) (h : Heap) : Prop := ∃ h₀, TopOk c h₀ ∧ ∀ b o, h₀.get? b = some o → b ∉ X ∧ h.get? b = some o
theorem TopX.ok {c : Cx} {X : List Addr} {h : Heap} (t : TopX c X h) : TopOk c h := let ⟨_, a, b⟩ := t; a.kp fun x o e => (b x o e).2
theorem TopX.kpx {c : Cx} {X : List Addr} {h h' : Heap} (t : TopX c X h) (k : KpX X h h') : TopX c X h' := let ⟨h₀, a, b⟩ := t; ⟨h₀, a, fun x o e => ⟨(b x o e).1, k x o (b x o e).1 (b x o e).2⟩⟩
theorem TopX.kp {c : Cx} {X : List Addr} {h h' : Heap} (t : TopX c X h) (k : Kp h h') : TopX c X h' := t.kpx (k.x X)
theorem TopX.off {c : Cx} {X Y : List Addr} {h : Heap} (t : TopX c X h) (k : Off X Y h) : TopX c Y h := let ⟨h₀, a, b⟩ := t; ⟨h₀, a, fun x o e => ⟨k.no (b x o e).1 (b x o e).2, (b x o e).2⟩⟩

structure Room (A : Around) (k : Nat) : Prop where
  hd : A.handled = none
  dep : A.depth + k < recursionLimit
  uni : A.units + 4 * k + 4 < cLine
theorem Room.deeper {A : Around} {k : Nat} (r : Room A (k + 1)) (env : Env) : Room (A.deeper env) k :=
  ⟨r.hd, by have := r.dep; show A.depth + 1 + k < _; omega, by have := r.uni; show A.units + 3 + 4 * k + 4 < _; omega⟩
theorem Room.less {A : Around} {k : Nat} (r : Room A (k + 1)) : Room A k := ⟨r.hd, by have := r.dep; omega, by have := r.uni; omega⟩
theorem Room.le {A : Around} {k j : Nat} (r : Room A k) (h : j ≤ k) : Room A j := ⟨r.hd, by have := r.dep; omega, by have := r.uni; omega⟩
theorem Room.depth {A : Around} {k : Nat} (r : Room A k) : A.depth < recursionLimit := by have := r.dep; omega
theorem Room.units {A : Around} {k : Nat} (r : Room A k) : A.units < cLine := by have := r.uni; omega
theorem Room.units1 {A : Around} {k : Nat} (r : Room A k) : A.in1.units < cLine := by have := r.uni; show A.units + 1 < _; omega

structure EnvOk (env : Env) (X : List Addr) : Prop where
  kind : env.scope.kind = .function
  glob : env.globals = mainGlobals
  blt : env.builtins = builtinsNs
  locX : env.locals ∈ X
  cellX : ∀ n c, (n, c) ∈ env.cells → c ∈ X
  apart : env.cells.Pairwise fun x y => x.2 ≠ y.2
  has : ∀ n, (env.kindOf n = some .cell ∨ env.kindOf n = some .free) → ∃ c, env.cells.lookup n = some c

structure FmOk (env : Env) (X : List Addr) (σ : List (Str × D)) (h : Heap) : Prop where
  ns : ∃ m, h.Ns env.locals m ∧ ∀ x d, σ.lookup x = some d → env.kindOf x = some .local → ∃ v, m x = some v ∧ Rd X h v d
  cell : ∀ n c, (n, c) ∈ env.cells → ∃ cv, h.IsCell c cv
  cells : ∀ x d, σ.lookup x = some d → env.kindOf x ≠ some .local → (env.kindOf x = some .cell ∨ env.kindOf x = some .free) ∧ ∃ c v, env.cells.lookup x = some c ∧ h.IsCell c (some v) ∧ Rd X h v d
theorem FmOk.kp {env : Env} {X : List Addr} {σ : List (Str × D)} {h h' : Heap} (f : FmOk env X σ h) (k : Kp h h') : FmOk env X σ h' := by
  refine ⟨?_, fun n c m => let ⟨cv, q⟩ := f.cell n c m; ⟨cv, q.keeps k⟩, fun x d e n => let ⟨a, c, v, l, i, r⟩ := f.cells x d e n; ⟨a, c, v, l, i.keeps k, r.kp k⟩⟩
  obtain ⟨m, a, b⟩ := f.ns
  exact ⟨m, a.keeps k, fun x d e l => let ⟨v, p, q⟩ := b x d e l; ⟨v, p, q.kp k⟩⟩

noncomputable def Live (X : List Addr) (h : Heap) : Prop := ∀ a ∈ X, ∃ o, h.get? a = some o
theorem Live.kp {X : List Addr} {h h' : Heap} (l : Live X h) (k : Kp h h') : Live X h' := fun a m => let ⟨o, e⟩ := l a m; ⟨o, k a o e⟩
theorem Live.fresh {X : List Addr} {h : Heap} (l : Live X h) {a : Addr} (e : h.get? a = none) : a ∉ X := fun m => by obtain ⟨o, q⟩ := l a m; rw [e] at q; cases q
theorem Live.size {X : List Addr} {h : Heap} (l : Live X h) : h.objs.size ∉ X := l.fresh (get_size h)

structure St (c : Cx) (k : Nat) (sc : Scope) (σ : List (Str × D)) (env : Env) (A : Around) (X : List Addr) (s : Shared) : Prop where
  sc : env.scope = sc
  ok : EnvOk env X
  room : Room A k
  top : TopX c X s.heap
  live : Live X s.heap
  fm : FmOk env X σ s.heap
theorem St.kp {c : Cx} {k : Nat} {sc : Scope} {σ : List (Str × D)} {env : Env} {A : Around} {X : List Addr} {s s' : Shared} (t : St c k sc σ env A X s) (kp : Keeps s s') : St c k sc σ env A X s' := by
  obtain ⟨h', tk, rfl, q⟩ := kp
  exact ⟨t.sc, t.ok, t.room, t.top.kp q, t.live.kp q, t.fm.kp q⟩

theorem kk_rfl (s : Shared) : Keeps s s := ⟨s.heap, s.toks, rfl, fun _ _ e => e⟩
theorem kk_trans {s s' s'' : Shared} (a : Keeps s s') (b : Keeps s' s'') : Keeps s s'' := by
  obtain ⟨h1, t1, rfl, k1⟩ := a
  obtain ⟨h2, t2, rfl, k2⟩ := b
  exact ⟨h2, t2, rfl, fun b o e => k2 b o (k1 b o e)⟩
theorem kk_kp {s s' : Shared} (a : Keeps s s') : Kp s.heap s'.heap := by obtain ⟨h1, t1, rfl, k1⟩ := a; exact k1
theorem kk_tok (s : Shared) (t : Nat) : Keeps s { s with toks := t } := ⟨s.heap, t, rfl, fun _ _ e => e⟩
theorem kk_heap {s : Shared} {h : Heap} (k : Kp s.heap h) : Keeps s { s with heap := h } := ⟨h, s.toks, rfl, k⟩
theorem kk_push (s : Shared) (o : Obj) : Keeps s { s with heap := s.heap.push o } := kk_heap fun _ _ e => Heap.get?_push_of_some o e

/-- the value's post -/
noncomputable abbrev VP (X : List Addr) (d : D) (s : Shared) : Value → Shared → Prop := fun v s' => Keeps s s' ∧ Rd X s'.heap v d
theorem VP.of {X : List Addr} {d : D} {s s' s'' : Shared} {v : Value} (k : Keeps s s') (h : VP X d s' v s'') : VP X d s v s'' := ⟨kk_trans k h.1, h.2⟩

noncomputable def Ev (c : Cx) (k : Nat) (sc : Scope) (σ : List (Str × D)) (e : Expr) (d : D) : Prop :=
  ∀ env A X s E, St c k sc σ env A X s → wpAny (model c.prog c.w) A (eval e env) (VP X d s) E s
/-- a tree over values -/
noncomputable def Op1 (c : Cx) (k : Nat) (f : Value → Sem Value) (a d : D) : Prop :=
  ∀ A X s E v, Room A k → TopX c X s.heap → Live X s.heap → Rd X s.heap v a → wpAny (model c.prog c.w) A (f v) (VP X d s) E s
noncomputable def Op2 (c : Cx) (k : Nat) (f : Value → Value → Sem Value) (a b d : D) : Prop :=
  ∀ A X s E v u, Room A k → TopX c X s.heap → Live X s.heap → Rd X s.heap v a → Rd X s.heap u b → wpAny (model c.prog c.w) A (f v u) (VP X d s) E s
noncomputable def EvB (c : Cx) (k : Nat) (sc : Scope) (σ : List (Str × D)) (e : Expr) (b : Bool) : Prop :=
  ∀ env A X s E, St c k sc σ env A X s → wpAny (model c.prog c.w) A (isTrue e env (eval e env)) (fun b' s' => b' = b ∧ Keeps s s') E s

section
variable {c : Cx} {k : Nat} {sc : Scope} {σ : List (Str × D)} {pos : Pos}
theorem Ev.int {i : Int} {kk : Nat} : Ev c k sc σ (.Constant (.int i) kk pos) (.int i) := fun _ _ _ _ _ _ => wpAny_Constant_int ⟨kk_tok _ _, .int _ _⟩
theorem Ev.str {x : Str} {kk : Nat} : Ev c k sc σ (.Constant (.str x) kk pos) (.str x) := fun _ _ _ _ _ _ => wpAny_Constant_str ⟨kk_tok _ _, .str _ _⟩
theorem Ev.ctrue {kk : Nat} : Ev c k sc σ (.Constant (.bool true) kk pos) (.bool true) := fun _ _ _ _ _ _ => wpAny_Constant_bool ⟨kk_rfl _, .bool _⟩
theorem Ev.cfalse {kk : Nat} : Ev c k sc σ (.Constant (.bool false) kk pos) (.bool false) := fun _ _ _ _ _ _ => wpAny_Constant_bool ⟨kk_rfl _, .bool _⟩

theorem load_of {env : Env} {A : Around} {X : List Addr} {s : Shared} {E : Value → Shared → Prop} {x : Str} {d : D} {Q : Value → Shared → Prop} (t : St c k sc σ env A X s) (e : σ.lookup x = some d) (hn : (x == ("__classdict__" : Str)) = false) (h : ∀ v, Rd X s.heap v d → Q v s) :
    wpAny (model c.prog c.w) A (loadName env x) Q E s := by
  by_cases hl : env.kindOf x = some .local
  · obtain ⟨m, a, b⟩ := t.fm.ns
    obtain ⟨v, p, q⟩ := b x d e hl
    exact wpAny_loadName_local t.ok.kind hl a p (h v q)
  · obtain ⟨hk, cc, v, l, i, r⟩ := t.fm.cells x d e hl
    rcases hk with hk | hk
    · exact wpAny_loadName_cell t.ok.kind hk l i (h v r)
    · exact wpAny_loadName_free t.ok.kind hk l i (h v r) hn
theorem Ev.name {x : Str} {d : D} (e : σ.lookup x = some d) (hn : (x == ("__classdict__" : Str)) = false := by decide) (hd : (x == ("__debug__" : Str)) = false := by decide) : Ev c k sc σ (.Name x pos) d :=
  fun _ _ _ _ _ t => wpAny_Name (load_of t e hn fun _ r => ⟨kk_rfl _, r⟩) hd

theorem Ev.bin {l r : Expr} {op : Operator} {a b d : D} (hl : Ev c k sc σ l a) (hr : Ev c k sc σ r b) (ho : Op2 c k (binaryOp op) a b d) : Ev c k sc σ (.BinOp l op r pos) d := by
  intro env A X s E t
  refine wpAny_BinOp (wpAny_mono (hl env A X s E t) (fun v s₁ h₁ => ?_) fun _ _ e => e)
  have t₁ := t.kp h₁.1
  refine wpAny_mono (hr env A X s₁ E t₁) (fun u s₂ h₂ => ?_) fun _ _ e => e
  have t₂ := t₁.kp h₂.1
  exact wpAny_mono (ho A X s₂ E v u t.room t₂.top t₂.live (h₁.2.kp (kk_kp h₂.1)) h₂.2) (fun _ _ q => VP.of (kk_trans h₁.1 h₂.1) q) fun _ _ e => e
theorem Ev.un {x : Expr} {op : UnaryOp} {a d : D} (hx : Ev c k sc σ x a) (ho : Op1 c k (unaryOp op) a d) : Ev c k sc σ (.UnaryOp op x pos) d := by
  intro env A X s E t
  refine wpAny_UnaryOp (wpAny_mono (hx env A X s E t) (fun v s₁ h₁ => ?_) fun _ _ e => e)
  have t₁ := t.kp h₁.1
  exact wpAny_mono (ho A X s₁ E v t.room t₁.top t₁.live h₁.2) (fun _ _ q => VP.of h₁.1 q) fun _ _ e => e
theorem Ev.cmp {l r : Expr} {op : CmpOp} {a b d : D} (hl : Ev c k sc σ l a) (hr : Ev c k sc σ r b) (ho : Op2 c k (compareOp op) a b d) (hm : behindInMarks op r = false := by with_unfolding_all rfl) : Ev c k sc σ (.Compare l [op] [r] pos) d := by
  intro env A X s E t
  refine wpAny_Compare1 (wpAny_mono (hl env A X s E t) (fun v s₁ h₁ => ?_) fun _ _ e => e) hm
  have t₁ := t.kp h₁.1
  refine wpAny_mono (hr env A X s₁ E t₁) (fun u s₂ h₂ => ?_) fun _ _ e => e
  have t₂ := t₁.kp h₂.1
  exact wpAny_mono (ho A X s₂ E v u t.room t₂.top t₂.live (h₁.2.kp (kk_kp h₂.1)) h₂.2) (fun _ _ q => VP.of (kk_trans h₁.1 h₂.1) q) fun _ _ e => e
theorem EvB.cmp {l r : Expr} {op : CmpOp} {a b : D} {z : Bool} (hl : Ev c k sc σ l a) (hr : Ev c k sc σ r b) (ho : Op2 c k (compareOp op) a b (.bool z)) (hm : behindInMarks op r = false := by with_unfolding_all rfl) : EvB c k sc σ (.Compare l [op] [r] pos) z := by
  intro env A X s E t
  refine wpAny_isTrue_Compare1 (wpAny_mono (hl env A X s E t) (fun v s₁ h₁ => ?_) fun _ _ e => e) hm
  have t₁ := t.kp h₁.1
  refine wpAny_mono (hr env A X s₁ E t₁) (fun u s₂ h₂ => ?_) fun _ _ e => e
  have t₂ := t₁.kp h₂.1
  refine wpAny_mono (ho A X s₂ E v u t.room t₂.top t₂.live (h₁.2.kp (kk_kp h₂.1)) h₂.2) (fun y s₃ q => ?_) fun _ _ e => e
  obtain ⟨q1, q2⟩ := q
  cases q2
  exact wpAny_truthy_bool ⟨rfl, kk_trans (kk_trans h₁.1 h₂.1) q1⟩
theorem EvB.not {x : Expr} {z : Bool} (h : EvB c k sc σ x z) : EvB c k sc σ (.UnaryOp .Not x pos) (!z) :=
  fun env A X s E t => wpAny_isTrue_Not (wpAny_mono (h env A X s E t) (fun _ _ q => ⟨by rw [q.1], q.2⟩) fun _ _ e => e)
theorem EvB.and2 {x y : Expr} {p q : Bool} (hx : EvB c k sc σ x p) (hy : p = true → EvB c k sc σ y q) : EvB c k sc σ (.BoolOp .And [x, y] pos) (p && q) := by
  intro env A X s E t
  refine wpAny_isTrue_BoolOp (wpAny_allTrue_And_cons (wpAny_mono (hx env A X s E t) (fun b s₁ h₁ => ?_) fun _ _ e => e))
  obtain ⟨rfl, h₁⟩ := h₁
  cases b with
  | false => exact ⟨rfl, h₁⟩
  | true =>
    refine wpAny_allTrue_And_cons (wpAny_mono (hy rfl env A X s₁ E (t.kp h₁)) (fun b s₂ h₂ => ?_) fun _ _ e => e)
    obtain ⟨rfl, h₂⟩ := h₂
    cases b with
    | false => exact ⟨rfl, kk_trans h₁ h₂⟩
    | true => exact wpAny_allTrue_And_nil ⟨rfl, kk_trans h₁ h₂⟩
theorem EvB.or2 {x y : Expr} {p q : Bool} (hx : EvB c k sc σ x p) (hy : p = false → EvB c k sc σ y q) : EvB c k sc σ (.BoolOp .Or [x, y] pos) (p || q) := by
  intro env A X s E t
  refine wpAny_isTrue_BoolOp (wpAny_allTrue_Or_cons (wpAny_mono (hx env A X s E t) (fun b s₁ h₁ => ?_) fun _ _ e => e))
  obtain ⟨rfl, h₁⟩ := h₁
  cases b with
  | true => exact ⟨rfl, h₁⟩
  | false =>
    refine wpAny_allTrue_Or_cons (wpAny_mono (hy rfl env A X s₁ E (t.kp h₁)) (fun b s₂ h₂ => ?_) fun _ _ e => e)
    obtain ⟨rfl, h₂⟩ := h₂
    cases b with
    | true => exact ⟨rfl, kk_trans h₁ h₂⟩
    | false => exact wpAny_allTrue_Or_nil ⟨rfl, kk_trans h₁ h₂⟩
theorem Ev.ifExp {x y z : Expr} {b : Bool} {d : D} (hx : EvB c k sc σ x b) (hy : b = true → Ev c k sc σ y d) (hz : b = false → Ev c k sc σ z d) : Ev c k sc σ (.IfExp x y z pos) d := by
  intro env A X s E t
  refine wpAny_IfExp (wpAny_mono (hx env A X s E t) (fun b' s₁ h₁ => ?_) fun _ _ e => e)
  obtain ⟨rfl, h₁⟩ := h₁
  cases b' with
  | true => exact wpAny_mono (hy rfl env A X s₁ E (t.kp h₁)) (fun _ _ q => VP.of h₁ q) fun _ _ e => e
  | false => exact wpAny_mono (hz rfl env A X s₁ E (t.kp h₁)) (fun _ _ q => VP.of h₁ q) fun _ _ e => e
end
end Mine
end

section
open PySem PySem.W PyProof.Rows
set_option Elab.async false
namespace Mine
section
variable {c : Cx} {k : Nat}
theorem op_add (a b : Int) : Op2 c k (binaryOp .Add) (.int a) (.int b) (.int (a + b)) := by
  intro A X s E v u _ _ _ hv hu; cases hv; cases hu
  exact P.add_int ⟨kk_tok _ _, .int _ _⟩
theorem op_sub (a b : Int) : Op2 c k (binaryOp .Sub) (.int a) (.int b) (.int (a - b)) := by
  intro A X s E v u _ _ _ hv hu; cases hv; cases hu
  exact P.sub_int ⟨kk_tok _ _, .int _ _⟩
theorem op_mul (a b : Int) (h : -(2 ^ 60) ≤ a ∧ a ≤ 2 ^ 60) : Op2 c k (binaryOp .Mult) (.int a) (.int b) (.int (a * b)) := by
  intro A X s E v u _ _ _ hv hu; cases hv; cases hu
  exact P.mul_int ⟨kk_tok _ _, .int _ _⟩ (IntMulOk.of_left (intBits_le_64 (by omega) (by omega)))
theorem op_mod (a b : Int) (h : 0 < b) : Op2 c k (binaryOp .Mod) (.int a) (.int b) (.int (a % b)) := by
  intro A X s E v u _ _ _ hv hu; cases hv; cases hu
  refine mod_int' (by omega) ⟨kk_tok _ _, ?_⟩
  rw [Int.fmod_eq_emod_of_nonneg _ (by omega)]; exact .int _ _
theorem op_div (a b : Int) (h : 0 < b ∧ b < 1000000) : Op2 c k (binaryOp .FloorDiv) (.int a) (.int b) (.int (a / b)) := by
  intro A X s E v u _ _ _ hv hu; cases hv; cases hu
  refine floordiv_int (by omega) ⟨kk_tok _ _, ?_⟩ (.inl (PyProof.noPylong_small (by omega)))
  rw [Int.fdiv_eq_ediv_of_nonneg _ (by omega)]; exact .int _ _
theorem op_pow (a n : Int) (h : 0 ≤ n ∧ n ≤ 1000) (ha : -(2 ^ 60) ≤ a ∧ a ≤ 2 ^ 60) : Op2 c k (binaryOp .Pow) (.int a) (.int n) (.int (a ^ n.toNat)) := by
  intro A X s E v u _ _ _ hv hu; cases hv; cases hu
  refine pow_int h.1 ?_ ⟨kk_tok _ _, .int _ _⟩
  have h1 : Builtin.Int.intBits a ≤ 64 := intBits_le_64 (by omega) (by omega)
  have h2 : (Builtin.Int.intBits a : Int) * n ≤ 64 * 1000 := Int.mul_le_mul (by omega) h.2 h.1 (by omega)
  omega
theorem op_neg (a : Int) : Op1 c k (unaryOp .USub) (.int a) (.int (-a)) := by
  intro A X s E v _ _ _ hv; cases hv
  exact P.neg_int ⟨kk_tok _ _, .int _ _⟩
theorem op_eq (a b : Int) : Op2 c k (compareOp .Eq) (.int a) (.int b) (.bool (a == b)) := by
  intro A X s E v u _ _ _ hv hu; cases hv; cases hu
  exact P.eq_int ⟨kk_rfl _, .bool _⟩
theorem op_ne (a b : Int) : Op2 c k (compareOp .NotEq) (.int a) (.int b) (.bool (a != b)) := by
  intro A X s E v u _ _ _ hv hu; cases hv; cases hu
  exact P.ne_int ⟨kk_rfl _, .bool _⟩
theorem op_lt (a b : Int) : Op2 c k (compareOp .Lt) (.int a) (.int b) (.bool (decide (a < b))) := by
  intro A X s E v u _ _ _ hv hu; cases hv; cases hu
  exact P.lt_int ⟨kk_rfl _, .bool _⟩
theorem op_gt (a b : Int) : Op2 c k (compareOp .Gt) (.int a) (.int b) (.bool (decide (a > b))) := by
  intro A X s E v u _ _ _ hv hu; cases hv; cases hu
  exact P.gt_int ⟨kk_rfl _, .bool _⟩
theorem op_addStr (x y : Str) (h : x.length + y.length ≤ 1000) : Op2 c k (binaryOp .Add) (.str x) (.str y) (.str (x ++ y)) := by
  intro A X s E v u _ _ _ hv hu; cases hv; cases hu
  exact PyProof.Rows.add_str (fun _ _ => ⟨kk_tok _ _, .str _ _⟩) (by show _ ≤ 2 ^ 24; omega)
/-- a new object: its address is none of X -/
theorem new_post {X : List Addr} {s : Shared} {o : Obj} {d : D} (l : Live X s.heap) (hf : o.isFreed = false)
    (h : ∀ h', Kp s.heap h' → h'.get? s.heap.objs.size = some o → s.heap.objs.size ∉ X → Rd X h' (.ref s.heap.objs.size) d) : VP X d s (.ref s.heap.objs.size) { s with heap := s.heap.push o } :=
  ⟨kk_push _ _, h _ (fun _ _ e => Heap.get?_push_of_some _ e) (Heap.get?_push_size _ hf) l.size⟩
theorem op_addTup (ds es : List D) (h : ds.length + es.length ≤ 1000) (h1 : ds ≠ []) (h2 : es ≠ []) : Op2 c k (binaryOp .Add) (.tup ds) (.tup es) (.tup (ds ++ es)) := by
  intro A X s E v u _ _ l hv hu
  cases hv with
  | tup a1 e1 r1 => cases hu with
    | tup a2 e2 r2 =>
      rename_i t vs n b ws n2
      have hvs : vs ≠ [] := by intro q; subst q; cases r1; exact h1 rfl
      have hws : ws ≠ [] := by intro q; subst q; cases r2; exact h2 rfl
      refine concat_meets ⟨_, e1, rfl⟩ ⟨_, e2, rfl⟩ noFill_tuple_add seq_tuple_add PySem.F.slot_tuple_add PySem.F.entry_tuple_add (PySem.F.args_tuple_add_2 _ _)
        (tuple_addW2 t b vs.toArray ws.toArray n n2 none none #[] #[] (by simpa using hvs) (by simpa using hws) (by rw [List.size_toArray, List.size_toArray, r1.length, r2.length]; show _ ≤ 2 ^ 24; omega)) ⟨e1, e2, ?_⟩
      refine new_post l rfl fun h' kp e m => ?_
      rw [List.append_toArray] at e
      exact .tup m e ((r1.kp kp).append (r2.kp kp))
theorem op_addLst (ds es : List D) (h : ds.length + es.length ≤ 1000) : Op2 c k (binaryOp .Add) (.lst ds) (.lst es) (.lst (ds ++ es)) := by
  intro A X s E v u _ _ l hv hu
  cases hv with
  | lst a1 e1 r1 => cases hu with
    | lst a2 e2 r2 =>
      rename_i t vs n dk1 sl1 b ws n2 dk2 sl2
      refine concat_meets ⟨_, e1, rfl⟩ ⟨_, e2, rfl⟩ noFill_list_add seq_list_add PySem.F.slot_list_add PySem.F.entry_list_add (PySem.F.args_list_add_2 _ _)
        (list_addW t b vs.toArray ws.toArray n n2 dk1 dk2 sl1 sl2 (by rw [List.size_toArray, List.size_toArray, r1.length, r2.length]; show _ ≤ 2 ^ 24; omega)) ⟨e1, e2, ?_⟩
      refine new_post l rfl fun h' kp e m => ?_
      rw [List.append_toArray] at e
      exact .lst m e ((r1.kp kp).append (r2.kp kp))
end
end Mine
end

section
open PySem PySem.W PyProof.Rows
set_option Elab.async false
namespace Mine
theorem Rd.isTup {X : List Addr} {h : Heap} {v : Value} {ds : List D} (r : Rd X h v (.tup ds)) : ∃ a vs, v = .ref a ∧ IsTup h a vs.toArray ∧ RdL X h vs ds := by
  cases r with | tup a e r => exact ⟨_, _, rfl, ⟨_, e, rfl, _, rfl⟩, r⟩
theorem Rd.isLst {X : List Addr} {h : Heap} {v : Value} {ds : List D} (r : Rd X h v (.lst ds)) : ∃ a vs, v = .ref a ∧ h.IsList a vs.toArray ∧ RdL X h vs ds := by
  cases r with | lst a e r => exact ⟨_, _, rfl, ⟨_, e, rfl, _, rfl⟩, r⟩

section
variable {c : Cx} {k : Nat} {sc : Scope} {σ : List (Str × D)} {pos : Pos}
theorem Ev.sub {value slice : Expr} {a b d : D} (hv : Ev c k sc σ value a) (hs : Ev c k sc σ slice b) (ho : Op2 c k (subscriptTail value slice) a b d) : Ev c k sc σ (.Subscript value slice pos) d := by
  intro env A X s E t
  refine Subscript_ (wpAny_mono (hv env A X s E t) (fun v s₁ h₁ => ?_) fun _ _ e => e)
  have t₁ := t.kp h₁.1
  refine wpAny_mono (hs env A X s₁ E t₁) (fun u s₂ h₂ => ?_) fun _ _ e => e
  have t₂ := t₁.kp h₂.1
  exact wpAny_mono (ho A X s₂ E v u t.room t₂.top t₂.live (h₁.2.kp (kk_kp h₂.1)) h₂.2) (fun _ _ q => VP.of (kk_trans h₁.1 h₂.1) q) fun _ _ e => e

/-- not a slice's syntax -/
noncomputable def NoSlice (e : Expr) : Prop := ∀ o i, subscripted e false o i = operate [o, i] (getItem o i)
theorem ns_name (x : Str) (p : Pos) : NoSlice (.Name x p) := fun _ _ => rfl
theorem ns_const (q : Const) (n : Nat) (p : Pos) : NoSlice (.Constant q n p) := fun _ _ => rfl
theorem ns_bin (l r : Expr) (o : Operator) (p : Pos) : NoSlice (.BinOp l o r p) := fun _ _ => rfl
theorem ns_call (l : Expr) (r : List Expr) (o : List Keyword) (p : Pos) : NoSlice (.Call l r o p) := fun _ _ => rfl
theorem ns_un (l : Expr) (o : UnaryOp) (p : Pos) : NoSlice (.UnaryOp o l p) := fun _ _ => rfl

theorem seqIndex_in {i : Int} {n : Nat} (h0 : 0 ≤ i) (h1 : i.toNat < n) : seqIndex? i n = some i.toNat := by
  unfold seqIndex?
  have h2 : ¬ i < 0 := by omega
  have h3 : i < (n : Int) := by omega
  simp only [h2, if_false, decide_eq_true h0, decide_eq_true h3, Bool.and_self, if_true]
theorem op_itemTup {value slice : Expr} {ds : List D} {i : Int} {d : D} (hn : NoSlice slice) (h0 : 0 ≤ i) (h1 : i < 1000) (hd : ds[i.toNat]? = some d) : Op2 c k (subscriptTail value slice) (.tup ds) (.int i) d := by
  intro A X s E v u _ _ _ hv hu
  obtain ⟨a, vs, rfl, ht, r⟩ := hv.isTup
  cases hu
  obtain ⟨v, hx, hr⟩ := r.get hd
  have hlt : i.toNat < vs.length := (List.getElem?_eq_some_iff.mp hx).1
  refine tail_any ht.typeIs slot_tuple_getitem.lookup (PyProof.Rows.getItem_tuple ht (by omega) (by omega) (j := i.toNat) ?_ (by simpa using hx) ⟨kk_rfl _, hr⟩) (hn _ _)
  rw [List.size_toArray]
  exact seqIndex_in h0 hlt
theorem op_itemLst {value slice : Expr} {ds : List D} {i : Int} {d : D} (hn : NoSlice slice) (h0 : 0 ≤ i) (h1 : i < 1000) (hd : ds[i.toNat]? = some d) : Op2 c k (subscriptTail value slice) (.lst ds) (.int i) d := by
  intro A X s E v u _ _ _ hv hu
  obtain ⟨a, vs, rfl, ht, r⟩ := hv.isLst
  cases hu
  obtain ⟨v, hx, hr⟩ := r.get hd
  exact tail_any ht.typeIs slot_list_getitem.lookup (wpAny_getItem_list ht h0 (by omega) (by simpa using hx) ⟨kk_rfl _, hr⟩) (hn _ _)
theorem op_itemStr {value slice : Expr} {x : Str} {i : Int} {q : Nat} (hn : NoSlice slice) (h0 : 0 ≤ i) (h1 : i < 1000) (hd : x.cps[i.toNat]? = some q) : Op2 c k (subscriptTail value slice) (.str x) (.int i) (.str ⟨#[q]⟩) := by
  intro A X s E v u _ _ _ hv hu
  cases hv; cases hu
  have hlt : i.toNat < x.length := (Array.getElem?_eq_some_iff.mp hd).1
  refine tail_any (typeIs_str _ _ _) F.slot_str_getitem.lookup (P.getItem_str (c := q) ?_ ?_ ⟨kk_tok _ _, .str _ _⟩) (hn _ _)
  · rw [decide_eq_false (by omega), decide_eq_false (by omega)]; rfl
  · rw [seqIndex_in h0 hlt]
    exact hd

/-- a part of a slice -/
noncomputable def EvP (c : Cx) (k : Nat) (sc : Scope) (σ : List (Str × D)) : Option Expr → Option Int → Prop
  | none, none => True
  | some e, some i => Ev c k sc σ e (.int i)
  | _, _ => False
/-- the value of such a part -/
noncomputable def PartIs (v : Value) : Option Int → Prop
  | none => v = .none
  | some i => ∃ t, v = .int i t
theorem PartIs.part {v : Value} {o : Option Int} (h : PartIs v o) : IsPart v o := by
  cases o with
  | none => cases h; exact .none
  | some i => obtain ⟨t, rfl⟩ := h; exact .int ..
theorem EvP.go {o : Option Expr} {x : Option Int} (h : EvP c k sc σ o x) {env : Env} {A : Around} {X : List Addr} {s : Shared} {E : Value → Shared → Prop} (t : St c k sc σ env A X s) :
    wpAny (model c.prog c.w) A (evalPart o env) (fun v s' => Keeps s s' ∧ PartIs v x) E s := by
  cases o with
  | none => cases x with
    | none => exact wpAny_pure ⟨kk_rfl _, rfl⟩
    | some _ => cases h
  | some e => cases x with
    | none => cases h
    | some i => exact wpAny_mono (h env A X s E t) (fun v s' q => ⟨q.1, by obtain ⟨_, q⟩ := q; cases q; exact ⟨_, rfl⟩⟩) fun _ _ e => e
theorem Ev.slice {value : Expr} {lower upper : Option Expr} {lo hi : Option Int} {p : Pos} {a d : D} (hv : Ev c k sc σ value a) (hl : EvP c k sc σ lower lo) (hu : EvP c k sc σ upper hi)
    (ho : ∀ A X s E v vl vu sl, Room A k → TopX c X s.heap → Live X s.heap → Rd X s.heap v a → PartIs vl lo → PartIs vu hi → s.heap.get? sl = some { cls := .type "slice", data := .fields #[vl, vu, .none] } →
      wpAny (model c.prog c.w) A (subscriptTail value (.Slice lower upper none p) v (.ref sl)) (VP X d s) E s) :
    Ev c k sc σ (.Subscript value (.Slice lower upper none p) pos) d := by
  intro env A X s E t
  refine Subscript_ (wpAny_mono (hv env A X s E t) (fun v s₁ h₁ => ?_) fun _ _ e => e)
  have t₁ := t.kp h₁.1
  refine wpAny_Slice (wpAny_mono (hl.go t₁) (fun vl s₂ h₂ => ?_) fun _ _ e => e)
  have t₂ := t₁.kp h₂.1
  refine wpAny_mono (hu.go t₂) (fun vu s₃ h₃ => ?_) fun _ _ e => e
  have t₃ := t₂.kp h₃.1
  refine wpAny_pure ?_
  have kp := kk_push s₃ { cls := .type "slice", data := .fields #[vl, vu, .none] }
  have t₄ := t₃.kp kp
  exact wpAny_mono (ho A X _ E v vl vu _ t.room t₄.top t₄.live ((h₁.2.kp (kk_kp h₂.1)).kp ((kk_kp h₃.1).trans (kk_kp kp))) h₂.2 h₃.2 (Heap.get?_push_size _ rfl))
    (fun _ _ q => VP.of (kk_trans h₁.1 (kk_trans h₂.1 (kk_trans h₃.1 kp))) q) fun _ _ e => e

/-- the plain cut of a list -/
noncomputable def cut {α : Type} (lo hi : Option Int) (l : List α) : List α := (l.drop (lo.elim 0 (clipAt l.length))).take (hi.elim l.length (clipAt l.length) - lo.elim 0 (clipAt l.length))
theorem RdL.cut {X : List Addr} {h : Heap} {vs : List Value} {ds : List D} (r : RdL X h vs ds) (lo hi : Option Int) : RdL X h (slicePick vs.toArray lo hi none).toList (Mine.cut lo hi ds) := by
  rw [slicePick_plain]
  simp only [List.size_toArray, Mine.cut, r.length]
  exact (r.drop _).take _
theorem cut_length {α : Type} (lo hi : Option Int) (l : List α) : (cut lo hi l).length ≤ l.length := by
  unfold cut; rw [List.length_take, List.length_drop]; omega
theorem Ev.sliceLst {value : Expr} {lower upper : Option Expr} {lo hi : Option Int} {p : Pos} {ds : List D} (hv : Ev c k sc σ value (.lst ds)) (hl : EvP c k sc σ lower lo) (hu : EvP c k sc σ upper hi) (hsz : ds.length ≤ 1000) :
    Ev c k sc σ (.Subscript value (.Slice lower upper none p) pos) (.lst (cut lo hi ds)) := by
  refine Ev.slice hv hl hu fun A X s E v vl vu sl _ _ l hv pl pu hs => ?_
  obtain ⟨a, vs, rfl, ht, r⟩ := hv.isLst
  refine tail_any ht.typeIs slot_list_getitem.lookup (wpAny_getItem_list_slice ht ⟨_, hs, rfl, rfl⟩ pl.part pu.part .none (by simp) ?_ (by rw [List.size_toArray, r.length]; show _ ≤ 2 ^ 24; omega)) (by with_unfolding_all rfl)
  refine new_post l rfl fun h' kp e m => ?_
  rw [← Array.toArray_toList (xs := slicePick vs.toArray lo hi none)] at e
  exact .lst m e ((r.cut lo hi).kp kp)
theorem Ev.sliceStr {value : Expr} {lower upper : Option Expr} {lo hi : Option Int} {p : Pos} {x : Str} (hv : Ev c k sc σ value (.str x)) (hl : EvP c k sc σ lower lo) (hu : EvP c k sc σ upper hi) (hsz : x.length ≤ 1000) :
    Ev c k sc σ (.Subscript value (.Slice lower upper none p) pos) (.str (Txt.slice x lo hi)) := by
  refine Ev.slice hv hl hu fun A X s E v vl vu sl _ _ l hv pl pu hs => ?_
  cases hv with
  | str x t =>
    have fin : ∀ (l u : Option (Int × Tok)), l.map (·.1) = lo → u.map (·.1) = hi → s.heap.get? sl = some { cls := .type "slice", data := .fields #[partValue l, partValue u, .none] } →
        wpAny (model c.prog c.w) A (getItem (.str x t) (.ref sl)) (VP X (.str (Txt.slice x lo hi)) s) E s := by
      rintro l u rfl rfl hs
      refine wpAny_getItem_str_slice (l := l) (u := u) (st := none) ⟨_, hs, rfl, rfl⟩ rfl ?_
      exact post_val_or_str ⟨Nat.le_trans (Txt.slice_le x _ _) (by show _ ≤ 2 ^ 24; omega), fun t' k => ⟨kk_tok _ _, .str _ _⟩⟩
    refine tail_any (typeIs_str _ _ _) F.slot_str_getitem.lookup ?_ (by with_unfolding_all rfl)
    cases lo with
    | none => cases hi with
      | none => cases pl; cases pu; exact fin none none rfl rfl hs
      | some j => cases pl; obtain ⟨u, rfl⟩ := pu; exact fin none (some (j, u)) rfl rfl hs
    | some i => cases hi with
      | none => obtain ⟨ti, rfl⟩ := pl; cases pu; exact fin (some (i, ti)) none rfl rfl hs
      | some j => obtain ⟨ti, rfl⟩ := pl; obtain ⟨u, rfl⟩ := pu; exact fin (some (i, ti)) (some (j, u)) rfl rfl hs
end
end Mine
end

section
open PySem PySem.W PyProof.Rows
set_option Elab.async false
namespace Mine
/-- not a star's syntax -/
noncomputable def NoStar (e : Expr) : Prop := ∀ rest env, starEach (e :: rest) env = (false, eval e env) :: starEach rest env
theorem no_name (x : Str) (p : Pos) : NoStar (.Name x p) := fun _ _ => rfl
theorem no_const (q : Const) (n : Nat) (p : Pos) : NoStar (.Constant q n p) := fun _ _ => rfl
theorem no_bin (l r : Expr) (o : Operator) (p : Pos) : NoStar (.BinOp l o r p) := fun _ _ => rfl
theorem no_call (l : Expr) (r : List Expr) (o : List Keyword) (p : Pos) : NoStar (.Call l r o p) := fun _ _ => rfl
theorem no_un (l : Expr) (o : UnaryOp) (p : Pos) : NoStar (.UnaryOp o l p) := fun _ _ => rfl
theorem no_sub (l r : Expr) (p : Pos) : NoStar (.Subscript l r p) := fun _ _ => rfl
theorem no_tup (l : List Expr) (n : Nat) (p : Pos) : NoStar (.Tuple l n p) := fun _ _ => rfl
theorem no_lst (l : List Expr) (p : Pos) : NoStar (.List l p) := fun _ _ => rfl
theorem no_comp (l : Expr) (g : List Comprehension) (s : Scope) (p : Pos) : NoStar (.ListComp l g s p) := fun _ _ => rfl
theorem no_dict (l : List (Option Expr)) (g : List Expr) (p : Pos) : NoStar (.Dict l g p) := fun _ _ => rfl

/-- a list of expressions, one after the other -/
inductive EvL (c : Cx) (k : Nat) (sc : Scope) (σ : List (Str × D)) : List Expr → List D → Prop
  | nil : EvL c k sc σ [] []
  | cons {e : Expr} {es : List Expr} {d : D} {ds : List D} : NoStar e → Ev c k sc σ e d → EvL c k sc σ es ds → EvL c k sc σ (e :: es) (d :: ds)
section
variable {c : Cx} {k : Nat} {sc : Scope} {σ : List (Str × D)} {pos : Pos}
theorem EvL.length {es : List Expr} {ds : List D} (h : EvL c k sc σ es ds) : es.length = ds.length := by
  induction h with
  | nil => rfl
  | cons _ _ _ ih => simp [ih]
theorem EvL.plain {es : List Expr} {ds : List D} (h : EvL c k sc σ es ds) (env : Env) (p : Pos) : (backTo p (starEach es env)).any (·.1) = false := by
  induction h with
  | nil => rfl
  | cons hn _ _ ih => rw [hn]; exact ih
theorem EvL.go {es : List Expr} {ds : List D} (h : EvL c k sc σ es ds) {env : Env} {A : Around} {X : List Addr} {s : Shared} {E : Value → Shared → Prop} {p : Pos} (t : St c k sc σ env A X s) :
    wpAny (model c.prog c.w) A (spliced (backTo p (starEach es env))) (fun vs s' => Keeps s s' ∧ RdL X s'.heap vs ds) E s := by
  induction h generalizing s with
  | nil => exact wpAny_pure ⟨kk_rfl _, .nil⟩
  | cons hn he _ ih =>
    rename_i e es d ds _
    rw [hn]
    show wpAny _ A (eval e env >>= fun v => pure [v] >>= fun here => (holding here (spliced (backTo p (starEach es env)))) >>= fun r => pure (here ++ r)) _ _ s
    refine wpAny_bind (wpAny_mono (he env A X s E t) (fun v s₁ h₁ => ?_) fun _ _ e => e)
    refine wpAny_bind (wpAny_pure (wpAny_bind (wpAny_holding (wpAny_mono (ih (t.kp h₁.1)) (fun vs s₂ h₂ => wpAny_pure ⟨kk_trans h₁.1 h₂.1, ?_⟩) fun _ _ e => e))))
    exact .cons (h₁.2.kp (kk_kp h₂.1)) h₂.2
theorem Ev.tuple {es : List Expr} {ds : List D} {n : Nat} (h : EvL c k sc σ es ds) (hsz : ds.length ≤ 1000 := by decide) : Ev c k sc σ (.Tuple es n pos) (.tup ds) := by
  intro env A X s E t
  refine wpAny_Tuple (wpAny_mono (h.go t) (fun vs s₁ h₁ => ?_) fun _ _ e => e)
  refine ⟨by rw [h₁.2.length]; show _ ≤ 2 ^ 24; omega, VP.of h₁.1 (new_post (t.kp h₁.1).live rfl fun h' kp e m => .tup m e (h₁.2.kp kp))⟩
theorem Ev.list {es : List Expr} {ds : List D} (h : EvL c k sc σ es ds) (hsz : ds.length ≤ 1000 := by decide) : Ev c k sc σ (.List es pos) (.lst ds) := by
  intro env A X s E t
  refine wpAny_List (wpAny_mono (h.go t) (fun vs s₁ h₁ => ?_) fun _ _ e => e)
  refine ⟨by rw [h₁.2.length]; show _ ≤ 2 ^ 24; omega, VP.of h₁.1 (new_post (t.kp h₁.1).live rfl fun h' kp e m => .lst m e (h₁.2.kp kp))⟩
theorem Ev.dict : Ev c k sc σ (.Dict [] [] pos) .dict0 := by
  intro env A X s E t
  exact wpAny_Dict_empty (new_post t.live rfl fun h' kp e m => .dict0 m e)

/-- a name of the top -/
theorem glob_of {env : Env} {A : Around} {X : List Addr} {s : Shared} {E : Value → Shared → Prop} {x : Str} {v : Value} {Q : Value → Shared → Prop} (t : St c k sc σ env A X s) (hk : sc.names.lookup x = some .globalImplicit) (e : c.G.lookup x = some v) (h : Q v s) :
    wpAny (model c.prog c.w) A (loadName env x) Q E s := by
  have hk' : env.kindOf x = some .globalImplicit := by unfold Env.kindOf; rw [t.sc]; exact hk
  rw [loadName_read t.ok.kind hk']
  rcases t.top.ok.glob x v e with ⟨m, a, b⟩ | ⟨m, m', a, b, a', b'⟩
  · exact Calls.loadGlobal_global (by rw [t.ok.glob]; exact a) b h
  · exact Calls.loadGlobal_builtin (by rw [t.ok.glob]; exact a) b (by rw [t.ok.blt]; exact a') b' h

noncomputable def OpN (c : Cx) (k : Nat) (f : Value) (ds : List D) (d : D) : Prop :=
  ∀ A X s E vs, Room A k → TopX c X s.heap → Live X s.heap → RdL X s.heap vs ds → wpAny (model c.prog c.w) A (call f vs) (VP X d s) E s
/-- what may be called by name -/
noncomputable def CanCall (c : Cx) (f : Value) : Prop := (∃ id, f = .builtin id) ∨ (∃ T, f = .type T) ∨ keepIn c.K f = true
theorem callW {f : Value} {e : Expr} {es : List Expr} {ds : List D} {d : D} (hc : CanCall c f) (hn : NoStar e) (he : EvL c k sc σ (e :: es) ds) (ho : OpN c k f ds d)
    {env : Env} {A : Around} {X : List Addr} {s : Shared} {E : Value → Shared → Prop} {p : Pos} (t : St c k sc σ env A X s) :
    wpAny (model c.prog c.w) A (callWith p f [] (backTo p (starEach (e :: es) env)) []) (VP X d s) E s := by
  have go : wpAny (model c.prog c.w) A (spliced (backTo p (starEach (e :: es) env))) (fun vs s₁ => c.K.In s₁.heap ∧ wpAny (model c.prog c.w) A (call f ([] ++ vs)) (VP X d s) E s₁) E s :=
    wpAny_mono (he.go t) (fun vs s₁ h₁ => ⟨(t.kp h₁.1).top.ok.kin, wpAny_mono (ho A X s₁ E vs t.room (t.kp h₁.1).top (t.kp h₁.1).live h₁.2) (fun _ _ q => VP.of h₁.1 q) fun _ _ e => e⟩) fun _ _ e => e
  have hpl := he.plain env p
  rcases hc with ⟨id, rfl⟩ | ⟨T, rfl⟩ | hk
  · refine Calls.callWith_builtin hpl ?_
    rw [hn] at go ⊢
    exact Calls.evalArgs_plain (wpAny_mono go (fun _ _ q => q.2) fun _ _ e => e)
  · refine PySem.callWith_type hpl ?_
    rw [hn] at go ⊢
    exact Calls.evalArgs_plain (wpAny_mono go (fun _ _ q => q.2) fun _ _ e => e)
  · have hpl2 : (backTo p (starEach es env)).any (·.1) = false := by rw [hn] at hpl; exact hpl
    exact callWith_K t.top.ok.kin hk go (hn es env) hpl2
theorem Ev.call {x : Str} {p : Pos} {f : Value} {e : Expr} {es : List Expr} {ds : List D} {d : D} (hk : sc.names.lookup x = some .globalImplicit) (hg : c.G.lookup x = some f) (hc : CanCall c f) (he : EvL c k sc σ (e :: es) ds) (ho : OpN c k f ds d)
    (hd : (x == ("__debug__" : Str)) = false := by decide) : Ev c k sc σ (.Call (.Name x p) (e :: es) [] pos) d := by
  intro env A X s E t
  have hn : NoStar e := by cases he; assumption
  exact wpAny_Call_NameR (wpAny_Name (glob_of t hk hg (callW hc hn he ho t)) hd)
/-- a global read as a value -/
theorem Ev.globStr {x : Str} {y : Str} {u : Tok} (hk : sc.names.lookup x = some .globalImplicit) (hg : c.G.lookup x = some (.str y u)) (hd : (x == ("__debug__" : Str)) = false := by decide) : Ev c k sc σ (.Name x pos) (.str y) :=
  fun _ _ _ _ _ t => wpAny_Name (glob_of t hk hg ⟨kk_rfl _, .str _ _⟩) hd
end
end Mine
end

section
open PySem PySem.W PyProof.Rows
set_option Elab.async false
namespace Mine
/-- nothing but the heap at Y, and the tokens, has turned -/
noncomputable def StepX (Y : List Addr) (s s' : Shared) : Prop := ∃ h' tk, s' = { s with heap := h', toks := tk } ∧ KpX Y s.heap h'
theorem StepX.rfl' (Y : List Addr) (s : Shared) : StepX Y s s := ⟨s.heap, s.toks, rfl, KpX.refl _ _⟩
theorem StepX.trans {Y : List Addr} {s s' s'' : Shared} (a : StepX Y s s') (b : StepX Y s' s'') : StepX Y s s'' := by
  obtain ⟨h1, t1, rfl, k1⟩ := a
  obtain ⟨h2, t2, rfl, k2⟩ := b
  exact ⟨h2, t2, rfl, k1.trans k2⟩
theorem StepX.sub {X Y : List Addr} {s s' : Shared} (a : StepX X s s') (h : ∀ x ∈ X, x ∈ Y) : StepX Y s s' := by
  obtain ⟨h1, t1, rfl, k1⟩ := a
  exact ⟨h1, t1, rfl, k1.sub h⟩
theorem StepX.of {Y : List Addr} {s s' : Shared} (a : Keeps s s') : StepX Y s s' := by
  obtain ⟨h1, t1, rfl, k1⟩ := a
  exact ⟨h1, t1, rfl, fun b o _ e => k1 b o e⟩
theorem StepX.kpx {Y : List Addr} {s s' : Shared} (a : StepX Y s s') : KpX Y s.heap s'.heap := by
  obtain ⟨h1, t1, rfl, k1⟩ := a
  exact k1
/-- from s₀ on, where what may turn bore nothing in s₀ -/
theorem StepX.keeps {Y : List Addr} {s₀ s s' : Shared} (a : Keeps s₀ s) (b : StepX Y s s') (h : ∀ x ∈ Y, s₀.heap.get? x = none) : Keeps s₀ s' := by
  obtain ⟨h1, t1, rfl, k1⟩ := a
  obtain ⟨h2, t2, rfl, k2⟩ := b
  refine ⟨h2, t2, rfl, fun x o e => k2 x o (fun m => ?_) (k1 x o e)⟩
  rw [h x m] at e; cases e

theorem Live.step {X Y : List Addr} {h h' : Heap} (l : Live X h) (k : KpX Y h h') (hy : ∀ a ∈ Y, ∃ o, h'.get? a = some o) : Live X h' := fun a m => by
  by_cases q : a ∈ Y
  · exact hy a q
  · obtain ⟨o, e⟩ := l a m
    exact ⟨o, k a o q e⟩
theorem ns_ne_cell {h : Heap} {a b : Addr} {m : Str → Option Value} {v : Option Value} (n : h.Ns a m) (q : h.IsCell b v) : b ≠ a := by
  rintro rfl
  obtain ⟨o, es, ep, e, d, _⟩ := n
  obtain ⟨o', e', d'⟩ := q
  rw [e] at e'; cases e'; rw [d] at d'; cases d'

/-- a local that is set -/
noncomputable def NsHas (env : Env) (h : Heap) (y : Str) (v : Value) : Prop := ∃ m, h.Ns env.locals m ∧ m y = some v
theorem NsHas.kp {env : Env} {h h' : Heap} {y : Str} {v : Value} (q : NsHas env h y v) (k : Kp h h') : NsHas env h' y v := let ⟨m, a, b⟩ := q; ⟨m, a.keeps k, b⟩
theorem ns_one {h : Heap} {a : Addr} {m m' : Str → Option Value} (q : h.Ns a m) (q' : h.Ns a m') : m = m' := by
  obtain ⟨o, es, ep, e, d, _, f⟩ := q
  obtain ⟨o', es', ep', e', d', _, f'⟩ := q'
  rw [e] at e'; cases e'; rw [d] at d'; cases d'
  funext x; rw [← f, ← f']
noncomputable def slotOf (env : Env) (x : Str) : List Addr := if env.kindOf x = some .local then [env.locals] else (env.cells.lookup x).toList
section
variable {c : Cx} {k : Nat} {sc : Scope} {σ : List (Str × D)} {pos : Pos} {env : Env} {A : Around} {X : List Addr} {s : Shared} {E : Value → Shared → Prop}
theorem lookup_hd {x : Str} {d : D} : List.lookup x ((x, d) :: σ) = some d := by simp
theorem lookup_tl {x y : Str} {d : D} (h : y ≠ x) : List.lookup y ((x, d) :: σ) = List.lookup y σ := by
  have : (y == x) = false := beq_eq_false_iff_ne.mpr h
  simp [List.lookup_cons, this]
theorem slot_in (t : St c k sc σ env A X s) (x : Str) : ∀ a ∈ slotOf env x, a ∈ X := by
  intro a ha
  unfold slotOf at ha
  split at ha
  · rw [List.mem_singleton.mp ha]; exact t.ok.locX
  · rw [Option.mem_toList] at ha; exact t.ok.cellX _ _ (mem_of_lookup ha)
theorem store_of {x : Str} {v : Value} {d : D} {Q : Unit → Shared → Prop} (t : St c k sc σ env A X s) (r : Rd X s.heap v d) (hx : sc.names.lookup x = some .local ∨ sc.names.lookup x = some .cell)
    (h : ∀ s', StepX (slotOf env x) s s' → St c k sc ((x, d) :: σ) env A X s' → (∀ y u, y ≠ x → NsHas env s.heap y u → NsHas env s'.heap y u) → Q () s') : wpAny (model c.prog c.w) A (storeName env x v) Q E s := by
  have kx : env.kindOf x = sc.names.lookup x := by unfold Env.kindOf; rw [t.sc]
  obtain ⟨m, hn, hm⟩ := t.fm.ns
  rcases hx with hx | hx
  · rw [← kx] at hx
    refine wpAny_storeName_local hx hn (fun h' hn' hs' => ?_) (by rw [t.ok.kind]; rfl)
    have kp : KpX [env.locals] s.heap h' := fun b o nb e => hs'.extBut b o (fun q => nb (by rw [q]; simp)) e
    have kX : KpX X s.heap h' := kp.sub fun a ha => by rw [List.mem_singleton.mp ha]; exact t.ok.locX
    refine h _ ⟨h', _, rfl, by unfold slotOf; rw [if_pos hx]; exact kp⟩ ⟨t.sc, t.ok, t.room, t.top.kpx kX, ?_, ?_⟩ fun y u ny q => by
      obtain ⟨m₂, q1, q2⟩ := q
      have := ns_one q1 hn; subst this
      exact ⟨_, hn', by simp [ny, q2]⟩
    · exact t.live.step kp fun a ha => by
        rw [List.mem_singleton.mp ha]; obtain ⟨o, _, _, e, _⟩ := hn'; exact ⟨o, e⟩
    · refine ⟨⟨_, hn', fun y e hy hl => ?_⟩, fun n cc hc => ?_, fun y e hy hl => ?_⟩
      · by_cases q : y = x
        · subst q; rw [lookup_hd] at hy; cases hy; exact ⟨v, by simp, r.kpx kX⟩
        · rw [lookup_tl q] at hy
          obtain ⟨u, p1, p2⟩ := hm y e hy hl
          exact ⟨u, by simp [q, p1], p2.kpx kX⟩
      · obtain ⟨cv, q⟩ := t.fm.cell n cc hc
        exact ⟨cv, q.sameBut hs' (ns_ne_cell hn q)⟩
      · by_cases q : y = x
        · subst q; exact absurd hx hl
        · rw [lookup_tl q] at hy
          obtain ⟨kk, cc, u, l, i, p⟩ := t.fm.cells y e hy hl
          exact ⟨kk, cc, u, l, i.sameBut hs' (ns_ne_cell hn i), p.kpx kX⟩
  · rw [← kx] at hx
    obtain ⟨cc, hc⟩ := t.ok.has x (.inl hx)
    obtain ⟨cv, hcv⟩ := t.fm.cell x cc (mem_of_lookup hc)
    refine wpAny_storeName_cell t.ok.kind hx hc hcv fun h' hc' hs' => ?_
    have nl : env.kindOf x ≠ some .local := by rw [hx]; simp
    have kp : KpX [cc] s.heap h' := fun b o nb e => hs'.extBut b o (fun q => nb (by rw [q]; simp)) e
    have kX : KpX X s.heap h' := kp.sub fun a ha => by rw [List.mem_singleton.mp ha]; exact t.ok.cellX _ _ (mem_of_lookup hc)
    refine h _ ⟨h', _, rfl, by unfold slotOf; rw [if_neg nl, hc]; exact kp⟩ ⟨t.sc, t.ok, t.room, t.top.kpx kX, ?_, ?_⟩ fun y u ny q => by
      obtain ⟨m₂, q1, q2⟩ := q
      exact ⟨m₂, q1.sameBut hs' (Ne.symm (ns_ne_cell q1 hcv)), q2⟩
    · exact t.live.step kp fun a ha => by
        rw [List.mem_singleton.mp ha]; obtain ⟨o, e, _⟩ := hc'; exact ⟨o, e⟩
    · have hn' : h'.Ns env.locals m := hn.sameBut hs' (Ne.symm (ns_ne_cell hn hcv))
      refine ⟨⟨m, hn', fun y e hy hl => ?_⟩, fun n c' hm' => ?_, fun y e hy hl => ?_⟩
      · by_cases q : y = x
        · subst q; exact absurd hl nl
        · rw [lookup_tl q] at hy
          obtain ⟨u, p1, p2⟩ := hm y e hy hl
          exact ⟨u, p1, p2.kpx kX⟩
      · by_cases q : c' = cc
        · subst q; exact ⟨_, hc'⟩
        · obtain ⟨cv', q'⟩ := t.fm.cell n c' hm'
          exact ⟨cv', q'.sameBut hs' q⟩
      · by_cases q : y = x
        · subst q; rw [lookup_hd] at hy; cases hy; exact ⟨.inl hx, cc, v, hc, hc', r.kpx kX⟩
        · rw [lookup_tl q] at hy
          obtain ⟨kk, c2, u, l, i, p⟩ := t.fm.cells y e hy hl
          refine ⟨kk, c2, u, l, i.sameBut hs' fun e' => q ?_, p.kpx kX⟩
          exact name_of_addr t.ok.apart (mem_of_lookup l) (e' ▸ mem_of_lookup hc)
end

/-- an iterator at I, over data -/
structure Its (c : Cx) (A : Around) (X : List Addr) (I : Addr) (fp : List Addr) (ds : List D) (IS : Nat → Heap → Prop) : Prop where
  inX : I ∈ X
  inF : I ∈ fp
  bears : ds ≠ [] → ∀ i h, IS i h → ∃ o n, h.get? I = some o ∧ o.cls = .type n ∧ ["enumerate", "zip", "dict_itemiterator", "dict_reverseitemiterator", "odict_iterator", "itertools.zip_longest", "itertools.pairwise"].contains n = false
  frame : ∀ i h h', IS i h → KpX X h h' → (∀ b ∈ fp, ∀ o, h.get? b = some o → h'.get? b = some o) → IS i h'
  item : ∀ i d (s : Shared) (Q : Option Value → Shared → Prop) (E : Value → Shared → Prop), ds[i]? = some d → IS i s.heap →
    (∀ v h' tk, Rd X h' v d → IS (i + 1) h' → KpX [I] s.heap h' → Q (some v) { s with heap := h', toks := tk }) → wpAny (model c.prog c.w) A (pyNext (.ref I)) Q E s
  done : ∀ (s : Shared) (Q : Option Value → Shared → Prop) (E : Value → Shared → Prop), IS ds.length s.heap →
    (∀ h' tk, KpX [I] s.heap h' → Q none { s with heap := h', toks := tk }) → wpAny (model c.prog c.w) A (pyNext (.ref I)) Q E s
  self : ∀ i (s : Shared) (Q : Value → Shared → Prop) (E : Value → Shared → Prop), IS i s.heap → Q (.ref I) s → wpAny (model c.prog c.w) A (pyIter (.ref I)) Q E s
noncomputable def ownedIds : List String := ["enumerate", "zip", "dict_itemiterator", "dict_reverseitemiterator", "odict_iterator", "itertools.zip_longest", "itertools.pairwise"]
theorem Its.of {c : Cx} {A : Around} {X : List Addr} {I : Addr} {fp : List Addr} {n : Nat} {P : Nat → Value → Prop} {St : Nat → Heap → Prop} {ds : List D} {Side : Heap → Prop} (W : Walks c.prog c.w A I fp [I] n P St) (hI : I ∈ X) (hF : I ∈ fp) (hn : ds.length = n)
    (hb : ∀ i h, St i h → ∃ o n, h.get? I = some o ∧ o.cls = .type n ∧ ownedIds.contains n = false) (hS : ∀ h h', Side h → KpX X h h' → Side h')
    (hP : ∀ i v h d, P i v → Side h → ds[i]? = some d → Rd X h v d) : Its c A X I fp ds (fun i h => St i h ∧ Side h) where
  inX := hI
  inF := hF
  bears := fun _ i h q => hb i h q.1
  frame := fun i h h' q k f => ⟨W.frame i h h' q.1 f, hS h h' q.2 k⟩
  item := fun i d s Q E hd q hQ => by
    have hlt : i < n := by rw [← hn]; exact (List.getElem?_eq_some_iff.mp hd).1
    refine W.item i s Q E hlt q.1 fun v h' tk hp hst hk => ?_
    have hs' : Side h' := hS _ _ q.2 fun b o nb e => hk b o (fun m => nb (by rw [List.mem_singleton.mp m]; exact hI)) e
    exact hQ v h' tk (hP i v h' d hp hs' hd) ⟨hst, hs'⟩ hk
  done := fun s Q E q hQ => by
    rw [hn] at q
    exact W.done s Q E q.1 fun h' tk hk => hQ h' tk hk
  self := fun i s Q E q hQ => W.self i s Q E q.1 hQ

noncomputable def ItGo (c : Cx) (A : Around) (X : List Addr) (s : Shared) (own : Bool) (ds : List D) (I : Addr) (s' : Shared) : Prop :=
  I = s.heap.objs.size ∧ Keeps s s' ∧ (∃ o, s'.heap.get? I = some o) ∧ ∀ Y, I ∈ Y → Off X Y s.heap → ∃ fp IS, (∀ b ∈ fp, b = I ∨ ((∃ o, s.heap.get? b = some o) ∧ (own = false → b ∉ X))) ∧ Its c A Y I fp ds IS ∧ ∀ h', Kp s'.heap h' → IS 0 h'
/-- a datum that a loop goes over -/
noncomputable def Iter (c : Cx) (k : Nat) (a : D) (ds : List D) : Prop :=
  ∀ A X s E v, Room A k → TopX c X s.heap → Live X s.heap → Rd X s.heap v a → wpAny (model c.prog c.w) A (pyIter v) (fun it s' => ∃ I, it = .ref I ∧ ItGo c A X s false ds I s') E s
section
variable {c : Cx} {k : Nat}
theorem off_push {X Y : List Addr} {h : Heap} {o : Obj} (q : Off X Y h) {vs : List Value} {ds : List D} (r : RdL X h vs ds) : RdL Y (h.push o) vs ds := (r.off q).kp fun _ _ e => Heap.get?_push_of_some _ e
theorem go_list {A : Around} {X : List Addr} {s : Shared} {E : Value → Shared → Prop} {own : Bool} {a : Addr} {vs : List Value} {ds : List D} (hh : A.handled = none) (hl : s.heap.IsList a vs.toArray) (r : RdL X s.heap vs ds) (hx : own = false → a ∉ X) :
    wpAny (model c.prog c.w) A (pyIter (.ref a)) (fun it s' => ∃ I, it = .ref I ∧ ItGo c A X s own ds I s') E s := by
  refine wpAny_pyIter_list hl ⟨_, rfl, rfl, kk_push _ _, ⟨_, Heap.get?_push_size _ rfl⟩, fun Y hI hO => ?_⟩
  have hne : a ≠ s.heap.objs.size := by obtain ⟨o, e, _⟩ := hl; exact Nat.ne_of_lt (Heap.lt_size e)
  refine ⟨[s.heap.objs.size, a], _, ?_, Its.of (Walks.list hh _ a hne vs.toArray) hI (by simp) (by simp [r.length]) ?_ (Side := fun h => RdL Y h vs ds) (fun h h' q kx => q.kpx kx) ?_, ?_⟩
  · intro b hb
    rcases List.mem_cons.mp hb with rfl | hb
    · exact .inl rfl
    · rw [List.mem_singleton.mp hb]; obtain ⟨o, e, _⟩ := hl; exact .inr ⟨⟨o, e⟩, hx⟩
  · rintro i h ⟨⟨o, e, hc, _⟩, _⟩
    exact ⟨o, "list_iterator", e, hc, by decide⟩
  · intro i v h d hp hs hd
    obtain ⟨v', e, q⟩ := hs.get hd
    have : v' = v := by simp at hp; rw [e] at hp; exact Option.some.inj hp
    exact this ▸ q
  · intro h' kp
    refine ⟨⟨⟨_, kp _ _ (Heap.get?_push_size _ rfl), rfl, rfl⟩, ?_⟩, (off_push hO r).kp kp⟩
    obtain ⟨o, e, q⟩ := hl
    exact ⟨o, kp _ _ (Heap.get?_push_of_some _ e), q⟩
theorem iter_lst (ds : List D) : Iter c k (.lst ds) ds := by
  intro A X s E v ro _ _ hv
  cases hv with
  | lst a e r => exact go_list ro.hd ⟨_, e, rfl, _, rfl⟩ r fun _ => a
theorem iter_tup (ds : List D) : Iter c k (.tup ds) ds := by
  intro A X s E v ro _ _ hv
  cases hv with
  | tup hx e r =>
    rename_i a vs n
    have hl : s.heap.IsTuple a vs.toArray := ⟨_, e, rfl, _, rfl⟩
    refine wpAny_pyIter_tuple hl ⟨_, rfl, rfl, kk_push _ _, ⟨_, Heap.get?_push_size _ rfl⟩, fun Y hI hO => ?_⟩
    have hne : a ≠ s.heap.objs.size := Nat.ne_of_lt (Heap.lt_size e)
    refine ⟨[s.heap.objs.size, a], _, ?_, Its.of (Walks.tuple ro.hd _ a hne vs.toArray) hI (by simp) (by simp [r.length]) ?_ (Side := fun h => RdL Y h vs ds) (fun h h' q kx => q.kpx kx) ?_, ?_⟩
    · intro b hb
      rcases List.mem_cons.mp hb with rfl | hb
      · exact .inl rfl
      · rw [List.mem_singleton.mp hb]; exact .inr ⟨⟨_, e⟩, fun _ => hx⟩
    · rintro i h ⟨⟨o, e, hc, _⟩, _⟩
      exact ⟨o, "tuple_iterator", e, hc, by decide⟩
    · intro i v h d hp hs hd
      obtain ⟨v', e, q⟩ := hs.get hd
      have : v' = v := by simp at hp; rw [e] at hp; exact Option.some.inj hp
      exact this ▸ q
    · intro h' kp
      exact ⟨⟨⟨_, kp _ _ (Heap.get?_push_size _ rfl), rfl, rfl⟩, ⟨_, kp _ _ (Heap.get?_push_of_some _ e), rfl, _, rfl⟩⟩, (off_push hO r).kp kp⟩
theorem iter_str (x : Str) : Iter c k (.str x) (x.cps.toList.map fun q => D.str ⟨#[q]⟩) := by
  intro A X s E v ro _ _ hv
  cases hv with
  | str x t =>
    refine wpAny_pyIter_strU ⟨_, rfl, rfl, kk_push _ _, ⟨_, Heap.get?_push_size _ rfl⟩, fun Y hI hO => ?_⟩
    have hb : ∀ b ∈ [s.heap.objs.size], b = s.heap.objs.size ∨ ((∃ o, s.heap.get? b = some o) ∧ (false = false → b ∉ X)) := fun b hb => .inl (List.mem_singleton.mp hb)
    have hP : ∀ i v h d, SignAt x i v → True → (x.cps.toList.map fun q => D.str ⟨#[q]⟩)[i]? = some d → Rd Y h v d := by
      rintro i v h d ⟨q, u, hq, rfl⟩ _ hd
      simp [hq] at hd
      subst hd
      exact .str _ _
    cases ha : x.cps.all (· < 128)
    · refine ⟨[s.heap.objs.size], _, hb, Its.of (Walks.strWide ro.hd _ x t) hI (by simp) (by simp) ?_ (Side := fun _ => True) (fun _ _ _ _ => trivial) hP, fun h' kp => ⟨⟨_, kp _ _ (Heap.get?_push_size _ rfl), by simp [strIterType, ha], rfl⟩, trivial⟩⟩
      rintro i h ⟨o, e, hc, _⟩
      exact ⟨o, "str_iterator", e, hc, by decide⟩
    · refine ⟨[s.heap.objs.size], _, hb, Its.of (Walks.strAscii ro.hd _ x t) hI (by simp) (by simp) ?_ (Side := fun _ => True) (fun _ _ _ _ => trivial) hP, fun h' kp => ⟨⟨_, kp _ _ (Heap.get?_push_size _ rfl), by simp [strIterType, ha], rfl⟩, trivial⟩⟩
      rintro i h ⟨o, e, hc, _⟩
      exact ⟨o, "str_ascii_iterator", e, hc, by decide⟩
theorem iter_rng (a b st : Int) (n : Nat) (hs : Builtin.Range.small a b st = true) (hn : Builtin.Range.rangeSize a b st = n) : Iter c k (.rng a b st) ((List.range n).map fun (i : Nat) => D.int (a + i * st)) := by
  intro A X s E v ro _ _ hv
  cases hv with
  | rng hx e =>
    refine wpAny_pyIter_range e hs ⟨_, rfl, rfl, kk_push _ _, ⟨_, Heap.get?_push_size _ rfl⟩, fun Y hI hO => ?_⟩
    refine ⟨[s.heap.objs.size], _, fun b hb => .inl (List.mem_singleton.mp hb), Its.of (Walks.range ro.hd _ a st n) hI (by simp) (by simp) ?_ (Side := fun _ => True) (fun _ _ _ _ => trivial) ?_, fun h' kp => ⟨?_, trivial⟩⟩
    · intro i h e
      exact ⟨_, "range_iterator", e, rfl, by decide⟩
    · rintro i v h d ⟨t, rfl⟩ _ hd
      by_cases hi : i < n
      · rw [List.getElem?_map, List.getElem?_range hi] at hd
        cases hd; exact .int _ _
      · rw [List.getElem?_eq_none (by simpa using hi)] at hd; cases hd
    · have := kp _ _ (Heap.get?_push_size s.heap (o := { cls := .type "range_iterator", data := .fields #[rawInt a, rawInt (Builtin.Range.rangeSize a b st), rawInt st] }) rfl)
      rw [hn] at this
      simpa using this
end
end Mine
end

section
open PySem PySem.W PyProof.Rows
set_option Elab.async false
namespace Mine
theorem FmOk.kpx {env : Env} {X Z : List Addr} {σ : List (Str × D)} {h h' : Heap} (f : FmOk env X σ h) (k : KpX Z h h') (hX : ∀ a ∈ Z, a ∈ X) (hL : env.locals ∉ Z) (hC : ∀ n cc, (n, cc) ∈ env.cells → cc ∉ Z) : FmOk env X σ h' := by
  have kX : KpX X h h' := k.sub hX
  have kc : ∀ n cc v, (n, cc) ∈ env.cells → h.IsCell cc v → h'.IsCell cc v := fun n cc v m ⟨o, e, d⟩ => ⟨o, k _ _ (hC n cc m) e, d⟩
  refine ⟨?_, fun n c m => let ⟨cv, q⟩ := f.cell n c m; ⟨cv, kc n c cv m q⟩, fun x d e n => let ⟨a, c, v, l, i, r⟩ := f.cells x d e n; ⟨a, c, v, l, kc _ _ _ (mem_of_lookup l) i, r.kpx kX⟩⟩
  obtain ⟨m, ⟨o, es, ep, e, q⟩, b⟩ := f.ns
  exact ⟨m, ⟨o, es, ep, k _ _ hL e, q⟩, fun x d e l => let ⟨v, p, q⟩ := b x d e l; ⟨v, p, q.kpx kX⟩⟩
theorem FmOk.off {env : Env} {X Y : List Addr} {σ : List (Str × D)} {h : Heap} (f : FmOk env X σ h) (k : Off X Y h) : FmOk env Y σ h := by
  refine ⟨?_, f.cell, fun x d e n => let ⟨a, c, v, l, i, r⟩ := f.cells x d e n; ⟨a, c, v, l, i, r.off k⟩⟩
  obtain ⟨m, q, b⟩ := f.ns
  exact ⟨m, q, fun x d e l => let ⟨v, p, q⟩ := b x d e l; ⟨v, p, q.off k⟩⟩
theorem FmOk.drop {env : Env} {X : List Addr} {σ : List (Str × D)} {h : Heap} {x : Str} {d : D} (f : FmOk env X ((x, d) :: σ) h) (hx : σ.lookup x = none) : FmOk env X σ h := by
  have key : ∀ y e, σ.lookup y = some e → List.lookup y ((x, d) :: σ) = some e := fun y e q => by
    by_cases n : y = x
    · subst n; rw [hx] at q; cases q
    · rw [lookup_tl n]; exact q
  refine ⟨?_, f.cell, fun y e q n => f.cells y e (key y e q) n⟩
  obtain ⟨m, q, b⟩ := f.ns
  exact ⟨m, q, fun y e p l => b y e (key y e p) l⟩
section
variable {c : Cx} {k : Nat} {sc : Scope} {σ : List (Str × D)} {pos : Pos} {env : Env} {A : Around} {X : List Addr} {s s' : Shared} {E : Value → Shared → Prop}
theorem St.drop {x : Str} {d : D} (t : St c k sc ((x, d) :: σ) env A X s) (hx : σ.lookup x = none) : St c k sc σ env A X s := ⟨t.sc, t.ok, t.room, t.top, t.live, t.fm.drop hx⟩
theorem St.stepx {Z : List Addr} (t : St c k sc σ env A X s) (st : StepX Z s s') (hX : ∀ a ∈ Z, a ∈ X) (hL : env.locals ∉ Z) (hC : ∀ n cc, (n, cc) ∈ env.cells → cc ∉ Z) (hl : ∀ a ∈ Z, ∃ o, s'.heap.get? a = some o) : St c k sc σ env A X s' := by
  obtain ⟨h', tk, rfl, kp⟩ := st
  exact ⟨t.sc, t.ok, t.room, t.top.kpx (kp.sub hX), t.live.step kp hl, t.fm.kpx kp hX hL hC⟩

/-- the addresses that an assignment may turn -/
noncomputable def slotsT (env : Env) : Expr → List Addr
  | .Name x _ => slotOf env x
  | .Tuple es _ _ => es.flatMap fun e => match e with | .Name x _ => slotOf env x | _ => []
  | _ => []
noncomputable def tnames : Expr → List Str
  | .Name x _ => [x]
  | .Tuple es _ _ => es.flatMap fun e => match e with | .Name x _ => [x] | _ => []
  | _ => []
noncomputable def Asg (c : Cx) (k : Nat) (sc : Scope) (target : Expr) (d : D) (σ σ' : List (Str × D)) : Prop :=
  ∀ env A X s E v, St c k sc σ env A X s → Rd X s.heap v d → wpAny (model c.prog c.w) A (assign target env v) (fun _ s' => StepX (slotsT env target) s s' ∧ St c k sc σ' env A X s' ∧ ∀ y u, y ∉ tnames target → NsHas env s.heap y u → NsHas env s'.heap y u) E s
theorem asg_name {x : Str} {p : Pos} {d : D} (hx : sc.names.lookup x = some .local ∨ sc.names.lookup x = some .cell) : Asg c k sc (.Name x p) d σ ((x, d) :: σ) :=
  fun env A X s E v t r => wpAny_assign_Name (store_of t r hx fun _ a b q => ⟨a, b, fun y u hy => q y u (by simpa [tnames] using hy)⟩)

/-- names, bound one after the other -/
noncomputable def bindAll : List Str → List D → List (Str × D) → List (Str × D)
  | x :: xs, d :: ds, σ => bindAll xs ds ((x, d) :: σ)
  | _, _, σ => σ
theorem bind_in : ∀ (ns : List (Str × Pos)) (vs : List Value) (ds : List D) (σ : List (Str × D)) (s : Shared) (Z : List Addr), ns.length = ds.length → (∀ n ∈ ns, sc.names.lookup n.1 = some .local ∨ sc.names.lookup n.1 = some .cell) → (∀ n ∈ ns, ∀ a ∈ slotOf env n.1, a ∈ Z) → (∀ a ∈ Z, a ∈ X) →
    St c k sc σ env A X s → RdL X s.heap vs ds →
    wpAny (model c.prog c.w) A (assignInOrder (ns.map fun n => assign (.Name n.1 n.2) env) vs) (fun _ s' => StepX Z s s' ∧ St c k sc (bindAll (ns.map (·.1)) ds σ) env A X s' ∧ ∀ y u, y ∉ ns.map (·.1) → NsHas env s.heap y u → NsHas env s'.heap y u) E s
  | [], vs, ds, σ, s, Z, hl, _, _, _, t, r => by
    cases ds with
    | nil => cases r; exact wpAny_pure ⟨StepX.rfl' _ _, t, fun _ _ _ q => q⟩
    | cons => simp at hl
  | n :: ns, vs, ds, σ, s, Z, hl, hk, hz, hx, t, r => by
    cases r with
    | nil => simp at hl
    | cons a r =>
      rename_i v vs d ds
      refine wpAny_assignInOrder_more (wpAny_assign_Name (store_of t a (hk n (by simp)) fun s₁ st t₁ hk₁ => ?_))
      have st' : StepX Z s s₁ := st.sub (hz n (by simp))
      have r₁ : RdL X s₁.heap vs ds := r.kpx (st'.kpx.sub hx)
      exact wpAny_mono (bind_in ns vs ds _ s₁ Z (by simpa using hl) (fun m hm => hk m (by simp [hm])) (fun m hm => hz m (by simp [hm])) hx t₁ r₁) (fun _ s₂ q => ⟨st'.trans q.1, q.2.1, fun y u hy w => q.2.2 y u (fun m => hy (by simp [m])) (hk₁ y u (fun e => hy (by simp [e])) w)⟩) fun _ _ e => e
theorem asg_tup {ns : List (Str × Pos)} {ds : List D} {n : Nat} {p : Pos} (hl : ns.length = ds.length) (hk : ∀ n ∈ ns, sc.names.lookup n.1 = some .local ∨ sc.names.lookup n.1 = some .cell) :
    Asg c k sc (.Tuple (ns.map fun x => .Name x.1 x.2) n p) (.tup ds) σ (bindAll (ns.map (·.1)) ds σ) := by
  intro env A X s E v t r
  obtain ⟨a, vs, rfl, ht, r'⟩ := r.isTup
  have e1 : ∀ l : List (Str × Pos), assignEach (l.map fun x => Expr.Name x.1 x.2) env = l.map fun x => (false, assign (.Name x.1 x.2) env) := by
    intro l; induction l with
    | nil => rfl
    | cons x l ih => rw [List.map_cons, List.map_cons, ← ih]; rfl
  have e2 : ((ns.map fun x => (false, assign (.Name x.1 x.2) env)).findIdx? (·.1)) = none := by
    rw [List.findIdx?_eq_none_iff]; intro x hx; obtain ⟨y, _, rfl⟩ := List.mem_map.mp hx; rfl
  have ht' : s.heap.IsTuple a vs.toArray := ht
  refine wpAny_assign_Tuple t.room.hd ht' (by rw [e1]; simp [hl, r'.length]) (by rw [e1]; exact e2) fun h' he => ?_
  have kp : Keeps s { s with heap := h' } := kk_heap fun b o q => he b o (Nat.ne_of_lt (Heap.lt_size q)) q
  rw [e1, List.map_map]
  refine wpAny_mono (bind_in (E := E) ns vs ds σ _ (slotsT env (.Tuple (ns.map fun x => .Name x.1 x.2) n p)) hl hk ?_ ?_ (t.kp kp) (r'.kp (kk_kp kp))) (fun _ s₂ q => ⟨(StepX.of kp).trans q.1, q.2.1, fun y u hy w => q.2.2 y u (fun m => hy ?_) (w.kp (kk_kp kp))⟩) fun _ _ e => e
  · intro x hx a ha
    exact List.mem_flatMap.mpr ⟨.Name x.1 x.2, List.mem_map.mpr ⟨x, hx, rfl⟩, ha⟩
  · intro a ha
    obtain ⟨e, he, ha⟩ := List.mem_flatMap.mp ha
    obtain ⟨x, _, rfl⟩ := List.mem_map.mp he
    exact slot_in t x.1 a ha
  · obtain ⟨x, hx, rfl⟩ := List.mem_map.mp m
    exact List.mem_flatMap.mpr ⟨.Name x.1 x.2, List.mem_map.mpr ⟨x, hx, rfl⟩, by simp⟩
end
end Mine
end

section
open PySem PySem.W PyProof.Rows
set_option Elab.async false
set_option linter.unusedVariables false
namespace Mine
noncomputable def AccAt (Y : List Addr) (a : Addr) (out : List D) (h : Heap) : Prop := ∃ ys : List Value, h.PlainList a ys.toArray ∧ RdL Y h ys out
theorem AccAt.kpx {Y Z : List Addr} {a : Addr} {out : List D} {h h' : Heap} (q : AccAt Y a out h) (k : KpX Z h h') (hY : ∀ x ∈ Z, x ∈ Y) (ha : a ∉ Z) : AccAt Y a out h' := by
  obtain ⟨ys, ⟨n, e⟩, r⟩ := q
  exact ⟨ys, ⟨n, k _ _ ha e⟩, r.kpx (k.sub hY)⟩
theorem owned_ok {c : Cx} {A : Around} {X : List Addr} {I : Addr} {fp : List Addr} {ds : List D} {IS : Nat → Heap → Prop} (w : Its c A X I fp ds IS) (hne : ds ≠ []) {i : Nat} {s : Shared} (hi : IS i s.heap) {target : Expr} {v : Value} {Q : Unit → Shared → Prop} {E : Value → Shared → Prop} (h : Q () s) :
    wpAny (model c.prog c.w) A (letOwnedTupleGo target (.ref I) v) Q E s := by
  obtain ⟨o, n, e, hc, hn⟩ := w.bears hne i _ hi
  unfold letOwnedTupleGo
  cases target <;> first | exact wpAny_pure h | skip
  all_goals
    cases v <;> first | exact wpAny_pure h | skip
    refine wpAny_bind (wpAny_load e ?_)
    rw [hc]
    cases o.data <;> first | exact wpAny_pure h | skip
    dsimp only
    rw [hn]
    exact wpAny_pure h

section
variable {c : Cx} {k : Nat} {sc : Scope} {σ : List (Str × D)} {pos : Pos} {env : Env} {A : Around} {X : List Addr} {E : Value → Shared → Prop}
set_option maxHeartbeats 1600000 in
theorem comp_loop {elt : Expr} {gens : List Comprehension} {scope : Scope} {depth : Nat} {target iter : Expr} {body : Sem Unit} {I a : Addr} {Y fp Z : List Addr} {ds : List D} {IS : Nat → Heap → Prop} {R : Result → Shared → Prop} {s₀ s : Shared} {τ : D → List (Str × D)} {f : D → List D} {out : List D}
    (hturn : compTurn (.ListComp elt gens scope pos) depth (.ref I) (.ref a) env = (standAt iter.pos >>= fun _ => pyNext (.ref I) >>= fun r => match r with
      | none => pure (.done .next)
      | some v => letOwnedTupleGo target (.ref I) v >>= fun _ => assign target env v >>= fun _ => body >>= fun _ => again (.compLoop (.ListComp elt gens scope pos) depth (.ref I) (.ref a) env)))
    (w : Its c A Y I fp ds IS) (hI : s₀.heap.get? I = none) (hIL : env.locals ≠ I) (hIC : ∀ n cc, (n, cc) ∈ env.cells → cc ≠ I)
    (hZ : ∀ x ∈ Z, s₀.heap.get? x = none ∧ x ∉ fp ∧ x ∈ Y) (hS : ∀ x ∈ slotsT env target, x ∈ Z) (ha : a ∈ Z) (haS : a ∉ slotsT env target)
    (hA : ∀ d ∈ ds, Asg c k sc target d σ (τ d))
    (hB : ∀ d ∈ ds, ∀ s out E, Keeps s₀ s → St c k sc (τ d) env A Y s → AccAt Y a out s.heap → (out ++ f d).length ≤ 1000 → wpAny (model c.prog c.w) A body (fun _ s' => StepX Z s s' ∧ St c k sc σ env A Y s' ∧ AccAt Y a (out ++ f d) s'.heap) E s)
    (hlen : (out ++ ds.flatMap f).length ≤ 1000)
    (h0 : Keeps s₀ s) (t : St c k sc σ env A Y s) (hacc : AccAt Y a out s.heap) (his : IS 0 s.heap)
    (hR : ∀ s₁ s', Keeps s₀ s₁ → StepX (I :: Z) s s₁ → St c k sc σ env A Y s₁ → AccAt Y a (out ++ ds.flatMap f) s₁.heap → StepX [I] s₁ s' → R (.ok .next) s') :
    codeAny (model c.prog c.w) A (.compLoop (.ListComp elt gens scope pos) depth (.ref I) (.ref a) env) R s := by
  refine codeAny_loop rfl (fun n s' => ∃ i, i ≤ ds.length ∧ n = ds.length + 1 - i ∧ Keeps s₀ s' ∧ StepX (I :: Z) s s' ∧ St c k sc σ env A Y s' ∧ AccAt Y a (out ++ (ds.take i).flatMap f) s'.heap ∧ IS i s'.heap) ?_ (ds.length + 1)
    ⟨0, Nat.zero_le _, rfl, h0, StepX.rfl' _ _, t, by simpa using hacc, his⟩
  rintro n s₁ ⟨i, hi, rfl, k₁, x₁, t₁, ac₁, is₁⟩
  show wpAny (model c.prog c.w) A ((compTurn (.ListComp elt gens scope pos) depth (.ref I) (.ref a) env).onRaise (fun x => do noteFrame x env; theTreesLotGoes x)) _ _ s₁
  rw [hturn]
  refine wpAny_noted (wpAny_bind (wpAny_standAt (wpAny_bind ?_)))
  have hIZ : I ∉ Z := fun m => (hZ I m).2.1 w.inF
  by_cases hlt : i < ds.length
  · have hd : ds[i]? = some ds[i] := List.getElem?_eq_getElem hlt
    have hdm : ds[i] ∈ ds := List.getElem_mem hlt
    refine w.item i ds[i] s₁ _ _ hd is₁ fun v h₂ tk₂ rv is₂ kp₂ => ?_
    have st₂ : StepX [I] s₁ { s₁ with heap := h₂, toks := tk₂ } := ⟨h₂, tk₂, rfl, kp₂⟩
    have hsub : ∀ x ∈ [I], x ∈ Y := fun x hx => by rw [List.mem_singleton.mp hx]; exact w.inX
    have hal : ∀ x ∈ [I], ∃ o, h₂.get? x = some o := fun x hx => by rw [List.mem_singleton.mp hx]; obtain ⟨o, _, e, _⟩ := w.bears (List.ne_nil_of_mem hdm) _ _ is₂; exact ⟨o, e⟩
    have t₂ := t₁.stepx st₂ hsub (by simpa using hIL) (fun n cc m => by simpa using hIC n cc m) hal
    have k₂ := StepX.keeps k₁ st₂ (fun x hx => by rw [List.mem_singleton.mp hx]; exact hI)
    have aI : a ≠ I := fun q => hIZ (q ▸ ha)
    have ac₂ := ac₁.kpx kp₂ hsub (by simpa using aI)
    refine wpAny_bind (owned_ok w (List.ne_nil_of_mem hdm) is₂ ?_)
    refine wpAny_bind (wpAny_mono (hA _ hdm env A Y _ _ v t₂ rv) (fun _ s₃ h₃ => ?_) fun _ _ e => e)
    obtain ⟨st₃, t₃, _⟩ := h₃
    have st₃' := st₃.sub hS
    have k₃ := StepX.keeps k₂ st₃' fun x hx => (hZ x hx).1
    have ac₃ := ac₂.kpx st₃.kpx (fun x hx => (hZ x (hS x hx)).2.2) haS
    have is₃ := w.frame _ _ s₃.heap is₂ (st₃'.kpx.sub fun x hx => (hZ x hx).2.2) fun b hb o e => st₃'.kpx b o (fun m => (hZ b m).2.1 hb) e
    have hl : (out ++ (ds.take i).flatMap f ++ f ds[i]).length ≤ 1000 := by
      refine Nat.le_trans ?_ hlen
      have e1 : ds.take (i + 1) = ds.take i ++ [ds[i]] := by rw [List.take_add_one, hd]; rfl
      have : ds.flatMap f = (ds.take (i + 1)).flatMap f ++ (ds.drop (i + 1)).flatMap f := by rw [← List.flatMap_append, List.take_append_drop]
      rw [this, e1, List.flatMap_append]
      simp only [List.length_append, List.flatMap_cons, List.flatMap_nil, List.length_nil]; omega
    refine wpAny_bind (wpAny_mono (hB _ hdm s₃ _ _ k₃ t₃ ac₃ hl) (fun _ s₄ h₄ => ?_) fun _ _ e => e)
    obtain ⟨st₄, t₄, ac₄⟩ := h₄
    refine wpAny_pure ⟨rfl, ds.length + 1 - (i + 1), by omega, i + 1, hlt, rfl, StepX.keeps k₃ st₄ fun x hx => (hZ x hx).1, ?_, t₄, ?_, ?_⟩
    · exact x₁.trans ((st₂.sub (by simp)).trans ((st₃'.sub fun x hx => by simp [hx]).trans (st₄.sub fun x hx => by simp [hx])))
    · have e1 : ds.take (i + 1) = ds.take i ++ [ds[i]] := by rw [List.take_add_one, hd]; rfl
      rw [e1, List.flatMap_append, ← List.append_assoc]
      simpa using ac₄
    · exact w.frame _ _ s₄.heap is₃ (st₄.kpx.sub fun x hx => (hZ x hx).2.2) fun b hb o e => st₄.kpx b o (fun m => (hZ b m).2.1 hb) e
  · have hin : i = ds.length := by omega
    subst hin
    rw [List.take_length] at ac₁
    exact w.done s₁ _ _ is₁ fun h' tk kp => wpAny_pure (hR s₁ _ k₁ x₁ t₁ ac₁ ⟨h', tk, rfl, kp⟩)
end
end Mine
end

section
open PySem PySem.W PyProof.Rows
set_option Elab.async false
set_option linter.unusedVariables false
namespace Mine
noncomputable def rel (scope sc : Scope) : Scope := { scope with names := scope.names.map fun (n, k) => if (k == .free && sc.kind == .function && sc.names.lookup n == some .cell) then (n, .cell) else (n, k) }
theorem rel_eq {scope sc : Scope} {env : Env} (h : env.scope = sc) : relabel scope env = rel scope sc := by subst h; rfl
theorem rel_lookup {sc : Scope} {x : Str} : ∀ {names : List (Str × NameKind)}, (names.map fun (n, k) => if (k == NameKind.free && sc.kind == .function && sc.names.lookup n == some .cell) then (n, NameKind.cell) else (n, k)).lookup x =
    (names.lookup x).map fun k => if (k == NameKind.free && sc.kind == .function && sc.names.lookup x == some .cell) then NameKind.cell else k
  | [] => rfl
  | (n, k) :: r => by
    have ih := @rel_lookup sc x r
    rw [List.map_cons]
    dsimp only
    by_cases hx : x = n
    · subst hx
      split <;> rename_i q <;> (rw [List.lookup_cons, List.lookup_cons]; simp only [beq_self_eq_true, Option.map_some])
      · rw [if_pos q]
      · rw [if_neg q]
    · have hb : (x == n) = false := beq_eq_false_iff_ne.mpr hx
      split <;> (rw [List.lookup_cons, List.lookup_cons]; simp only [hb]; exact ih)
theorem rel_get {scope sc : Scope} (x : Str) : (rel scope sc).names.lookup x = (scope.names.lookup x).map fun k => if (k == NameKind.free && sc.kind == .function && sc.names.lookup x == some .cell) then NameKind.cell else k := rel_lookup

noncomputable def clos (env : Env) : List (Str × NameKind) → List (Str × Addr) → List (Str × Addr)
  | [], acc => acc
  | (n, k) :: r, acc => if k == .free then clos env r ((n, (env.cells.lookup n).getD 0) :: acc) else clos env r acc
theorem clos_eq {scope : Scope} {env : Env} (h : ∀ n, (n, NameKind.free) ∈ scope.names → ∃ cc, env.cells.lookup n = some cc) : closureFor scope env = pure (clos env scope.names []) := by
  unfold closureFor
  have go : ∀ (names : List (Str × NameKind)) (acc : List (Str × Addr)), (∀ n, (n, NameKind.free) ∈ names → ∃ cc, env.cells.lookup n = some cc) →
      (forIn names acc (fun (x : Str × NameKind) (r : List (Str × Addr)) => match x with | (name, kind) => if (kind == .free) = true then do let __do_lift ← cellOf env name; pure PUnit.unit; pure (ForInStep.yield ((name, __do_lift) :: r)) else do pure PUnit.unit; pure (ForInStep.yield r)) : Sem (List (Str × Addr))) = pure (clos env names acc) := by
    intro names
    induction names with
    | nil => intro acc _; rfl
    | cons p names ih =>
      intro acc hn
      obtain ⟨n, k⟩ := p
      rw [List.forIn_cons]
      unfold clos
      by_cases hk : (k == NameKind.free) = true
      · have hk' : k = .free := by simpa using hk
        obtain ⟨cc, hc⟩ := hn n (by rw [hk']; simp)
        have : cellOf env n = pure cc := by unfold cellOf; rw [hc]
        dsimp only
        simp only [if_pos hk, hc, this]
        exact ih _ fun m hm => hn m (by simp [hm])
      · dsimp only
        simp only [if_neg hk]
        exact ih _ fun m hm => hn m (by simp [hm])
  have := go scope.names [] h
  simp only [bind_pure]
  first | exact this | (simp only [bind_pure_comp] at this ⊢; exact this) | simpa using this
theorem clos_mem {env : Env} : ∀ {names : List (Str × NameKind)} {acc : List (Str × Addr)} {n : Str} {cc : Addr}, (n, cc) ∈ clos env names acc → (n, cc) ∈ acc ∨ ((n, NameKind.free) ∈ names ∧ cc = (env.cells.lookup n).getD 0)
  | [], _, _, _, h => .inl h
  | (m, k) :: r, acc, n, cc, h => by
    unfold clos at h
    split at h
    · rename_i hk
      have hk' : k = .free := by simpa using hk
      rcases clos_mem h with h | h
      · rcases List.mem_cons.mp h with h | h
        · cases h; exact .inr ⟨by simp [hk'], rfl⟩
        · exact .inl h
      · exact .inr ⟨by simp [h.1], h.2⟩
    · rcases clos_mem h with h | h
      · exact .inl h
      · exact .inr ⟨by simp [h.1], h.2⟩
theorem clos_has {env : Env} : ∀ {names : List (Str × NameKind)} {acc : List (Str × Addr)} {n : Str}, ((n, NameKind.free) ∈ names ∨ ∃ cc, acc.lookup n = some cc ∧ cc = (env.cells.lookup n).getD 0) → (∀ cc, (n, cc) ∈ acc → cc = (env.cells.lookup n).getD 0) → (clos env names acc).lookup n = some ((env.cells.lookup n).getD 0)
  | [], acc, n, h, _ => by
    rcases h with h | ⟨cc, h, rfl⟩
    · simp at h
    · exact h
  | (m, k) :: r, acc, n, h, ha => by
    unfold clos
    split
    · rename_i hk
      refine clos_has ?_ fun cc hm => ?_
      · by_cases e : n = m
        · subst e; exact .inr ⟨_, by simp, rfl⟩
        · rcases h with h | ⟨cc, h1, h2⟩
          · rcases List.mem_cons.mp h with h | h
            · cases h; exact absurd rfl e
            · exact .inl h
          · exact .inr ⟨cc, by have hb : (n == m) = false := beq_eq_false_iff_ne.mpr e
                               rw [List.lookup_cons, hb]; exact h1, h2⟩
      · rcases List.mem_cons.mp hm with hm | hm
        · cases hm; rfl
        · exact ha cc hm
    · rename_i hk
      refine clos_has ?_ ha
      rcases h with h | h
      · rcases List.mem_cons.mp h with h | h
        · cases h; exact absurd rfl hk
        · exact .inl h
      · exact .inr h
theorem clos_apart {env : Env} (hp : env.cells.Pairwise fun x y => x.2 ≠ y.2) : ∀ {names : List (Str × NameKind)} {acc : List (Str × Addr)}, (∀ n, (n, NameKind.free) ∈ names → ∃ cc, env.cells.lookup n = some cc) → (names.map (·.1)).Nodup → (∀ n cc, (n, cc) ∈ acc → env.cells.lookup n = some cc ∧ ∀ k, (n, k) ∉ names) →
    acc.Pairwise (fun x y => x.2 ≠ y.2) → (clos env names acc).Pairwise fun x y => x.2 ≠ y.2
  | [], acc, _, _, _, h => h
  | (m, k) :: r, acc, hf, hn, ha, h => by
    rw [List.map_cons, List.nodup_cons] at hn
    unfold clos
    split
    · rename_i hk
      have hk' : k = .free := by simpa using hk
      obtain ⟨cc, hc⟩ := hf m (by simp [hk'])
      refine clos_apart hp (fun n hm => hf n (by simp [hm])) hn.2 ?_ ?_
      · intro n c' hm
        rcases List.mem_cons.mp hm with hm | hm
        · cases hm
          refine ⟨by rw [hc]; rfl, fun k' hk' => hn.1 (List.mem_map.mpr ⟨_, hk', rfl⟩)⟩
        · exact ⟨(ha n c' hm).1, fun k' hk' => (ha n c' hm).2 k' (by simp [hk'])⟩
      · refine List.pairwise_cons.mpr ⟨fun y hy e => ?_, h⟩
        obtain ⟨q1, q2⟩ := ha y.1 y.2 hy
        have e' : (env.cells.lookup m).getD 0 = y.2 := e
        rw [hc] at e'
        have := name_of_addr hp (mem_of_lookup hc) (mem_of_lookup (show env.cells.lookup y.1 = some cc by rw [q1, ← e']; rfl))
        exact q2 k (by rw [← this]; simp)
    · exact clos_apart hp (fun n hm => hf n (by simp [hm])) hn.2 (fun n c' hm => ⟨(ha n c' hm).1, fun k' hk' => (ha n c' hm).2 k' (by simp [hk'])⟩) h

/-- the cells that a comprehension lays -/
theorem lay_cells : ∀ (names : List (Str × NameKind)) (h : Heap) (acc : List (Str × Addr)), (∀ n cc, (n, cc) ∈ acc → ∃ v, h.IsCell cc v) → acc.Pairwise (fun x y => x.2 ≠ y.2) →
    (∀ n cc, (n, cc) ∈ cellsFrom h.objs.size names acc → ∃ v, (pushCells h names).IsCell cc v) ∧ (cellsFrom h.objs.size names acc).Pairwise (fun x y => x.2 ≠ y.2) ∧
    (∀ n cc, (n, cc) ∈ cellsFrom h.objs.size names acc → (n, cc) ∈ acc ∨ (h.get? cc = none ∧ h.objs.size ≤ cc ∧ (n, NameKind.cell) ∈ names)) ∧
    (∀ n, (∃ cc, acc.lookup n = some cc) ∨ (n, NameKind.cell) ∈ names → ∃ cc, (cellsFrom h.objs.size names acc).lookup n = some cc) ∧
    (∀ n, (n, NameKind.cell) ∉ names → (cellsFrom h.objs.size names acc).lookup n = acc.lookup n) ∧
    (∀ n cc, (n, NameKind.cell) ∈ names → (cellsFrom h.objs.size names acc).lookup n = some cc → h.get? cc = none ∧ h.objs.size ≤ cc)
  | [], h, acc, ha, hp => ⟨ha, hp, fun n cc q => .inl q, fun n q => q.elim id fun q => by simp at q, fun _ _ => rfl, fun n cc q => by simp at q⟩
  | (m, k) :: r, h, acc, ha, hp => by
    unfold cellsFrom pushCells
    by_cases hk : (k == NameKind.cell) = true
    · rw [if_pos hk, if_pos hk]
      have hk' : k = .cell := by simpa using hk
      have nx : h.get? h.objs.size = none := get_size h
      have kp : Kp h (h.push { cls := .type "cell", data := .cell none }) := fun _ _ e => Heap.get?_push_of_some _ e
      have := lay_cells r (h.push { cls := .type "cell", data := .cell none }) ((m, h.objs.size) :: acc) (fun n cc q => by
          rcases List.mem_cons.mp q with q | q
          · cases q; exact ⟨_, _, Heap.get?_push_size _ rfl, rfl⟩
          · obtain ⟨v, i⟩ := ha n cc q; exact ⟨v, i.keeps kp⟩)
        (List.pairwise_cons.mpr ⟨fun y hy e => by
          obtain ⟨v, i⟩ := ha y.1 y.2 hy
          have e' : h.objs.size = y.2 := e
          exact Nat.lt_irrefl _ (e' ▸ i.lt), hp⟩)
      rw [Heap.size_push] at this
      obtain ⟨a1, a2, a3, a4, a5, a6⟩ := this
      have up : ∀ cc, (h.push { cls := .type "cell", data := .cell none }).get? cc = none → h.get? cc = none := fun cc e => by
        cases q : h.get? cc with
        | none => rfl
        | some o => rw [kp cc o q] at e; cases e
      refine ⟨a1, a2, fun n cc q => ?_, fun n q => a4 n ?_, fun n q => ?_, fun n cc q1 q2 => ?_⟩
      · rcases a3 n cc q with q | ⟨q1, q2, q3⟩
        · rcases List.mem_cons.mp q with q | q
          · cases q; exact .inr ⟨nx, Nat.le_refl _, by simp [hk']⟩
          · exact .inl q
        · exact .inr ⟨up cc q1, by omega, by simp [q3]⟩
      · rcases q with ⟨cc, q⟩ | q
        · by_cases e : n = m
          · subst e; exact .inl ⟨_, by simp; rfl⟩
          · exact .inl ⟨cc, by have hb : (n == m) = false := beq_eq_false_iff_ne.mpr e
                               rw [List.lookup_cons, hb]; exact q⟩
        · rcases List.mem_cons.mp q with q | q
          · cases q; exact .inl ⟨_, by simp; rfl⟩
          · exact .inr q
      · have e : n ≠ m := fun e => q (by rw [e, hk']; simp)
        rw [a5 n (fun z => q (by simp [z]))]
        have hb : (n == m) = false := beq_eq_false_iff_ne.mpr e
        rw [List.lookup_cons, hb]
      · by_cases z : (n, NameKind.cell) ∈ r
        · obtain ⟨w1, w2⟩ := a6 n cc z q2
          exact ⟨up cc w1, by omega⟩
        · rw [a5 n z] at q2
          have e : n = m := by
            rcases List.mem_cons.mp q1 with q1 | q1
            · cases q1; rfl
            · exact absurd q1 z
          subst e
          simp at q2
          subst q2
          exact ⟨nx, Nat.le_refl _⟩
    · rw [if_neg hk, if_neg hk]
      obtain ⟨a1, a2, a3, a4, a5, a6⟩ := lay_cells r h acc ha hp
      have hk' : k ≠ .cell := by simpa using hk
      refine ⟨a1, a2, fun n cc q => ?_, fun n q => a4 n (q.imp id fun q => ?_), fun n q => a5 n fun z => q (by simp [z]), fun n cc q1 q2 => a6 n cc ?_ q2⟩
      · rcases a3 n cc q with q | ⟨q1, q2, q3⟩
        · exact .inl q
        · exact .inr ⟨q1, q2, by simp [q3]⟩
      · rcases List.mem_cons.mp q with q | q
        · cases q; exact absurd rfl hk'
        · exact q
      · rcases List.mem_cons.mp q1 with q1 | q1
        · cases q1; exact absurd rfl hk'
        · exact q1
end Mine
end

section
open PySem PySem.W PyProof.Rows
set_option Elab.async false
set_option linter.unusedVariables false
namespace Mine
theorem mem_of_look {α : Type} : ∀ {l : List (Str × α)} {n : Str} {x : α}, l.lookup n = some x → (n, x) ∈ l := fun h => mem_of_lookup h
theorem kind_one {names : List (Str × NameKind)} (hn : (names.map (·.1)).Nodup) {x : Str} {j k : NameKind} (h1 : (x, j) ∈ names) (h2 : (x, k) ∈ names) : j = k := by
  induction names with
  | nil => simp at h1
  | cons p r ih =>
    rw [List.map_cons, List.nodup_cons] at hn
    rcases List.mem_cons.mp h1 with q1 | q1 <;> rcases List.mem_cons.mp h2 with q2 | q2
    · rw [← q2] at q1; exact (Prod.mk.inj q1).2
    · exact absurd (List.mem_map.mpr ⟨_, q2, by rw [← q1]⟩) hn.1
    · exact absurd (List.mem_map.mpr ⟨_, q1, by rw [← q2]⟩) hn.1
    · exact ih hn.2 q1 q2
section
variable {c : Cx} {k : Nat} {sc : Scope} {σ : List (Str × D)} {pos : Pos} {env : Env} {A : Around} {X : List Addr} {E : Value → Shared → Prop}
noncomputable def cenvOf (env : Env) (scope sc : Scope) (C : Addr) : Env :=
  { scope := rel scope sc, locals := C, globals := env.globals, cells := cellsFrom (C + 1) scope.names (clos env scope.names []), qual := env.qual, func := none, code := env.code, frame := env.frame, builtins := env.builtins }
theorem nfe {scope : Scope} {cl : List (Str × Addr)} {s : Shared} {Q : Env → Shared → Prop}
    (hQ : Q { scope, locals := s.heap.objs.size, globals := env.globals, cells := cellsFrom (s.heap.objs.size + 1) scope.names cl, qual := env.qual, func := none, code := env.code, frame := env.frame, builtins := env.builtins } { s with heap := pushCells (s.heap.push { cls := .type "dict", data := .dict #[] }) scope.names }) :
    wpAny (model c.prog c.w) A (newFunctionEnv scope env.globals cl [] env.qual none .none (some env)) Q E s := by
  simp only [newFunctionEnv, Option.isSome_some, if_true]
  refine wpAny_bind (wpAny_alloc ?_)
  refine wpAny_bind (wpAny_layCells _ (fun name kind cells => by cases hkc : kind == NameKind.cell <;> simp [hkc]) _ _ _ _ ?_)
  rw [show ({ s with heap := s.heap.push { cls := .type "dict", data := .dict #[] } } : Shared).heap.objs.size = s.heap.objs.size + 1 from Heap.size_push ..]
  exact wpAny_bind (wpAny_pure (wpAny_pure hQ))

structure Inner (c : Cx) (k : Nat) (sc scope : Scope) (σc : List (Str × D)) (env : Env) (A : Around) (X N Y : List Addr) (s₁ : Shared) (C : Addr) (s₄ : Shared) : Prop where
  st : St c k (rel scope sc) σc (cenvOf env scope sc C) A Y s₄
  fresh : s₁.heap.get? C = none
  notN : C ∉ N
  off : Off X Y s₁.heap
  subX : ∀ x ∈ X, x ∈ Y
  subN : ∀ x ∈ N, x ∈ Y
  inC : C ∈ Y
  cellN : ∀ n cc, (n, cc) ∈ (cenvOf env scope sc C).cells → cc ∉ N
  own : ∀ x cc, scope.names.lookup x = some .cell → (cenvOf env scope sc C).cells.lookup x = some cc → s₁.heap.get? cc = none ∧ cc ∉ N ∧ cc ∈ Y

theorem comp_enter {scope : Scope} {σc : List (Str × D)} {s₁ s₂ : Shared} (t : St c k sc σ env A X s₁) (hkind : scope.kind = .function) (hnd : (scope.names.map (·.1)).Nodup)
    (hfree : ∀ x, (x, NameKind.free) ∈ scope.names → sc.names.lookup x = some .cell ∨ sc.names.lookup x = some .free) (hσ : ∀ x d, σc.lookup x = some d → σ.lookup x = some d ∧ scope.names.lookup x = some .free)
    (k12 : Keeps s₁ s₂) {N : List Addr} (hN : ∀ a ∈ N, s₁.heap.get? a = none ∧ ∃ o, s₂.heap.get? a = some o) {Q : Env → Shared → Prop}
    (h : ∀ Y s₄, Keeps s₂ s₄ → Inner c k sc scope σc env A X N Y s₁ s₂.heap.objs.size s₄ → (∃ o, s₄.heap.get? s₂.heap.objs.size = some o) → Q { (cenvOf env scope sc s₂.heap.objs.size) with scope := scope } s₄) :
    wpAny (model c.prog c.w) A (newFunctionEnv scope env.globals (clos env scope.names []) [] env.qual none .none (some env)) Q E s₂ := by
  refine nfe ?_
  have hf' : ∀ n, (n, NameKind.free) ∈ scope.names → ∃ cc, env.cells.lookup n = some cc := fun n hm => t.ok.has n (by unfold Env.kindOf; rw [t.sc]; exact hfree n hm)
  have kp12 := kk_kp k12
  generalize hH : s₂.heap.push { cls := .type "dict", data := .dict #[] } = H
  have hHs : H.objs.size = s₂.heap.objs.size + 1 := by rw [← hH, Heap.size_push]
  have kH : Kp s₂.heap H := fun b o e => by rw [← hH]; exact Heap.get?_push_of_some _ e
  have acc1 : ∀ n cc, (n, cc) ∈ clos env scope.names [] → env.cells.lookup n = some cc := fun n cc hm => by
    rcases clos_mem hm with q | ⟨q, q'⟩
    · simp at q
    · obtain ⟨c', hc⟩ := hf' n q; rw [hc] at q' ⊢; rw [q']; rfl
  obtain ⟨a1, a2, a3, a4, a5, a6⟩ := lay_cells scope.names H (clos env scope.names []) (fun n cc hm => by
      obtain ⟨cv, q⟩ := t.fm.cell n cc (mem_of_lookup (acc1 n cc hm))
      exact ⟨cv, (q.keeps kp12).keeps kH⟩) (clos_apart t.ok.apart hf' hnd (fun n cc hm => by simp at hm) List.Pairwise.nil)
  rw [hHs] at a1 a2 a3 a4 a5 a6
  have k4 : Kp H (pushCells H scope.names) := fun b o e => pushCells_keeps _ _ b o e
  have k24 : Keeps s₂ { s₂ with heap := pushCells H scope.names } := kk_heap (kH.trans k4)
  have kp14 : Kp s₁.heap (pushCells H scope.names) := kp12.trans (kH.trans k4)
  have hdn : ∀ b, s₂.heap.get? b = none → s₁.heap.get? b = none := fun b e => by
    cases q : s₁.heap.get? b with
    | none => rfl
    | some o => rw [kp12 b o q] at e; cases e
  have hdH : ∀ b, H.get? b = none → s₂.heap.get? b = none := fun b e => by
    cases q : s₂.heap.get? b with
    | none => rfl
    | some o => rw [kH b o q] at e; cases e
  have hC1 : s₁.heap.get? s₂.heap.objs.size = none := hdn _ (get_size _)
  have hCH : H.get? s₂.heap.objs.size = some { cls := .type "dict", data := .dict #[] } := by rw [← hH]; exact Heap.get?_push_size _ rfl
  have nsH : H.Ns s₂.heap.objs.size (fun _ => none) := by rw [← hH]; exact Heap.Ns.new _ _
  have hCN : s₂.heap.objs.size ∉ N := fun m => by obtain ⟨o, e⟩ := (hN _ m).2; rw [get_size] at e; cases e
  have cellY : ∀ n cc, (n, cc) ∈ cellsFrom (s₂.heap.objs.size + 1) scope.names (clos env scope.names []) → cc ∈ X ∨ (s₁.heap.get? cc = none ∧ cc ∉ N) := fun n cc hm => by
    rcases a3 n cc hm with q | ⟨q1, q2, q3⟩
    · exact .inl (t.ok.cellX _ _ (mem_of_lookup (acc1 n cc q)))
    · refine .inr ⟨hdn _ (hdH _ q1), fun m => ?_⟩
      obtain ⟨o, e⟩ := (hN _ m).2
      rw [hdH _ q1] at e; cases e
  let Y : List Addr := N ++ (s₂.heap.objs.size :: ((cellsFrom (s₂.heap.objs.size + 1) scope.names (clos env scope.names [])).map (·.2) ++ X))
  have hoff : Off X Y s₁.heap := fun a ha => by
    rcases List.mem_append.mp ha with ha | ha
    · exact .inr (hN a ha).1
    · rcases List.mem_cons.mp ha with rfl | ha
      · exact .inr hC1
      · rcases List.mem_append.mp ha with ha | ha
        · obtain ⟨p, hp, rfl⟩ := List.mem_map.mp ha
          exact (cellY p.1 p.2 hp).imp id (·.1)
        · exact .inl ha
  have inC : s₂.heap.objs.size ∈ Y := List.mem_append.mpr (.inr (by simp))
  have inCell : ∀ n cc, (n, cc) ∈ cellsFrom (s₂.heap.objs.size + 1) scope.names (clos env scope.names []) → cc ∈ Y := fun n cc hm => List.mem_append.mpr (.inr (List.mem_cons_of_mem _ (List.mem_append.mpr (.inl (List.mem_map.mpr ⟨_, hm, rfl⟩)))))
  have subX : ∀ x ∈ X, x ∈ Y := fun x hx => List.mem_append.mpr (.inr (List.mem_cons_of_mem _ (List.mem_append.mpr (.inr hx))))
  have subN : ∀ x ∈ N, x ∈ Y := fun x hx => List.mem_append.mpr (.inl hx)
  have XN : ∀ x ∈ X, x ∉ N := fun x hx m => by obtain ⟨o, e⟩ := t.live x hx; rw [(hN x m).1] at e; cases e
  refine h Y _ k24 ⟨⟨rfl, ⟨hkind, t.ok.glob, t.ok.blt, inC, inCell, a2, ?_⟩, t.room, (t.top.off hoff).kp kp14, ?_, ?_⟩, hC1, hCN, hoff, subX, subN, inC, ?_, ?_⟩ ⟨_, k4 _ _ hCH⟩
  · intro n hn
    have hk : scope.names.lookup n = some .cell ∨ scope.names.lookup n = some .free := by
      change (rel scope sc).names.lookup n = some .cell ∨ (rel scope sc).names.lookup n = some .free at hn
      rw [rel_get] at hn
      cases q : scope.names.lookup n with
      | none => rw [q] at hn; simp at hn
      | some kd =>
        rw [q] at hn
        simp only [Option.map_some, Option.some.injEq] at hn
        by_cases hc : (kd == NameKind.free && sc.kind == .function && sc.names.lookup n == some .cell) = true
        · simp only [Bool.and_eq_true, beq_iff_eq] at hc
          exact .inr (by rw [hc.1.1])
        · rw [if_neg hc] at hn
          exact hn.imp (fun e => by rw [e]) (fun e => by rw [e])
    rcases hk with hk | hk
    · exact a4 n (.inr (mem_of_lookup hk))
    · exact a4 n (.inl ⟨_, clos_has (.inl (mem_of_lookup hk)) fun cc q => by simp at q⟩)
  · intro a ha
    rcases List.mem_append.mp ha with ha | ha
    · obtain ⟨o, e⟩ := (hN a ha).2; exact ⟨o, k4 _ _ (kH _ _ e)⟩
    · rcases List.mem_cons.mp ha with rfl | ha
      · exact ⟨_, k4 _ _ hCH⟩
      · rcases List.mem_append.mp ha with ha | ha
        · obtain ⟨p, hp, rfl⟩ := List.mem_map.mp ha
          obtain ⟨v, o, e, _⟩ := a1 p.1 p.2 hp
          exact ⟨o, e⟩
        · obtain ⟨o, e⟩ := t.live a ha; exact ⟨o, kp14 _ _ e⟩
  · refine ⟨⟨_, nsH.keeps k4, fun x d hx hl => ?_⟩, fun n cc hm => a1 n cc hm, fun x d hx hl => ?_⟩
    · exfalso
      change (rel scope sc).names.lookup x = some .local at hl
      rw [rel_get, (hσ x d hx).2] at hl
      simp only [Option.map_some, Option.some.injEq] at hl
      split at hl <;> cases hl
    · obtain ⟨h1, h2⟩ := hσ x d hx
      have hk := hfree x (mem_of_lookup h2)
      have ek : env.kindOf x = sc.names.lookup x := by unfold Env.kindOf; rw [t.sc]
      obtain ⟨_, cc, v, l, i, r⟩ := t.fm.cells x d h1 (by rw [ek]; rcases hk with q | q <;> rw [q] <;> simp)
      refine ⟨?_, cc, v, ?_, (i.keeps kp14), (r.off hoff).kp kp14⟩
      · change (rel scope sc).names.lookup x = some .cell ∨ (rel scope sc).names.lookup x = some .free
        rw [rel_get, h2]
        simp only [Option.map_some, Option.some.injEq]
        split
        · exact .inl rfl
        · exact .inr rfl
      · have nc : (x, NameKind.cell) ∉ scope.names := fun m => by have := kind_one hnd m (mem_of_lookup h2); cases this
        have e1 : (clos env scope.names []).lookup x = some ((env.cells.lookup x).getD 0) := clos_has (.inl (mem_of_lookup h2)) fun cc q => by simp at q
        show (cellsFrom (s₂.heap.objs.size + 1) scope.names (clos env scope.names [])).lookup x = some cc
        rw [a5 x nc, e1, l]; rfl
  · intro n cc hm
    rcases cellY n cc hm with q | q
    · exact XN cc q
    · exact q.2
  · intro x cc hx hl
    obtain ⟨q1, q2⟩ := a6 x cc (mem_of_lookup hx) hl
    have q3 := hdH _ q1
    have q4 : cc ∉ N := fun m => by
      obtain ⟨o, e⟩ := (hN cc m).2
      rw [q3] at e; cases e
    exact ⟨hdn _ q3, q4, inCell x cc (mem_of_lookup hl)⟩
end
end Mine
end

section
open PySem PySem.W PyProof.Rows
set_option Elab.async false
set_option linter.unusedVariables false
namespace Mine
theorem slots_names {env : Env} {target : Expr} {a : Addr} (h : a ∈ slotsT env target) : ∃ x ∈ tnames target, a ∈ slotOf env x := by
  unfold slotsT at h
  split at h
  · exact ⟨_, by simp [tnames], h⟩
  · obtain ⟨e, he, ha⟩ := List.mem_flatMap.mp h
    split at ha
    · exact ⟨_, List.mem_flatMap.mpr ⟨_, he, by simp⟩, ha⟩
    · simp at ha
  · simp at h

noncomputable def body1 (elt : Expr) (ifs : List Expr) (a : Addr) (env : Env) : Sem Unit :=
  (forIn ifs true fun c r => if r = true then do let ok ← isTrue c env (eval c env); pure (ForInStep.yield ok) else pure (ForInStep.yield r)) >>= fun ok =>
    if ok = true then (eval elt env >>= fun x => call (.builtin "list.append") [.ref a, x] >>= fun _ => pure ()) else pure ()
theorem turn1 (elt target iter : Expr) (ifs : List Expr) (scope : Scope) (pos : Pos) (I a : Addr) (env : Env) :
    compTurn (.ListComp elt [⟨target, iter, ifs, 0⟩] scope pos) 0 (.ref I) (.ref a) env = (standAt iter.pos >>= fun _ => pyNext (.ref I) >>= fun r => match r with
      | none => pure (.done .next)
      | some v => letOwnedTupleGo target (.ref I) v >>= fun _ => assign target env v >>= fun _ => body1 elt ifs a env >>= fun _ => again (.compLoop (.ListComp elt [⟨target, iter, ifs, 0⟩] scope pos) 0 (.ref I) (.ref a) env)) := by
  rw [compTurn_list]
  refine bind_congr fun _ => bind_congr fun r => ?_
  cases r with
  | none => rfl
  | some v =>
    refine bind_congr fun _ => bind_congr fun _ => ?_
    unfold body1
    rw [bind_assoc]
    refine bind_congr fun ok => ?_
    cases ok with
    | true => simp only [if_true, bind_assoc, pure_bind]
    | false => rfl

section
variable {c : Cx} {k : Nat} {sc : Scope} {σ : List (Str × D)} {pos : Pos} {env : Env} {A : Around} {X : List Addr} {E : Value → Shared → Prop}
noncomputable def Tests (c : Cx) (k : Nat) (sc : Scope) (σ : List (Str × D)) : List Expr → Bool → Prop
  | [], b => b = true
  | [e], b => EvB c k sc σ e b
  | _, _ => False
theorem tests_go {ifs : List Expr} {b : Bool} {s : Shared} (h : Tests c k sc σ ifs b) (t : St c k sc σ env A X s) :
    wpAny (model c.prog c.w) A (forIn ifs true fun c r => if r = true then do let ok ← isTrue c env (eval c env); pure (ForInStep.yield ok) else pure (ForInStep.yield r)) (fun b' s' => b' = b ∧ Keeps s s') E s := by
  cases ifs with
  | nil => cases h; exact wpAny_tests_nil ⟨rfl, kk_rfl _⟩
  | cons e r => cases r with
    | nil => exact wpAny_tests_one (h env A X s E t)
    | cons => cases h
theorem app_ok {a : Addr} {s : Shared} {out : List D} {v : Value} {d : D} (hacc : AccAt X a out s.heap) (ha : a ∈ X) (r : Rd X s.heap v d) (hl : out.length ≤ 1000) {Q : Value → Shared → Prop}
    (h : ∀ s', StepX [a] s s' → AccAt X a (out ++ [d]) s'.heap → Q .none s') : wpAny (model c.prog c.w) A (call (.builtin "list.append") [.ref a, v]) Q E s := by
  obtain ⟨ys, pl, rl⟩ := hacc
  refine wpAny_list_append_plain pl (fun h' pl' hs' => ?_) (by rw [List.size_toArray, rl.length]; show _ ≤ 2 ^ 24; omega)
  have kp : KpX [a] s.heap h' := fun b o nb e => hs'.extBut b o (fun q => nb (by rw [q]; simp)) e
  have kX : KpX X s.heap h' := kp.sub fun x hx => by rw [List.mem_singleton.mp hx]; exact ha
  refine h _ ⟨h', _, rfl, kp⟩ ⟨ys ++ [v], ?_, (rl.kpx kX).append (.one (r.kpx kX))⟩
  have e : ys.toArray.push v = (ys ++ [v]).toArray := by simp
  rw [← e]; exact pl'
theorem body1_ok {elt : Expr} {ifs : List Expr} {a : Addr} {b : Bool} {g : D} {s : Shared} {out : List D} (ht : Tests c k sc σ ifs b) (he : b = true → Ev c k sc σ elt g) (t : St c k sc σ env A X s) (ha : a ∈ X) (haL : a ≠ env.locals) (haC : ∀ n cc, (n, cc) ∈ env.cells → cc ≠ a)
    (hacc : AccAt X a out s.heap) (hl : out.length ≤ 1000) :
    wpAny (model c.prog c.w) A (body1 elt ifs a env) (fun _ s' => StepX [a] s s' ∧ St c k sc σ env A X s' ∧ AccAt X a (out ++ if b then [g] else []) s'.heap) E s := by
  refine wpAny_bind (wpAny_mono (tests_go ht t) (fun b' s₁ h₁ => ?_) fun _ _ e => e)
  obtain ⟨rfl, k₁⟩ := h₁
  have kp0 : KpX [] s.heap s₁.heap := (kk_kp k₁).x []
  have ac₁ := hacc.kpx kp0 (by simp) (by simp)
  cases b' with
  | false => exact wpAny_pure ⟨StepX.of k₁, t.kp k₁, by simpa using ac₁⟩
  | true =>
    simp only [if_true]
    refine wpAny_bind (wpAny_mono (he rfl env A X s₁ E (t.kp k₁)) (fun v s₂ h₂ => ?_) fun _ _ e => e)
    have kp2 : KpX [] s₁.heap s₂.heap := (kk_kp h₂.1).x []
    have t₂ := (t.kp k₁).kp h₂.1
    refine wpAny_bind (app_ok (ac₁.kpx kp2 (by simp) (by simp)) ha h₂.2 hl fun s₃ st ac₃ => wpAny_pure ⟨(StepX.of (kk_trans k₁ h₂.1)).trans st, ?_, ac₃⟩)
    refine t₂.stepx st (fun x hx => by rw [List.mem_singleton.mp hx]; exact ha) (by simpa using Ne.symm haL) (fun n cc m => by simpa using haC n cc m) fun x hx => ?_
    rw [List.mem_singleton.mp hx]; obtain ⟨ys, ⟨n, e⟩, _⟩ := ac₃; exact ⟨_, e⟩

/-- where a loop or a comprehension draws from -/
noncomputable def Src (c : Cx) (k : Nat) (sc : Scope) (σ : List (Str × D)) (iter : Expr) (own : Bool) (ds : List D) : Prop :=
  ∀ env A X s E, St c k sc σ env A X s → wpAny (model c.prog c.w) A (eval iter env) (fun v s₁ => Keeps s s₁ ∧ ∀ E', wpAny (model c.prog c.w) A (pyIter v) (fun it s₂ => ∃ I, it = .ref I ∧ ItGo c A X s₁ own ds I s₂) E' s₁) E s
theorem src_of {iter : Expr} {a : D} {ds : List D} (h : Ev c k sc σ iter a) (hi : Iter c k a ds) : Src c k sc σ iter false ds := fun env A X s E t =>
  wpAny_mono (h env A X s E t) (fun v s₁ h₁ => ⟨h₁.1, fun E' => hi A X s₁ E' v t.room (t.kp h₁.1).top (t.kp h₁.1).live h₁.2⟩) fun _ _ e => e

/-- what stands where a comprehension's loop is through -/
noncomputable def CompEnd (X : List Addr) (s : Shared) (out : List D) (C a : Addr) (s' : Shared) : Prop :=
  Keeps s s' ∧ (∃ m, s'.heap.Ns C m) ∧ s.heap.get? C = none ∧ s.heap.get? a = none ∧ a ≠ C ∧ ∃ ys : List Value, s'.heap.PlainList a ys.toArray ∧ RdL (C :: X) s'.heap ys out

theorem slot_fresh {scope : Scope} {σc : List (Str × D)} {N Y : List Addr} {s₁ s₄ : Shared} {C : Addr} (H : Inner c k sc scope σc env A X N Y s₁ C s₄) {target : Expr} (hT : ∀ x ∈ tnames target, scope.names.lookup x = some .local ∨ scope.names.lookup x = some .cell) :
    ∀ b ∈ slotsT (cenvOf env scope sc C) target, s₁.heap.get? b = none ∧ b ∉ N ∧ b ∈ Y := by
  intro b hb
  obtain ⟨x, hx, hb⟩ := slots_names hb
  unfold slotOf at hb
  have hr : (cenvOf env scope sc C).kindOf x = (scope.names.lookup x).map fun k => if (k == NameKind.free && sc.kind == .function && sc.names.lookup x == some .cell) then NameKind.cell else k := rel_get x
  rcases hT x hx with h | h
  · rw [h] at hr
    have : (cenvOf env scope sc C).kindOf x = some .local := by rw [hr]; rfl
    rw [if_pos this] at hb
    rw [List.mem_singleton.mp hb]
    exact ⟨H.fresh, H.notN, H.inC⟩
  · rw [h] at hr
    have : (cenvOf env scope sc C).kindOf x = some .cell := by rw [hr]; rfl
    rw [if_neg (by rw [this]; simp), Option.mem_toList] at hb
    exact H.own x b h hb

end
end Mine
end

section
open PySem PySem.W PyProof.Rows
set_option Elab.async false
set_option linter.unusedVariables false
namespace Mine
noncomputable def body2 (elt t0 i0 t1 i1 : Expr) (scope : Scope) (pos : Pos) (a : Addr) (env : Env) : Sem Unit :=
  eval i1 env >>= fun x => standAt i1.pos >>= fun _ => foldedSetIterable i1 env x >>= fun x => holding [x] (pyIter x) >>= fun it' =>
    runOwn (.compStart (.ListComp elt [⟨t0, i0, [], 0⟩, ⟨t1, i1, [], 0⟩] scope pos) 1 it' (.ref a) env) env >>= fun _ => pure ()
theorem turn2_0 (elt t0 i0 t1 i1 : Expr) (scope : Scope) (pos : Pos) (I a : Addr) (env : Env) :
    compTurn (.ListComp elt [⟨t0, i0, [], 0⟩, ⟨t1, i1, [], 0⟩] scope pos) 0 (.ref I) (.ref a) env = (standAt i0.pos >>= fun _ => pyNext (.ref I) >>= fun r => match r with
      | none => pure (.done .next)
      | some v => letOwnedTupleGo t0 (.ref I) v >>= fun _ => assign t0 env v >>= fun _ => body2 elt t0 i0 t1 i1 scope pos a env >>= fun _ => again (.compLoop (.ListComp elt [⟨t0, i0, [], 0⟩, ⟨t1, i1, [], 0⟩] scope pos) 0 (.ref I) (.ref a) env)) := by
  unfold compTurn
  refine bind_congr fun _ => bind_congr fun r => ?_
  cases r with
  | none => rfl
  | some v =>
    refine bind_congr fun _ => bind_congr fun _ => ?_
    unfold body2
    simp only [bind_assoc, pure_bind]
    rfl
theorem turn2_1 (elt t0 i0 t1 i1 : Expr) (scope : Scope) (pos : Pos) (I a : Addr) (env : Env) :
    compTurn (.ListComp elt [⟨t0, i0, [], 0⟩, ⟨t1, i1, [], 0⟩] scope pos) 1 (.ref I) (.ref a) env = (standAt i1.pos >>= fun _ => pyNext (.ref I) >>= fun r => match r with
      | none => pure (.done .next)
      | some v => letOwnedTupleGo t1 (.ref I) v >>= fun _ => assign t1 env v >>= fun _ => body1 elt [] a env >>= fun _ => again (.compLoop (.ListComp elt [⟨t0, i0, [], 0⟩, ⟨t1, i1, [], 0⟩] scope pos) 1 (.ref I) (.ref a) env)) := by
  unfold compTurn
  refine bind_congr fun _ => bind_congr fun r => ?_
  cases r with
  | none => rfl
  | some v =>
    refine bind_congr fun _ => bind_congr fun _ => ?_
    unfold body1
    simp only [List.forIn_nil, bind_assoc, pure_bind, if_true]
    rfl
theorem flat_one {α β : Type} (g : α → β) (ds : List α) : ds.flatMap (fun d => [g d]) = ds.map g := by
  induction ds with
  | nil => rfl
  | cons x l ih => rw [List.flatMap_cons, ih]; rfl
theorem start_at {prog : Program} {w : World} {A : Around} {R : Result → Shared → Prop} {s : Shared} {elt t0 i0 t1 i1 : Expr} {scope : Scope} {pos : Pos} {it acc : Value} {env : Env}
    (h0 : codeAny (model prog w) A (.compLoop (.ListComp elt [⟨t0, i0, [], 0⟩, ⟨t1, i1, [], 0⟩] scope pos) 1 it acc env) R s)
    (h : wpAny (model prog w) A (pyIter it) (fun it' s' => codeAny (model prog w) A (.compLoop (.ListComp elt [⟨t0, i0, [], 0⟩, ⟨t1, i1, [], 0⟩] scope pos) 1 it' acc env) R s')
      (notedBy (model prog w) A env fun x s' => R (.error x) s') s) :
    codeAny (model prog w) A (.compStart (.ListComp elt [⟨t0, i0, [], 0⟩, ⟨t1, i1, [], 0⟩] scope pos) 1 it acc env) R s := by
  refine codeAny_of_tree ?_
  show wpAny _ _ ((compStart (.ListComp elt [⟨t0, i0, [], 0⟩, ⟨t1, i1, [], 0⟩] scope pos) 1 it acc env).onRaise (fun x => do noteFrame x env; standAt theWindowsPlace)) _ _ s
  refine wpAny_notedAt ?_
  unfold compStart
  show wpAny _ _ (ask >>= _) _ _ s
  refine wpAny_bind (wpAny_askSetting (wpAny_ite ?_))
  split
  · first
      | exact wpAny_bind (wpAny_pure (wpAny_pure (And.intro rfl h0)))
      | exact wpAny_pure (And.intro rfl h0)
  · first
      | exact wpAny_bind (wpAny_rule (wpAny_bind (wpAny_standAt (wpAny_bind (wpAny_mono h (fun it' s' h' => wpAny_pure (And.intro rfl h')) fun _ _ x => x)))))
      | (refine wpAny_bind (wpAny_rule ?_); show wpAny _ _ (standAt i1.pos >>= _) _ _ s; exact wpAny_bind (wpAny_standAt (wpAny_bind (wpAny_mono h (fun it' s' h' => wpAny_pure (And.intro rfl h')) fun _ _ x => x))))

section
variable {c : Cx} {k : Nat} {sc : Scope} {σ : List (Str × D)} {pos : Pos} {env : Env} {A : Around} {X : List Addr} {E : Value → Shared → Prop}
theorem EnvOk.more {Y : List Addr} (h : EnvOk env X) (hs : ∀ x ∈ X, x ∈ Y) : EnvOk env Y := ⟨h.kind, h.glob, h.blt, hs _ h.locX, fun n cc m => hs _ (h.cellX n cc m), h.apart, h.has⟩
set_option maxHeartbeats 1600000 in
/-- the inner loop of a comprehension of two clauses -/
theorem body2_ok {elt t0 i0 t1 i1 : Expr} {scope : Scope} {a : Addr} {Z : List Addr} {ds : List D} {τ : D → List (Str × D)} {g : D → D} {s₀ s : Shared} {out : List D}
    (t : St c k sc σ env A X s) (hsrc : Src c k sc σ i1 false ds) (h0 : Keeps s₀ s) (hZ : ∀ x ∈ Z, s₀.heap.get? x = none ∧ x ∈ X) (hS : ∀ x ∈ slotsT env t1, x ∈ Z) (ha : a ∈ Z) (haS : a ∉ slotsT env t1) (haL : a ≠ env.locals) (haC : ∀ n cc, (n, cc) ∈ env.cells → cc ≠ a)
    (hA : ∀ d ∈ ds, Asg c k sc t1 d σ (τ d)) (hW : ∀ d ∈ ds, ∀ env A Y s, St c k sc (τ d) env A Y s → St c k sc σ env A Y s) (hE : ∀ d ∈ ds, Ev c k sc (τ d) elt (g d))
    (hacc : AccAt X a out s.heap) (hl : (out ++ ds.map g).length ≤ 1000) (hs : ∀ x, foldedSetIterable i1 env x = pure x) :
    wpAny (model c.prog c.w) A (body2 elt t0 i0 t1 i1 scope pos a env) (fun _ s' => StepX Z s s' ∧ St c k sc σ env A X s' ∧ AccAt X a (out ++ ds.map g) s'.heap) E s := by
  refine wpAny_bind (wpAny_mono (hsrc env A X s E t) (fun v s₁ h₁ => ?_) fun _ _ e => e)
  obtain ⟨k01, hit⟩ := h₁
  have t₁ := t.kp k01
  refine wpAny_bind (wpAny_standAt (wpAny_bind (wpAny_of_eq (hs v) (wpAny_bind (wpAny_holding (wpAny_mono (hit E) (fun it s₂ h₂ => ?_) fun _ _ e => e))))))
  obtain ⟨I, rfl, hI, k12, ⟨oI, eI⟩, hgo⟩ := h₂
  have I1 : s₁.heap.get? I = none := by rw [hI]; exact get_size _
  have IX : I ∉ X := t₁.live.fresh I1
  have hoff : Off X (I :: X) s₁.heap := fun x hx => by
    rcases List.mem_cons.mp hx with rfl | hx
    · exact .inr I1
    · exact .inl hx
  obtain ⟨fp, IS, hfp, w, his⟩ := hgo (I :: X) (by simp) hoff
  have t₂ : St c k sc σ env A (I :: X) s₂ := by
    refine ⟨t.sc, t.ok.more fun x hx => by simp [hx], t.room, (t₁.top.off hoff).kp (kk_kp k12), ?_, (t₁.fm.off hoff).kp (kk_kp k12)⟩
    intro x hx
    rcases List.mem_cons.mp hx with rfl | hx
    · exact ⟨oI, eI⟩
    · obtain ⟨o, e⟩ := t₁.live x hx; exact ⟨o, kk_kp k12 _ _ e⟩
  have ac₂ : AccAt (I :: X) a out s₂.heap := by
    obtain ⟨ys, ⟨n, e⟩, r⟩ := hacc
    exact ⟨ys, ⟨n, kk_kp k12 _ _ (kk_kp k01 _ _ e)⟩, ((r.kp (kk_kp k01)).off hoff).kp (kk_kp k12)⟩
  have ZI : ∀ x ∈ Z, x ≠ I := fun x hx e => IX (e ▸ (hZ x hx).2)
  have I0 : s₀.heap.get? I = none := by
    cases q : s₀.heap.get? I with
    | none => rfl
    | some o => have := kk_kp k01 I o (kk_kp h0 I o q); rw [I1] at this; cases this
  have loop : codeAny (model c.prog c.w) A (.compLoop (.ListComp elt [⟨t0, i0, [], 0⟩, ⟨t1, i1, [], 0⟩] scope pos) 1 (.ref I) (.ref a) env)
      (fun r s' => match r with | .ok f => wpAny (model c.prog c.w) A (pure () : Sem Unit) (fun _ s' => StepX Z s s' ∧ St c k sc σ env A X s' ∧ AccAt X a (out ++ ds.map g) s'.heap) E s' | .error e => cameBackBy (model c.prog c.w) A env E e s') s₂ := by
    refine comp_loop (σ := σ) (τ := τ) (f := fun d => [g d]) (Z := Z) (s₀ := s₀) (out := out) (turn2_1 elt t0 i0 t1 i1 scope pos I a env) w I0 (fun e => IX (e ▸ t.ok.locX)) (fun n cc m e => IX (e ▸ t.ok.cellX n cc m)) ?_ hS ha haS hA ?_ ?_ (kk_trans h0 (kk_trans k01 k12)) t₂ ac₂ (his _ (Kp.refl _)) ?_
    · intro x hx
      refine ⟨(hZ x hx).1, fun m => ?_, by simp [(hZ x hx).2]⟩
      rcases hfp x m with q | ⟨_, q⟩
      · exact ZI x hx q
      · exact q rfl (hZ x hx).2
    · intro d hd s₅ out' E' k5 t5 ac5 hl5
      refine wpAny_mono (body1_ok (b := true) (g := g d) rfl (fun _ => hE d hd) t5 (by simp [(hZ a ha).2]) haL haC ac5 (by rw [List.length_append] at hl5; omega)) (fun _ s₆ q => ⟨q.1.sub (fun x hx => by rw [List.mem_singleton.mp hx]; exact ha), hW d hd _ _ _ _ q.2.1, by simpa using q.2.2⟩) fun _ _ e => e
    · rw [flat_one]; exact hl
    · intro s₅ s₆ k5 x5 t5 ac5 st
      rw [flat_one] at ac5
      have hsub : ∀ x ∈ [I], x ∈ I :: X := by simp
      have off2 : ∀ h, Off (I :: X) X h := fun h x hx => .inl (by simp [hx])
      have kp6 := st.kpx
      have al6 : Live X s₆.heap := fun x hx => by
        obtain ⟨o, e⟩ := t5.live x (by simp [hx])
        exact ⟨o, kp6 x o (by simp; exact fun e => IX (e ▸ hx)) e⟩
      refine wpAny_pure ⟨?_, ⟨t.sc, t.ok, t.room, ?_, al6, ?_⟩, ?_⟩
      · obtain ⟨h₆, tk₆, e6, kk6⟩ := ((StepX.of (Y := I :: Z) (kk_trans k01 k12)).trans (x5.trans (st.sub (by simp))))
        refine ⟨h₆, tk₆, e6, fun x o nx e => kk6 x o (fun m => ?_) e⟩
        rcases List.mem_cons.mp m with rfl | m
        · rw [kk_kp k01 _ _ e] at I1; cases I1
        · exact nx m
      · exact ((t5.top.kpx (kp6.sub hsub)).off (off2 _))
      · exact (t5.fm.kpx kp6 hsub (by simp; exact fun e => IX (e ▸ t.ok.locX)) (fun n cc m => by simp; exact fun e => IX (e ▸ t.ok.cellX n cc m))).off (off2 _)
      · obtain ⟨ys, ⟨n, e⟩, r⟩ := ac5
        exact ⟨ys, ⟨n, kp6 _ _ (by simp; exact fun q => ZI a ha q) e⟩, (r.kpx (kp6.sub hsub)).off (off2 _)⟩
  refine wpAny_bind (wpAny_runOwn (start_at (codeAny_mono loop fun r s' h => ?_) (w.self 0 s₂ _ _ (his _ (Kp.refl _)) (codeAny_mono loop fun r s' h => ?_))))
  · cases r with
    | ok f => exact h
    | error e => exact h
  · cases r with
    | ok f => exact h
    | error e => exact h
end
end Mine
end

section
open PySem PySem.W PyProof.Rows
set_option Elab.async false
set_option linter.unusedVariables false
namespace Mine
section
variable {c : Cx} {k : Nat} {sc : Scope} {σ : List (Str × D)} {pos : Pos} {env : Env} {A : Around} {X : List Addr} {E : Value → Shared → Prop}
/-- the same, at one state -/
noncomputable def SrcAt (c : Cx) (A : Around) (X : List Addr) (s : Shared) (E : Value → Shared → Prop) (iter : Expr) (env : Env) (own : Bool) (ds : List D) : Prop :=
  wpAny (model c.prog c.w) A (eval iter env) (fun v s₁ => Keeps s s₁ ∧ ∀ E', wpAny (model c.prog c.w) A (pyIter v) (fun it s₂ => ∃ I, it = .ref I ∧ ItGo c A X s₁ own ds I s₂) E' s₁) E s
theorem slot_freshN {scope : Scope} {σc : List (Str × D)} {N Y : List Addr} {s₁ s₄ : Shared} {C : Addr} (H : Inner c k sc scope σc env A X N Y s₁ C s₄) {tn : List Str} (hT : ∀ x ∈ tn, scope.names.lookup x = some .local ∨ scope.names.lookup x = some .cell) :
    ∀ b ∈ tn.flatMap (slotOf (cenvOf env scope sc C)), s₁.heap.get? b = none ∧ b ∉ N ∧ b ∈ Y := by
  intro b hb
  obtain ⟨x, hx, hb⟩ := List.mem_flatMap.mp hb
  exact slot_fresh H (target := .Name x default) (fun y hy => by rw [List.mem_singleton.mp hy]; exact hT x hx) b hb
set_option maxHeartbeats 1600000 in
theorem comp_coreG {elt target iter : Expr} {ifs : List Expr} {rest : List Comprehension} {bodyF : Addr → Env → Sem Unit} {tn : List Str} {scope : Scope} {own : Bool} {ds : List D} {σc : List (Str × D)} {τ : D → List (Str × D)} {f : D → List D} {ppos : Pos} {use : Option (Value → Sem Unit)} {Q : Value → Shared → Prop} {s : Shared}
    (t : St c k sc σ env A X s) (hsrc : SrcAt c A X s E iter env own ds) (hkind : scope.kind = .function) (hnd : (scope.names.map (·.1)).Nodup)
    (hfree : ∀ x, (x, NameKind.free) ∈ scope.names → sc.names.lookup x = some .cell ∨ sc.names.lookup x = some .free) (hσ : ∀ x d, σc.lookup x = some d → σ.lookup x = some d ∧ scope.names.lookup x = some .free)
    (hturn : ∀ I a env, compTurn (.ListComp elt (⟨target, iter, ifs, 0⟩ :: rest) scope pos) 0 (.ref I) (.ref a) env = (standAt iter.pos >>= fun _ => pyNext (.ref I) >>= fun r => match r with
      | none => pure (.done .next)
      | some v => letOwnedTupleGo target (.ref I) v >>= fun _ => assign target env v >>= fun _ => bodyF a env >>= fun _ => again (.compLoop (.ListComp elt (⟨target, iter, ifs, 0⟩ :: rest) scope pos) 0 (.ref I) (.ref a) env)))
    (hT : ∀ x ∈ tn, scope.names.lookup x = some .local ∨ scope.names.lookup x = some .cell) (hTn : ∀ x ∈ tnames target, x ∈ tn) (hlen : (ds.flatMap f).length ≤ 1000)
    (hA : ∀ d ∈ ds, Asg c k (rel scope sc) target d σc (τ d)) 
    (hB : ∀ d ∈ ds, ∀ cenv A Y s₁ s a out E, Keeps s₁ s → St c k (rel scope sc) (τ d) cenv A Y s → (∀ x ∈ a :: tn.flatMap (slotOf cenv), s₁.heap.get? x = none ∧ x ∈ Y) → a ∉ tn.flatMap (slotOf cenv) → a ≠ cenv.locals → (∀ n cc, (n, cc) ∈ cenv.cells → cc ≠ a) → AccAt Y a out s.heap → (out ++ f d).length ≤ 1000 →
      wpAny (model c.prog c.w) A (bodyF a cenv) (fun _ s' => StepX (a :: tn.flatMap (slotOf cenv)) s s' ∧ St c k (rel scope sc) σc cenv A Y s' ∧ AccAt Y a (out ++ f d) s'.heap) E s)
    (hs : ∀ x, foldedSetIterable iter env x = pure x)
    (hEnd : ∀ C a s', CompEnd X s (ds.flatMap f) C a s' → compPost (model c.prog c.w) A E use Q (.ref a) C (.ok .next) s') :
    wpAny (model c.prog c.w) A (comprehension (.ListComp elt (⟨target, iter, ifs, 0⟩ :: rest) scope pos) scope env ppos (newList []) false (eval iter env) use) Q E s := by
  have hf' : ∀ n, (n, NameKind.free) ∈ scope.names → ∃ cc, env.cells.lookup n = some cc := fun n hm => t.ok.has n (by unfold Env.kindOf; rw [t.sc]; exact hfree n hm)
  refine wpAny_comprehension_free (g := ⟨target, iter, ifs, 0⟩) (gs := rest) rfl hs (clos_eq hf') hkind (fun x hx hl => ?_) (wpAny_mono hsrc (fun v s₁ h₁ => ?_) fun _ _ e => e)
  · cases q : scope.names.lookup x.1 with
    | none =>
      exfalso
      have : ∀ (l : List (Str × NameKind)) (x : Str × NameKind), x ∈ l → l.lookup x.1 ≠ none := by
        intro l; induction l with
        | nil => intro x hx; simp at hx
        | cons p l ih =>
          intro x hx
          rw [List.lookup_cons]
          by_cases e : x.1 = p.1
          · simp [e]
          · have hb : (x.1 == p.1) = false := beq_eq_false_iff_ne.mpr e
            rw [hb]
            rcases List.mem_cons.mp hx with r | r
            · exact absurd (congrArg Prod.fst r) e
            · exact ih x r
      exact this _ x hx q
    | some kd =>
      have := kind_one hnd (mem_of_lookup q) (show (x.1, x.2) ∈ scope.names from hx)
      rw [this, hl]
  · obtain ⟨k01, hit⟩ := h₁
    have t₁ := t.kp k01
    refine wpAny_mono (hit E) (fun it s₂ h₂ => ?_) fun _ _ e => e
    obtain ⟨I, rfl, hI, k12, ⟨oI, eI⟩, hgo⟩ := h₂
    refine wpAny_newObj_type ?_
    generalize hs3 : ({ s₂ with heap := s₂.heap.push { cls := .type "list", data := .seq ([] : List Value).toArray } } : Shared) = s₃
    have k23 : Keeps s₂ s₃ := by rw [← hs3]; exact kk_push _ _
    have ea : s₃.heap.get? s₂.heap.objs.size = some { cls := .type "list", data := .seq ([] : List Value).toArray } := by rw [← hs3]; exact Heap.get?_push_size _ rfl
    generalize hav : s₂.heap.objs.size = a at ea
    have a2 : s₂.heap.get? a = none := by rw [← hav]; exact get_size _
    have I1 : s₁.heap.get? I = none := by rw [hI]; exact get_size _
    have a1 : s₁.heap.get? a = none := by
      cases q : s₁.heap.get? a with
      | none => rfl
      | some o => rw [kk_kp k12 a o q] at a2; cases a2
    have aI : a ≠ I := fun q => by rw [q, eI] at a2; cases a2
    refine comp_enter t₁ hkind hnd hfree hσ (kk_trans k12 k23) (N := [I, a]) (fun b hb => ?_) fun Y s₄ k34 H hCl => ?_
    · rcases List.mem_cons.mp hb with rfl | hb
      · exact ⟨I1, oI, kk_kp k23 _ _ eI⟩
      · rw [List.mem_singleton.mp hb]; exact ⟨a1, _, ea⟩
    · generalize hC : s₃.heap.objs.size = C at H hCl
      rw [rel_eq t.sc]
      show codeAny (model c.prog c.w) A (.compStart (.ListComp elt (⟨target, iter, ifs, 0⟩ :: rest) scope pos) 0 (.ref I) (.ref a) (cenvOf env scope sc C)) _ s₄
      have IY : I ∈ Y := H.subN I (by simp)
      have aY : a ∈ Y := H.subN a (by simp)
      obtain ⟨fp, IS, hfp, w, his⟩ := hgo Y IY H.off
      have k14 : Keeps s₁ s₄ := kk_trans k12 (kk_trans k23 k34)
      have is0 : IS 0 s₄.heap := his _ ((kk_kp k23).trans (kk_kp k34))
      have CN : C ≠ I ∧ C ≠ a := by have := H.notN; simp at this; exact this
      have sf := slot_freshN H hT
      have acc0 : AccAt Y a [] s₄.heap := ⟨[], ⟨0, kk_kp k34 _ _ ea⟩, .nil⟩
      have cN : ∀ n cc, (n, cc) ∈ (cenvOf env scope sc C).cells → cc ≠ I ∧ cc ≠ a := fun n cc hm => by have := H.cellN n cc hm; simp at this; exact this
      have loop : codeAny (model c.prog c.w) A (.compLoop (.ListComp elt (⟨target, iter, ifs, 0⟩ :: rest) scope pos) 0 (.ref I) (.ref a) (cenvOf env scope sc C)) (compPost (model c.prog c.w) A E use Q (.ref a) C) s₄ := by
        refine comp_loop (σ := σc) (τ := τ) (f := f) (Z := a :: tn.flatMap (slotOf (cenvOf env scope sc C))) (s₀ := s₁) (out := []) (hturn I a _) w I1 CN.1 (fun n cc hm => (cN n cc hm).1) ?_ (fun x hx => ?_) (by simp) (fun m => ?_) hA ?_ (by simpa using hlen) k14 H.st acc0 is0 ?_
        · intro x hx
          have fpno : s₁.heap.get? x = none → x ≠ I → x ∉ fp := fun e n m => by
            rcases hfp x m with q | ⟨⟨o, q⟩, _⟩
            · exact n q
            · rw [e] at q; cases q
          rcases List.mem_cons.mp hx with rfl | hx
          · exact ⟨a1, fpno a1 aI, aY⟩
          · obtain ⟨q1, q2, q3⟩ := sf x hx
            exact ⟨q1, fpno q1 fun e => q2 (by simp [e]), q3⟩
        · obtain ⟨y, hy, hx⟩ := slots_names hx
          exact List.mem_cons_of_mem _ (List.mem_flatMap.mpr ⟨y, hTn y hy, hx⟩)
        · obtain ⟨y, hy, m⟩ := slots_names m
          exact (sf a (List.mem_flatMap.mpr ⟨y, hTn y hy, m⟩)).2.1 (by simp)
        · intro d hd s₅ out E' k5 t5 ac5 hl5
          refine hB d hd _ A Y s₁ s₅ a out E' k5 t5 (fun x hx => ?_) (fun m => (sf a m).2.1 (by simp)) CN.2.symm (fun n cc hm => (cN n cc hm).2) ac5 hl5
          rcases List.mem_cons.mp hx with rfl | hx
          · exact ⟨a1, aY⟩
          · exact ⟨(sf x hx).1, (sf x hx).2.2⟩
        · intro s₅ s₆ k5 _ t5 ac5 st
          refine hEnd C a s₆ ⟨kk_trans k01 (StepX.keeps k5 st fun x hx => by rw [List.mem_singleton.mp hx]; exact I1), ?_, ?_, ?_, CN.2.symm, ?_⟩
          · obtain ⟨m, ⟨o, es, ep, e, q⟩, _⟩ := t5.fm.ns
            exact ⟨m, o, es, ep, st.kpx _ _ (by simpa using CN.1) e, q⟩
          · cases q : s.heap.get? C with
            | none => rfl
            | some o => have := kk_kp k01 C o q; rw [H.fresh] at this; cases this
          · cases q : s.heap.get? a with
            | none => rfl
            | some o => have := kk_kp k01 a o q; rw [a1] at this; cases this
          · obtain ⟨ys, ⟨n, e⟩, r⟩ := ac5
            rw [List.nil_append] at r
            refine ⟨ys, ⟨n, st.kpx _ _ (by simpa using aI) e⟩, ?_⟩
            have r6 : RdL Y s₆.heap ys (ds.flatMap f) := r.kpx (st.kpx.sub fun x hx => by rw [List.mem_singleton.mp hx]; exact IY)
            refine r6.off fun x hx => .inl ?_
            rcases List.mem_cons.mp hx with rfl | hx
            · exact H.inC
            · exact H.subX x hx
      exact codeAny_compStart_list loop (w.self 0 s₄ _ _ is0 loop)
end
end Mine
end

section
open PySem PySem.W PyProof.Rows
set_option Elab.async false
set_option linter.unusedVariables false
namespace Mine
/-- what a comprehension sees of the names around it -/
noncomputable def res (scope : Scope) (σ : List (Str × D)) : List (Str × D) := σ.filter fun p => scope.names.lookup p.1 == some .free
theorem filter_lookup (p : Str → Bool) (x : Str) : ∀ σ : List (Str × D), (σ.filter fun q => p q.1).lookup x = if p x then σ.lookup x else none
  | [] => by simp
  | (y, d) :: σ => by
    have ih := filter_lookup p x σ
    rw [List.filter_cons]
    by_cases hx : x = y
    · subst hx
      by_cases hp : p x = true
      · simp [hp]
      · rw [if_neg hp, ih, if_neg hp, if_neg hp]
    · have hb : (x == y) = false := beq_eq_false_iff_ne.mpr hx
      split
      · rw [List.lookup_cons, hb, List.lookup_cons, hb]; exact ih
      · rw [List.lookup_cons, hb]; exact ih
theorem res_lookup {scope : Scope} {σ : List (Str × D)} (x : Str) : (res scope σ).lookup x = if scope.names.lookup x == some .free then σ.lookup x else none := filter_lookup (fun y => scope.names.lookup y == some .free) x σ
theorem res_some {scope : Scope} {σ : List (Str × D)} (x : Str) (d : D) (h : (res scope σ).lookup x = some d) : σ.lookup x = some d ∧ scope.names.lookup x = some .free := by
  rw [res_lookup] at h
  split at h
  · rename_i q; exact ⟨h, by simpa using q⟩
  · cases h
theorem res_none {scope : Scope} {σ : List (Str × D)} {x : Str} (h : scope.names.lookup x = some .local ∨ scope.names.lookup x = some .cell) : (res scope σ).lookup x = none := by
  rw [res_lookup]
  rcases h with h | h <;> rw [h] <;> rfl

noncomputable def compOk (scope sc : Scope) (tn : List Str) : Bool :=
  scope.kind == .function && decide (scope.names.map (·.1)).Nodup && (scope.names.all fun p => p.2 != .free || sc.names.lookup p.1 == some .cell || sc.names.lookup p.1 == some .free) &&
    tn.all fun x => scope.names.lookup x == some .local || scope.names.lookup x == some .cell
theorem compOk_out {scope sc : Scope} {tn : List Str} (h : compOk scope sc tn = true) : scope.kind = .function ∧ (scope.names.map (·.1)).Nodup ∧ (∀ x, (x, NameKind.free) ∈ scope.names → sc.names.lookup x = some .cell ∨ sc.names.lookup x = some .free) ∧
    ∀ x ∈ tn, scope.names.lookup x = some .local ∨ scope.names.lookup x = some .cell := by
  unfold compOk at h
  simp only [Bool.and_eq_true] at h
  obtain ⟨⟨⟨h1, h2⟩, h3⟩, h4⟩ := h
  refine ⟨by simpa using h1, of_decide_eq_true h2, fun x hx => ?_, fun x hx => ?_⟩
  · have := List.all_eq_true.mp h3 _ hx
    simpa using this
  · have := List.all_eq_true.mp h4 _ hx
    simpa using this
noncomputable def NotSet (e : Expr) : Prop := ∀ env x, foldedSetIterable e env x = pure x
section
variable {c : Cx} {k : Nat} {sc : Scope} {σ : List (Str × D)} {pos : Pos}
theorem post_none {env : Env} {A : Around} {X : List Addr} {E : Value → Shared → Prop} {s : Shared} {out : List D} {C a : Addr} {s' : Shared} (t : Live X s.heap) (h : CompEnd X s out C a s') : compPost (model c.prog c.w) A E none (VP X (.lst out) s) (.ref a) C (.ok .next) s' := by
  obtain ⟨kp, ⟨m, n⟩, hC, ha, hne, ys, ⟨nn, pl⟩, r⟩ := h
  refine ⟨m, n, fun h' hs' => ?_⟩
  have kC : KpX [C] s'.heap h' := fun b o nb e => hs'.extBut b o (fun q => nb (by rw [q]; simp)) e
  refine ⟨StepX.keeps kp ⟨h', _, rfl, kC⟩ (fun x hx => by rw [List.mem_singleton.mp hx]; exact hC), ?_⟩
  refine .lst (t.fresh ha) (kC _ _ (by simpa using hne) pl) ?_
  exact (r.kpx (kC.sub (by simp))).off fun x hx => .inl (by simp [hx])

/-- one clause, one name -/
theorem core1L {elt iter : Expr} {x : Str} {px : Pos} {ifs : List Expr} {scope : Scope} {own : Bool} {ds : List D} {f : D → List D} (ok : compOk scope sc [x] = true) (hs : NotSet iter)
    (hB : ∀ d ∈ ds, ∃ b g, Tests c k (rel scope sc) ((x, d) :: res scope σ) ifs b ∧ (b = true → Ev c k (rel scope sc) ((x, d) :: res scope σ) elt g) ∧ f d = if b then [g] else []) (hlen : (ds.flatMap f).length ≤ 1000)
    {env : Env} {A : Around} {X : List Addr} {E : Value → Shared → Prop} {s : Shared} {ppos : Pos} {use : Option (Value → Sem Unit)} {Q : Value → Shared → Prop} (t : St c k sc σ env A X s) (hsrc : SrcAt c A X s E iter env own ds)
    (hEnd : ∀ C a s', CompEnd X s (ds.flatMap f) C a s' → compPost (model c.prog c.w) A E use Q (.ref a) C (.ok .next) s') :
    wpAny (model c.prog c.w) A (comprehension (.ListComp elt [⟨.Name x px, iter, ifs, 0⟩] scope pos) scope env ppos (newList []) false (eval iter env) use) Q E s := by
  obtain ⟨o1, o2, o3, o4⟩ := compOk_out ok
  have hx := o4 x (by simp)
  have kx : (rel scope sc).names.lookup x = some .local ∨ (rel scope sc).names.lookup x = some .cell := by
    rw [rel_get]; rcases hx with h | h <;> rw [h]
    · exact .inl rfl
    · exact .inr rfl
  refine comp_coreG (bodyF := body1 elt ifs) (tn := [x]) (σc := res scope σ) (τ := fun d => (x, d) :: res scope σ) (f := f) t hsrc o1 o2 o3 res_some (fun I a env => turn1 elt (.Name x px) iter ifs scope pos I a env) o4 (by simp [tnames]) hlen
    (fun d _ => asg_name kx) ?_ (hs env) hEnd
  intro d hd cenv A' Y s₁ s₅ a out E' k5 t5 hZ haS haL haC ac5 hl5
  obtain ⟨b, g, ht, he, ef⟩ := hB d hd
  refine wpAny_mono (body1_ok ht he t5 (hZ a (by simp)).2 haL haC ac5 (by rw [List.length_append] at hl5; omega)) (fun _ s₆ q => ⟨q.1.sub (by simp), q.2.1.drop (res_none hx), by rw [ef]; exact q.2.2⟩) fun _ _ e => e
theorem core1n {elt iter : Expr} {x : Str} {px : Pos} {ifs : List Expr} {scope : Scope} {own : Bool} {ds : List D} {f : D → List D} (ok : compOk scope sc [x] = true) (hs : NotSet iter) (hsrc : Src c k sc σ iter own ds)
    (hB : ∀ d ∈ ds, ∃ b g, Tests c k (rel scope sc) ((x, d) :: res scope σ) ifs b ∧ (b = true → Ev c k (rel scope sc) ((x, d) :: res scope σ) elt g) ∧ f d = if b then [g] else []) (hlen : (ds.flatMap f).length ≤ 1000)
    {env : Env} {A : Around} {X : List Addr} {E : Value → Shared → Prop} {s : Shared} {ppos : Pos} {use : Option (Value → Sem Unit)} {Q : Value → Shared → Prop} (t : St c k sc σ env A X s)
    (hEnd : ∀ C a s', CompEnd X s (ds.flatMap f) C a s' → compPost (model c.prog c.w) A E use Q (.ref a) C (.ok .next) s') :
    wpAny (model c.prog c.w) A (comprehension (.ListComp elt [⟨.Name x px, iter, ifs, 0⟩] scope pos) scope env ppos (newList []) false (eval iter env) use) Q E s :=
  core1L ok hs hB hlen t (hsrc env A X s E t) hEnd
theorem Ev.comp1 {elt iter : Expr} {x : Str} {px : Pos} {ifs : List Expr} {scope : Scope} {own : Bool} {ds : List D} {f : D → List D} (ok : compOk scope sc [x] = true) (hs : NotSet iter) (hsrc : Src c k sc σ iter own ds)
    (hB : ∀ d ∈ ds, ∃ b g, Tests c k (rel scope sc) ((x, d) :: res scope σ) ifs b ∧ (b = true → Ev c k (rel scope sc) ((x, d) :: res scope σ) elt g) ∧ f d = if b then [g] else []) (hlen : (ds.flatMap f).length ≤ 1000) :
    Ev c k sc σ (.ListComp elt [⟨.Name x px, iter, ifs, 0⟩] scope pos) (.lst (ds.flatMap f)) := by
  intro env A X s E t
  rw [eval_ListComp]
  exact core1n (f := f) ok hs hsrc hB hlen t fun C a s' h => post_none (env := env) t.live h
/-- without a test -/
theorem Ev.compMap {elt iter : Expr} {x : Str} {px : Pos} {scope : Scope} {own : Bool} {ds : List D} {g : D → D} (ok : compOk scope sc [x] = true) (hs : NotSet iter) (hsrc : Src c k sc σ iter own ds)
    (hB : ∀ d ∈ ds, Ev c k (rel scope sc) ((x, d) :: res scope σ) elt (g d)) (hlen : ds.length ≤ 1000) :
    Ev c k sc σ (.ListComp elt [⟨.Name x px, iter, [], 0⟩] scope pos) (.lst (ds.map g)) := by
  have := Ev.comp1 (pos := pos) (px := px) (f := fun d => [g d]) ok hs hsrc (ifs := []) (elt := elt) (fun d hd => ⟨true, g d, rfl, fun _ => hB d hd, rfl⟩) (by rw [flat_one]; simpa using hlen)
  rwa [flat_one] at this
/-- one clause, two names -/
theorem Ev.compPair {elt iter : Expr} {x y : Str} {px py pt : Pos} {n : Nat} {scope : Scope} {ds : List (D × D)} {g : D × D → D} (ok : compOk scope sc [x, y] = true) (hxy : x ≠ y) (hs : NotSet iter) (hsrc : Src c k sc σ iter false (ds.map fun p => D.tup [p.1, p.2]))
    (hB : ∀ p ∈ ds, Ev c k (rel scope sc) ((y, p.2) :: (x, p.1) :: res scope σ) elt (g p)) (hlen : ds.length ≤ 1000) :
    Ev c k sc σ (.ListComp elt [⟨.Tuple [.Name x px, .Name y py] n pt, iter, [], 0⟩] scope pos) (.lst (ds.map g)) := by
  intro env A X s E t
  rw [eval_ListComp]
  obtain ⟨o1, o2, o3, o4⟩ := compOk_out ok
  have hk : ∀ z ∈ [x, y], (rel scope sc).names.lookup z = some .local ∨ (rel scope sc).names.lookup z = some .cell := fun z hz => by
    rw [rel_get]; rcases o4 z hz with h | h <;> rw [h]
    · exact .inl rfl
    · exact .inr rfl
  have key : ∀ d ∈ ds.map (fun p => D.tup [p.1, p.2]), ∃ p ∈ ds, d = D.tup [p.1, p.2] := fun d hd => by obtain ⟨p, hp, rfl⟩ := List.mem_map.mp hd; exact ⟨p, hp, rfl⟩
  let un : D → D × D := fun d => match d with | .tup [a, b] => (a, b) | _ => (.none, .none)
  have fl : (ds.map fun p => D.tup [p.1, p.2]).flatMap (fun d => [g (un d)]) = ds.map g := by rw [flat_one, List.map_map]; rfl
  have := comp_coreG (c := c) (k := k) (sc := sc) (σ := σ) (pos := pos) (E := E) (elt := elt) (target := .Tuple [.Name x px, .Name y py] n pt) (iter := iter) (ifs := []) (rest := []) (bodyF := body1 elt []) (tn := [x, y]) (σc := res scope σ) (τ := fun d => (y, (un d).2) :: (x, (un d).1) :: res scope σ) (f := fun d => [g (un d)]) (ppos := firstIterPos [⟨.Tuple [.Name x px, .Name y py] n pt, iter, [], 0⟩] pos) (use := none) (Q := VP X (.lst (ds.map g)) s) t (hsrc env A X s E t) o1 o2 o3 res_some
    (fun I a env => turn1 elt _ iter [] scope pos I a env) o4 (by simp [tnames]) (by rw [fl]; simpa using hlen) ?_ ?_ (hs env) (fun C a s' h => post_none (env := env) t.live (by rw [fl] at h; exact h))
  · exact this
  · intro d hd
    obtain ⟨p, _, rfl⟩ := key d hd
    exact asg_tup (ns := [(x, px), (y, py)]) (ds := [p.1, p.2]) rfl (fun m hm => by
      rcases List.mem_cons.mp hm with rfl | hm
      · exact hk x (by simp)
      · rw [List.mem_singleton.mp hm]; exact hk y (by simp))
  · intro d hd cenv A' Y s₁ s₅ a out E' k5 t5 hZ haS haL haC ac5 hl5
    obtain ⟨p, hp, rfl⟩ := key d hd
    refine wpAny_mono (body1_ok (b := true) (g := g p) rfl (fun _ => hB p hp) t5 (hZ a (by simp)).2 haL haC ac5 (by rw [List.length_append] at hl5; omega)) (fun _ s₆ q => ⟨q.1.sub (by simp), ?_, q.2.2⟩) fun _ _ e => e
    exact (q.2.1.drop (by rw [lookup_tl (Ne.symm hxy)]; exact res_none (o4 y (by simp)))).drop (res_none (o4 x (by simp)))
/-- two clauses -/
theorem core2n {elt i0 i1 : Expr} {x y : Str} {px py : Pos} {scope : Scope} {ds : List D} {es : D → List D} {g : D → D → D} (ok : compOk scope sc [x, y] = true) (hxy : x ≠ y) (hs0 : NotSet i0) (hs1 : NotSet i1) (hsrc : Src c k sc σ i0 false ds)
    (hin : ∀ d ∈ ds, Src c k (rel scope sc) ((x, d) :: res scope σ) i1 false (es d)) (hB : ∀ d ∈ ds, ∀ e ∈ es d, Ev c k (rel scope sc) ((y, e) :: (x, d) :: res scope σ) elt (g d e)) (hlen : (ds.flatMap fun d => (es d).map (g d)).length ≤ 1000)
    {env : Env} {A : Around} {X : List Addr} {E : Value → Shared → Prop} {s : Shared} {ppos : Pos} {use : Option (Value → Sem Unit)} {Q : Value → Shared → Prop} (t : St c k sc σ env A X s)
    (hEnd : ∀ C a s', CompEnd X s (ds.flatMap fun d => (es d).map (g d)) C a s' → compPost (model c.prog c.w) A E use Q (.ref a) C (.ok .next) s') :
    wpAny (model c.prog c.w) A (comprehension (.ListComp elt [⟨.Name x px, i0, [], 0⟩, ⟨.Name y py, i1, [], 0⟩] scope pos) scope env ppos (newList []) false (eval i0 env) use) Q E s := by
  obtain ⟨o1, o2, o3, o4⟩ := compOk_out ok
  have hk : ∀ z ∈ [x, y], (rel scope sc).names.lookup z = some .local ∨ (rel scope sc).names.lookup z = some .cell := fun z hz => by
    rw [rel_get]; rcases o4 z hz with h | h <;> rw [h]
    · exact .inl rfl
    · exact .inr rfl
  refine comp_coreG (bodyF := body2 elt (.Name x px) i0 (.Name y py) i1 scope pos) (tn := [x, y]) (σc := res scope σ) (τ := fun d => (x, d) :: res scope σ) (f := fun d => (es d).map (g d)) t (hsrc env A X s E t) o1 o2 o3 res_some (fun I a env => turn2_0 elt (.Name x px) i0 (.Name y py) i1 scope pos I a env) o4 (by simp [tnames]) hlen
    (fun d _ => asg_name (hk x (by simp))) ?_ (hs0 env) hEnd
  intro d hd cenv A' Y s₁ s₅ a out E' k5 t5 hZ haS haL haC ac5 hl5
  have hdrop : ∀ e ∈ es d, ∀ env A Y s, St c k (rel scope sc) ((y, e) :: (x, d) :: res scope σ) env A Y s → St c k (rel scope sc) ((x, d) :: res scope σ) env A Y s := fun e _ env A Y s t => t.drop (by rw [lookup_tl (Ne.symm hxy)]; exact res_none (o4 y (by simp)))
  refine wpAny_mono (body2_ok (τ := fun e => (y, e) :: (x, d) :: res scope σ) (g := g d) (Z := a :: [x, y].flatMap (slotOf cenv)) t5 (hin d hd) k5 hZ (fun z hz => ?_) (by simp) (fun m => ?_) haL haC (fun e _ => asg_name (hk y (by simp))) hdrop (hB d hd) ac5 hl5 (hs1 cenv)) (fun _ s₆ q => ⟨q.1, q.2.1.drop (res_none (o4 x (by simp))), q.2.2⟩) fun _ _ e => e
  · exact List.mem_cons_of_mem _ (List.mem_flatMap.mpr ⟨y, by simp, hz⟩)
  · exact haS (List.mem_flatMap.mpr ⟨y, by simp, m⟩)
theorem Ev.comp2 {elt i0 i1 : Expr} {x y : Str} {px py : Pos} {scope : Scope} {ds : List D} {es : D → List D} {g : D → D → D} (ok : compOk scope sc [x, y] = true) (hxy : x ≠ y) (hs0 : NotSet i0) (hs1 : NotSet i1) (hsrc : Src c k sc σ i0 false ds)
    (hin : ∀ d ∈ ds, Src c k (rel scope sc) ((x, d) :: res scope σ) i1 false (es d)) (hB : ∀ d ∈ ds, ∀ e ∈ es d, Ev c k (rel scope sc) ((y, e) :: (x, d) :: res scope σ) elt (g d e)) (hlen : (ds.flatMap fun d => (es d).map (g d)).length ≤ 1000) :
    Ev c k sc σ (.ListComp elt [⟨.Name x px, i0, [], 0⟩, ⟨.Name y py, i1, [], 0⟩] scope pos) (.lst (ds.flatMap fun d => (es d).map (g d))) := by
  intro env A X s E t
  rw [eval_ListComp]
  exact core2n ok hxy hs0 hs1 hsrc hin hB hlen t fun C a s' h => post_none (env := env) t.live h
end
end Mine
end

section
open PySem PySem.W PyProof.Rows
set_option Elab.async false
set_option linter.unusedVariables false
namespace Mine
/-- what a frame's statements may turn -/
noncomputable def mutS (env : Env) (oa : List Addr) : List Addr := env.locals :: (env.cells.map (·.2) ++ oa)
/-- the list that the frame fills -/
noncomputable def OwnIs (env : Env) (X oa : List Addr) (h : Heap) : Option (Str × List D) → Prop
  | none => True
  | some (x, out) => ∃ a, a ∈ oa ∧ env.kindOf x = some .local ∧ NsHas env h x (.ref a) ∧ AccAt X a out h
structure Fs (c : Cx) (k : Nat) (sc : Scope) (σ : List (Str × D)) (ow : Option (Str × List D)) (s₀ : Shared) (X₀ : List Addr) (env : Env) (A : Around) (X oa : List Addr) (s : Shared) : Prop where
  st : St c k sc σ env A X s
  kp : Keeps s₀ s
  cut : ∀ a ∈ X, a ∈ X₀ ∨ s₀.heap.get? a = none
  sub : ∀ a ∈ X₀, a ∈ X
  fresh : ∀ a ∈ mutS env oa, s₀.heap.get? a = none
  oaX : ∀ a ∈ oa, a ∈ X ∧ a ≠ env.locals ∧ ∀ n cc, (n, cc) ∈ env.cells → cc ≠ a
  own : OwnIs env X oa s.heap ow
  oa0 : ∀ a ∈ oa, a ∉ X₀
inductive Res where
  | next (σ : List (Str × D)) (ow : Option (Str × List D))
  | cont (σ : List (Str × D)) (ow : Option (Str × List D))
  | ret (d : D)
noncomputable def Done (c : Cx) (k : Nat) (sc : Scope) (r : Res) (s₀ : Shared) (X₀ : List Addr) (env : Env) (A : Around) (X oa : List Addr) (s : Shared) (f : Flow) (s' : Shared) : Prop :=
  match r with
  | .next σ ow => f = .next ∧ Fs c k sc σ ow s₀ X₀ env A X oa s' ∧ StepX (mutS env oa) s s'
  | .cont σ ow => f = .cont ∧ Fs c k sc σ ow s₀ X₀ env A X oa s' ∧ StepX (mutS env oa) s s'
  | .ret d => ∃ v, f = .ret v ∧ Keeps s₀ s' ∧ Rd X₀ s'.heap v d
noncomputable def Ex1 (c : Cx) (k : Nat) (sc : Scope) (σ : List (Str × D)) (ow : Option (Str × List D)) (st : Stmt) (r : Res) : Prop :=
  ∀ s₀ X₀ env A X oa s E, Fs c k sc σ ow s₀ X₀ env A X oa s → wpAny (model c.prog c.w) A (exec st env) (Done c k sc r s₀ X₀ env A X oa s) E s
noncomputable def Ex (c : Cx) (k : Nat) (sc : Scope) (σ : List (Str × D)) (ow : Option (Str × List D)) (ss : List Stmt) (r : Res) : Prop :=
  ∀ s₀ X₀ env A X oa s E, Fs c k sc σ ow s₀ X₀ env A X oa s → wpAny (model c.prog c.w) A (execs ss env) (Done c k sc r s₀ X₀ env A X oa s) E s
/-- a value, a test in a frame -/
noncomputable def EvF (c : Cx) (k : Nat) (sc : Scope) (σ : List (Str × D)) (ow : Option (Str × List D)) (e : Expr) (d : D) : Prop :=
  ∀ s₀ X₀ env A X oa s E, Fs c k sc σ ow s₀ X₀ env A X oa s → wpAny (model c.prog c.w) A (eval e env) (VP X d s) E s
noncomputable def EvBF (c : Cx) (k : Nat) (sc : Scope) (σ : List (Str × D)) (ow : Option (Str × List D)) (e : Expr) (b : Bool) : Prop :=
  ∀ s₀ X₀ env A X oa s E, Fs c k sc σ ow s₀ X₀ env A X oa s → wpAny (model c.prog c.w) A (isTrue e env (eval e env)) (fun b' s' => b' = b ∧ Keeps s s') E s
section
variable {c : Cx} {k : Nat} {sc : Scope} {σ σ' : List (Str × D)} {ow ow' : Option (Str × List D)} {pos : Pos} {s₀ : Shared} {X₀ : List Addr} {env : Env} {A : Around} {X oa : List Addr} {s s' : Shared} {E : Value → Shared → Prop} {r : Res}
theorem OwnIs.kp {h h' : Heap} (q : OwnIs env X oa h ow) (k : Kp h h') : OwnIs env X oa h' ow := by
  cases ow with
  | none => trivial
  | some p => obtain ⟨a, q1, q2, q3, q4⟩ := q; exact ⟨a, q1, q2, q3.kp k, q4.kpx (k.x []) (by simp) (by simp)⟩
theorem Fs.keeps (f : Fs c k sc σ ow s₀ X₀ env A X oa s) (kp : Keeps s s') : Fs c k sc σ ow s₀ X₀ env A X oa s' :=
  ⟨f.st.kp kp, kk_trans f.kp kp, f.cut, f.sub, f.fresh, f.oaX, f.own.kp (kk_kp kp), f.oa0⟩
theorem EvF.of {e : Expr} {d : D} (h : Ev c k sc σ e d) : EvF c k sc σ ow e d := fun s₀ X₀ env A X oa s E f => h env A X s E f.st
theorem EvBF.of {e : Expr} {b : Bool} (h : EvB c k sc σ e b) : EvBF c k sc σ ow e b := fun s₀ X₀ env A X oa s E f => h env A X s E f.st
theorem EvBF.cmp {l r : Expr} {op : CmpOp} {a b : D} {z : Bool} (hl : EvF c k sc σ ow l a) (hr : Ev c k sc σ r b) (ho : Op2 c k (compareOp op) a b (.bool z)) (hm : behindInMarks op r = false := by with_unfolding_all rfl) : EvBF c k sc σ ow (.Compare l [op] [r] pos) z := by
  intro s₀ X₀ env A X oa s E f
  refine wpAny_isTrue_Compare1 (wpAny_mono (hl s₀ X₀ env A X oa s E f) (fun v s₁ h₁ => ?_) fun _ _ e => e) hm
  have t₁ := f.st.kp h₁.1
  refine wpAny_mono (hr env A X s₁ E t₁) (fun u s₂ h₂ => ?_) fun _ _ e => e
  have t₂ := t₁.kp h₂.1
  refine wpAny_mono (ho A X s₂ E v u f.st.room t₂.top t₂.live (h₁.2.kp (kk_kp h₂.1)) h₂.2) (fun y s₃ q => ?_) fun _ _ e => e
  obtain ⟨q1, q2⟩ := q
  cases q2
  exact wpAny_truthy_bool ⟨rfl, kk_trans (kk_trans h₁.1 h₂.1) q1⟩
theorem EvBF.and2 {x y : Expr} {p q : Bool} (hx : EvBF c k sc σ ow x p) (hy : p = true → EvBF c k sc σ ow y q) : EvBF c k sc σ ow (.BoolOp .And [x, y] pos) (p && q) := by
  intro s₀ X₀ env A X oa s E f
  refine wpAny_isTrue_BoolOp (wpAny_allTrue_And_cons (wpAny_mono (hx s₀ X₀ env A X oa s E f) (fun b s₁ h₁ => ?_) fun _ _ e => e))
  obtain ⟨rfl, h₁⟩ := h₁
  cases b with
  | false => exact ⟨rfl, h₁⟩
  | true =>
    refine wpAny_allTrue_And_cons (wpAny_mono (hy rfl s₀ X₀ env A X oa s₁ E (f.keeps h₁)) (fun b s₂ h₂ => ?_) fun _ _ e => e)
    obtain ⟨rfl, h₂⟩ := h₂
    cases b with
    | false => exact ⟨rfl, kk_trans h₁ h₂⟩
    | true => exact wpAny_allTrue_And_nil ⟨rfl, kk_trans h₁ h₂⟩

/-- sequence -/
theorem Ex.nil : Ex c k sc σ ow [] (.next σ ow) := fun s₀ X₀ env A X oa s E f => wpAny_pure ⟨rfl, f, StepX.rfl' _ _⟩
theorem Done.after {r : Res} {f : Flow} {s₁ s₂ : Shared} (st : StepX (mutS env oa) s s₁) (h : Done c k sc r s₀ X₀ env A X oa s₁ f s₂) : Done c k sc r s₀ X₀ env A X oa s f s₂ := by
  cases r with
  | next σ ow => exact ⟨h.1, h.2.1, st.trans h.2.2⟩
  | cont σ ow => exact ⟨h.1, h.2.1, st.trans h.2.2⟩
  | ret d => exact h
theorem Ex.cons {st : Stmt} {ss : List Stmt} (h1 : Ex1 c k sc σ ow st (.next σ' ow')) (h2 : Ex c k sc σ' ow' ss r) : Ex c k sc σ ow (st :: ss) r := by
  intro s₀ X₀ env A X oa s E f
  refine wpAny_execs_cons (wpAny_mono (h1 s₀ X₀ env A X oa s E f) (fun fl s₁ h => ?_) fun _ _ e => e)
  obtain ⟨rfl, f₁, st₁⟩ := h
  exact wpAny_mono (h2 s₀ X₀ env A X oa s₁ E f₁) (fun fl s₂ h => h.after st₁) fun _ _ e => e
theorem Ex.ret {st : Stmt} {ss : List Stmt} {d : D} (h1 : Ex1 c k sc σ ow st (.ret d)) : Ex c k sc σ ow (st :: ss) (.ret d) := by
  intro s₀ X₀ env A X oa s E f
  refine wpAny_execs_cons (wpAny_mono (h1 s₀ X₀ env A X oa s E f) (fun fl s₁ h => ?_) fun _ _ e => e)
  obtain ⟨v, rfl, q⟩ := h
  exact ⟨v, rfl, q⟩
theorem Ex.cont {st : Stmt} {ss : List Stmt} (h1 : Ex1 c k sc σ ow st (.cont σ' ow')) : Ex c k sc σ ow (st :: ss) (.cont σ' ow') := by
  intro s₀ X₀ env A X oa s E f
  refine wpAny_execs_cons (wpAny_mono (h1 s₀ X₀ env A X oa s E f) (fun fl s₁ h => ?_) fun _ _ e => e)
  obtain ⟨rfl, q⟩ := h
  exact ⟨rfl, q⟩

/-- a store -/
noncomputable def ownName : Option (Str × List D) → List Str
  | none => []
  | some p => [p.1]
theorem slot_mut (x : Str) : ∀ a ∈ slotOf env x, a ∈ mutS env oa := by
  intro a ha
  unfold slotOf at ha
  split at ha
  · rw [List.mem_singleton.mp ha]; simp [mutS]
  · rw [Option.mem_toList] at ha
    exact List.mem_cons_of_mem _ (List.mem_append.mpr (.inl (List.mem_map.mpr ⟨_, mem_of_lookup ha, rfl⟩)))
theorem slot_oa (f : Fs c k sc σ ow s₀ X₀ env A X oa s) (x : Str) {a : Addr} (h : a ∈ oa) : a ∉ slotOf env x := by
  intro m
  unfold slotOf at m
  split at m
  · exact (f.oaX a h).2.1 (List.mem_singleton.mp m)
  · rw [Option.mem_toList] at m
    exact (f.oaX a h).2.2 _ _ (mem_of_lookup m) rfl
theorem Fs.stepped {S : List Addr} (f : Fs c k sc σ ow s₀ X₀ env A X oa s) (st : StepX S s s') (t : St c k sc σ' env A X s') (hS : ∀ a ∈ S, a ∈ mutS env oa) (hX : ∀ a ∈ S, a ∈ X) (ho : ∀ a ∈ oa, a ∉ S) (hn : ∀ y ∈ ownName ow, ∀ u, NsHas env s.heap y u → NsHas env s'.heap y u) : Fs c k sc σ' ow s₀ X₀ env A X oa s' := by
  refine ⟨t, StepX.keeps f.kp st fun x hx => f.fresh x (hS x hx), f.cut, f.sub, f.fresh, f.oaX, ?_, f.oa0⟩
  have own := f.own
  cases ow with
  | none => trivial
  | some p =>
    obtain ⟨a, q1, q2, q3, q4⟩ := own
    exact ⟨a, q1, q2, hn p.1 (by simp [ownName]) _ q3, q4.kpx st.kpx hX (ho a q1)⟩
theorem store_F {x : Str} {v : Value} {d : D} {Q : Unit → Shared → Prop} (f : Fs c k sc σ ow s₀ X₀ env A X oa s) (r : Rd X s.heap v d) (hx : sc.names.lookup x = some .local ∨ sc.names.lookup x = some .cell) (ho : x ∉ ownName ow)
    (h : ∀ s', StepX (mutS env oa) s s' → Fs c k sc ((x, d) :: σ) ow s₀ X₀ env A X oa s' → Q () s') : wpAny (model c.prog c.w) A (storeName env x v) Q E s := by
  refine store_of f.st r hx fun s' st t hn => h s' (st.sub (slot_mut x)) (f.stepped st t (slot_mut x) (slot_in f.st x) (fun a ha => slot_oa f x ha) fun y hy u q => hn y u (fun e => ho (e ▸ hy)) q)
theorem Ex1.assign {x : Str} {p : Pos} {e : Expr} {d : D} (he : EvF c k sc σ ow e d) (hx : sc.names.lookup x = some .local ∨ sc.names.lookup x = some .cell) (ho : x ∉ ownName ow)
    (hs : ∀ env, swapsWith e (some (.Name x p)) pos.line env = pure false) : Ex1 c k sc σ ow (.Assign [.Name x p] e pos) (.next ((x, d) :: σ) ow) := by
  intro s₀ X₀ env A X oa s E f
  refine wpAny_Assign_Name (wpAny_mono (he s₀ X₀ env A X oa s E f) (fun v s₁ h₁ => ?_) fun _ _ e => e) (hs env)
  exact store_F (f.keeps h₁.1) h₁.2 hx ho fun s₂ st f₂ => ⟨rfl, f₂, (StepX.of h₁.1).trans st⟩
theorem Ex1.return {e : Expr} {d : D} (he : EvF c k sc σ ow e d) : Ex1 c k sc σ ow (.Return (some e) pos) (.ret d) := by
  intro s₀ X₀ env A X oa s E f
  refine wpAny_Return_some (wpAny_mono (he s₀ X₀ env A X oa s E f) (fun v s₁ h₁ => ?_) fun _ _ e => e)
  exact ⟨v, rfl, kk_trans f.kp h₁.1, h₁.2.off fun a ha => .inl (f.sub a ha)⟩
theorem Ex1.if {test : Expr} {body orelse : List Stmt} {b : Bool} (ht : EvBF c k sc σ ow test b) (h1 : b = true → Ex c k sc σ ow body r) (h2 : b = false → Ex c k sc σ ow orelse r) : Ex1 c k sc σ ow (.If test body orelse pos) r := by
  intro s₀ X₀ env A X oa s E f
  refine wpAny_If (wpAny_mono (ht s₀ X₀ env A X oa s E f) (fun b' s₁ h₁ => ?_) fun _ _ e => e)
  obtain ⟨rfl, h₁⟩ := h₁
  cases b' with
  | true => exact wpAny_mono (h1 rfl s₀ X₀ env A X oa s₁ E (f.keeps h₁)) (fun fl s₂ h => h.after (StepX.of h₁)) fun _ _ e => e
  | false => exact wpAny_mono (h2 rfl s₀ X₀ env A X oa s₁ E (f.keeps h₁)) (fun fl s₂ h => h.after (StepX.of h₁)) fun _ _ e => e
theorem Ex1.continue : Ex1 c k sc σ ow (.Continue pos) (.cont σ ow) := fun s₀ X₀ env A X oa s E f => wpAny_Continue ⟨rfl, f, StepX.rfl' _ _⟩
theorem Ex1.aug {x : Str} {p : Pos} {e : Expr} {op : Operator} {a b d : D} (ha : σ.lookup x = some a) (he : Ev c k sc σ e b) (hop : Op2 c k (inplaceOp op) a b d) (hx : sc.names.lookup x = some .local ∨ sc.names.lookup x = some .cell) (ho : x ∉ ownName ow) (hn : (x == ("__classdict__" : Str)) = false := by decide) :
    Ex1 c k sc σ ow (.AugAssign (.Name x p) op e pos) (.next ((x, d) :: σ) ow) := by
  intro s₀ X₀ env A X oa s E f
  refine wpAny_AugAssign_Name (load_of f.st ha hn fun v rv => ?_)
  refine wpAny_mono (he env A X s E f.st) (fun u s₁ h₁ => ?_) fun _ _ e => e
  have f₁ := f.keeps h₁.1
  refine wpAny_mono (hop A X s₁ E v u f.st.room f₁.st.top f₁.st.live (rv.kp (kk_kp h₁.1)) h₁.2) (fun y s₂ h₂ => ?_) fun _ _ e => e
  exact store_F (f₁.keeps h₂.1) h₂.2 hx ho fun s₃ st f₃ => ⟨rfl, f₃, (StepX.of (kk_trans h₁.1 h₂.1)).trans st⟩
end
end Mine
end

section
open PySem PySem.W PyProof.Rows
set_option Elab.async false
set_option linter.unusedVariables false
namespace Mine
section
variable {c : Cx} {k : Nat} {sc : Scope} {σ σ' : List (Str × D)} {ow ow' : Option (Str × List D)} {pos : Pos} {s₀ : Shared} {X₀ : List Addr} {env : Env} {A : Around} {X oa : List Addr} {s s' : Shared} {E : Value → Shared → Prop} {r : Res}
theorem NsHas.kpx {Z : List Addr} {h h' : Heap} {y : Str} {v : Value} (q : NsHas env h y v) (k : KpX Z h h') (hl : env.locals ∉ Z) : NsHas env h' y v := by
  obtain ⟨m, ⟨o, es, ep, e, d⟩, b⟩ := q
  exact ⟨m, ⟨o, es, ep, k _ _ hl e, d⟩, b⟩
theorem OwnIs.off {Y : List Addr} {h : Heap} (q : OwnIs env X oa h ow) (k : Off X Y h) : OwnIs env Y oa h ow := by
  cases ow with
  | none => trivial
  | some p => obtain ⟨a, q1, q2, q3, ys, q4, q5⟩ := q; exact ⟨a, q1, q2, q3, ys, q4, q5.off k⟩
theorem Fs.mutX (f : Fs c k sc σ ow s₀ X₀ env A X oa s) : ∀ a ∈ mutS env oa, a ∈ X := by
  intro a ha
  rcases List.mem_cons.mp ha with rfl | ha
  · exact f.st.ok.locX
  · rcases List.mem_append.mp ha with ha | ha
    · obtain ⟨p, hp, rfl⟩ := List.mem_map.mp ha; exact f.st.ok.cellX _ _ hp
    · exact (f.oaX a ha).1
theorem Fs.in {I : Addr} (f : Fs c k sc σ ow s₀ X₀ env A X oa s) (hI : s.heap.get? I = none) (kp : Keeps s s') (hI' : ∃ o, s'.heap.get? I = some o) : Fs c k sc σ ow s₀ X₀ env A (I :: X) oa s' := by
  have hoff : Off X (I :: X) s.heap := fun x hx => by
    rcases List.mem_cons.mp hx with rfl | hx
    · exact .inr hI
    · exact .inl hx
  have I0 : s₀.heap.get? I = none := by
    cases q : s₀.heap.get? I with
    | none => rfl
    | some o => have := kk_kp f.kp I o q; rw [hI] at this; cases this
  refine ⟨⟨f.st.sc, f.st.ok.more fun x hx => by simp [hx], f.st.room, (f.st.top.off hoff).kp (kk_kp kp), ?_, (f.st.fm.off hoff).kp (kk_kp kp)⟩, kk_trans f.kp kp, ?_, fun a ha => by simp [f.sub a ha], f.fresh, fun a ha => ⟨by simp [(f.oaX a ha).1], (f.oaX a ha).2⟩, (f.own.off hoff).kp (kk_kp kp), f.oa0⟩
  · intro x hx
    rcases List.mem_cons.mp hx with rfl | hx
    · exact hI'
    · obtain ⟨o, e⟩ := f.st.live x hx; exact ⟨o, kk_kp kp _ _ e⟩
  · intro a ha
    rcases List.mem_cons.mp ha with rfl | ha
    · exact .inr I0
    · exact f.cut a ha
theorem OwnIs.stepI {I : Addr} {h h' : Heap} (q : OwnIs env X oa h ow) (kp : KpX [I] h h') (hX : I ∈ X) (hm : I ∉ mutS env oa) : OwnIs env X oa h' ow := by
  cases ow with
  | none => trivial
  | some p =>
    obtain ⟨a, q1, q2, q3, q4⟩ := q
    have hL : env.locals ∉ [I] := fun m => hm (by rw [← List.mem_singleton.mp m]; simp [mutS])
    have ha : a ∉ [I] := fun m => hm (by rw [← List.mem_singleton.mp m]; exact List.mem_cons_of_mem _ (List.mem_append.mpr (.inr q1)))
    exact ⟨a, q1, q2, q3.kpx kp hL, q4.kpx kp (fun x hx => by rw [List.mem_singleton.mp hx]; exact hX) ha⟩
theorem Fs.stepI {I : Addr} (f : Fs c k sc σ ow s₀ X₀ env A X oa s) (st : StepX [I] s s') (hX : I ∈ X) (hm : I ∉ mutS env oa) (I0 : s₀.heap.get? I = none) (hal : ∃ o, s'.heap.get? I = some o) : Fs c k sc σ ow s₀ X₀ env A X oa s' := by
  have hs : ∀ x ∈ [I], x ∈ X := fun x hx => by rw [List.mem_singleton.mp hx]; exact hX
  refine ⟨f.st.stepx st hs (fun m => hm (by rw [← List.mem_singleton.mp m]; simp [mutS])) (fun n cc hc m => hm ?_) (fun x hx => by rw [List.mem_singleton.mp hx]; exact hal), StepX.keeps f.kp st fun x hx => by rw [List.mem_singleton.mp hx]; exact I0, f.cut, f.sub, f.fresh, f.oaX, f.own.stepI st.kpx hX hm, f.oa0⟩
  rw [← List.mem_singleton.mp m]
  exact List.mem_cons_of_mem _ (List.mem_append.mpr (.inl (List.mem_map.mpr ⟨_, hc, rfl⟩)))
theorem Fs.out {I : Addr} (f : Fs c k sc σ ow s₀ X₀ env A (I :: X) oa s) (ok : EnvOk env X) (hsub : ∀ a ∈ X₀, a ∈ X) (hoa : ∀ a ∈ oa, a ∈ X) (st : StepX [I] s s') (hX : I ∉ X) (hm : I ∉ mutS env oa) (I0 : s₀.heap.get? I = none) : Fs c k sc σ ow s₀ X₀ env A X oa s' := by
  have hs : ∀ x ∈ [I], x ∈ I :: X := by simp
  have off2 : ∀ h, Off (I :: X) X h := fun h x hx => .inl (by simp [hx])
  have kp := st.kpx
  refine ⟨⟨f.st.sc, ok, f.st.room, ((f.st.top.kpx (kp.sub hs)).off (off2 _)), fun x hx => ?_, (f.st.fm.kpx kp hs (fun m => hm (by rw [← List.mem_singleton.mp m]; simp [mutS])) (fun n cc hc m => hm ?_)).off (off2 _)⟩, StepX.keeps f.kp st fun x hx => by rw [List.mem_singleton.mp hx]; exact I0, fun a ha => f.cut a (by simp [ha]), hsub, f.fresh, fun a ha => ⟨hoa a ha, (f.oaX a ha).2⟩, (f.own.stepI kp (by simp) hm).off (off2 _), f.oa0⟩
  · obtain ⟨o, e⟩ := f.st.live x (by simp [hx])
    exact ⟨o, kp x o (by simp; exact fun e => hX (e ▸ hx)) e⟩
  · rw [← List.mem_singleton.mp m]
    exact List.mem_cons_of_mem _ (List.mem_append.mpr (.inl (List.mem_map.mpr ⟨_, hc, rfl⟩)))

/-- the turns of a for -/
inductive ForR (c : Cx) (k : Nat) (sc : Scope) (target : Expr) (body : List Stmt) : List (Str × D) → Option (Str × List D) → List D → Res → Prop
  | nil {σ : List (Str × D)} {ow : Option (Str × List D)} : ForR c k sc target body σ ow [] (.next σ ow)
  | next {σ τ σ' : List (Str × D)} {ow ow' : Option (Str × List D)} {d : D} {ds : List D} {r : Res} : Asg c k sc target d σ τ → (∀ y ∈ ownName ow, y ∉ tnames target) → Ex c k sc τ ow body (.next σ' ow') → ForR c k sc target body σ' ow' ds r → ForR c k sc target body σ ow (d :: ds) r
  | cont {σ τ σ' : List (Str × D)} {ow ow' : Option (Str × List D)} {d : D} {ds : List D} {r : Res} : Asg c k sc target d σ τ → (∀ y ∈ ownName ow, y ∉ tnames target) → Ex c k sc τ ow body (.cont σ' ow') → ForR c k sc target body σ' ow' ds r → ForR c k sc target body σ ow (d :: ds) r
  | ret {σ τ : List (Str × D)} {ow : Option (Str × List D)} {d v : D} {ds : List D} : Asg c k sc target d σ τ → (∀ y ∈ ownName ow, y ∉ tnames target) → Ex c k sc τ ow body (.ret v) → ForR c k sc target body σ ow (d :: ds) (.ret v)

theorem slotsT_mut {target : Expr} : ∀ a ∈ slotsT env target, a ∈ mutS env oa := by
  intro a ha
  obtain ⟨x, _, ha⟩ := slots_names ha
  exact slot_mut x a ha
set_option maxHeartbeats 1600000 in
theorem for_loop {target : Expr} {body : List Stmt} {I : Addr} {fp : List Addr} {ds : List D} {IS : Nat → Heap → Prop} {sB : Shared} (w : Its c A (I :: X) I fp ds IS) (I0 : s₀.heap.get? I = none) (IB : sB.heap.get? I = none) (hIm : I ∉ mutS env oa) (hIX : I ∉ X) (ok : EnvOk env X) (hsub : ∀ a ∈ X₀, a ∈ X) (hoa : ∀ a ∈ oa, a ∈ X)
    (hmX : ∀ a ∈ mutS env oa, a ∈ X) (hfp : ∀ b ∈ fp, b ∉ mutS env oa) :
    ∀ {σ : List (Str × D)} {ow : Option (Str × List D)} {es : List D} {r : Res}, ForR c k sc target body σ ow es r → ∀ (i : Nat) (s : Shared), i ≤ ds.length → ds.drop i = es → Fs c k sc σ ow s₀ X₀ env A (I :: X) oa s → IS i s.heap → StepX (I :: mutS env oa) sB s →
    codeAny (model c.prog c.w) A (.forLoop target (.ref I) body [] env) (fun rs s' => match rs with | .ok f => Done c k sc r s₀ X₀ env A X oa sB f s' | .error e => cameBackBy (model c.prog c.w) A env E e s') s := by
  have fin : ∀ {s s' : Shared}, StepX (I :: mutS env oa) sB s → StepX [I] s s' → StepX (mutS env oa) sB s' := fun a b => by
    obtain ⟨h', tk, e, kp⟩ := a.trans (b.sub (by simp))
    refine ⟨h', tk, e, fun x o nx q => kp x o (fun m => ?_) q⟩
    rcases List.mem_cons.mp m with rfl | m
    · rw [IB] at q; cases q
    · exact nx m
  -- one turn up to the body
  have turn : ∀ (r : Res) (d : D) (σ τ : List (Str × D)) (ow : Option (Str × List D)) (i : Nat) (s : Shared), ds[i]? = some d → Asg c k sc target d σ τ → (∀ y ∈ ownName ow, y ∉ tnames target) → Fs c k sc σ ow s₀ X₀ env A (I :: X) oa s → IS i s.heap → StepX (I :: mutS env oa) sB s →
      (∀ s₃, Fs c k sc τ ow s₀ X₀ env A (I :: X) oa s₃ → IS (i + 1) s₃.heap → StepX (I :: mutS env oa) sB s₃ → wpAny (model c.prog c.w) A (execs body env) (fun f s₄ => match f with
        | .next | .cont => codeAny (model c.prog c.w) A (.forLoop target (.ref I) body [] env) (fun rs s' => match rs with | .ok f => Done c k sc r s₀ X₀ env A X oa sB f s' | .error e => cameBackBy (model c.prog c.w) A env E e s') s₄
        | .brk => Done c k sc r s₀ X₀ env A X oa sB .next s₄
        | .ret v => Done c k sc r s₀ X₀ env A X oa sB (.ret v) s₄) (notedBy (model c.prog c.w) A env fun e s' => cameBackBy (model c.prog c.w) A env E e s') s₃) →
      codeAny (model c.prog c.w) A (.forLoop target (.ref I) body [] env) (fun rs s' => match rs with | .ok f => Done c k sc r s₀ X₀ env A X oa sB f s' | .error e => cameBackBy (model c.prog c.w) A env E e s') s := by
    intro r d σ τ ow i s hd hA hO f is x h
    refine codeAny_of_tree ?_
    show wpAny _ A ((forTurn target (.ref I) body [] env).onRaise (fun x => do noteFrame x env; theTreesLotGoes x)) _ _ s
    refine wpAny_noted ?_
    simp only [forTurn]
    refine wpAny_bind (wpAny_standAt (wpAny_bind (wpAny_onRaise ?_)))
    refine w.item i d s _ _ hd is fun v h₂ tk₂ rv is₂ kp₂ => ?_
    have st₂ : StepX [I] s { s with heap := h₂, toks := tk₂ } := ⟨h₂, tk₂, rfl, kp₂⟩
    have hal : ∃ o, h₂.get? I = some o := by obtain ⟨o, _, e, _⟩ := w.bears (List.ne_nil_of_mem (List.mem_of_getElem? hd)) _ _ is₂; exact ⟨o, e⟩
    have f₂ := f.stepI st₂ (by simp) hIm I0 hal
    refine wpAny_bind (owned_ok w (List.ne_nil_of_mem (List.mem_of_getElem? hd)) is₂ ?_)
    refine wpAny_bind (wpAny_mono (hA env A (I :: X) _ _ v f₂.st rv) (fun _ s₃ h₃ => ?_) fun _ _ e => e)
    obtain ⟨st₃, t₃, n₃⟩ := h₃
    have f₃ : Fs c k sc τ ow s₀ X₀ env A (I :: X) oa s₃ := f₂.stepped st₃ t₃ slotsT_mut (fun a ha => by simp [hmX a (slotsT_mut a ha)]) (fun a ha m => by obtain ⟨y, _, m⟩ := slots_names m; exact slot_oa f₂ y ha m) fun y hy u q => n₃ y u (hO y hy) q
    have st₃' : StepX (mutS env oa) _ s₃ := st₃.sub slotsT_mut
    have is₃ := w.frame _ _ s₃.heap is₂ (st₃'.kpx.sub fun a ha => by simp [hmX a ha]) fun b hb o e => st₃'.kpx b o (hfp b hb) e
    have x₃ := x.trans ((st₂.sub (by simp)).trans (st₃'.sub fun a ha => by simp [ha]))
    refine wpAny_bind (wpAny_mono (h s₃ f₃ is₃ x₃) (fun fl s₄ h₄ => ?_) fun _ _ e => e)
    cases fl with
    | next => exact wpAny_pure ⟨rfl, h₄⟩
    | cont => exact wpAny_pure ⟨rfl, h₄⟩
    | brk => exact wpAny_pure h₄
    | ret v => exact wpAny_pure h₄
  have more : ∀ {s₃ s₄ : Shared} {σ' ow'} {i}, IS i s₃.heap → StepX (I :: mutS env oa) sB s₃ → Fs c k sc σ' ow' s₀ X₀ env A (I :: X) oa s₄ → StepX (mutS env oa) s₃ s₄ → IS i s₄.heap ∧ StepX (I :: mutS env oa) sB s₄ := fun is x f st =>
    ⟨w.frame _ _ _ is (st.kpx.sub fun a ha => by simp [hmX a ha]) fun b hb o e => st.kpx b o (hfp b hb) e, x.trans (st.sub fun a ha => by simp [ha])⟩
  have split : ∀ {i : Nat} {d : D} {es : List D}, ds.drop i = d :: es → ds[i]? = some d ∧ ds.drop (i + 1) = es := fun {i d es} h => by
    have h1 : ds[i]? = (ds.drop i)[0]? := by simp
    have h2 : ds.drop (i + 1) = (ds.drop i).drop 1 := by simp
    rw [h] at h1 h2
    exact ⟨h1, h2⟩
  intro σ ow es r hr
  induction hr with
  | nil =>
    intro i s hle hi f is x
    have hlen : ds.length ≤ i := by simpa using hi
    refine codeAny_of_tree ?_
    show wpAny _ A ((forTurn target (.ref I) body [] env).onRaise (fun x => do noteFrame x env; theTreesLotGoes x)) _ _ s
    refine wpAny_noted ?_
    simp only [forTurn]
    refine wpAny_bind (wpAny_standAt (wpAny_bind (wpAny_onRaise ?_)))
    have is' : IS ds.length s.heap := by have : i = ds.length := Nat.le_antisymm hle hlen
                                         exact this ▸ is
    refine w.done s _ _ is' fun h' tk kp => ?_
    have st : StepX [I] s { s with heap := h', toks := tk } := ⟨h', tk, rfl, kp⟩
    exact wpAny_pure ⟨rfl, codeAny_block (wpAny_pure ⟨rfl, f.out ok hsub hoa st hIX hIm I0, fin x st⟩)⟩
  | next hA hO hE _ ih =>
    intro i s hle hi f is x
    obtain ⟨hd, ht⟩ := split hi
    refine turn _ _ _ _ _ i s hd hA hO f is x fun s₃ f₃ is₃ x₃ => ?_
    refine wpAny_mono (hE s₀ X₀ env A (I :: X) oa s₃ _ f₃) (fun fl s₄ h₄ => ?_) fun _ _ e => e
    obtain ⟨rfl, f₄, st₄⟩ := h₄
    obtain ⟨is₄, x₄⟩ := more is₃ x₃ f₄ st₄
    exact ih (i + 1) s₄ (List.getElem?_eq_some_iff.mp hd).1 ht f₄ is₄ x₄
  | cont hA hO hE _ ih =>
    intro i s hle hi f is x
    obtain ⟨hd, ht⟩ := split hi
    refine turn _ _ _ _ _ i s hd hA hO f is x fun s₃ f₃ is₃ x₃ => ?_
    refine wpAny_mono (hE s₀ X₀ env A (I :: X) oa s₃ _ f₃) (fun fl s₄ h₄ => ?_) fun _ _ e => e
    obtain ⟨rfl, f₄, st₄⟩ := h₄
    obtain ⟨is₄, x₄⟩ := more is₃ x₃ f₄ st₄
    exact ih (i + 1) s₄ (List.getElem?_eq_some_iff.mp hd).1 ht f₄ is₄ x₄
  | ret hA hO hE =>
    intro i s hle hi f is x
    obtain ⟨hd, ht⟩ := split hi
    refine turn _ _ _ _ _ i s hd hA hO f is x fun s₃ f₃ is₃ x₃ => ?_
    refine wpAny_mono (hE s₀ X₀ env A (I :: X) oa s₃ _ f₃) (fun fl s₄ h₄ => ?_) fun _ _ e => e
    obtain ⟨v, rfl, q⟩ := h₄
    exact ⟨v, rfl, q⟩
theorem Ex1.for {target iter : Expr} {body : List Stmt} {ds : List D} {r : Res} (hsrc : Src c k sc σ iter false ds) (hs : NotSet iter) (h : ForR c k sc target body σ ow ds r) : Ex1 c k sc σ ow (.For target iter body [] pos) r := by
  intro s₀ X₀ env A X oa s E f
  refine wpAny_For (wpAny_mono (hsrc env A X s E f.st) (fun v s₁ h₁ => ?_) fun _ _ e => e) (hs env)
  obtain ⟨k01, hit⟩ := h₁
  have f₁ := f.keeps k01
  refine wpAny_mono (hit E) (fun it s₂ h₂ => ?_) fun _ _ e => e
  obtain ⟨I, rfl, hI, k12, hal, hgo⟩ := h₂
  have I1 : s₁.heap.get? I = none := by rw [hI]; exact get_size _
  have IX : I ∉ X := f₁.st.live.fresh I1
  have hoff : Off X (I :: X) s₁.heap := fun x hx => by
    rcases List.mem_cons.mp hx with rfl | hx
    · exact .inr I1
    · exact .inl hx
  obtain ⟨fp, IS, hfp, w, his⟩ := hgo (I :: X) (by simp) hoff
  have f₂ := f₁.in I1 k12 hal
  have hIm : I ∉ mutS env oa := fun m => IX (f₁.mutX I m)
  have I0 : s₀.heap.get? I = none := by
    cases q : s₀.heap.get? I with
    | none => rfl
    | some o => have := kk_kp f₁.kp I o q; rw [I1] at this; cases this
  have IB : s.heap.get? I = none := by
    cases q : s.heap.get? I with
    | none => rfl
    | some o => have := kk_kp k01 I o q; rw [I1] at this; cases this
  exact for_loop (sB := s) w I0 IB hIm IX f.st.ok f.sub (fun a ha => (f.oaX a ha).1) f.mutX (fun b hb m => by
    rcases hfp b hb with q | ⟨_, q⟩
    · exact hIm (q ▸ m)
    · exact q rfl (f.mutX b m)) h 0 s₂ (Nat.zero_le _) rfl f₂ (his _ (Kp.refl _)) (StepX.of (kk_trans k01 k12))

/-- the turns of a while -/
inductive WhR (c : Cx) (k : Nat) (sc : Scope) (test : Expr) (body : List Stmt) : List (Str × D) → Option (Str × List D) → Res → Prop
  | stop {σ : List (Str × D)} {ow : Option (Str × List D)} : EvBF c k sc σ ow test false → WhR c k sc test body σ ow (.next σ ow)
  | next {σ σ' : List (Str × D)} {ow ow' : Option (Str × List D)} {r : Res} : EvBF c k sc σ ow test true → Ex c k sc σ ow body (.next σ' ow') → WhR c k sc test body σ' ow' r → WhR c k sc test body σ ow r
  | cont {σ σ' : List (Str × D)} {ow ow' : Option (Str × List D)} {r : Res} : EvBF c k sc σ ow test true → Ex c k sc σ ow body (.cont σ' ow') → WhR c k sc test body σ' ow' r → WhR c k sc test body σ ow r
theorem while_loop {test : Expr} {body : List Stmt} {sB : Shared} : ∀ {σ : List (Str × D)} {ow : Option (Str × List D)} {r : Res}, WhR c k sc test body σ ow r → ∀ s, Fs c k sc σ ow s₀ X₀ env A X oa s → StepX (mutS env oa) sB s →
    codeAny (model c.prog c.w) A (.whileLoop test body [] env) (fun rs s' => match rs with | .ok f => Done c k sc r s₀ X₀ env A X oa sB f s' | .error e => cameBackBy (model c.prog c.w) A env E e s') s := by
  intro σ ow r hr
  induction hr with
  | stop ht =>
    intro s f x
    refine codeAny_of_tree ?_
    show wpAny _ A ((whileTurn test body [] env).onRaise (fun x => do noteFrame x env; theTreesLotGoes x)) _ _ s
    refine wpAny_noted ?_
    simp only [whileTurn]
    refine wpAny_bind (wpAny_mono (ht s₀ X₀ env A X oa s _ f) (fun b s₁ h₁ => ?_) fun _ _ e => e)
    obtain ⟨rfl, h₁⟩ := h₁
    simp only [Bool.false_eq_true, if_false]
    exact wpAny_bind (wpAny_pure (wpAny_pure ⟨rfl, f.keeps h₁, x.trans (StepX.of h₁)⟩))
  | next ht hE _ ih =>
    intro s f x
    refine codeAny_of_tree ?_
    show wpAny _ A ((whileTurn test body [] env).onRaise (fun x => do noteFrame x env; theTreesLotGoes x)) _ _ s
    refine wpAny_noted ?_
    simp only [whileTurn]
    refine wpAny_bind (wpAny_mono (ht s₀ X₀ env A X oa s _ f) (fun b s₁ h₁ => ?_) fun _ _ e => e)
    obtain ⟨rfl, h₁⟩ := h₁
    simp only [if_true]
    refine wpAny_bind (wpAny_mono (hE s₀ X₀ env A X oa s₁ _ (f.keeps h₁)) (fun fl s₂ h₂ => ?_) fun _ _ e => e)
    obtain ⟨rfl, f₂, st₂⟩ := h₂
    exact wpAny_pure ⟨rfl, ih s₂ f₂ (x.trans ((StepX.of h₁).trans st₂))⟩
  | cont ht hE _ ih =>
    intro s f x
    refine codeAny_of_tree ?_
    show wpAny _ A ((whileTurn test body [] env).onRaise (fun x => do noteFrame x env; theTreesLotGoes x)) _ _ s
    refine wpAny_noted ?_
    simp only [whileTurn]
    refine wpAny_bind (wpAny_mono (ht s₀ X₀ env A X oa s _ f) (fun b s₁ h₁ => ?_) fun _ _ e => e)
    obtain ⟨rfl, h₁⟩ := h₁
    simp only [if_true]
    refine wpAny_bind (wpAny_mono (hE s₀ X₀ env A X oa s₁ _ (f.keeps h₁)) (fun fl s₂ h₂ => ?_) fun _ _ e => e)
    obtain ⟨rfl, f₂, st₂⟩ := h₂
    exact wpAny_pure ⟨rfl, ih s₂ f₂ (x.trans ((StepX.of h₁).trans st₂))⟩
theorem Ex1.while {test : Expr} {body : List Stmt} {r : Res} (h : WhR c k sc test body σ ow r) : Ex1 c k sc σ ow (.While test body [] pos) r :=
  fun s₀ X₀ env A X oa s E f => wpAny_While (while_loop h s f (StepX.rfl' _ _))
end
end Mine
end

section
open PySem PySem.W PyProof.Rows
set_option Elab.async false
set_option linter.unusedVariables false
namespace Mine
section
variable {c : Cx} {k : Nat} {sc : Scope} {σ σ' : List (Str × D)} {ow ow' : Option (Str × List D)} {pos : Pos} {s₀ : Shared} {X₀ : List Addr} {env : Env} {A : Around} {X oa : List Addr} {s s' : Shared} {E : Value → Shared → Prop} {r : Res}
/-- a local that no reading speaks of -/
theorem store_raw {x : Str} {v : Value} {Q : Unit → Shared → Prop} (t : St c k sc σ env A X s) (hx : sc.names.lookup x = some .local) (hσ : σ.lookup x = none)
    (h : ∀ s', StepX [env.locals] s s' → St c k sc σ env A X s' → NsHas env s'.heap x v → Q () s') : wpAny (model c.prog c.w) A (storeName env x v) Q E s := by
  have kx : env.kindOf x = some .local := by unfold Env.kindOf; rw [t.sc]; exact hx
  obtain ⟨m, hn, hm⟩ := t.fm.ns
  refine wpAny_storeName_local kx hn (fun h' hn' hs' => ?_) (by rw [t.ok.kind]; rfl)
  have kp : KpX [env.locals] s.heap h' := fun b o nb e => hs'.extBut b o (fun q => nb (by rw [q]; simp)) e
  have kX : KpX X s.heap h' := kp.sub fun a ha => by rw [List.mem_singleton.mp ha]; exact t.ok.locX
  refine h _ ⟨h', _, rfl, kp⟩ ⟨t.sc, t.ok, t.room, t.top.kpx kX, ?_, ?_⟩ ⟨_, hn', by simp⟩
  · exact t.live.step kp fun a ha => by
      rw [List.mem_singleton.mp ha]; obtain ⟨o, _, _, e, _⟩ := hn'; exact ⟨o, e⟩
  · refine ⟨⟨_, hn', fun y e hy hl => ?_⟩, fun n cc hc => ?_, fun y e hy hl => ?_⟩
    · have q : y ≠ x := fun q => by rw [q, hσ] at hy; cases hy
      obtain ⟨u, p1, p2⟩ := hm y e hy hl
      exact ⟨u, by simp [q, p1], p2.kpx kX⟩
    · obtain ⟨cv, q⟩ := t.fm.cell n cc hc
      exact ⟨cv, q.sameBut hs' (ns_ne_cell hn q)⟩
    · obtain ⟨kk, cc, u, l, i, p⟩ := t.fm.cells y e hy hl
      exact ⟨kk, cc, u, l, i.sameBut hs' (ns_ne_cell hn i), p.kpx kX⟩
/-- a list of the frame's own begins -/
theorem Ex.newOwn {x : Str} {p q : Pos} {ss : List Stmt} {d : D} (hx : sc.names.lookup x = some .local) (hσ : σ.lookup x = none) (h : Ex c k sc σ (some (x, [])) ss (.ret d)) : Ex c k sc σ none (.Assign [.Name x p] (.List [] q) pos :: ss) (.ret d) := by
  intro s₀ X₀ env A X oa s E f
  refine wpAny_execs_cons (wpAny_Assign_Name (wpAny_List (wpAny_pure ⟨by simp [sizeLine], ?_⟩)) rfl)
  have kp := kk_push s { cls := .type "list", data := .seq ([] : List Value).toArray }
  have fr := get_size s.heap
  have ea : (s.heap.push { cls := .type "list", data := .seq ([] : List Value).toArray }).get? s.heap.objs.size = some { cls := .type "list", data := .seq ([] : List Value).toArray } := Heap.get?_push_size _ rfl
  have f₁ := f.in fr kp ⟨_, ea⟩
  have aX : s.heap.objs.size ∉ X := f.st.live.fresh fr
  have a0 : s₀.heap.get? s.heap.objs.size = none := by
    cases q : s₀.heap.get? s.heap.objs.size with
    | none => rfl
    | some o => have := kk_kp f.kp _ o q; rw [fr] at this; cases this
  have hloc : s.heap.objs.size ≠ env.locals := fun e => aX (e ▸ f.st.ok.locX)
  have hcel : ∀ n cc, (n, cc) ∈ env.cells → cc ≠ s.heap.objs.size := fun n cc m e => aX (e ▸ f.st.ok.cellX n cc m)
  refine store_raw f₁.st hx hσ fun s₂ st t₂ ns => ?_
  have st' : StepX (mutS env (s.heap.objs.size :: oa)) _ s₂ := st.sub (by simp [mutS])
  have f₂ : Fs c k sc σ (some (x, [])) s₀ X₀ env A (s.heap.objs.size :: X) (s.heap.objs.size :: oa) s₂ := by
    refine ⟨t₂, StepX.keeps f₁.kp st (fun a ha => by rw [List.mem_singleton.mp ha]; exact f.fresh _ (by simp [mutS])), f₁.cut, f₁.sub, ?_, ?_, ⟨s.heap.objs.size, by simp, by unfold Env.kindOf; rw [f.st.sc]; exact hx, ns, [], ⟨0, st.kpx _ _ (by simpa using hloc) ea⟩, .nil⟩, ?_⟩
    · intro a ha
      rcases List.mem_cons.mp ha with rfl | ha
      · exact f.fresh _ (by simp [mutS])
      · rcases List.mem_append.mp ha with ha | ha
        · exact f.fresh a (List.mem_cons_of_mem _ (List.mem_append.mpr (.inl ha)))
        · rcases List.mem_cons.mp ha with rfl | ha
          · exact a0
          · exact f.fresh a (List.mem_cons_of_mem _ (List.mem_append.mpr (.inr ha)))
    · intro a ha
      rcases List.mem_cons.mp ha with rfl | ha
      · exact ⟨by simp, hloc, hcel⟩
      · exact ⟨by simp [(f.oaX a ha).1], (f.oaX a ha).2⟩
    · intro a ha
      rcases List.mem_cons.mp ha with rfl | ha
      · exact fun m => aX (f.sub _ m)
      · exact f.oa0 a ha
  refine wpAny_mono (h s₀ X₀ env A _ _ s₂ E f₂) (fun fl s₃ q => q) fun _ _ e => e
theorem own_load {x : Str} {out : List D} {p : Pos} {Q : Value → Shared → Prop} (f : Fs c k sc σ (some (x, out)) s₀ X₀ env A X oa s) (hd : (x == ("__debug__" : Str)) = false) (h : ∀ a, a ∈ oa → NsHas env s.heap x (.ref a) → AccAt X a out s.heap → Q (.ref a) s) : wpAny (model c.prog c.w) A (eval (.Name x p) env) Q E s := by
  obtain ⟨a, q1, q2, ⟨m, n1, n2⟩, q4⟩ := f.own
  exact wpAny_Name (wpAny_loadName_local f.st.ok.kind q2 n1 n2 (h a q1 ⟨m, n1, n2⟩ q4)) hd
theorem Ex1.returnOwn {x : Str} {out : List D} {p : Pos} (hd : (x == ("__debug__" : Str)) = false := by decide) : Ex1 c k sc σ (some (x, out)) (.Return (some (.Name x p)) pos) (.ret (.lst out)) := by
  intro s₀ X₀ env A X oa s E f
  refine wpAny_Return_some (own_load f hd fun a ha _ ⟨ys, ⟨n, e⟩, r⟩ => ⟨_, rfl, f.kp, .lst (f.oa0 a ha) e (r.off fun b hb => .inl (f.sub b hb))⟩)
theorem Ex1.append {x : Str} {out : List D} {e : Expr} {d : D} {p ap cp : Pos} (he : Ev c k sc σ e d) (hn : NoStar e) (hl : out.length < 1000) (hline : (ap.endLine == cp.line) = true) (hsw : ∀ env, swapsWith (.Call (.Attribute (.Name x p) "append" ap) [e] [] cp) none pos.line env = pure false) (hi : ∀ env, env.scope = sc → interactive env = false)
    (hd : (x == ("__debug__" : Str)) = false := by decide) :
    Ex1 c k sc σ (some (x, out)) (.Expr (.Call (.Attribute (.Name x p) "append" ap) [e] [] cp) pos) (.next σ (some (x, out ++ [d]))) := by
  intro s₀ X₀ env A X oa s E f
  refine wpAny_Expr (wpAny_Call_append rfl (by rw [hn]; rfl) hline (by rw [hn]; rfl) (own_load f hd fun a ha hns hacc => ?_)) (hi env f.st.sc) (hsw env)
  obtain ⟨ys, ⟨n, e1⟩, r⟩ := id hacc
  refine ⟨a, ys.toArray, rfl, ⟨_, n, e1, rfl, rfl, rfl⟩, wpAny_mono (he env A X s E f.st) (fun v s₁ h₁ => ?_) fun _ _ e => e⟩
  have f₁ := f.keeps h₁.1
  have ac₁ : AccAt X a out s₁.heap := hacc.kpx ((kk_kp h₁.1).x []) (by simp) (by simp)
  refine app_ok ac₁ (f.oaX a ha).1 h₁.2 (by omega) fun s₂ st ac₂ => ?_
  have hal : ∀ b ∈ [a], ∃ o, s₂.heap.get? b = some o := fun b hb => by rw [List.mem_singleton.mp hb]; obtain ⟨_, ⟨_, e⟩, _⟩ := ac₂; exact ⟨_, e⟩
  have haL : env.locals ∉ [a] := by simpa using Ne.symm (f.oaX a ha).2.1
  have t₂ := f₁.st.stepx st (fun b hb => by rw [List.mem_singleton.mp hb]; exact (f.oaX a ha).1) haL (fun n cc m => by simpa using (f.oaX a ha).2.2 n cc m) hal
  have hm : ∀ b ∈ [a], b ∈ mutS env oa := fun b hb => by rw [List.mem_singleton.mp hb]; exact List.mem_cons_of_mem _ (List.mem_append.mpr (.inr ha))
  have kx : env.kindOf x = some .local := by obtain ⟨_, _, q, _⟩ := f.own; exact q
  refine ⟨rfl, ⟨t₂, StepX.keeps f₁.kp st fun b hb => f.fresh b (hm b hb), f.cut, f.sub, f.fresh, f.oaX, ⟨a, ha, kx, (hns.kp (kk_kp h₁.1)).kpx st.kpx haL, ac₂⟩, f.oa0⟩, (StepX.of h₁.1).trans (st.sub hm)⟩
/-- a comprehension over the frame's own list -/
theorem EvF.ownComp {elt : Expr} {x y : Str} {px py : Pos} {ifs : List Expr} {scope : Scope} {out : List D} {f : D → List D} (ok : compOk scope sc [x] = true)
    (hB : ∀ d ∈ out, ∃ b g, Tests c k (rel scope sc) ((x, d) :: res scope σ) ifs b ∧ (b = true → Ev c k (rel scope sc) ((x, d) :: res scope σ) elt g) ∧ f d = if b then [g] else []) (hlen : (out.flatMap f).length ≤ 1000) (hd : (y == ("__debug__" : Str)) = false := by decide) :
    EvF c k sc σ (some (y, out)) (.ListComp elt [⟨.Name x px, .Name y py, ifs, 0⟩] scope pos) (.lst (out.flatMap f)) := by
  intro s₀ X₀ env A X oa s E fs
  rw [eval_ListComp]
  refine core1L (own := true) (f := f) ok (fun _ _ => rfl) hB hlen fs.st ?_ fun C a s' h => post_none (env := env) fs.st.live h
  refine own_load fs hd fun a ha _ ⟨ys, ⟨n, e⟩, r⟩ => ⟨kk_rfl _, fun E' => ?_⟩
  exact go_list fs.st.room.hd ⟨_, e, rfl, _, rfl⟩ r fun h => by cases h
end
end Mine
end

section
open PySem PySem.W PyProof.Rows
set_option Elab.async false
set_option linter.unusedVariables false
namespace Mine
theorem bindL_off {kf : Str → Option NameKind} {x : Str} : ∀ {ps : List Str} {ws : List Value} {m : Str → Option Value}, x ∉ ps → bindL kf (ps.zip ws) m x = m x
  | [], ws, m, _ => by simp [bindL]
  | p :: ps, [], m, _ => by simp [bindL]
  | p :: ps, v :: ws, m, h => by
    rw [List.zip_cons_cons]
    unfold bindL
    rw [bindL_off (fun q => h (by simp [q]))]
    have : x ≠ p := fun e => h (by simp [e])
    split <;> simp [this]
theorem bindC_off {kf : Str → Option NameKind} {x : Str} : ∀ {ps : List Str} {ws : List Value} {m : Str → Option Value}, x ∉ ps → bindC kf (ps.zip ws) m x = m x
  | [], ws, m, _ => by simp [bindC]
  | p :: ps, [], m, _ => by simp [bindC]
  | p :: ps, v :: ws, m, h => by
    rw [List.zip_cons_cons]
    unfold bindC
    rw [bindC_off (fun q => h (by simp [q]))]
    have : x ≠ p := fun e => h (by simp [e])
    split <;> simp [this]
theorem bind_look {X : List Addr} {h : Heap} {kf : Str → Option NameKind} {x : Str} {d : D} : ∀ {ps : List Str} {ws : List Value} {es : List D} {m cm : Str → Option Value}, ps.Nodup → RdL X h ws es → (ps.zip es).lookup x = some d →
    ∃ v, Rd X h v d ∧ (kf x = some .local → bindL kf (ps.zip ws) m x = some v) ∧ (kf x ≠ some .local → bindC kf (ps.zip ws) cm x = some v)
  | [], ws, es, m, cm, _, _, e => by simp at e
  | p :: ps, ws, es, m, cm, hn, r, e => by
    cases r with
    | nil => simp at e
    | cons a r =>
      rename_i v ws d' es
      rw [List.nodup_cons] at hn
      rw [List.zip_cons_cons] at e ⊢
      by_cases hx : x = p
      · subst hx
        simp at e
        subst e
        refine ⟨v, a, fun hl => ?_, fun hl => ?_⟩
        · unfold bindL; rw [if_pos hl, bindL_off hn.1]; simp
        · unfold bindC; rw [if_neg hl, bindC_off hn.1]; simp
      · have hb : (x == p) = false := beq_eq_false_iff_ne.mpr hx
        rw [List.lookup_cons, hb] at e
        unfold bindL bindC
        exact bind_look hn.2 r e
theorem cells_uniq : ∀ (names : List (Str × NameKind)) (k : Nat) (acc : List (Str × Addr)), (names.map (·.1)).Nodup → (∀ n cc, (n, cc) ∈ acc → n ∉ names.map (·.1) ∧ acc.lookup n = some cc) → ∀ n cc, (n, cc) ∈ cellsFrom k names acc → (cellsFrom k names acc).lookup n = some cc
  | [], k, acc, _, ha, n, cc, q => (ha n cc q).2
  | (m, kd) :: r, k, acc, hn, ha, n, cc, q => by
    unfold cellsFrom at q ⊢
    rw [List.map_cons, List.nodup_cons] at hn
    split at q
    · rename_i hk
      rw [if_pos hk]
      refine cells_uniq r _ _ hn.2 (fun n' cc' q' => ?_) n cc q
      rcases List.mem_cons.mp q' with q' | q'
      · cases q'
        exact ⟨hn.1, by simp⟩
      · have := ha n' cc' q'
        refine ⟨fun e => this.1 (by simp [e]), ?_⟩
        have hne : n' ≠ m := fun e => this.1 (by simp [e])
        have hb : (n' == m) = false := beq_eq_false_iff_ne.mpr hne
        rw [List.lookup_cons, hb]
        exact this.2
    · rename_i hk
      rw [if_neg hk]
      refine cells_uniq r _ _ hn.2 (fun n' cc' q' => ?_) n cc q
      have := ha n' cc' q'
      exact ⟨fun e => this.1 (by simp [e]), this.2⟩
theorem ns_live {h : Heap} {a : Addr} {m : Str → Option Value} (n : h.Ns a m) : ∃ o, h.get? a = some o := by
  obtain ⟨o, _, _, q, _⟩ := n; exact ⟨_, q⟩
theorem cell_live {h : Heap} {a : Addr} {m : Option Value} (n : h.IsCell a m) : ∃ o, h.get? a = some o := by
  obtain ⟨o, q, _⟩ := n; exact ⟨o, q⟩
section
variable {c : Cx} {k : Nat}
/-- a def of the text, by what its body does -/
structure FnAt (c : Cx) (fa : Addr) (fd : FuncData) (body : List Stmt) : Prop where
  at_ : ∃ oc od osl, c.K.lookup fa = some ⟨oc, od, .func fd, osl⟩
  code : codeIn c.K fd.code fd.qualname = true
  body_ : fd.body = .stmts body
  clo : fd.closure = []
  glob : fd.globals = mainGlobals
  blt : fd.builtins = builtinsNs
  co : fd.scope.isCoroutine = false
  gen : fd.scope.isGenerator = false
  kind : fd.scope.kind = .function
  nodup : (fd.scope.names.map (·.1)).Nodup
  nofree : (fd.scope.names.all fun p => p.2 != .free) = true
theorem fn_enter {fa : Addr} {fd : FuncData} {body : List Stmt} {ps : List Str} {es : List D} (F : FnAt c fa fd body) (hps : ps.Nodup) (hpk : (ps.all fun x => fd.scope.names.lookup x == some .local || fd.scope.names.lookup x == some .cell) = true)
    {A : Around} {X : List Addr} {s : Shared} {vs ws : List Value} {R : Result → Shared → Prop} (ro : Room A (k + 1)) (top : TopX c X s.heap) (lv : Live X s.heap) (hb : BindsTo s fd ⟨vs, []⟩ (ps.zip ws)) (r : RdL X s.heap ws es)
    (h : ∀ env X' s', env.locals = s.heap.objs.size → Fs c k fd.scope (ps.zip es) none s X env (A.deeper env) X' [] s' → wpAny (model c.prog c.w) (A.deeper env) (execs body env) (fun f s₂ => R (.ok (.ret (match f with | .ret v => v | _ => .none))) s₂) (fun _ _ => False) s') : codeAny (model c.prog c.w) A (.call (.ref fa) ⟨vs, []⟩) R s := by
  obtain ⟨oc, od, osl, hK⟩ := F.at_
  have ho := top.ok.kin _ _ hK
  refine codeAny_call_function (fd := fd) (body := body) ro.depth ho rfl F.co F.gen F.body_ (codeRec_of top.ok.kin F.code) (hb _ _ _ _ ?_)
  rw [F.clo]
  have fr := get_size s.heap
  have fl := lay_cells fd.scope.names (s.heap.push { cls := .type "frame", data := .dict #[] }) [] (fun n cc q => by simp at q) List.Pairwise.nil
  rw [Heap.size_push] at fl
  obtain ⟨_, _, _, c4, _, _⟩ := fl
  have kindOk : ∀ x ∈ ps, fd.scope.names.lookup x = some .local ∨ fd.scope.names.lookup x = some .cell := fun x hx => by simpa using List.all_eq_true.mp hpk x hx
  refine wpAny_newFunctionEnv_cells F.kind (fun x hx => ?_) fun env he s' ic => ?_
  · have := (List.of_mem_zip hx).1
    rcases kindOk _ this with q | q
    · exact .inl q
    · obtain ⟨cc, e⟩ := c4 x.1 (.inr (mem_of_lookup q))
      exact .inr ⟨q, by rw [e]; rfl⟩
  · subst he
    generalize hL : s.heap.objs.size = L at ic fr c4
    have kp := ic.toInCall.keep
    have eL : (newEnv fd.scope L fd.globals (cellsFrom (L + 1) fd.scope.names []) (fd.qualname ++ ".<locals>.") (some fa) fd.code none fd.builtins).locals = L := rfl
    have eC : (newEnv fd.scope L fd.globals (cellsFrom (L + 1) fd.scope.names []) (fd.qualname ++ ".<locals>.") (some fa) fd.code none fd.builtins).cells = cellsFrom (L + 1) fd.scope.names [] := rfl
    generalize hE' : newEnv fd.scope L fd.globals (cellsFrom (L + 1) fd.scope.names []) (fd.qualname ++ ".<locals>.") (some fa) fd.code none fd.builtins = env at ic eL eC
    have esc : env.scope = fd.scope := by rw [← hE']; rfl
    have eg : env.globals = fd.globals := by rw [← hE']; rfl
    have eb : env.builtins = fd.builtins := by rw [← hE']; rfl
    refine ⟨top.ok.lim.keeps kp, codeAny_func ?_⟩
    have lk : ∀ n cc, (n, cc) ∈ env.cells → ∃ v, s'.heap.IsCell cc v := fun n cc m => ⟨_, ic.cell n cc (by rw [eC] at m ⊢; exact cells_uniq _ _ _ F.nodup (fun n cc q => by simp at q) n cc m)⟩
    have hge : ∀ a, (a = L ∨ ∃ n, (n, a) ∈ env.cells) → s.heap.get? a = none := fun a q => by
      cases e : s.heap.get? a with
      | none => rfl
      | some o =>
        have h1 := Heap.lt_size e
        rw [hL] at h1
        rcases q with q | ⟨n, q⟩
        · subst q; exact absurd h1 (Nat.lt_irrefl _)
        · have := ic.above n a q
          rw [eL] at this
          exact absurd h1 (Nat.not_lt.mpr (Nat.le_of_lt this))
    have memX : ∀ a ∈ L :: (env.cells.map (·.2) ++ X), a ∈ X ∨ s.heap.get? a = none := fun a q => by
      rcases List.mem_cons.mp q with q | q
      · exact .inr (hge a (.inl q))
      · rcases List.mem_append.mp q with q | q
        · obtain ⟨⟨n, cc⟩, q1, q2⟩ := List.mem_map.mp q
          exact .inr (hge a (.inr ⟨n, by rw [← q2]; exact q1⟩))
        · exact .inl q
    have kk : Keeps s s' := by obtain ⟨h1, tk, e⟩ := ic.toInCall.same; subst e; exact ⟨h1, tk, rfl, kp⟩
    have r' : RdL (L :: (env.cells.map (·.2) ++ X)) s'.heap ws es := (r.off memX).kp kp
    have hns := ic.toInCall.ns
    rw [eL] at hns
    have ek : ∀ x, env.kindOf x = fd.scope.names.lookup x := fun x => by rw [← hE']; rfl
    have hE2 := h env (L :: (env.cells.map (·.2) ++ X)) s' (eL.trans hL.symm) ?_
    · exact wpAny_mono hE2 (fun f s₂ q => q) fun _ _ q => q.elim
    refine ⟨⟨esc, ?_, ro.deeper env, (top.off memX).kp kp, ?_, ?_⟩, kk, memX, fun a q => by simp [q], ?_, fun a q => by simp at q, trivial, fun a q => by simp at q⟩
    · refine ⟨by rw [esc]; exact F.kind, eg.trans F.glob, eb.trans F.blt, by rw [eL]; simp, fun n cc q => ?_, ic.apart, fun n q => ?_⟩
      · exact List.mem_cons_of_mem _ (List.mem_append.mpr (.inl (List.mem_map.mpr ⟨_, q, rfl⟩)))
      · rw [ek] at q
        rcases q with q | q
        · rw [eC]; exact c4 n (.inr (mem_of_lookup q))
        · have := List.all_eq_true.mp F.nofree _ (mem_of_lookup q)
          simp at this
    · intro a q
      rcases List.mem_cons.mp q with q | q
      · subst q; exact ns_live hns
      · rcases List.mem_append.mp q with q | q
        · obtain ⟨⟨n, cc⟩, q1, q2⟩ := List.mem_map.mp q
          obtain ⟨v, q3⟩ := lk n cc q1
          subst q2
          exact cell_live q3
        · obtain ⟨o, q⟩ := lv a q; exact ⟨o, kp a o q⟩
    · refine ⟨⟨_, by rw [eL]; exact hns, fun x d q hl => ?_⟩, lk, fun x d q hl => ?_⟩
      · obtain ⟨v, q1, q2, _⟩ := bind_look (kf := env.kindOf) (m := fun _ => none) (cm := fun _ => none) hps r' q
        exact ⟨v, q2 hl, q1⟩
      · obtain ⟨v, q1, _, q2⟩ := bind_look (kf := env.kindOf) (m := fun _ => none) (cm := fun _ => none) hps r' q
        have hxp : x ∈ ps := (List.of_mem_zip (mem_of_lookup q)).1
        rcases kindOk x hxp with e | e
        · exact absurd ((ek x).trans e) hl
        · obtain ⟨cc, e'⟩ := c4 x (.inr (mem_of_lookup e))
          rw [← eC] at e'
          exact ⟨.inl ((ek x).trans e), cc, v, e', by have := ic.cell x cc e'; rwa [q2 hl] at this, q1⟩
    · intro a q
      unfold mutS at q
      rw [eL, List.append_nil] at q
      rcases List.mem_cons.mp q with q | q
      · exact hge a (.inl q)
      · obtain ⟨⟨n, cc⟩, q1, q2⟩ := List.mem_map.mp q
        exact hge a (.inr ⟨n, by rw [← q2]; exact q1⟩)
theorem fn_code {fa : Addr} {fd : FuncData} {body : List Stmt} {ps : List Str} {es : List D} {d : D} (F : FnAt c fa fd body) (hps : ps.Nodup) (hpk : (ps.all fun x => fd.scope.names.lookup x == some .local || fd.scope.names.lookup x == some .cell) = true)
    (hE : Ex c k fd.scope (ps.zip es) none body (.ret d)) {A : Around} {X : List Addr} {s : Shared} {vs ws : List Value} {R : Result → Shared → Prop} (ro : Room A (k + 1)) (top : TopX c X s.heap) (lv : Live X s.heap) (hb : BindsTo s fd ⟨vs, []⟩ (ps.zip ws)) (r : RdL X s.heap ws es)
    (h : ∀ v s', Keeps s s' → Rd X s'.heap v d → R (.ok (.ret v)) s') : codeAny (model c.prog c.w) A (.call (.ref fa) ⟨vs, []⟩) R s :=
  fn_enter F hps hpk ro top lv hb r fun env X' s' _ fs => wpAny_mono (hE s X env (A.deeper env) X' [] s' (fun _ _ => False) fs) (fun f s₂ q => by obtain ⟨v, rfl, q1, q2⟩ := q; exact h v s₂ q1 q2) fun _ _ q => q
/-- a def as an operation -/
theorem OpN.fn {fa : Addr} {fd : FuncData} {body : List Stmt} {ps : List Str} {ds exd : List D} {d : D} (F : FnAt c fa fd body) (hps : ps.Nodup) (hpk : (ps.all fun x => fd.scope.names.lookup x == some .local || fd.scope.names.lookup x == some .cell) = true)
    (hb : ∀ s vs, c.K.In s.heap → vs.length = ds.length → ∃ ex, BindsTo s fd ⟨vs, []⟩ (ps.zip (vs ++ ex)) ∧ ∀ X, RdL X s.heap ex exd)
    (hE : Ex c k fd.scope (ps.zip (ds ++ exd)) none body (.ret d)) : OpN c (k + 1) (.ref fa) ds d := by
  intro A X s E vs ro top lv r
  obtain ⟨ex, hb1, hb2⟩ := hb s vs top.ok.kin r.length
  exact wpAny_call (fn_code F hps hpk hE ro top lv hb1 (r.append (hb2 X)) fun v s' k1 r1 => ⟨k1, r1⟩)
end
end Mine
end

section
open PySem PySem.W PyProof.Rows
set_option Elab.async false
set_option linter.unusedVariables false
namespace Mine
section
variable {prog : Program} {w : World} {A : Around} {E : Value → Shared → Prop} {s : Shared}
/-- two items of a list, unpacked -/
theorem unpack_list2 {l : Addr} {x y : Value} {Q : List Value → Shared → Prop} (hh : A.handled = none) (hl : s.heap.IsList l #[x, y])
    (hQ : ∀ h', Heap.ExtBut s.heap.objs.size s.heap h' → Q [x, y] { s with heap := h' }) : wpAny (model prog w) A (unpackItems (.ref l) 2 none) Q E s := by
  have hlt : l ≠ s.heap.objs.size := by obtain ⟨o, ho, _⟩ := hl; exact Nat.ne_of_lt (Heap.lt_size ho)
  unfold unpackItems
  refine wpAny_bind ?_
  unfold notIterableAtAll
  refine wpAny_bind (wpAny_specialOf hl.typeIs slot_list_iter.lookup (wpAny_pure ?_))
  simp only [Bool.false_eq_true, if_false]
  refine wpAny_bind (wpAny_holding (wpAny_pyIter_list hl ?_))
  have l₀ : (s.heap.push { cls := .type "list_iterator", data := .fields #[.ref l, .int 0 0] }).IsList l #[x, y] := by
    obtain ⟨o, ho, r⟩ := hl; exact ⟨o, Heap.get?_push_of_some _ ho, r⟩
  have ext : ∀ {h h' : Heap}, h.IsList l #[x, y] → Heap.ExtBut s.heap.objs.size h h' → h'.IsList l #[x, y] := fun ⟨o, ho, r⟩ e => ⟨o, e l o hlt ho, r⟩
  refine wpAny_bind (wpAny_holding ?_)
  show wpAny _ _ (pyNext (.ref s.heap.objs.size) >>= _) _ _ _
  refine wpAny_bind (wpAny_pyNext_list_item (i := 0) ⟨_, Heap.get?_push_size _ rfl, rfl, rfl⟩ l₀ (x := x) rfl fun h₁ i₁ e₁ => ?_)
  have l₁ := ext l₀ e₁.extBut
  refine wpAny_bind (wpAny_holding ?_)
  show wpAny _ _ (pyNext (.ref s.heap.objs.size) >>= _) _ _ _
  refine wpAny_bind (wpAny_pyNext_list_item i₁ l₁ (x := y) rfl fun h₂ i₂ e₂ => ?_)
  have l₂ := ext l₁ e₂.extBut
  refine wpAny_bind (wpAny_holding ?_)
  refine wpAny_pure (wpAny_pure (wpAny_pure ?_))
  rw [if_neg (by simp)]
  refine wpAny_bind (wpAny_holding (wpAny_pyNext_list_end hh i₂ l₂ (by simp) fun h₃ e₃ => ?_))
  simp only [Option.isSome_none, Bool.false_eq_true, if_false]
  exact wpAny_pure (hQ h₃ fun b o hb e => e₃ b o hb (e₂.extBut b o hb (e₁.extBut b o hb (Heap.get?_push_of_some _ e))))
end
section
variable {c : Cx} {k : Nat} {sc : Scope} {σ σ' : List (Str × D)} {ow ow' : Option (Str × List D)} {pos : Pos} {s₀ : Shared} {X₀ : List Addr} {env : Env} {A : Around} {X oa : List Addr} {s s' : Shared} {E : Value → Shared → Prop} {r : Res}
theorem asg_lst2 {x y : Str} {px py : Pos} {d e : D} {n : Nat} {p : Pos} (hx : sc.names.lookup x = some .local ∨ sc.names.lookup x = some .cell) (hy : sc.names.lookup y = some .local ∨ sc.names.lookup y = some .cell) :
    Asg c k sc (.Tuple [.Name x px, .Name y py] n p) (.lst [d, e]) σ ((y, e) :: (x, d) :: σ) := by
  intro env A X s E v t r
  obtain ⟨a, vs, rfl, ht, r'⟩ := r.isLst
  cases r' with
  | cons r1 r' => cases r' with
    | cons r2 r' => cases r' with
      | nil =>
        rename_i v1 v2
        rw [arm_assign_Tuple]
        refine wpAny_bind (wpAny_standAt ?_)
        unfold unpack
        refine wpAny_bind (wpAny_holding ?_)
        refine unpack_list2 t.room.hd ht fun h' he => ?_
        have kp : Keeps s { s with heap := h' } := kk_heap fun b o q => he b o (Nat.ne_of_lt (Heap.lt_size q)) q
        refine wpAny_mono (bind_in (E := E) [(x, px), (y, py)] [v1, v2] [d, e] σ _ (slotsT env (.Tuple [.Name x px, .Name y py] n p)) rfl ?_ ?_ ?_ (t.kp kp) (.cons (r1.kp (kk_kp kp)) (.cons (r2.kp (kk_kp kp)) .nil))) (fun _ s₂ q => ⟨(StepX.of kp).trans q.1, q.2.1, fun z u hz w => q.2.2 z u (fun m => hz ?_) (w.kp (kk_kp kp))⟩) fun _ _ e => e
        · intro z hz
          simp at hz
          rcases hz with rfl | rfl
          · exact hx
          · exact hy
        · intro z hz a ha
          simp at hz
          rcases hz with rfl | rfl
          · simp [slotsT, ha]
          · simp [slotsT, ha]
        · intro a ha
          simp [slotsT] at ha
          rcases ha with ha | ha
          · exact slot_in t x a ha
          · exact slot_in t y a ha
        · simpa [tnames] using m
/-- an assignment to a tuple of names -/
theorem Ex1.assignT {elts : List Expr} {n : Nat} {tp : Pos} {e : Expr} {d : D} (he : EvF c k sc σ ow e d) (ha : Asg c k sc (.Tuple elts n tp) d σ σ') (ho : ∀ x ∈ ownName ow, x ∉ tnames (.Tuple elts n tp))
    (hs : ∀ env, swapsWithSole [.Tuple elts n tp] e pos.line env = pure false) (hw : ∀ env, env.scope = sc → swappedStores [.Tuple elts n tp] e env = pure none) :
    Ex1 c k sc σ ow (.Assign [.Tuple elts n tp] e pos) (.next σ' ow) := by
  intro s₀ X₀ env A X oa s E f
  refine Assign_Tuple (wpAny_mono (he s₀ X₀ env A X oa s E f) (fun v s₁ h₁ => ?_) fun _ _ e => e) (hs env) (hw env f.st.sc)
  have f₁ := f.keeps h₁.1
  refine wpAny_mono (ha env A X s₁ E v f₁.st h₁.2) (fun _ s₂ q => ?_) fun _ _ e => e
  obtain ⟨q1, q2, q3⟩ := q
  exact ⟨rfl, f₁.stepped q1 q2 slotsT_mut (fun a ha => f₁.mutX a (slotsT_mut a ha)) (fun a ha m => by obtain ⟨y, _, m⟩ := slots_names m; exact slot_oa f₁ y ha m) (fun y hy u w => q3 y u (ho y hy) w), (StepX.of h₁.1).trans (q1.sub slotsT_mut)⟩
/-- two locals, stored the other way round -/
theorem Ex1.assignS {x y : Str} {px py : Pos} {n : Nat} {tp : Pos} {e : Expr} {d d' : D} (he : EvF c k sc σ ow e (.tup [d, d'])) (hx : sc.names.lookup x = some .local ∨ sc.names.lookup x = some .cell) (hy : sc.names.lookup y = some .local ∨ sc.names.lookup y = some .cell) (hox : x ∉ ownName ow) (hoy : y ∉ ownName ow)
    (hs : ∀ env, swapsWithSole [.Tuple [.Name x px, .Name y py] n tp] e pos.line env = pure false) (hw : ∀ env : Env, env.scope = sc → swappedStores [.Tuple [.Name x px, .Name y py] n tp] e env = pure (some [x, y])) :
    Ex1 c k sc σ ow (.Assign [.Tuple [.Name x px, .Name y py] n tp] e pos) (.next ((x, d) :: (y, d') :: σ) ow) := by
  intro s₀ X₀ env A X oa s E f
  refine Assign_Tuple_swapped (wpAny_mono (he s₀ X₀ env A X oa s E f) (fun v s₁ h₁ => ?_) fun _ _ e => e) (hs env) (hw env f.st.sc)
  have f₁ := f.keeps h₁.1
  obtain ⟨a, vs, rfl, ht, r'⟩ := h₁.2.isTup
  cases r' with
  | cons r1 r' => cases r' with
    | cons r2 r' => cases r' with
      | nil =>
        rename_i v1 v2
        have e2 : ([x, y] : List Str).length = ([v1, v2] : List Value).toArray.size := rfl
        rw [e2]
        refine unpackItems_tuple (items := ([v1, v2] : List Value).toArray) f.st.room.hd ht fun h' he => ?_
        have kp : Keeps s₁ { s₁ with heap := h' } := kk_heap fun b o q => he b o (Nat.ne_of_lt (Heap.lt_size q)) q
        have f₂ := f₁.keeps kp
        refine wpAny_assignInOrder_more (wpAny_bindName (store_F f₂ (r2.kp (kk_kp kp)) hy hoy fun s₃ st₃ f₃ => ?_))
        refine wpAny_assignInOrder_more (wpAny_bindName (store_F f₃ ((r1.kp (kk_kp kp)).kpx (st₃.kpx.sub f₂.mutX)) hx hox fun s₄ st₄ f₄ => ?_))
        exact wpAny_pure ⟨rfl, f₄, (StepX.of (kk_trans h₁.1 kp)).trans (st₃.trans st₄)⟩
end
end Mine
end

section
open PySem PySem.W PyProof.Rows
set_option Elab.async false
set_option linter.unusedVariables false
namespace Mine
section
variable {c : Cx} {k : Nat} {sc : Scope} {σ σ' : List (Str × D)} {ow ow' : Option (Str × List D)} {pos spos : Pos} {s₀ : Shared} {X₀ : List Addr} {env : Env} {A : Around} {X oa : List Addr} {s s' : Shared} {E : Value → Shared → Prop} {r : Res}
/-- a comprehension of two clauses, stored before its names are let go -/
theorem Ex1.assignComp2 {z : Str} {pz : Pos} {elt i0 i1 : Expr} {x y : Str} {px py : Pos} {scope : Scope} {ds : List D} {es : D → List D} {g : D → D → D} (ok : compOk scope sc [x, y] = true) (hxy : x ≠ y) (hs0 : NotSet i0) (hs1 : NotSet i1) (hsrc : Src c k sc σ i0 false ds)
    (hin : ∀ d ∈ ds, Src c k (rel scope sc) ((x, d) :: res scope σ) i1 false (es d)) (hB : ∀ d ∈ ds, ∀ e ∈ es d, Ev c k (rel scope sc) ((y, e) :: (x, d) :: res scope σ) elt (g d e)) (hlen : (ds.flatMap fun d => (es d).map (g d)).length ≤ 1000)
    (hz : sc.names.lookup z = some .local ∨ sc.names.lookup z = some .cell) (ho : z ∉ ownName ow)
    (hsw : ∀ env, env.scope = sc → swapsWith (.ListComp elt [⟨.Name x px, i0, [], 0⟩, ⟨.Name y py, i1, [], 0⟩] scope pos) (some (.Name z pz)) spos.line env = pure true) :
    Ex1 c k sc σ ow (.Assign [.Name z pz] (.ListComp elt [⟨.Name x px, i0, [], 0⟩, ⟨.Name y py, i1, [], 0⟩] scope pos) spos) (.next ((z, .lst (ds.flatMap fun d => (es d).map (g d))) :: σ) ow) := by
  intro s₀ X₀ env A X oa s E f
  rw [exec_Assign_Name_used _ _ _ _ (hsw env f.st.sc)]
  refine wpAny_bind (wpAny_standAt (wpAny_bind ?_))
  show wpAny _ A (do let _ ← comprehension (.ListComp elt [⟨.Name x px, i0, [], 0⟩, ⟨.Name y py, i1, [], 0⟩] scope pos) scope env _ (newList []) false (eval i0 env) (some (PySem.assign (.Name z pz) env))) _ _ s
  refine wpAny_bind (wpAny_mono (core2n (Q := fun _ s' => Done c k sc (.next ((z, .lst (ds.flatMap fun d => (es d).map (g d))) :: σ) ow) s₀ X₀ env A X oa s .next s') ok hxy hs0 hs1 hsrc hin hB hlen f.st fun C a s' h => ?_) (fun _ s' hq => wpAny_pure (wpAny_pure hq)) fun _ _ e => e)
  obtain ⟨kp, ⟨m, n⟩, hC, ha, hne, ys, ⟨nn, pl⟩, r⟩ := h
  have hCX : C ∉ X := f.st.live.fresh hC
  have hCm : C ∉ mutS env oa := fun q => hCX (f.mutX C q)
  have C0 : s₀.heap.get? C = none := by
    cases q : s₀.heap.get? C with
    | none => rfl
    | some o => have := kk_kp f.kp _ o q; rw [hC] at this; cases this
  have f₁ := f.in hC kp (ns_live n)
  have haX : a ∉ C :: X := by simp [hne, f.st.live.fresh ha]
  refine wpAny_assign_Name (store_F f₁ (.lst haX pl r) hz ho fun s₂ st₂ f₂ => ?_)
  have n₂ : s₂.heap.Ns C m := by obtain ⟨o, es, ep, e, q⟩ := n; exact ⟨o, es, ep, st₂.kpx _ _ hCm e, q⟩
  refine ⟨m, n₂, fun h' hs' => ?_⟩
  have kC : KpX [C] s₂.heap h' := fun b o nb e => hs'.extBut b o (fun q => nb (by rw [q]; simp)) e
  have st₃ : StepX [C] s₂ { s₂ with heap := h' } := ⟨h', _, rfl, kC⟩
  have f₃ := f₂.out f.st.ok f.sub (fun a ha => (f.oaX a ha).1) st₃ hCX hCm C0
  refine ⟨rfl, f₃, ?_⟩
  obtain ⟨h1, t1, rfl, k1⟩ := kp
  obtain ⟨h2, t2, rfl, k2⟩ := st₂
  refine ⟨h', t2, rfl, fun b o nb e => ?_⟩
  exact kC b o (by rintro q; rw [List.mem_singleton.mp q] at e; rw [hC] at e; cases e) (k2 b o nb (k1 b o e))
end
end Mine
end

section
open PySem PySem.W PyProof.Rows
set_option Elab.async false
set_option linter.unusedVariables false
namespace Mine
section
variable {prog : Program} {w : World} {A : Around} {E : Value → Shared → Prop} {s : Shared}
theorem adjust_upto (b n : Nat) (hb : b ≤ n) : Builtin.Slice.sliceAdjust none (some (b : Int)) 1 (n : Int) = ((0 : Int), (b : Int)) := by
  unfold Builtin.Slice.sliceAdjust
  have h1 : ¬ ((1 : Int) < 0) := by omega
  have h2 : ¬ ((b : Int) < 0) := by omega
  simp only [h1, h2, if_false]
  congr 1
  omega
theorem places_upto (b : Nat) : Builtin.Slice.slicePlaces (0 : Int) (b : Int) 1 = b := by
  unfold Builtin.Slice.slicePlaces
  have h1 : (1 : Int) > 0 := by omega
  simp only [h1, if_true, Int.ediv_one]
  split <;> omega
theorem sliceApplied_upto {sl : Addr} {b n : Nat} {u : Tok} {Q : Int × Int × Nat → Shared → Prop} (hs : s.heap.IsSliceOf sl .none (.int b u) .none) (hb : b ≤ n) (h : Q ((0 : Int), 1, b) s) :
    wpAny (model prog w) A (Builtin.Slice.sliceApplied (.ref sl) (pure (n : Int))) Q E s := by
  obtain ⟨os, hos, hcs, hds⟩ := id hs
  unfold Builtin.Slice.sliceApplied Builtin.Slice.sliceFields
  refine wpAny_bind (wpAny_bind (wpAny_field hos hds (x := .none) rfl (wpAny_bind (wpAny_field hos hds (x := .int b u) rfl (wpAny_bind (wpAny_field hos hds (x := .none) rfl (wpAny_pure ?_)))))))
  refine wpAny_bind (slicePart_none ?_)
  show wpAny _ _ (if ((1 : Int) == 0) = true then _ else _) _ _ s
  rw [if_neg (by decide)]
  refine wpAny_bind (slicePart_none (wpAny_bind (slicePart_int (wpAny_bind (wpAny_pure ?_)))))
  show wpAny _ _ (match Builtin.Slice.sliceAdjust none (some (b : Int)) 1 (n : Int) with | (lo, hi) => pure (lo, (1 : Int), Builtin.Slice.slicePlaces lo hi 1)) _ _ s
  rw [adjust_upto b n hb]
  show wpAny _ _ (pure ((0 : Int), (1 : Int), Builtin.Slice.slicePlaces (0 : Int) (b : Int) 1)) _ _ s
  rw [places_upto b]
  exact wpAny_pure h
theorem pick_upto (xs : Array Value) (b : Nat) : ((List.range b).filterMap fun (k : Nat) => xs[((0 : Int) + (k : Int) * 1).toNat]?).toArray = (xs.toList.take b).toArray := by
  have e : (fun (k : Nat) => xs[((0 : Int) + (k : Int) * 1).toNat]?) = fun k => xs[0 + k]? := by
    funext k
    have : ((0 : Int) + (k : Int) * 1).toNat = 0 + k := by omega
    rw [this]
  rw [e]
  have := pick_run xs 0 b
  rw [List.filterMap_map] at this
  have e2 : ((fun x => xs[x]?) ∘ fun x => 0 + x) = fun k => xs[0 + k]? := rfl
  rw [e2] at this
  rw [this, List.drop_zero]
theorem getItem_tuple_upto {t sl : Addr} {items : Array Value} {b : Nat} {u : Tok} {Q : Value → Shared → Prop} (ht : IsTup s.heap t items) (hs : s.heap.IsSliceOf sl .none (.int b u) .none) (hb : b < items.size)
    (h : Q (.ref s.heap.objs.size) { s with heap := s.heap.push { cls := .type "tuple", data := .seq (items.toList.take b).toArray } })
    (hsz : items.size ≤ sizeLine) : wpAny (model prog w) A (getItem (.ref t) (.ref sl)) Q E s := by
  have hdrop : sizeOk (.seq (items.toList.take b).toArray) := by
    show (items.toList.take b).toArray.size ≤ sizeLine
    rw [List.size_toArray, List.length_take, Array.length_toList]
    omega
  obtain ⟨os, hos, hcs, hds⟩ := id hs
  have hTs : s.TypeIs (.ref sl) "slice" := ⟨os, hos, hcs⟩
  unfold getItem
  try with_reducible refine wpAny_holding ?_
  first | refine wpAny_bind (wpAny_pure ?_) | skip
  refine wpAny_bind (wpAny_sequenceKey ht.typeIs (by decide) ?_)
  refine wpAny_bind (wpAny_callSpecial?_slot (name := Str.ofString "__getitem__") ht.typeIs slot_tuple_getitem
    (wpAny_call_entry slot_tuple_getitem ht.typeIs entry_tuple_getitem ?_ (args_tuple_getitem _ _)))
  show wpAny _ _ (Builtin.Tuple.tupleItemsOf (.ref t) >>= _) _ _ s
  refine wpAny_bind (tupleItemsOf_ ht ?_)
  refine wpAny_bind (wpAny_typeOf hTs ?_)
  rw [if_pos (by decide)]
  refine wpAny_bind (sliceApplied_upto hs (Nat.le_of_lt hb) ?_)
  have hno : ¬ (((0 : Int) == 0 && (1 : Int) == 1 && b == items.size) = true) := by
    have : (b == items.size) = false := by rw [beq_eq_false_iff_ne]; omega
    rw [this]; simp
  show wpAny _ _ (if ((0 : Int) == 0 && (1 : Int) == 1 && b == items.size) = true then _ else _) _ _ s
  rw [if_neg hno, pick_upto items b]
  first
    | exact wpAny_bind (m := Builtin.Tuple.tupleExact _) (wpAny_newObj_type (wpAny_pure ⟨_, rfl, wpAny_pure h⟩) hdrop)
    | exact wpAny_bind (m := Builtin.Tuple.tupleExact _) (wpAny_newObj_type (wpAny_bind (wpAny_pure (wpAny_pure ⟨_, rfl, wpAny_pure h⟩))) hdrop)
    | exact wpAny_bind (wpAny_bind (m := Builtin.Tuple.tupleExact _) (wpAny_newObj_type (wpAny_pure (wpAny_pure ⟨_, rfl, wpAny_pure h⟩)) hdrop))
    | exact wpAny_bind (wpAny_bind (m := Builtin.Tuple.tupleExact _) (wpAny_newObj_type (wpAny_pure ⟨_, rfl, wpAny_pure h⟩) hdrop))
end
section
variable {c : Cx} {k : Nat} {sc : Scope} {σ : List (Str × D)} {pos : Pos}
theorem Ev.sliceTup {value : Expr} {upper : Expr} {b : Nat} {p : Pos} {ds : List D} (hv : Ev c k sc σ value (.tup ds)) (hu : Ev c k sc σ upper (.int b)) (hb : b < ds.length) (hsz : ds.length ≤ 1000) :
    Ev c k sc σ (.Subscript value (.Slice none (some upper) none p) pos) (.tup (ds.take b)) := by
  refine Ev.slice (lo := none) (hi := some (b : Int)) hv trivial hu fun A X s E v vl vu sl _ _ l hv pl pu hs => ?_
  obtain ⟨a, vs, rfl, ht, r⟩ := hv.isTup
  cases pl
  obtain ⟨u, rfl⟩ := pu
  refine tail_any ht.typeIs slot_tuple_getitem.lookup (getItem_tuple_upto ht ⟨_, hs, rfl, rfl⟩ (by rw [List.size_toArray, r.length]; exact hb) ?_ (by rw [List.size_toArray, r.length]; show _ ≤ 2 ^ 24; omega)) (by with_unfolding_all rfl)
  exact new_post l rfl fun h' kp e m => .tup m e ((r.take b).kp kp)
end
end Mine
end

section
open PySem PySem.W PyProof.Rows
set_option Elab.async false
set_option linter.unusedVariables false
namespace Mine
theorem RdL.readsInts {X : List Addr} {h : Heap} {vs : List Value} {is : List Int} (r : RdL X h vs (is.map D.int)) : ∃ as, ReadsAll h vs (is.map PyData.int) as := by
  induction vs generalizing is with
  | nil => cases is with
    | nil => exact ⟨_, .nil⟩
    | cons i is => cases r
  | cons v vs ih => cases is with
    | nil => cases r
    | cons i is => cases r with
      | cons a r => cases a with
        | int i t => obtain ⟨as, q⟩ := ih r; exact ⟨_, .cons (.int i t) q⟩
theorem eqvAll_ints (is js : List Int) : PyData.eqvAll (is.map PyData.int) (js.map PyData.int) = (is == js) := by
  induction is generalizing js with
  | nil => cases js <;> simp [PyData.eqvAll]
  | cons i is ih => cases js with
    | nil => simp [PyData.eqvAll]
    | cons j js => simp [PyData.eqvAll, PyData.eqv, ih]
theorem lay_ints (is : List Int) : PyData.canLayAll0 (is.map PyData.int) = true := by
  induction is with
  | nil => simp [PyData.canLayAll0]
  | cons i is ih => simp [PyData.canLayAll0, PyData.canLay0, ih]
theorem depth_ints (is : List Int) : PyData.depthAll (is.map PyData.int) = 0 := by
  induction is with
  | nil => simp [PyData.depthAll]
  | cons i is ih => simp [PyData.depthAll, PyData.depth, ih]
section
variable {c : Cx} {k : Nat}
theorem op_eqTup (is js : List Int) : Op2 c k (compareOp .Eq) (.tup (is.map D.int)) (.tup (js.map D.int)) (.bool (is == js)) := by
  intro A X s E v u ro _ _ hv hu
  cases hv with
  | tup a1 e1 r1 => cases hu with
    | tup a2 e2 r2 =>
      obtain ⟨_, q1⟩ := r1.readsInts
      obtain ⟨_, q2⟩ := r2.readsInts
      refine SeqAt.compareEq_reads (.tuple e1 rfl rfl q1) (.tuple e2 rfl rfl q2) (by simp [PyData.canLay0, lay_ints]) (by simp [PyData.canLay0, lay_ints]) ?_ ⟨kk_rfl _, ?_⟩
      · simp only [PyData.depth, depth_ints]; have := ro.uni; omega
      · simp only [PyData.eqv, eqvAll_ints]; exact .bool _
theorem op_neTup (is js : List Int) : Op2 c k (compareOp .NotEq) (.tup (is.map D.int)) (.tup (js.map D.int)) (.bool (is != js)) := by
  intro A X s E v u ro _ _ hv hu
  cases hv with
  | tup a1 e1 r1 => cases hu with
    | tup a2 e2 r2 =>
      obtain ⟨_, q1⟩ := r1.readsInts
      obtain ⟨_, q2⟩ := r2.readsInts
      refine SeqAt.compareNe_reads (.tuple e1 rfl rfl q1) (.tuple e2 rfl rfl q2) (by simp [PyData.canLay0, lay_ints]) (by simp [PyData.canLay0, lay_ints]) ?_ ⟨kk_rfl _, ?_⟩
      · simp only [PyData.depth, depth_ints]; have := ro.uni; omega
      · simp only [PyData.eqv, eqvAll_ints]; exact .bool _
theorem op_neLst (is js : List Int) : Op2 c k (compareOp .NotEq) (.lst (is.map D.int)) (.lst (js.map D.int)) (.bool (is != js)) := by
  intro A X s E v u ro _ _ hv hu
  cases hv with
  | lst a1 e1 r1 => cases hu with
    | lst a2 e2 r2 =>
      obtain ⟨_, q1⟩ := r1.readsInts
      obtain ⟨_, q2⟩ := r2.readsInts
      refine SeqAt.compareNe_reads (.list e1 rfl rfl q1) (.list e2 rfl rfl q2) (by simp [PyData.canLay0, lay_ints]) (by simp [PyData.canLay0, lay_ints]) ?_ ⟨kk_rfl _, ?_⟩
      · simp only [PyData.depth, depth_ints]; have := ro.uni; omega
      · simp only [PyData.eqv, eqvAll_ints]; exact .bool _
/-- a list beside the empty list -/
theorem op_eqNil (ds : List D) : Op2 c k (compareOp .Eq) (.lst ds) (.lst []) (.bool ds.isEmpty) := by
  intro A X s E v u ro _ _ hv hu
  obtain ⟨a, vs, rfl, h1, r1⟩ := hv.isLst
  obtain ⟨b, ws, rfl, h2, r2⟩ := hu.isLst
  cases r2
  cases ds with
  | nil =>
    cases r1
    refine SeqAt.eq_listAt (e := fun _ => true) h1 h2 rfl ro.units (fun j h1 => by simp at h1) ⟨kk_rfl _, ?_⟩
    exact .bool _
  | cons d ds =>
    cases r1
    exact SeqAt.eq_list_lengthsAt h1 h2 (by simp) ro.units ⟨kk_rfl _, .bool _⟩
end
end Mine
end

section
open PySem PySem.W PyProof.Rows
set_option Elab.async false
set_option linter.unusedVariables false
namespace Mine
section
variable {c : Cx} {k : Nat} {sc : Scope} {σ : List (Str × D)} {pos : Pos}
theorem op_eqStr (x y : Str) : Op2 c k (compareOp .Eq) (.str x) (.str y) (.bool (x == y)) := by
  intro A X s E v u _ _ _ hv hu; cases hv; cases hu
  exact PyProof.Rows.eq_str ⟨kk_rfl _, .bool _⟩
theorem op_neStr (x y : Str) : Op2 c k (compareOp .NotEq) (.str x) (.str y) (.bool (x != y)) := by
  intro A X s E v u _ _ _ hv hu; cases hv; cases hu
  exact PyProof.Rows.ne_str ⟨kk_rfl _, .bool _⟩
theorem op_inStr (x y : Str) : Op2 c k (compareOp .In) (.str y) (.str x) (.bool (!(Builtin.Str.occurrences x y 0 x.length 1).isEmpty)) := by
  intro A X s E v u _ _ _ hv hu; cases hv; cases hu
  exact P.in_str ⟨kk_rfl _, .bool _⟩
theorem op_notInStr (x y : Str) : Op2 c k (compareOp .NotIn) (.str y) (.str x) (.bool (!(!(Builtin.Str.occurrences x y 0 x.length 1).isEmpty))) := by
  intro A X s E v u _ _ _ hv hu; cases hv; cases hu
  exact P.notIn_str ⟨kk_rfl _, .bool _⟩
theorem iop_add (a b : Int) : Op2 c k (inplaceOp .Add) (.int a) (.int b) (.int (a + b)) := by
  intro A X s E v u _ _ _ hv hu; cases hv; cases hu
  exact P.iadd_int ⟨kk_tok _ _, .int _ _⟩
theorem iop_addStr (x y : Str) (h : x.length + y.length ≤ 1000) : Op2 c k (inplaceOp .Add) (.str x) (.str y) (.str (x ++ y)) := by
  intro A X s E v u _ _ _ hv hu; cases hv; cases hu
  exact PyProof.Rows.iadd_str (fun _ _ => ⟨kk_tok _ _, .str _ _⟩) (by show _ ≤ 2 ^ 24; omega)
theorem op_lastStr {value slice : Expr} {x : Str} {i : Int} {q : Nat} (hn : NoSlice slice) (h0 : i < 0) (h1 : -1000 < i) (h2 : 0 ≤ i + x.length) (hd : x.cps[(i + x.length).toNat]? = some q) : Op2 c k (subscriptTail value slice) (.str x) (.int i) (.str ⟨#[q]⟩) := by
  intro A X s E v u _ _ _ hv hu
  cases hv; cases hu
  have hlt : (i + x.length).toNat < x.length := (Array.getElem?_eq_some_iff.mp hd).1
  refine tail_any (typeIs_str _ _ _) F.slot_str_getitem.lookup (P.getItem_str (c := q) ?_ ?_ ⟨kk_tok _ _, .str _ _⟩) (hn _ _)
  · rw [decide_eq_false (by omega), decide_eq_false (by omega)]; rfl
  · have : seqIndex? i x.length = some (i + x.length).toNat := by
      unfold seqIndex?
      have h3 : ¬ (i + (x.length : Int) < 0) := by omega
      have h4 : i + (x.length : Int) < x.length := by omega
      simp only [h0, if_true, decide_eq_true h2, decide_eq_true h4, Bool.and_self]
    rw [this]
    exact hd
/-- a value's truth -/
noncomputable def Whole (e : Expr) : Prop := ∀ env (w : Sem Value), isTrue e env w = (w >>= fun v => standAt e.pos >>= fun _ => holding [v] (truthy v))
theorem wh_name (x : Str) (p : Pos) : Whole (.Name x p) := fun _ _ => rfl
theorem wh_bin (l r : Expr) (o : Operator) (p : Pos) : Whole (.BinOp l o r p) := fun _ _ => rfl
theorem wh_call (l : Expr) (r : List Expr) (o : List Keyword) (p : Pos) : Whole (.Call l r o p) := fun _ _ => rfl
theorem EvB.int {e : Expr} {a : Int} (h : Ev c k sc σ e (.int a)) (hw : Whole e) : EvB c k sc σ e (a != 0) := by
  intro env A X s E t
  rw [hw]
  refine wpAny_bind (wpAny_mono (h env A X s E t) (fun v s₁ h₁ => ?_) fun _ _ e => e)
  obtain ⟨k1, r1⟩ := h₁
  cases r1
  exact wpAny_bind (wpAny_standAt (wpAny_holding (P.truthy_int ⟨rfl, k1⟩)))
theorem EvB.bool {e : Expr} {b : Bool} (h : Ev c k sc σ e (.bool b)) (hw : Whole e) : EvB c k sc σ e b := by
  intro env A X s E t
  rw [hw]
  refine wpAny_bind (wpAny_mono (h env A X s E t) (fun v s₁ h₁ => ?_) fun _ _ e => e)
  obtain ⟨k1, r1⟩ := h₁
  cases r1
  exact wpAny_bind (wpAny_standAt (wpAny_holding (wpAny_truthy_bool ⟨rfl, k1⟩)))
theorem EvB.str {e : Expr} {x : Str} (h : Ev c k sc σ e (.str x)) (hw : Whole e) (hl : x.length ≤ 1000) : EvB c k sc σ e ((x.length : Int) != 0) := by
  intro env A X s E t
  rw [hw]
  refine wpAny_bind (wpAny_mono (h env A X s E t) (fun v s₁ h₁ => ?_) fun _ _ e => e)
  obtain ⟨k1, r1⟩ := h₁
  cases r1
  exact wpAny_bind (wpAny_standAt (wpAny_holding (P.truthy_str (by omega) ⟨rfl, kk_trans k1 (kk_tok _ _)⟩)))

theorem fn_lenLst (ds : List D) (h : ds.length ≤ 1000000) : OpN c k (.builtin "len") [.lst ds] (.int ds.length) := by
  intro A X s E vs _ _ _ r
  cases r with
  | cons a r =>
    cases r
    obtain ⟨a, vs, rfl, hl, r⟩ := a.isLst
    have e : vs.toArray.size = ds.length := by rw [List.size_toArray, r.length]
    refine Calls.call_len_list hl (by rw [e]; omega) ⟨kk_tok _ _, ?_⟩
    rw [e]; exact .int _ _
theorem fn_lenStr (x : Str) (h : x.length ≤ 1000) : OpN c k (.builtin "len") [.str x] (.int x.length) := by
  intro A X s E vs _ _ _ r
  cases r with
  | cons a r =>
    cases r; cases a
    exact P.len_str (by omega) ⟨kk_tok _ _, .int _ _⟩
theorem fn_ord (q : Nat) : OpN c k (.builtin "ord") [.str ⟨#[q]⟩] (.int q) := by
  intro A X s E vs _ _ _ r
  cases r with
  | cons a r =>
    cases r; cases a
    exact P.ord_of_char ⟨kk_tok _ _, .int _ _⟩
theorem fn_chr (i : Int) (h0 : 0 ≤ i) (h1 : i ≤ 1114111) : OpN c k (.builtin "chr") [.int i] (.str ⟨#[i.toNat]⟩) := by
  intro A X s E vs _ _ _ r
  cases r with
  | cons a r =>
    cases r; cases a
    exact chr_of_range h0 h1 ⟨kk_tok _ _, .str _ _⟩
theorem fn_max (a b : Int) : OpN c k (.builtin "max") [.int a, .int b] (.int (max a b)) := by
  intro A X s E vs ro _ _ r
  cases r with
  | cons v1 r => cases r with
    | cons v2 r =>
      cases r; cases v1; cases v2
      refine PySem.Flt.max_two_num ro.hd (.int _ _) (.int _ _) fun h' tk kp => ?_
      refine ⟨⟨h', tk, rfl, kp⟩, ?_⟩
      split
      · rename_i h
        have h : a < b := of_decide_eq_true h
        rw [Int.max_eq_right (by omega)]; exact .int _ _
      · rename_i h
        have h : ¬ a < b := fun q => h (decide_eq_true q)
        rw [Int.max_eq_left (by omega)]; exact .int _ _
theorem fn_isBool (i : Int) : OpN c k (.builtin "isinstance") [.int i, .val (.type "bool")] (.bool false) := by
  intro A X s E vs ro _ _ r
  cases r with
  | cons v1 r => cases r with
    | cons v2 r =>
      cases r; cases v1; cases v2
      exact IsiPair.int_bool ⟨kk_tok _ _, .bool _⟩
/-- a type read as a value -/
theorem Ev.globTyp {x : Str} {n : String} (hk : sc.names.lookup x = some .globalImplicit) (hg : c.G.lookup x = some (.type n)) (hd : (x == ("__debug__" : Str)) = false := by decide) : Ev c k sc σ (.Name x pos) (.val (.type n)) :=
  fun _ _ _ _ _ t => wpAny_Name (glob_of t hk hg ⟨kk_rfl _, .val _⟩) hd
/-- a list of the top, read as a value -/
theorem Ev.globLst {x : Str} {a : Addr} {vs : List Value} {n : Nat} {ds : List D} (hk : sc.names.lookup x = some .globalImplicit) (hg : c.G.lookup x = some (.ref a)) (ho : c.K.lookup a = some { cls := .type "list", data := .seq vs.toArray n })
    (hX : ∀ X h, RdL X h vs ds) (hd : (x == ("__debug__" : Str)) = false := by decide) : Ev c k sc σ (.Name x pos) (.lst ds) := by
  intro env A X s E t
  refine wpAny_Name (glob_of t hk hg ⟨kk_rfl _, ?_⟩) hd
  obtain ⟨h₀, q1, q2⟩ := t.top
  obtain ⟨q3, q4⟩ := q2 _ _ (q1.kin _ _ ho)
  exact .lst q3 q4 (hX _ _)
theorem fn_sum (is : List Int) : OpN c k (.builtin "sum") [.lst (is.map D.int)] (.int is.sum) := by
  intro A X s E vs ro _ _ r
  cases r with
  | cons a r =>
    cases r
    obtain ⟨l, vs, rfl, hl, r⟩ := a.isLst
    have hi := r.ints
    obtain ⟨xs, hx⟩ := hi.allInts.items
    have hl' : s.heap.IsList l (intItems xs) := hx ▸ hl
    refine sum_intListG ro.hd hl' fun h' tk t' hk => ?_
    have e1 : is = xs.toList.map (·.1) := by
      rw [← nums_intItems, ← hx]
      exact (show numsOf vs.toArray.toList = is from hi.numsOf).symm
    have e2 : preSum (numAt xs) xs.size = is.sum := by
      rw [preSum_eq, List.take_of_length_le (by simp), e1]
    rw [e2]
    exact ⟨⟨h', tk, rfl, hk⟩, .int _ _⟩
theorem fn_range1 (n : Int) : OpN c k (.type "range") [.int n] (.rng 0 n 1) := by
  intro A X s E vs ro _ l r
  cases r with
  | cons a r =>
    cases r; cases a
    refine call_range_1 ⟨⟨_, _, rfl, fun _ _ e => Heap.get?_push_of_some _ e⟩, .rng l.size (IsRange.new ..)⟩
theorem fn_range3 (a b d : Int) (hd : d ≠ 0) (hs : Builtin.divisionGoesByPylong (b - a) d = false) : OpN c k (.type "range") [.int a, .int b, .int d] (.rng a b d) := by
  intro A X s E vs ro _ l r
  cases r with
  | cons v1 r => cases r with
    | cons v2 r => cases r with
      | cons v3 r =>
        cases r; cases v1; cases v2; cases v3
        refine call_range_3 hd ⟨⟨_, _, rfl, fun _ _ e => Heap.get?_push_of_some _ e⟩, .rng l.size (IsRange.new ..)⟩ (.inl hs)
end
end Mine
end

section
open PySem PySem.W PyProof.Rows
set_option Elab.async false
set_option linter.unusedVariables false
namespace Mine
section
variable {c : Cx} {k : Nat} {sc : Scope} {σ : List (Str × D)} {pos : Pos}
noncomputable def PlainBase (o : Expr) : Prop := ∀ name env, attributeBase o name env (eval o env) = eval o env
theorem pb_name (x : Str) (p : Pos) : PlainBase (.Name x p) := fun _ _ => rfl
theorem pb_const (q : Const) (n : Nat) (p : Pos) : PlainBase (.Constant q n p) := fun _ _ => rfl
theorem few_ok {args : List Expr} {ds : List D} (ha : EvL c k sc σ args ds) (hl : args.length < 30) (env : Env) (pos : Pos) : ((backTo pos (starEach args env)).all (fun x => !x.1) && (backToKw pos (keywordEach [] env)).all (fun x => x.1.isSome)
      && decide (args.length + ([] : List Keyword).length + (if ([] : List Keyword).isEmpty then 0 else 1) < 30)) = true := by
  have h1 := ha.plain env pos
  have h2 : (backTo pos (starEach args env)).all (fun x => !x.1) = true := by
    rw [List.all_eq_true]
    intro x hx
    have := List.any_eq_false.mp h1 x hx
    simpa using this
  have h3 : (backToKw pos (keywordEach [] env)).all (fun x => x.1.isSome) = true := rfl
  rw [h2, h3]
  simp [hl]
/-- a text's method -/
theorem Ev.methStr {o : Expr} {name : Str} {id : String} {apos : Pos} {args : List Expr} {x : Str} {ds : List D} {d : D} (ho : Ev c k sc σ o (.str x)) (ha : EvL c k sc σ args ds) (slot : Slot "str" name id) (ty : typeOf (.builtin id) = pure (.type "method_descriptor"))
    (hop : OpN c k (.builtin id) (.str x :: ds) d) (hb : PlainBase o) (hline : (apos.endLine == pos.line) = true := by rfl) (hl : args.length < 30 := by decide) : Ev c k sc σ (.Call (.Attribute o name apos) args [] pos) d := by
  intro env A X s E t
  refine wpAny_Call_method_lateS (hb _ _) (few_ok ha hl env pos) hline (wpAny_mono (ho env A X s E t) (fun ov s₁ h₁ => ?_) fun _ _ e => e)
  obtain ⟨k1, r1⟩ := h₁
  refine ⟨"str", id, F.plainAttrs_str, slot, ty, ?_, ?_, ?_⟩
  · cases r1; exact typeIs_str _ _ _
  · intro a e; subst e; cases r1
  · have t₁ := t.kp k1
    have go : wpAny (model c.prog c.w) A (spliced (backTo pos (starEach args env))) (fun vs s₂ => wpAny (model c.prog c.w) A (PySem.call (.builtin id) ([ov] ++ vs)) (VP X d s) E s₂) E s₁ :=
      wpAny_mono (ha.go t₁) (fun vs s₂ h₂ => wpAny_mono (hop A X s₂ E (ov :: vs) t.room (t₁.kp h₂.1).top (t₁.kp h₂.1).live (.cons (r1.kp (kk_kp h₂.1)) h₂.2)) (fun _ _ q => VP.of (kk_trans k1 h₂.1) q) fun _ _ e => e) fun _ _ e => e
    refine Calls.callWith_builtin (ha.plain env pos) ?_
    cases ha with
    | nil =>
      refine PyProof.Rows.evalArgs_none ?_
      exact wpAny_mono (hop A X s₁ E [ov] t.room t₁.top t₁.live (.cons r1 .nil)) (fun _ _ q => VP.of k1 q) fun _ _ e => e
    | cons hn he hr =>
      rw [hn] at go ⊢
      exact Calls.evalArgs_plain go
theorem fn_index (x y : Str) (i : Nat) (rest : List Nat) (h : Builtin.Str.occurrences x y 0 x.length 1 = i :: rest) : OpN c k (.builtin "str.index") [.str x, .str y] (.int i) := by
  intro A X s E vs ro _ _ r
  cases r with
  | cons v1 r => cases r with
    | cons v2 r =>
      cases r; cases v1; cases v2
      exact SC.index h ⟨kk_tok _ _, .int _ _⟩
theorem fn_endswith (x y : Str) : OpN c k (.builtin "str.endswith") [.str x, .str y] (.bool (Txt.endswith x y)) := by
  intro A X s E vs ro _ _ r
  cases r with
  | cons v1 r => cases r with
    | cons v2 r =>
      cases r; cases v1; cases v2
      exact SC.endswith ⟨kk_rfl _, .bool _⟩
theorem fn_rstrip (x : Str) (h : x.length ≤ 1000) : OpN c k (.builtin "str.rstrip") [.str x] (.str (Txt.rstrip x)) := by
  intro A X s E vs ro _ _ r
  cases r with
  | cons v1 r =>
    cases r; cases v1
    exact SC.rstrip (fun _ _ => ⟨kk_tok _ _, .str _ _⟩) (by show _ ≤ 2 ^ 24; omega)
theorem fn_splitlines1 (x : Str) (h : x.length ≤ 1000) (hc : lineCuts x = [(0, x.length)]) : OpN c k (.builtin "str.splitlines") [.str x] (.lst [.str x]) := by
  intro A X s E vs ro _ l r
  cases r with
  | cons v1 r =>
    cases r; cases v1
    refine call_meets F.slot_str_splitlines (typeIs_str _ _ _) F.entry_str_splitlines (F.args_str_splitlines_1 _) (meets_str_splitlines x _ (by show _ ≤ 2 ^ 24; omega) (by rw [hc]; show 1 ≤ 2 ^ 24; omega)) ?_
    rw [if_pos (by rw [hc]; simp)]
    exact new_post l rfl fun h' kp e m => .lst m e (.cons (.str _ _) .nil)
theorem RdL.strs {X : List Addr} {h : Heap} {vs : List Value} {xs : List Str} (r : RdL X h vs (xs.map D.str)) : StrsAre vs xs := by
  induction vs generalizing xs with
  | nil => cases xs with
    | nil => exact .nil
    | cons i is => cases r
  | cons v vs ih => cases xs with
    | nil => cases r
    | cons i is => cases r with
      | cons a r => cases a with
        | str i t => exact .cons i t (ih r)
theorem fn_join (x : Str) (xs : List Str) (h : (xs.map (·.length)).sum + xs.length * x.length ≤ 16777216) : OpN c k (.builtin "str.join") [.str x, .lst (xs.map D.str)] (.str (Txt.join x xs)) := by
  intro A X s E vs ro _ l r
  cases r with
  | cons v1 r => cases r with
    | cons v2 r =>
      cases r; cases v1
      obtain ⟨a, vs, rfl, hl, r⟩ := v2.isLst
      exact join_list hl r.strs h fun _ _ => ⟨kk_tok _ _, .str _ _⟩
theorem ii_entry : entryFor table "dict_itemiterator.__iter__" = some Builtin.«dict_keyiterator.__iter__» :=
  entryFor_alias (id' := "dict_keyiterator.__iter__") (by kernel_rfl) rfl (by decide +kernel) (by kernel_rfl)
theorem ii_self {prog : Program} {w : World} {A : Around} {E : Value → Shared → Prop} {s : Shared} {it d : Addr} {i n ep : Nat} {ok ov : Value} {Q : Value → Shared → Prop} (hit : IsItemIter s.heap it d i n ep ok ov) (h : Q (.ref it) s) :
    wpAny (model prog w) A (pyIter (.ref it)) Q E s := by
  have hT : s.TypeIs (.ref it) "dict_itemiterator" := ⟨_, hit, rfl⟩
  refine wpAny_pyIter_slot hT F.slot_dict_itemiterator_iter (wpAny_call_entry F.slot_dict_itemiterator_iter hT ii_entry ?_ (F.args_dict_itemiterator_iter_1 _))
  show wpAny _ _ (ret (.ref it)) _ _ s
  exact wpAny_pure ⟨_, rfl, "dict_itemiterator", _, hT, F.slot_dict_itemiterator_next.lookup, h⟩
theorem dict0_at {X : List Addr} {h : Heap} {v : Value} (r : Rd X h v .dict0) : ∃ a n, v = .ref a ∧ a ∉ X ∧ h.get? a = some { cls := .type "dict", data := .dict #[] n } := by
  cases r with
  | dict0 a e => exact ⟨_, _, rfl, a, e⟩
theorem dictAt0 {h : Heap} {a : Addr} {n : Nat} (e : h.get? a = some { cls := .type "dict", data := .dict #[] n }) (prog : Program) (w : World) : h.DictAt (strKind prog w) a [] n :=
  ⟨_, #[], e, ⟨rfl, rfl, rfl⟩, rfl, (fun e he => by simp at he), .nil, List.nodup_nil⟩
/-- the items of an empty dict -/
theorem src_items0 {o : Expr} {apos : Pos} (ho : Ev c k sc σ o .dict0) (hb : PlainBase o) (hline : (apos.endLine == pos.line) = true := by rfl) : Src c k sc σ (.Call (.Attribute o (Str.ofString "items") apos) [] [] pos) false [] := by
  intro env A X s E t
  refine wpAny_Call_method_lateS (hb _ _) rfl hline (wpAny_mono (ho env A X s E t) (fun ov s₁ h₁ => ?_) fun _ _ e => e)
  obtain ⟨k1, r1⟩ := h₁
  obtain ⟨a, n, rfl, ha, e⟩ := dict0_at r1
  have t₁ := t.kp k1
  have D := dictAt0 e c.prog c.w
  have hS : (a == sysModules) = false := by
    refine beq_eq_false_iff_ne.mpr fun q => ?_
    obtain ⟨o, es, m, q1, q2, q3⟩ := t₁.top.ok.sys
    rw [← q, e] at q1
    cases q1
    cases q2
    exact q3 rfl
  refine ⟨"dict", "dict.items", F.plainAttrs_dict, F.slot_dict_items, F.type_dict_items, ⟨_, e, rfl⟩, ?_, ?_⟩
  · intro b q; cases q; exact ⟨_, e, rfl⟩
  · show wpAny _ _ (callWith pos (.builtin "dict.items") [.ref a] [] []) _ E s₁
    refine method_meetsIn F.slot_dict_items F.entry_dict_items rfl (PySem.evalArgs_none ⟨rfl, ⟨_, e, rfl⟩, F.args_dict_items_1 _, _, meets_dict_items (strKind c.prog c.w) a hS, ⟨[], D.dictOf⟩, ?_⟩)
    refine ⟨kk_trans k1 (kk_push _ _), fun E' => ?_⟩
    have D' := D.push { cls := .type "dict_items", data := .fields #[.ref a] }
    refine wpAny_pyIter_items (d := a) (kvs := []) (ep := n) ⟨_, Heap.get?_push_size _ rfl, rfl, rfl⟩ D' ?_
    refine ⟨_, rfl, rfl, kk_push _ _, ⟨_, Heap.get?_push_size _ rfl⟩, fun Y hI hO => ?_⟩
    have e1 := Heap.get?_push_of_some ({ cls := .type "dict_items", data := .fields #[.ref a] } : Obj) e
    generalize hH : (s₁.heap.push { cls := .type "dict_items", data := .fields #[.ref a] }) = H at *
    refine ⟨[H.objs.size, a], fun _ h => IsItemIter h H.objs.size a 0 0 n .none .none ∧ h.get? a = some { cls := .type "dict", data := .dict #[] n }, ?_, ⟨hI, by simp, fun q => absurd rfl q, ?_, ?_, ?_, ?_⟩, ?_⟩
    · intro b hb
      rcases List.mem_cons.mp hb with rfl | hb
      · exact .inl rfl
      · rw [List.mem_singleton.mp hb]; exact .inr ⟨⟨_, e1⟩, fun _ => ha⟩
    · rintro i h h' ⟨q1, q2⟩ _ f
      exact ⟨f _ (by simp) _ q1, f _ (by simp) _ q2⟩
    · intro i d s Q E hd; simp at hd
    · rintro s Q E ⟨q1, q2⟩ hQ
      exact wpAny_pyNext_items_end t.room.hd q1 (dictAt0 q2 c.prog c.w) rfl fun h' he => hQ h' s.toks fun b o hb e => he b o (by simpa using hb) e
    · rintro i s Q E ⟨q1, q2⟩ hQ
      exact ii_self q1 hQ
    · intro h' kp
      exact ⟨kp _ _ (Heap.get?_push_size _ rfl), kp _ _ (Heap.get?_push_of_some _ e1)⟩
end
end Mine
end

section
open PySem PySem.W PyProof.Rows
set_option Elab.async false
set_option linter.unusedVariables false
namespace Mine
noncomputable def csl : Str := Str.ofString "comp_select_list"
/-- what is asked of the class at 38 -/
structure ClsOk (c : Cx) : Prop where
  make : makesIn c.K 38 = true
  init : findIn c.K (.ref 38) "__init__" = some (some (.ref 28))
  fn : typeIn c.K (.ref 28) = some (.type "function")
  setA : findIn c.K (.ref 38) "__setattr__" = some (some (.builtin "object.__setattr__"))
  over : plainOver c.K 38 = true
  taker : takerIn c.K 38 csl = some none
  hasD : hasDictIn c.K 38 = true
  getA : findIn c.K (.ref 38) "__getattribute__" = some (some (.builtin "object.__getattribute__"))
  getB : findIn c.K (.ref 38) "__getattr__" = some none
  attr : findIn c.K (.ref 38) csl = some none
  meth : findIn c.K (.ref 38) "compare" = some (some (.ref 35))
  mfn : typeIn c.K (.ref 35) = some (.type "function")
theorem rd_comp {X : List Addr} {h : Heap} {v : Value} {d : D} (r : Rd X h v (.comp d)) : ∃ x dx es n u, v = .ref x ∧ InstAt h x (instObj 38 dx) 38 (some (dictOf es n)) ∧ getL csl es = some (some u) ∧ getL (Str.ofString "compare") es = some Option.none ∧ Rd X h u d := by
  cases r with
  | comp a b e f q =>
    rename_i x dx hs tk u n
    refine ⟨x, dx, [⟨hs, .str (Str.ofString "comp_select_list") tk, u⟩], n, u, rfl, ⟨e, rfl, rfl, f⟩, ?_, ?_, q⟩
    · have : Value.isStr (.str (Str.ofString "comp_select_list") tk) csl = true := by kernel_rfl
      simp [getL, this]
    · have h1 : Value.isStr (.str (Str.ofString "comp_select_list") tk) (Str.ofString "compare") = false := by kernel_rfl
      have h2 : DictEntry.refKey ⟨hs, .str (Str.ofString "comp_select_list") tk, u⟩ = false := by rfl
      simp [getL, h1, h2]
section
variable {c : Cx} {k : Nat} {sc : Scope} {σ : List (Str × D)} {pos : Pos}
theorem Room.make {A : Around} {k : Nat} (r : Room A (k + 2)) (v : Value) : Room (A.under (.builtin "type.__call__" ⟨.ref 38 :: [v], []⟩)) (k + 1) :=
  ⟨r.hd, by have := r.dep; rw [depth_under_make]; omega, by have := r.uni; rw [units_under_make]; omega⟩
theorem Ev.val {e : Expr} {v : Value} (h : Ev c k sc σ e (.val v)) : True := trivial
/-- the class is called -/
theorem fn_cls (H : ClsOk c) {fd : FuncData} {p1 p2 p3 p4 : Pos} {self : Str} (F : FnAt c 28 fd [.Assign [.Attribute (.Name self p1) csl p2] (.Name csl p3) p4]) (hsc : ([self, csl].all fun x => fd.scope.names.lookup x == some .local || fd.scope.names.lookup x == some .cell) = true) (hne : [self, csl].Nodup)
    (hb : ∀ s u v, BindsTo s fd ⟨[u, v], []⟩ [(self, u), (csl, v)]) (hn1 : (self == ("__classdict__" : Str)) = false) (hn2 : (self == ("__debug__" : Str)) = false) (ds : List D) : OpN c (k + 2) (.ref 38) [.lst ds] (.comp (.lst ds)) := by
  intro A X s E vs ro top lv r
  cases r with
  | cons a r =>
    cases r
    rename_i v
    have X0 := top.ok.kin
    refine wpAny_call ?_
    obtain ⟨hh, g, dr, tk, os⟩ := s
    refine make_core (makes_of X0 H.make) (looks_findIn X0 H.init) (fun self => bind_fn X0 self H.fn) (.inl rfl) ?_
    generalize hS : (⟨(hh.push emptyDict).push (instObj 38 hh.objs.size), g, dr, tk, os⟩ : Shared) = s1
    have kp1 : Kp hh ((hh.push emptyDict).push (instObj 38 hh.objs.size)) := fun b o e => Heap.get?_push_of_some _ (Heap.get?_push_of_some _ e)
    have k01 : Keeps ⟨hh, g, dr, tk, os⟩ s1 := by rw [← hS]; exact ⟨_, _, rfl, kp1⟩
    have sz : s1.heap.objs.size = hh.objs.size + 2 := by rw [← hS]; show (Heap.push _ _).objs.size = _; rw [Heap.size_push, Heap.size_push]
    have ex : s1.heap.get? (hh.objs.size + 1) = some (instObj 38 hh.objs.size) := by
      rw [← hS]
      have := Heap.get?_push_size (hh.push emptyDict) (o := instObj 38 hh.objs.size) rfl
      rwa [Heap.size_push] at this
    have ed : s1.heap.get? hh.objs.size = some (dictOf [] 0) := by
      rw [← hS]
      exact Heap.get?_push_of_some _ (Heap.get?_push_size hh rfl)
    have f0 : hh.get? hh.objs.size = none := get_size hh
    have f1 : hh.get? (hh.objs.size + 1) = none := by
      cases q : hh.get? (hh.objs.size + 1) with
      | none => rfl
      | some o => exact absurd (Heap.lt_size q) (Nat.not_lt.mpr (Nat.le_succ _))
    refine fn_enter (k := k) (es := [.val (.ref (hh.objs.size + 1)), .val v]) F hne hsc (ro.make v) (top.kp (kk_kp k01)) (lv.kp (kk_kp k01)) (hb _ _ v) (.cons (.val _) (.cons (.val _) .nil)) fun env X' s' hloc fs => ?_
    rw [sz] at hloc
    have ns : (self == csl) = false := by
      rw [List.nodup_cons] at hne
      exact beq_eq_false_iff_ne.mpr fun e => hne.1 (by simp [e])
    have l2 : List.lookup csl (List.zip [self, csl] [D.val (.ref (hh.objs.size + 1)), .val v]) = some (.val v) := by
      have : (csl == self) = false := by rw [← ns]; exact Bool.beq_comm ..
      simp [List.lookup_cons, this]
    have l1 : List.lookup self (List.zip [self, csl] [D.val (.ref (hh.objs.size + 1)), .val v]) = some (.val (.ref (hh.objs.size + 1))) := by simp
    refine wpAny_execs_cons (plainObj_wpAny_Assign_Attribute ?_)
    refine wpAny_mono ((Ev.name l2 (by decide) (by decide)) env _ X' s' _ fs.st) (fun v2 s2 h2 => ?_) fun _ _ e => e
    have t2 := fs.st.kp h2.1
    refine wpAny_mono ((Ev.name l1 hn1 hn2) env _ X' s2 _ t2) (fun v3 s3 h3 => ?_) fun _ _ e => e
    have t3 := t2.kp h3.1
    have k13 : Keeps s1 s3 := kk_trans fs.kp (kk_trans h2.1 h3.1)
    obtain ⟨k3, r3⟩ := h3
    cases r3
    have r2 := h2.2
    cases r2
    obtain ⟨m, hm, _⟩ := t3.fm.ns
    have k03 := kk_trans k01 k13
    have Fr0 : Fr hh env.locals s3.heap m := ⟨hm, kk_kp k03, by rw [hloc]; exact Nat.le_add_right _ _⟩
    have N0 : News hh env.locals s3.heap [(hh.objs.size + 1, instObj 38 hh.objs.size), (hh.objs.size, dictOf [] 0)] := by
      intro p hp
      rcases List.mem_cons.mp hp with rfl | hp
      · exact ⟨kk_kp k13 _ _ ex, by rw [hloc]; show hh.objs.size + 1 ≠ _; exact Nat.ne_of_lt (Nat.lt_succ_self _), f1⟩
      · rw [List.mem_singleton.mp hp]; exact ⟨kk_kp k13 _ _ ed, by rw [hloc]; show hh.objs.size ≠ _; exact Nat.ne_of_lt (Nat.lt_add_of_pos_right (by decide)), f0⟩
    refine set_dict (es' := [⟨PyData.keyHash c.w.params csl, .str csl (s3.toks + 1), v⟩]) (n' := 1) Fr0 X0 N0 (ox := instObj 38 hh.objs.size) (dx := hh.objs.size) (es := []) (n := 0) ⟨kk_kp k13 _ _ ex, rfl, rfl, kk_kp k13 _ _ ed⟩ rfl H.setA H.over H.taker H.hasD rfl rfl
      (Upd.tail (Nat.succ_ne_self _) (Upd.head (by simp))) (by simp) fun h' F' N' => ?_
    refine wpAny_pure ⟨rfl, ?_, ?_⟩
    · obtain ⟨h3', tk3, e3, _⟩ := k03
      subst e3
      exact ⟨h', _, rfl, F'.keep⟩
    · have q1 := (N' _ (.head _)).1
      have q2 := (N' _ (.tail _ (.head _))).1
      exact .comp (fun m => by obtain ⟨o, e⟩ := lv _ m; rw [f1] at e; cases e) (fun m => by obtain ⟨o, e⟩ := lv _ m; rw [f0] at e; cases e) q1 q2 (a.kp F'.keep)
/-- the object's field -/
theorem Ev.field (H : ClsOk c) {x : Str} {p : Pos} {ds : List D} (ho : Ev c k sc σ (.Name x p) (.comp (.lst ds))) : Ev c k sc σ (.Attribute (.Name x p) csl pos) (.lst ds) := by
  intro env A X s E t
  refine Attribute_Name_ (wpAny_mono (ho env A X s E t) (fun v s₁ h₁ => ?_) fun _ _ e => e)
  obtain ⟨xa, dx, es, n, u, rfl, I, g1, g2, r⟩ := rd_comp h₁.2
  have t₁ := t.kp h₁.1
  refine get_value t₁.top.ok.kin I H.getA (findObj_own H.hasD H.attr rfl g1) ?_ ⟨kk_trans h₁.1 (kk_tok _ _), r⟩
  obtain ⟨a, vs, rfl, _, _⟩ := r.isLst
  rfl
/-- the object's method -/
theorem Ev.meth (H : ClsOk c) {x y z : Str} {p p1 p2 ap : Pos} {ds : List D} {dy dz d : D} (ho : Ev c k sc σ (.Name x p) (.comp (.lst ds))) (hk : keepIn c.K (.ref 35) = true) (hy : Ev c k sc σ (.Name y p1) dy) (hz : Ev c k sc σ (.Name z p2) dz)
    (hop : OpN c k (.ref 35) [.comp (.lst ds), dy, dz] d) (hline : (ap.endLine == pos.line) = true) : Ev c k sc σ (.Call (.Attribute (.Name x p) "compare" ap) [.Name y p1, .Name z p2] [] pos) d := by
  intro env A X s E t
  rw [arm_eval_Call]
  refine wpAny_bind (wpAny_mono (ho env A X s E t) (fun ov s₁ h₁ => ?_) fun _ _ e => e)
  obtain ⟨xa, dx, es, n, u, rfl, I, g1, g2, r⟩ := rd_comp h₁.2
  have t₁ := t.kp h₁.1
  refine wpAny_bind (wpAny_standAt ?_)
  have hform : methodCallForm ([Expr.Name y p1, .Name z p2].length + ([] : List Keyword).length) (backTo pos (starEach [Expr.Name y p1, .Name z p2] env)) (backToKw pos (keywordEach [] env)) = true := rfl
  have hpos : methodCallPos true (.Name x p) env ap pos = pure pos := by unfold methodCallPos; simp [hline]
  unfold methodCall
  rw [hform]
  refine wpAny_bind (wpAny_holding ?_)
  refine method_fn t₁.top.ok.kin I H.getA H.getB H.meth H.mfn (by show (getL _ es).map _ = _; rw [g2]; rfl) ?_
  refine wpAny_bind (wpAny_of_eq hpos ?_)
  have hl : EvL c k sc σ [.Name y p1, .Name z p2] [dy, dz] := .cons (no_name _ _) hy (.cons (no_name _ _) hz .nil)
  refine callWith_K (first := [.ref xa]) t₁.top.ok.kin hk (wpAny_mono (hl.go t₁) (fun vs s₂ h₂ => ?_) fun _ _ e => e)
  have t₂ := t₁.kp h₂.1
  exact ⟨t₂.top.ok.kin, wpAny_mono (hop A X s₂ E (.ref xa :: vs) t.room t₂.top t₂.live (.cons (h₁.2.kp (kk_kp h₂.1)) h₂.2)) (fun _ _ q => VP.of (kk_trans h₁.1 h₂.1) q) fun _ _ e => e⟩
end
end Mine
end

section
open PySem PySem.W PyProof.Rows
set_option Elab.async false
set_option maxRecDepth 100000
set_option linter.unusedVariables false
namespace Mine
noncomputable section
noncomputable def G0 : List (Str × Value) := [("TupleComp", .ref 38), ("add_func_stats", .ref 49), ("add_callers", .ref 56), ("_QUOPRI_MAP", .ref 59), ("hexdigits", .str (Str.ofString "0123456789abcdefABCDEF") 1303), ("unquote", .ref 79), ("quote", .ref 86), ("decode", .ref 99),
  ("_law_terms", .ref 104), ("_law_left", .ref 109), ("_law_greatest", .ref 114), ("_law_worth", .ref 119), ("chr", .builtin "chr"), ("ord", .builtin "ord"), ("len", .builtin "len"), ("sum", .builtin "sum"), ("isinstance", .builtin "isinstance"), ("max", .builtin "max"),
  ("int", .type "int"), ("bool", .type "bool"), ("range", .type "range")]
noncomputable def cx (w : World) : Cx := ⟨pw, w, K0 w.params, G0⟩
noncomputable def fd28 : FuncData := fnObj (mth 1 0) (Str.ofString "TupleComp.__init__") [] 3 .none .none .none (.str (Str.ofString "cpy313.pstats") 187) none (.ref 27) .none 0
noncomputable def fd35 : FuncData := fnObj (mth 1 1) (Str.ofString "TupleComp.compare") [] 3 .none .none .none (.str (Str.ofString "cpy313.pstats") 187) none (.ref 34) .none 0
noncomputable def fd49 : FuncData := fnObj (stm 2) (Str.ofString "add_func_stats") [] 3 .none .none .none (.str (Str.ofString "cpy313.pstats") 187) none (.ref 48) .none 0
noncomputable def fd56 : FuncData := fnObj (stm 3) (Str.ofString "add_callers") [] 3 .none .none .none (.str (Str.ofString "cpy313.pstats") 187) none (.ref 55) .none 0
noncomputable def fd79 : FuncData := fnObj (stm 17) (Str.ofString "unquote") [] 3 .none .none .none (.str (Str.ofString "cpy313.email.quoprimime") 1305) none (.ref 78) .none 0
noncomputable def fd86 : FuncData := fnObj (stm 18) (Str.ofString "quote") [] 3 .none .none .none (.str (Str.ofString "cpy313.email.quoprimime") 1305) none (.ref 85) .none 0
noncomputable def fd99 : FuncData := fnObj (stm 22) (Str.ofString "decode") [] 3 (.ref 92) .none .none (.str (Str.ofString "cpy313.email.quoprimime") 1305) none (.ref 98) .none 0
noncomputable def fd104 : FuncData := fnObj (stm 24) (Str.ofString "_law_terms") [] 3 .none .none .none (.str (Str.ofString "law_rl0035_01") 1839) none (.ref 103) .none 0
noncomputable def fd109 : FuncData := fnObj (stm 25) (Str.ofString "_law_left") [] 3 .none .none .none (.str (Str.ofString "law_rl0035_01") 1839) none (.ref 108) .none 0
noncomputable def fd114 : FuncData := fnObj (stm 26) (Str.ofString "_law_greatest") [] 3 .none .none .none (.str (Str.ofString "law_rl0035_01") 1839) none (.ref 113) .none 0
noncomputable def fd119 : FuncData := fnObj (stm 27) (Str.ofString "_law_worth") [] 3 .none .none .none (.str (Str.ofString "law_rl0035_01") 1839) none (.ref 118) .none 0
noncomputable def fd124 : FuncData := fnObj (stm 28) (Str.ofString "law") [] 3 .none .none .none (.str (Str.ofString "law_rl0035_01") 1839) none (.ref 123) .none 0
theorem F28 (w : World) : FnAt (cx w) 28 fd28 (fnBody (mth 1 0)) := ⟨⟨.type "function", none, ⟨[]⟩, by kernel_rfl⟩, by kernel_rfl, rfl, rfl, rfl, rfl, by kernel_rfl, by kernel_rfl, by kernel_rfl, by decide +kernel, by kernel_rfl⟩
theorem F35 (w : World) : FnAt (cx w) 35 fd35 (fnBody (mth 1 1)) := ⟨⟨.type "function", none, ⟨[]⟩, by kernel_rfl⟩, by kernel_rfl, rfl, rfl, rfl, rfl, by kernel_rfl, by kernel_rfl, by kernel_rfl, by decide +kernel, by kernel_rfl⟩
theorem F49 (w : World) : FnAt (cx w) 49 fd49 (fnBody (stm 2)) := ⟨⟨.type "function", none, ⟨[]⟩, by kernel_rfl⟩, by kernel_rfl, rfl, rfl, rfl, rfl, by kernel_rfl, by kernel_rfl, by kernel_rfl, by decide +kernel, by kernel_rfl⟩
theorem F56 (w : World) : FnAt (cx w) 56 fd56 (fnBody (stm 3)) := ⟨⟨.type "function", none, ⟨[]⟩, by kernel_rfl⟩, by kernel_rfl, rfl, rfl, rfl, rfl, by kernel_rfl, by kernel_rfl, by kernel_rfl, by decide +kernel, by kernel_rfl⟩
theorem F79 (w : World) : FnAt (cx w) 79 fd79 (fnBody (stm 17)) := ⟨⟨.type "function", none, ⟨[]⟩, by kernel_rfl⟩, by kernel_rfl, rfl, rfl, rfl, rfl, by kernel_rfl, by kernel_rfl, by kernel_rfl, by decide +kernel, by kernel_rfl⟩
theorem F86 (w : World) : FnAt (cx w) 86 fd86 (fnBody (stm 18)) := ⟨⟨.type "function", none, ⟨[]⟩, by kernel_rfl⟩, by kernel_rfl, rfl, rfl, rfl, rfl, by kernel_rfl, by kernel_rfl, by kernel_rfl, by decide +kernel, by kernel_rfl⟩
theorem F99 (w : World) : FnAt (cx w) 99 fd99 (fnBody (stm 22)) := ⟨⟨.type "function", none, ⟨[]⟩, by kernel_rfl⟩, by kernel_rfl, rfl, rfl, rfl, rfl, by kernel_rfl, by kernel_rfl, by kernel_rfl, by decide +kernel, by kernel_rfl⟩
theorem F104 (w : World) : FnAt (cx w) 104 fd104 (fnBody (stm 24)) := ⟨⟨.type "function", none, ⟨[]⟩, by kernel_rfl⟩, by kernel_rfl, rfl, rfl, rfl, rfl, by kernel_rfl, by kernel_rfl, by kernel_rfl, by decide +kernel, by kernel_rfl⟩
theorem F109 (w : World) : FnAt (cx w) 109 fd109 (fnBody (stm 25)) := ⟨⟨.type "function", none, ⟨[]⟩, by kernel_rfl⟩, by kernel_rfl, rfl, rfl, rfl, rfl, by kernel_rfl, by kernel_rfl, by kernel_rfl, by decide +kernel, by kernel_rfl⟩
theorem F114 (w : World) : FnAt (cx w) 114 fd114 (fnBody (stm 26)) := ⟨⟨.type "function", none, ⟨[]⟩, by kernel_rfl⟩, by kernel_rfl, rfl, rfl, rfl, rfl, by kernel_rfl, by kernel_rfl, by kernel_rfl, by decide +kernel, by kernel_rfl⟩
theorem F119 (w : World) : FnAt (cx w) 119 fd119 (fnBody (stm 27)) := ⟨⟨.type "function", none, ⟨[]⟩, by kernel_rfl⟩, by kernel_rfl, rfl, rfl, rfl, rfl, by kernel_rfl, by kernel_rfl, by kernel_rfl, by decide +kernel, by kernel_rfl⟩
theorem F124 (w : World) : FnAt (cx w) 124 fd124 (fnBody (stm 28)) := ⟨⟨.type "function", none, ⟨[]⟩, by kernel_rfl⟩, by kernel_rfl, rfl, rfl, rfl, rfl, by kernel_rfl, by kernel_rfl, by kernel_rfl, by decide +kernel, by kernel_rfl⟩
theorem C38 (w : World) : ClsOk (cx w) := ⟨by kernel_rfl, by kernel_rfl, by kernel_rfl, by kernel_rfl, by kernel_rfl, by kernel_rfl, by kernel_rfl, by kernel_rfl, by kernel_rfl, by kernel_rfl, by kernel_rfl, by kernel_rfl⟩
end
end Mine
end

section
open PySem PySem.W PyProof.Rows
set_option Elab.async false
set_option maxRecDepth 100000
set_option linter.unusedVariables false
namespace Mine
theorem flat_if {α : Type} (xs : List α) (p : α → Bool) (g : α → D) : (xs.flatMap fun x => if p x then [g x] else []) = (xs.filter p).map g := by
  induction xs with
  | nil => rfl
  | cons x xs ih =>
    rw [List.flatMap_cons, ih, List.filter_cons]
    cases p x <;> simp
open Classical in
noncomputable def backF {α : Type} (xs : List α) (f : α → D) (h : α → List D) (d : D) : List D := if q : ∃ x, x ∈ xs ∧ f x = d then h (Classical.choose q) else []
theorem backF_eq {α : Type} {xs : List α} {f : α → D} {h : α → List D} (hinj : ∀ x y, f x = f y → x = y) {x : α} (hx : x ∈ xs) : backF xs f h (f x) = h x := by
  have q : ∃ y, y ∈ xs ∧ f y = f x := ⟨x, hx, rfl⟩
  unfold backF
  rw [dif_pos q]
  rw [hinj _ _ (Classical.choose_spec q).2]
theorem backF_flat {α : Type} {xs : List α} {f : α → D} {h : α → List D} (hinj : ∀ x y, f x = f y → x = y) : (xs.map f).flatMap (backF xs f h) = xs.flatMap h := by
  rw [List.flatMap_map]
  have : ∀ ys : List α, (∀ y ∈ ys, y ∈ xs) → (ys.flatMap fun a => backF xs f h (f a)) = ys.flatMap h := by
    intro ys
    induction ys with
    | nil => intro _; rfl
    | cons y ys ih => intro hy; rw [List.flatMap_cons, List.flatMap_cons, backF_eq hinj (hy y (by simp)), ih fun z hz => hy z (by simp [hz])]
  exact this xs fun _ h => h
theorem filter_len {α : Type} (xs : List α) (p : α → Bool) : (xs.filter p).length ≤ xs.length := List.length_filter_le ..
section
variable {c : Cx} {k : Nat} {sc : Scope} {σ : List (Str × D)} {ow : Option (Str × List D)} {pos : Pos}
/-- a comprehension with a test, over marked data -/
theorem Ev.compIf {α : Type} {xs : List α} {f g : α → D} {p : α → Bool} {elt iter test : Expr} {x : Str} {px : Pos} {scope : Scope} {own : Bool} (hinj : ∀ x y, f x = f y → x = y) (hsrc : Src c k sc σ iter own (xs.map f)) (hlen : xs.length ≤ 1000)
    (hT : ∀ a ∈ xs, EvB c k (rel scope sc) ((x, f a) :: res scope σ) test (p a)) (hB : ∀ a ∈ xs, p a = true → Ev c k (rel scope sc) ((x, f a) :: res scope σ) elt (g a)) (ok : compOk scope sc [x] = true) (hs : NotSet iter) :
    Ev c k sc σ (.ListComp elt [⟨.Name x px, iter, [test], 0⟩] scope pos) (.lst ((xs.filter p).map g)) := by
  have := Ev.comp1 (pos := pos) (px := px) (f := backF xs f fun a => if p a then [g a] else []) ok hs hsrc (ifs := [test]) (elt := elt) (fun d hd => by
    obtain ⟨a, ha, rfl⟩ := List.mem_map.mp hd
    exact ⟨p a, g a, hT a ha, hB a ha, backF_eq hinj ha⟩) (by rw [backF_flat hinj, flat_if, List.length_map]; exact Nat.le_trans (filter_len _ _) hlen)
  rwa [backF_flat hinj, flat_if] at this
theorem EvF.ownIf {α : Type} {xs : List α} {f g : α → D} {p : α → Bool} {elt test : Expr} {x y : Str} {px py : Pos} {scope : Scope} (hinj : ∀ x y, f x = f y → x = y) (hlen : xs.length ≤ 1000)
    (hT : ∀ a ∈ xs, EvB c k (rel scope sc) ((x, f a) :: res scope σ) test (p a)) (hB : ∀ a ∈ xs, p a = true → Ev c k (rel scope sc) ((x, f a) :: res scope σ) elt (g a)) (ok : compOk scope sc [x] = true) (hd : (y == ("__debug__" : Str)) = false) :
    EvF c k sc σ (some (y, xs.map f)) (.ListComp elt [⟨.Name x px, .Name y py, [test], 0⟩] scope pos) (.lst ((xs.filter p).map g)) := by
  have := EvF.ownComp (pos := pos) (px := px) (py := py) (y := y) (c := c) (k := k) (σ := σ) (f := backF xs f fun a => if p a then [g a] else []) ok (ifs := [test]) (elt := elt) (fun d hd => by
    obtain ⟨a, ha, rfl⟩ := List.mem_map.mp hd
    exact ⟨p a, g a, hT a ha, hB a ha, backF_eq hinj ha⟩) (by rw [backF_flat hinj, flat_if, List.length_map]; exact Nat.le_trans (filter_len _ _) hlen) hd
  rwa [backF_flat hinj, flat_if] at this
theorem back_map {α : Type} {xs : List α} {f g : α → D} (hinj : ∀ x y, f x = f y → x = y) : (xs.map f).map (fun d => (backF xs f (fun a => [g a]) d).headD .none) = xs.map g := by
  rw [List.map_map]
  refine List.map_congr_left fun a ha => ?_
  show (backF xs f (fun a => [g a]) (f a)).headD .none = g a
  rw [backF_eq hinj ha]; rfl
theorem Ev.compAll {α : Type} {xs : List α} {f g : α → D} {elt iter : Expr} {x : Str} {px : Pos} {scope : Scope} {own : Bool} (hinj : ∀ x y, f x = f y → x = y) (hsrc : Src c k sc σ iter own (xs.map f)) (hlen : xs.length ≤ 1000)
    (hB : ∀ a ∈ xs, Ev c k (rel scope sc) ((x, f a) :: res scope σ) elt (g a)) (ok : compOk scope sc [x] = true) (hs : NotSet iter) :
    Ev c k sc σ (.ListComp elt [⟨.Name x px, iter, [], 0⟩] scope pos) (.lst (xs.map g)) := by
  have := Ev.compMap (pos := pos) (px := px) (g := fun d => (backF xs f (fun a => [g a]) d).headD .none) ok hs hsrc (elt := elt) (fun d hd => by
    obtain ⟨a, ha, rfl⟩ := List.mem_map.mp hd
    show Ev _ _ _ _ _ ((backF xs f (fun a => [g a]) (f a)).headD .none)
    rw [backF_eq hinj ha]
    exact hB a ha) (by simpa using hlen)
  rwa [back_map hinj] at this
theorem int_inj : ∀ x y : Int, D.int x = D.int y → x = y := fun _ _ h => by injection h
theorem EvB.and3 {x y z : Expr} {p q r : Bool} (hx : EvB c k sc σ x p) (hy : p = true → EvB c k sc σ y q) (hz : p = true → q = true → EvB c k sc σ z r) : EvB c k sc σ (.BoolOp .And [x, y, z] pos) (p && q && r) := by
  intro env A X s E t
  refine wpAny_isTrue_BoolOp (wpAny_allTrue_And_cons (wpAny_mono (hx env A X s E t) (fun b s₁ h₁ => ?_) fun _ _ e => e))
  obtain ⟨rfl, h₁⟩ := h₁
  cases b with
  | false => exact ⟨rfl, h₁⟩
  | true =>
    refine wpAny_allTrue_And_cons (wpAny_mono (hy rfl env A X s₁ E (t.kp h₁)) (fun b s₂ h₂ => ?_) fun _ _ e => e)
    obtain ⟨rfl, h₂⟩ := h₂
    cases b with
    | false => exact ⟨rfl, kk_trans h₁ h₂⟩
    | true =>
      refine wpAny_allTrue_And_cons (wpAny_mono (hz rfl rfl env A X s₂ E ((t.kp h₁).kp h₂)) (fun b s₃ h₃ => ?_) fun _ _ e => e)
      obtain ⟨rfl, h₃⟩ := h₃
      cases b with
      | false => exact ⟨rfl, kk_trans h₁ (kk_trans h₂ h₃)⟩
      | true => exact wpAny_allTrue_And_nil ⟨rfl, kk_trans h₁ (kk_trans h₂ h₃)⟩
end
end Mine
end

section
open PySem PySem.W PyProof.Rows
set_option Elab.async false
set_option maxRecDepth 100000
set_option linter.unusedVariables false
namespace Mine
/-- the sign of a hex figure -/
noncomputable def hc (x : Nat) : Nat := if x < 10 then 48 + x else 55 + x
theorem g16 (u v : Tok) : ∀ x ∈ [0, 3, 6, 9, 12, 15], ∀ y ∈ [0, 3, 6, 9, 12, 15], Gives (Builtin.«int.__new__» ⟨[.type "int", .str ⟨#[hc x, hc y]⟩ u, .int 16 v], []⟩) (.int ((16 * x + y : Nat) : Int)) := by
  intro x hx y hy
  simp only [List.mem_cons, List.not_mem_nil, or_false] at hx hy
  rcases hx with rfl | rfl | rfl | rfl | rfl | rfl <;> rcases hy with rfl | rfl | rfl | rfl | rfl | rfl <;> exact .of_eq (by kernel_rfl)
theorem typeCall_int_2 (a b : Value) : checkTypeCall "int" ⟨[a, b], []⟩ = pure () := by kernel_rfl
theorem newCall_int_2 (a b : Value) : checkBuiltinCall "int.__new__" ⟨[.type "int", a, b], []⟩ = pure () := by kernel_rfl
section
variable {c : Cx} {k : Nat}
theorem fn_int16 (x y : Nat) (hx : x ∈ [0, 3, 6, 9, 12, 15]) (hy : y ∈ [0, 3, 6, 9, 12, 15]) : OpN c k (.type "int") [.str ⟨#[hc x, hc y]⟩, .int 16] (.int ((16 * x + y : Nat) : Int)) := by
  intro A X s E vs _ _ _ r
  cases r with
  | cons v1 r => cases r with
    | cons v2 r =>
      cases r; cases v1; cases v2
      exact callType_new F.called_int F.newNe_int (typeCall_int_2 _ _) (newCall_int_2 _ _) (fun obj => F.initArgs_range_2 obj _ _) F.entry_int_new (g16 _ _ x hx y hy).meets ⟨typeIs_int _ _ _, kk_tok _ _, .int _ _⟩
end
end Mine
end

section
open PySem PySem.W PyProof.Rows
set_option Elab.async false
set_option maxRecDepth 100000
set_option linter.unusedVariables false
namespace Mine
theorem lk_tl {x y : Str} {d d' : D} {σ : List (Str × D)} (h : y ≠ x) (h2 : List.lookup y σ = some d') : List.lookup y ((x, d) :: σ) = some d' := (lookup_tl h).trans h2
local macro_rules | `(tactic| walk_at "kd") => `(tactic| (exact of_decide_eq_true (by kernel_rfl)))
local macro_rules | `(tactic| walk_at "lk") => `(tactic| first
  | with_reducible exact lookup_hd
  | (with_reducible apply lk_tl; (focus (exact of_decide_eq_true (by kernel_rfl))); walk_at "lk")
  | with_reducible assumption)
local macro_rules | `(tactic| walk_at "sd") => `(tactic| first | omega | decide | assumption | (refine ⟨?_, ?_⟩ <;> omega))
local macro_rules | `(tactic| walk_at "op") => `(tactic| first
  | with_reducible exact op_add _ _
  | with_reducible exact op_sub _ _
  | with_reducible exact op_neg _
  | with_reducible exact op_eq _ _
  | with_reducible exact op_ne _ _
  | with_reducible exact op_lt _ _
  | with_reducible exact op_gt _ _
  | with_reducible exact op_eqStr _ _
  | with_reducible exact op_neStr _ _
  | with_reducible exact op_inStr _ _
  | with_reducible exact op_notInStr _ _
  | with_reducible exact iop_add _ _
  | (with_reducible apply op_mul; walk_at "sd")
  | (with_reducible apply op_mod; walk_at "sd")
  | (with_reducible apply op_div; walk_at "sd")
  | (with_reducible apply op_pow; (focus (walk_at "sd")); walk_at "sd")
  | with_reducible assumption)
local macro_rules | `(tactic| walk_at "ns") => `(tactic| first | exact ns_name _ _ | exact ns_const _ _ _ | exact ns_bin _ _ _ _ | exact ns_call _ _ _ _ | exact ns_un _ _ _)
local macro_rules | `(tactic| walk_at "nst") => `(tactic| first | exact no_name _ _ | exact no_const _ _ _ | exact no_bin _ _ _ _ | exact no_call _ _ _ _ | exact no_un _ _ _ | exact no_sub _ _ _ | exact no_tup _ _ _ | exact no_lst _ _ | exact no_comp _ _ _ _ | exact no_dict _ _ _)
local macro_rules | `(tactic| walk_at "ev") => `(tactic| first
  | with_reducible exact Ev.int
  | with_reducible exact Ev.str
  | with_reducible exact Ev.ctrue
  | with_reducible exact Ev.cfalse
  | with_reducible exact Ev.dict
  | (with_reducible apply Ev.name; (focus (walk_at "lk")); (focus kernel_rfl); kernel_rfl)
  | (with_reducible apply Ev.un; (focus (walk_at "ev")); walk_at "op")
  | (with_reducible apply Ev.bin; (focus (walk_at "ev")); (focus (walk_at "ev")); walk_at "op")
  | (with_reducible apply Ev.cmp; (focus (walk_at "ev")); (focus (walk_at "ev")); (focus (walk_at "op")); (with_unfolding_all rfl))
  | (with_reducible apply Ev.tuple; (focus (walk_at "evl")); simp)
  | (with_reducible apply Ev.list; (focus (walk_at "evl")); simp)
  | (with_reducible apply Ev.sub; (focus (walk_at "ev")); (focus (walk_at "ev")); (with_reducible apply op_itemTup); (focus (walk_at "ns")); (focus decide); (focus decide); rfl)
  | (with_reducible apply Ev.sliceTup; (focus (walk_at "ev")); (focus (exact Ev.int)); (focus (walk_at "sd")); (walk_at "sd"))
  | with_reducible assumption)
local macro_rules | `(tactic| walk_at "evl") => `(tactic| first
  | with_reducible exact EvL.nil
  | (with_reducible apply EvL.cons; (focus (walk_at "nst")); (focus (walk_at "ev")); walk_at "evl"))
local macro_rules | `(tactic| walk_at "evb") => `(tactic| first
  | (with_reducible apply EvB.cmp; (focus (walk_at "ev")); (focus (walk_at "ev")); (focus (walk_at "op")); (with_unfolding_all rfl))
  | (with_reducible apply EvB.not; walk_at "evb"))
theorem nodup2 {a b : Str} (h : decide ([a, b].Nodup) = true) : [a, b].Nodup := of_decide_eq_true h
theorem ex_add_callers (w : World) (k : Nat) : Ex (cx w) k fd56.scope [(Str.ofString "target", .dict0), (Str.ofString "source", .dict0)] none (fnBody (stm 3)) (.ret .dict0) := by
  refine Ex.cons (Ex1.assign (EvF.of Ev.dict) (by walk_at "kd") (by walk_at "kd") (fun _ => by kernel_rfl)) ?_
  refine Ex.cons (Ex1.for (src_items0 (by walk_at "ev") (pb_name _ _)) (fun _ _ => rfl) .nil) ?_
  refine Ex.cons (Ex1.for (src_items0 (by walk_at "ev") (pb_name _ _)) (fun _ _ => rfl) .nil) ?_
  refine Ex.ret (Ex1.return (EvF.of ?_))
  walk_at "ev"
theorem binds2 (fd : FuncData) (x y : Str) (h : ∀ u v, bindArgs fd ⟨[u, v], []⟩ = pure [(x, u), (y, v)]) (c : Cx) (ds : List D) (hl : ds.length = 2) : ∀ (s : Shared) (vs : List Value), c.K.In s.heap → vs.length = ds.length → ∃ ex, BindsTo s fd ⟨vs, []⟩ ([x, y].zip (vs ++ ex)) ∧ ∀ X, RdL X s.heap ex [] := by
  intro s vs _ hv
  rw [hl] at hv
  match vs, hv with
  | [u, v], _ => exact ⟨[], BindsTo.of_eq (h u v), fun _ => .nil⟩
theorem op_add_callers (w : World) (k : Nat) : OpN (cx w) (k + 1) (.ref 56) [.dict0, .dict0] .dict0 :=
  OpN.fn (exd := []) (F56 w) (by walk_at "kd") (by kernel_rfl) (binds2 fd56 _ _ (fun u v => by kernel_rfl) (cx w) _ rfl) (ex_add_callers w k)
theorem can56 (w : World) : CanCall (cx w) (.ref 56) := .inr (.inr (by kernel_rfl))
theorem ex_stats (w : World) (k : Nat) (a b e g a' b' e' g' : Int) : Ex (cx w) (k + 1) fd49.scope [(Str.ofString "target", .tup [.int a', .int b', .int e', .int g', .dict0]), (Str.ofString "source", .tup [.int a, .int b, .int e, .int g, .dict0])] none (fnBody (stm 2))
    (.ret (.tup [.int (a + a'), .int (b + b'), .int (e + e'), .int (g + g'), .dict0])) := by
  refine Ex.cons (Ex1.assignT (EvF.of (by walk_at "ev")) (asg_tup (ns := [(Str.ofString "cc", _), (Str.ofString "nc", _), (Str.ofString "tt", _), (Str.ofString "ct", _), (Str.ofString "callers", _)]) (by rfl) (by walk_at "kd")) (fun x hx => by cases hx) (fun _ => by kernel_rfl) (fun env h => by kernel_rfl)) ?_
  simp only [List.map, bindAll]
  refine Ex.cons (Ex1.assignT (EvF.of (by walk_at "ev")) (asg_tup (ns := [(Str.ofString "t_cc", _), (Str.ofString "t_nc", _), (Str.ofString "t_tt", _), (Str.ofString "t_ct", _), (Str.ofString "t_callers", _)]) (by rfl) (by walk_at "kd")) (fun x hx => by cases hx) (fun _ => by kernel_rfl) (fun env h => by kernel_rfl)) ?_
  simp only [List.map, bindAll]
  have hcall : ∀ (p pos p1 p2 : Pos) (σ : List (Str × D)), Ev (cx w) (k + 1) fd49.scope σ (.Name (Str.ofString "t_callers") p1) .dict0 → Ev (cx w) (k + 1) fd49.scope σ (.Name (Str.ofString "callers") p2) .dict0 →
      Ev (cx w) (k + 1) fd49.scope σ (.Call (.Name (Str.ofString "add_callers") p) [.Name (Str.ofString "t_callers") p1, .Name (Str.ofString "callers") p2] [] pos) .dict0 := fun p pos p1 p2 σ h1 h2 =>
    Ev.call (f := .ref 56) (by kernel_rfl) (by kernel_rfl) (can56 w) (.cons (no_name _ _) h1 (.cons (no_name _ _) h2 .nil)) (op_add_callers w k) (by kernel_rfl)
  refine Ex.ret (Ex1.return (EvF.of (Ev.tuple (hsz := by simp) (.cons (no_bin _ _ _ _) (by walk_at "ev") (.cons (no_bin _ _ _ _) (by walk_at "ev") (.cons (no_bin _ _ _ _) (by walk_at "ev") (.cons (no_bin _ _ _ _) (by walk_at "ev") (.cons (no_call _ _ _ _) (hcall _ _ _ _ _ (by walk_at "ev") (by walk_at "ev")) .nil))))))))
theorem op_stats (w : World) (k : Nat) (a b e g a' b' e' g' : Int) : OpN (cx w) (k + 2) (.ref 49) [.tup [.int a', .int b', .int e', .int g', .dict0], .tup [.int a, .int b, .int e, .int g, .dict0]] (.tup [.int (a + a'), .int (b + b'), .int (e + e'), .int (g + g'), .dict0]) :=
  OpN.fn (exd := []) (F49 w) (by walk_at "kd") (by kernel_rfl) (binds2 fd49 _ _ (fun u v => by kernel_rfl) (cx w) _ rfl) (ex_stats w k a b e g a' b' e' g')
theorem can49 (w : World) : CanCall (cx w) (.ref 49) := .inr (.inr (by kernel_rfl))
/-- the three first columns of a term -/
noncomputable def col (t : Int × Int × Int) : Nat → Int
  | 0 => t.1
  | 1 => t.2.1
  | _ => t.2.2
noncomputable def cmpF : List (Nat × Int) → Int × Int × Int → Int × Int × Int → Int
  | [], _, _ => 0
  | (i, w) :: ks, l, r => if col l i < col r i then -w else if col l i > col r i then w else cmpF ks l r
noncomputable def keyD (p : Nat × Int) : D := .tup [.int (p.1 : Int), .int p.2]
noncomputable def tup3 (t : Int × Int × Int) (r : List D) : D := .tup (.int t.1 :: .int t.2.1 :: .int t.2.2 :: r)
theorem col_get (t : Int × Int × Int) (r : List D) (i : Nat) (h : i ≤ 2) : (D.int t.1 :: .int t.2.1 :: .int t.2.2 :: r)[(i : Int).toNat]? = some (.int (col t i)) := by
  match i, h with
  | 0, _ => rfl
  | 1, _ => rfl
  | 2, _ => rfl
noncomputable def forBody : List Stmt → List Stmt
  | .For _ _ b _ _ :: _ => b
  | _ => []
theorem for_cmp (w : World) (k : Nat) (t u : Int × Int × Int) (rt ru : List D) (target : Expr) (p0 p1 p2 : Pos) (n : Nat)
    (ht : target = .Tuple [.Name (Str.ofString "index") p1, .Name (Str.ofString "direction") p2] n p0) :
    ∀ (ks : List (Nat × Int)) (σ : List (Str × D)), (∀ p ∈ ks, p.1 ≤ 2 ∧ p.2 ≠ 0) → σ.lookup (Str.ofString "left") = some (tup3 t rt) → σ.lookup (Str.ofString "right") = some (tup3 u ru) →
      (cmpF ks t u = 0 ∧ ∃ σ', ForR (cx w) k fd35.scope target (forBody (fnBody (mth 1 1))) σ none (ks.map keyD) (.next σ' none)) ∨ (cmpF ks t u ≠ 0 ∧ ForR (cx w) k fd35.scope target (forBody (fnBody (mth 1 1))) σ none (ks.map keyD) (.ret (.int (cmpF ks t u)))) := by
  subst ht
  intro ks
  induction ks with
  | nil => intro σ _ _ _; exact .inl ⟨rfl, σ, .nil⟩
  | cons p ks ih =>
    intro σ hk hl hr
    obtain ⟨i, wy⟩ := p
    obtain ⟨hi, hw⟩ := hk _ (List.mem_cons_self ..)
    have asg : ∀ (σ : List (Str × D)), Asg (cx w) k fd35.scope (.Tuple [.Name (Str.ofString "index") p1, .Name (Str.ofString "direction") p2] n p0) (keyD (i, wy)) σ ((Str.ofString "direction", .int wy) :: (Str.ofString "index", .int (i : Int)) :: σ) := fun σ =>
      asg_tup (ns := [(Str.ofString "index", p1), (Str.ofString "direction", p2)]) (ds := [.int (i : Int), .int wy]) (by rfl) (by walk_at "kd")
    by_cases h1 : col t i < col u i
    · refine .inr ⟨?_, ?_⟩
      · show (if col t i < col u i then -wy else _) ≠ 0
        rw [if_pos h1]; show -wy ≠ 0; have : wy ≠ 0 := hw; omega
      · rw [show cmpF ((i, wy) :: ks) t u = -wy from if_pos h1]
        refine .ret (asg σ) (fun y hy => by cases hy) ?_
        refine Ex.cons (Ex1.assign (EvF.of (Ev.sub (a := tup3 t rt) (b := .int i) (by walk_at "ev") (by walk_at "ev") (op_itemTup (ns_name _ _) (by omega) (by omega) (col_get t rt i hi)))) (by walk_at "kd") (by walk_at "kd") (fun _ => by kernel_rfl)) ?_
        refine Ex.cons (Ex1.assign (EvF.of (Ev.sub (a := tup3 u ru) (b := .int i) (by walk_at "ev") (by walk_at "ev") (op_itemTup (ns_name _ _) (by omega) (by omega) (col_get u ru i hi)))) (by walk_at "kd") (by walk_at "kd") (fun _ => by kernel_rfl)) ?_
        refine Ex.ret (Ex1.if (b := decide (col t i < col u i)) (EvBF.of (by walk_at "evb")) (fun _ => ?_) (fun h => absurd h1 (of_decide_eq_false h)))
        exact Ex.ret (Ex1.return (EvF.of (by walk_at "ev")))
    · by_cases h2 : col t i > col u i
      · refine .inr ⟨?_, ?_⟩
        · show (if col t i < col u i then -wy else if col t i > col u i then wy else _) ≠ 0
          rw [if_neg h1, if_pos h2]; exact hw
        · rw [show cmpF ((i, wy) :: ks) t u = wy from (if_neg h1).trans (if_pos h2)]
          refine .ret (asg σ) (fun y hy => by cases hy) ?_
          refine Ex.cons (Ex1.assign (EvF.of (Ev.sub (a := tup3 t rt) (b := .int i) (by walk_at "ev") (by walk_at "ev") (op_itemTup (ns_name _ _) (by omega) (by omega) (col_get t rt i hi)))) (by walk_at "kd") (by walk_at "kd") (fun _ => by kernel_rfl)) ?_
          refine Ex.cons (Ex1.assign (EvF.of (Ev.sub (a := tup3 u ru) (b := .int i) (by walk_at "ev") (by walk_at "ev") (op_itemTup (ns_name _ _) (by omega) (by omega) (col_get u ru i hi)))) (by walk_at "kd") (by walk_at "kd") (fun _ => by kernel_rfl)) ?_
          refine Ex.cons (Ex1.if (b := decide (col t i < col u i)) (EvBF.of (by walk_at "evb")) (fun h => absurd (of_decide_eq_true h) h1) (fun _ => Ex.nil)) ?_
          refine Ex.ret (Ex1.if (b := decide (col t i > col u i)) (EvBF.of (by walk_at "evb")) (fun _ => ?_) (fun h => absurd h2 (of_decide_eq_false h)))
          exact Ex.ret (Ex1.return (EvF.of (by walk_at "ev")))
      · have e : cmpF ((i, wy) :: ks) t u = cmpF ks t u := (if_neg h1).trans (if_neg h2)
        have turn : ∃ σ', σ'.lookup (Str.ofString "left") = some (tup3 t rt) ∧ σ'.lookup (Str.ofString "right") = some (tup3 u ru) ∧ Ex (cx w) k fd35.scope ((Str.ofString "direction", .int wy) :: (Str.ofString "index", .int (i : Int)) :: σ) none (forBody (fnBody (mth 1 1))) (.next σ' none) := by
          refine ⟨_, ?_, ?_, Ex.cons (Ex1.assign (EvF.of (Ev.sub (a := tup3 t rt) (b := .int i) (by walk_at "ev") (by walk_at "ev") (op_itemTup (ns_name _ _) (by omega) (by omega) (col_get t rt i hi)))) (by walk_at "kd") (by walk_at "kd") (fun _ => by kernel_rfl))
            (Ex.cons (Ex1.assign (EvF.of (Ev.sub (a := tup3 u ru) (b := .int i) (by walk_at "ev") (by walk_at "ev") (op_itemTup (ns_name _ _) (by omega) (by omega) (col_get u ru i hi)))) (by walk_at "kd") (by walk_at "kd") (fun _ => by kernel_rfl))
            (Ex.cons (Ex1.if (b := decide (col t i < col u i)) (EvBF.of (by walk_at "evb")) (fun h => absurd (of_decide_eq_true h) h1) (fun _ => Ex.nil))
            (Ex.cons (Ex1.if (b := decide (col t i > col u i)) (EvBF.of (by walk_at "evb")) (fun h => absurd (of_decide_eq_true h) h2) (fun _ => Ex.nil)) Ex.nil)))⟩
          · walk_at "lk"
          · walk_at "lk"
        obtain ⟨σ', q1, q2, q3⟩ := turn
        rw [e]
        rcases ih σ' (fun p hp => hk p (List.mem_cons_of_mem _ hp)) q1 q2 with ⟨r1, σ'', r2⟩ | ⟨r1, r2⟩
        · exact .inl ⟨r1, σ'', .next (asg σ) (fun y hy => by cases hy) q3 r2⟩
        · exact .inr ⟨r1, .next (asg σ) (fun y hy => by cases hy) q3 r2⟩
theorem ex_compare (w : World) (k : Nat) (t u : Int × Int × Int) (rt ru : List D) (ks : List (Nat × Int)) (hk : ∀ p ∈ ks, p.1 ≤ 2 ∧ p.2 ≠ 0) :
    Ex (cx w) k fd35.scope [(Str.ofString "self", .comp (.lst (ks.map keyD))), (Str.ofString "left", tup3 t rt), (Str.ofString "right", tup3 u ru)] none (fnBody (mth 1 1)) (.ret (.int (cmpF ks t u))) := by
  rcases for_cmp w k t u rt ru _ _ _ _ _ rfl ks [(Str.ofString "self", .comp (.lst (ks.map keyD))), (Str.ofString "left", tup3 t rt), (Str.ofString "right", tup3 u ru)] hk (by walk_at "lk") (by walk_at "lk") with ⟨r1, σ'', r2⟩ | ⟨r1, r2⟩
  · refine Ex.cons (Ex1.for (src_of (Ev.field (C38 w) (by walk_at "ev")) (iter_lst _)) (fun _ _ => rfl) r2) ?_
    rw [r1]
    exact Ex.ret (Ex1.return (EvF.of Ev.int))
  · exact Ex.ret (Ex1.for (src_of (Ev.field (C38 w) (by walk_at "ev")) (iter_lst _)) (fun _ _ => rfl) r2)

theorem lk_res {scope : Scope} {σ : List (Str × D)} {x : Str} {d : D} (h : (scope.names.lookup x == some .free) = true) (h2 : σ.lookup x = some d) : (res scope σ).lookup x = some d := by rw [res_lookup, if_pos h]; exact h2
local macro_rules | `(tactic| walk_at "lk") => `(tactic| first
  | with_reducible exact lookup_hd
  | (with_reducible apply lk_tl; (focus (exact of_decide_eq_true (by kernel_rfl))); walk_at "lk")
  | (with_reducible apply lk_res; (focus kernel_rfl); walk_at "lk")
  | with_reducible assumption)
theorem op_mulR {c : Cx} {k : Nat} (a b : Int) (h : -(2 ^ 60) ≤ b ∧ b ≤ 2 ^ 60) : Op2 c k (binaryOp .Mult) (.int a) (.int b) (.int (a * b)) := by
  intro A X s E v u _ _ _ hv hu; cases hv; cases hu
  exact P.mul_int ⟨kk_tok _ _, .int _ _⟩ (IntMulOk.of_right (intBits_le_64 (by omega) (by omega)))
theorem binds3 (fd : FuncData) (x y z : Str) (h : ∀ u v t, bindArgs fd ⟨[u, v, t], []⟩ = pure [(x, u), (y, v), (z, t)]) (c : Cx) (ds : List D) (hl : ds.length = 3) : ∀ (s : Shared) (vs : List Value), c.K.In s.heap → vs.length = ds.length → ∃ ex, BindsTo s fd ⟨vs, []⟩ ([x, y, z].zip (vs ++ ex)) ∧ ∀ X, RdL X s.heap ex [] := by
  intro s vs _ hv
  rw [hl] at hv
  match vs, hv with
  | [u, v, t], _ => exact ⟨[], BindsTo.of_eq (h u v t), fun _ => .nil⟩
theorem binds1 (fd : FuncData) (x : Str) (h : ∀ u, bindArgs fd ⟨[u], []⟩ = pure [(x, u)]) (c : Cx) (ds : List D) (hl : ds.length = 1) : ∀ (s : Shared) (vs : List Value), c.K.In s.heap → vs.length = ds.length → ∃ ex, BindsTo s fd ⟨vs, []⟩ ([x].zip (vs ++ ex)) ∧ ∀ X, RdL X s.heap ex [] := by
  intro s vs _ hv
  rw [hl] at hv
  match vs, hv with
  | [u], _ => exact ⟨[], BindsTo.of_eq (h u), fun _ => .nil⟩
theorem op_compare (w : World) (k : Nat) (t u : Int × Int × Int) (rt ru : List D) (ks : List (Nat × Int)) (hk : ∀ p ∈ ks, p.1 ≤ 2 ∧ p.2 ≠ 0) :
    OpN (cx w) (k + 1) (.ref 35) [.comp (.lst (ks.map keyD)), tup3 t rt, tup3 u ru] (.int (cmpF ks t u)) :=
  OpN.fn (exd := []) (F35 w) (by walk_at "kd") (by kernel_rfl) (binds3 fd35 (Str.ofString "self") (Str.ofString "left") (Str.ofString "right") (fun u v t => by kernel_rfl) (cx w) _ rfl) (ex_compare w k t u rt ru ks hk)
theorem op_cls (w : World) (k : Nat) (ds : List D) : OpN (cx w) (k + 2) (.ref 38) [.lst ds] (.comp (.lst ds)) :=
  fn_cls (self := Str.ofString "self") (C38 w) (F28 w) (by kernel_rfl) (by walk_at "kd") (fun s u v => BindsTo.of_eq (by kernel_rfl)) (by kernel_rfl) (by kernel_rfl) ds
theorem can38 (w : World) : CanCall (cx w) (.ref 38) := .inr (.inr (by kernel_rfl))
noncomputable abbrev T := (Int × Int × Int) × Int
noncomputable def termD (t : T) : D := tup3 t.1 [.int t.2, .dict0]
noncomputable def leftD (t : T) : D := tup3 t.1 [.int t.2]
theorem termD_inj : ∀ x y : T, termD x = termD y → x = y := by
  rintro ⟨⟨a, b, c⟩, e⟩ ⟨⟨a', b', c'⟩, e'⟩ h
  simp only [termD, tup3, D.tup.injEq, List.cons.injEq, D.int.injEq] at h
  obtain ⟨rfl, rfl, rfl, rfl, _⟩ := h
  rfl
theorem leftD_inj : ∀ x y : T, leftD x = leftD y → x = y := by
  rintro ⟨⟨a, b, c⟩, e⟩ ⟨⟨a', b', c'⟩, e'⟩ h
  simp only [leftD, tup3, D.tup.injEq, List.cons.injEq, D.int.injEq] at h
  obtain ⟨rfl, rfl, rfl, rfl, _⟩ := h
  rfl
noncomputable def worthF (ts : List T) (x y : Nat) : Int := (ts.map fun t => 3 ^ t.2.toNat * (x : Int) ^ t.1.1.toNat * (y : Int) ^ t.1.2.1.toNat).sum % 17
theorem fn_sumMap {c : Cx} {k : Nat} {α : Type} (xs : List α) (h : α → Int) : OpN c k (.builtin "sum") [.lst (xs.map fun t => D.int (h t))] (.int (xs.map h).sum) := by
  have := fn_sum (c := c) (k := k) (xs.map h)
  rwa [List.map_map] at this
theorem pow_bound (n k : Nat) (hn : n ≤ 15) (hk : k ≤ 4) : -(2 ^ 60) ≤ (n : Int) ^ k ∧ (n : Int) ^ k ≤ 2 ^ 60 := by
  have h1 : n ^ k ≤ 15 ^ 4 := Nat.le_trans (Nat.pow_le_pow_left hn k) (Nat.pow_le_pow_right (by decide) hk)
  have h2 : ((n ^ k : Nat) : Int) = (n : Int) ^ k := Int.natCast_pow n k
  omega
noncomputable def TermOk (t : T) : Prop := 0 ≤ t.1.1 ∧ t.1.1 ≤ 4 ∧ 0 ≤ t.1.2.1 ∧ t.1.2.1 ≤ 4 ∧ 0 ≤ t.2 ∧ t.2 ≤ 30
theorem ex_worth (w : World) (k : Nat) (ts : List T) (x y : Nat) (hx : x ≤ 15) (hy : y ≤ 15) (ht : ∀ t ∈ ts, TermOk t) (hl : ts.length ≤ 1000) :
    Ex (cx w) k fd119.scope [(Str.ofString "terms", .lst (ts.map termD)), (Str.ofString "x", .int x), (Str.ofString "y", .int y)] none (fnBody (stm 27)) (.ret (.int (worthF ts x y))) := by
  refine Ex.ret (Ex1.return (EvF.of (Ev.bin (Ev.call (f := .builtin "sum") (by kernel_rfl) (by kernel_rfl) (.inl ⟨_, rfl⟩) (.cons (no_comp _ _ _ _) (Ev.compAll termD_inj (src_of (by walk_at "ev") (iter_lst _)) hl (fun t h => ?_) (by kernel_rfl) (fun _ _ => rfl)) .nil) (fn_sumMap ts fun t => 3 ^ t.2.toNat * (x : Int) ^ t.1.1.toNat * (y : Int) ^ t.1.2.1.toNat) (by kernel_rfl)) Ev.int (op_mod _ _ (by omega)))))
  obtain ⟨h1, h2, h3, h4, h5, h6⟩ := ht t h
  refine Ev.bin (Ev.bin (Ev.bin Ev.int (Ev.sub (a := termD t) (by walk_at "ev") Ev.int (op_itemTup (ns_const _ _ _) (by decide) (by decide) rfl)) (op_pow _ _ (by omega) (by omega))) (Ev.bin (by walk_at "ev") (Ev.sub (a := termD t) (by walk_at "ev") Ev.int (op_itemTup (ns_const _ _ _) (by decide) (by decide) rfl)) (op_pow _ _ (by omega) (by omega))) (op_mulR _ _ (pow_bound _ _ hx (by omega)))) (Ev.bin (by walk_at "ev") (Ev.sub (a := termD t) (by walk_at "ev") Ev.int (op_itemTup (ns_const _ _ _) (by decide) (by decide) rfl)) (op_pow _ _ (by omega) (by omega))) (op_mulR _ _ (pow_bound _ _ hy (by omega)))
theorem op_worth (w : World) (k : Nat) (ts : List T) (x y : Nat) (hx : x ≤ 15) (hy : y ≤ 15) (ht : ∀ t ∈ ts, TermOk t) (hl : ts.length ≤ 1000) : OpN (cx w) (k + 1) (.ref 119) [.lst (ts.map termD), .int x, .int y] (.int (worthF ts x y)) :=
  OpN.fn (exd := []) (F119 w) (by walk_at "kd") (by kernel_rfl) (binds3 fd119 (Str.ofString "terms") (Str.ofString "x") (Str.ofString "y") (fun u v t => by kernel_rfl) (cx w) _ rfl) (ex_worth w k ts x y hx hy ht hl)
theorem can119 (w : World) : CanCall (cx w) (.ref 119) := .inr (.inr (by kernel_rfl))

noncomputable def termOf (n : Int) : T := ((n % 3, n / 3 % 3, n % 3 + n / 3 % 3), n / 9 % 16)
noncomputable def sameAB (t u : T) : Bool := [t.1.1, t.1.2.1] == [u.1.1, u.1.2.1]
noncomputable def termsF : List Int → List T → List T
  | [], acc => acc
  | n :: ns, acc => if (acc.filter fun t => sameAB t (termOf n)) = [] then termsF ns (acc ++ [termOf n]) else termsF ns acc
theorem empty_map {α : Type} (xs : List α) (g : α → D) : (xs.map g).isEmpty = decide (xs = []) := by
  cases xs <;> simp
theorem op_eqNilMap {c : Cx} {k : Nat} {α : Type} (xs : List α) (g : α → D) : Op2 c k (compareOp .Eq) (.lst (xs.map g)) (.lst []) (.bool (decide (xs = []))) := by
  rw [← empty_map xs g]; exact op_eqNil _
theorem for_terms (w : World) (k : Nat) (p : Pos) : ∀ (ns : List Int) (acc : List T) (σ : List (Str × D)), acc.length + ns.length ≤ 100 →
    ∃ σ', ForR (cx w) k fd104.scope (.Name (Str.ofString "number") p) (forBody ((fnBody (stm 24)).drop 1)) σ (some (Str.ofString "terms", acc.map termD)) (ns.map D.int) (.next σ' (some (Str.ofString "terms", (termsF ns acc).map termD))) := by
  intro ns
  induction ns with
  | nil => intro acc σ _; exact ⟨σ, .nil⟩
  | cons n ns ih =>
    intro acc σ hl
    have asg : Asg (cx w) k fd104.scope (.Name (Str.ofString "number") p) (.int n) σ ((Str.ofString "number", .int n) :: σ) := asg_name (by walk_at "kd")
    have ho : ∀ y ∈ ownName (some (Str.ofString "terms", acc.map termD)), y ∉ tnames (.Name (Str.ofString "number") p) := by
      intro y hy
      rw [List.mem_singleton.mp hy]; walk_at "kd"
    have test : EvBF (cx w) k fd104.scope ((Str.ofString "b", .int (n / 3 % 3)) :: (Str.ofString "a", .int (n % 3)) :: (Str.ofString "number", .int n) :: σ) (some (Str.ofString "terms", acc.map termD)) (match (forBody ((fnBody (stm 24)).drop 1)) with | [_, .If t _ _ _] => t | _ => default) (decide ((acc.filter fun t => sameAB t (termOf n)) = [])) := by
      refine EvBF.cmp (EvF.ownIf (f := termD) (g := termD) termD_inj (by simp at hl; omega) (fun t ht => ?_) (fun t ht _ => by walk_at "ev") (by kernel_rfl) (by kernel_rfl)) (Ev.list EvL.nil) (op_eqNilMap _ _) (by with_unfolding_all rfl)
      exact EvB.cmp (a := .tup ([t.1.1, t.1.2.1].map D.int)) (b := .tup ([n % 3, n / 3 % 3].map D.int)) (Ev.sliceTup (ds := [.int t.1.1, .int t.1.2.1, .int t.1.2.2, .int t.2, .dict0]) (b := 2) (show Ev _ _ _ _ _ (termD t) by walk_at "ev") Ev.int (by simp) (by simp)) (Ev.tuple (ds := [.int (n % 3), .int (n / 3 % 3)]) (.cons (no_name _ _) (by walk_at "ev") (.cons (no_name _ _) (by walk_at "ev") .nil)) (by simp)) (op_eqTup [t.1.1, t.1.2.1] [n % 3, n / 3 % 3]) (by with_unfolding_all rfl)
    by_cases h : (acc.filter fun t => sameAB t (termOf n)) = []
    · obtain ⟨σ', q⟩ := ih (acc ++ [termOf n]) ((Str.ofString "b", .int (n / 3 % 3)) :: (Str.ofString "a", .int (n % 3)) :: (Str.ofString "number", .int n) :: σ) (by simp at hl ⊢; omega)
      refine ⟨σ', ?_⟩
      rw [show termsF (n :: ns) acc = termsF ns (acc ++ [termOf n]) from if_pos h]
      refine .next asg ho ?_ q
      refine Ex.cons (Ex1.assignT (EvF.of (by walk_at "ev")) (asg_tup (ns := [(Str.ofString "a", _), (Str.ofString "b", _)]) (by rfl) (by walk_at "kd")) (by intro y hy; rw [List.mem_singleton.mp hy]; walk_at "kd") (fun _ => by kernel_rfl) (fun env h => ?_)) ?_
      · cases env; simp only at h; subst h; kernel_rfl
      simp only [List.map, bindAll]
      refine Ex.cons (Ex1.if test (fun _ => ?_) (fun q => absurd h (of_decide_eq_false q))) Ex.nil
      refine Ex.cons ?_ Ex.nil
      rw [List.map_append]
      exact Ex1.append (d := termD (termOf n)) (Ev.tuple (ds := [.int (n % 3), .int (n / 3 % 3), .int (n % 3 + n / 3 % 3), .int (n / 9 % 16), .dict0]) (by walk_at "evl") (by simp)) (no_tup _ _ _) (by simp at hl ⊢; omega) (by rfl) (fun _ => by kernel_rfl) (fun env h => by cases env; simp only at h; subst h; kernel_rfl) (by kernel_rfl)
    · obtain ⟨σ', q⟩ := ih acc ((Str.ofString "b", .int (n / 3 % 3)) :: (Str.ofString "a", .int (n % 3)) :: (Str.ofString "number", .int n) :: σ) (by simp at hl ⊢; omega)
      refine ⟨σ', ?_⟩
      rw [show termsF (n :: ns) acc = termsF ns acc from if_neg h]
      refine .next asg ho ?_ q
      refine Ex.cons (Ex1.assignT (EvF.of (by walk_at "ev")) (asg_tup (ns := [(Str.ofString "a", _), (Str.ofString "b", _)]) (by rfl) (by walk_at "kd")) (by intro y hy; rw [List.mem_singleton.mp hy]; walk_at "kd") (fun _ => by kernel_rfl) (fun env h => ?_)) ?_
      · cases env; simp only at h; subst h; kernel_rfl
      simp only [List.map, bindAll]
      exact Ex.cons (Ex1.if test (fun q => absurd (of_decide_eq_true q) h) (fun _ => Ex.nil)) Ex.nil
theorem ex_terms (w : World) (k : Nat) (ns : List Int) (hl : ns.length ≤ 100) : Ex (cx w) k fd104.scope [(Str.ofString "numbers", .lst (ns.map D.int))] none (fnBody (stm 24)) (.ret (.lst ((termsF ns []).map termD))) := by
  refine Ex.newOwn (by walk_at "kd") (by kernel_rfl) ?_
  obtain ⟨σ', q⟩ := for_terms w k _ ns [] [(Str.ofString "numbers", .lst (ns.map D.int))] (by simpa using hl)
  refine Ex.cons (Ex1.for (src_of (by walk_at "ev") (iter_lst _)) (fun _ _ => rfl) q) ?_
  exact Ex.ret (Ex1.returnOwn (by kernel_rfl))
theorem op_terms (w : World) (k : Nat) (ns : List Int) (hl : ns.length ≤ 100) : OpN (cx w) (k + 1) (.ref 104) [.lst (ns.map D.int)] (.lst ((termsF ns []).map termD)) :=
  OpN.fn (exd := []) (F104 w) (by walk_at "kd") (by kernel_rfl) (binds1 fd104 (Str.ofString "numbers") (fun u => by kernel_rfl) (cx w) _ rfl) (ex_terms w k ns hl)
theorem can104 (w : World) : CanCall (cx w) (.ref 104) := .inr (.inr (by kernel_rfl))

noncomputable def wholeF (ts : List T) (t : T) : Int := ((ts.filter fun o => sameAB o t).map fun o => 3 ^ o.2.toNat).sum % 17
noncomputable def leftF (ts : List T) : List T → List T → List T
  | [], acc => acc
  | t :: r, acc => if wholeF ts t ≠ 0 ∧ (acc.filter fun o => sameAB o t) = [] then leftF ts r (acc ++ [(t.1, wholeF ts t)]) else leftF ts r acc
theorem for_left (w : World) (k : Nat) (p : Pos) (ts : List T) (hts : ∀ t ∈ ts, 0 ≤ t.2 ∧ t.2 ≤ 30) (hlt : ts.length ≤ 100) : ∀ (r : List T) (acc : List T) (σ : List (Str × D)), acc.length + r.length ≤ 100 → σ.lookup (Str.ofString "terms") = some (.lst (ts.map termD)) →
    ∃ σ', ForR (cx w) k fd109.scope (.Name (Str.ofString "term") p) (forBody ((fnBody (stm 25)).drop 1)) σ (some (Str.ofString "left", acc.map leftD)) (r.map termD) (.next σ' (some (Str.ofString "left", (leftF ts r acc).map leftD))) := by
  intro r
  induction r with
  | nil => intro acc σ _ _; exact ⟨σ, .nil⟩
  | cons t r ih =>
    intro acc σ hl hσ
    have asg : Asg (cx w) k fd109.scope (.Name (Str.ofString "term") p) (termD t) σ ((Str.ofString "term", termD t) :: σ) := asg_name (by walk_at "kd")
    have ho : ∀ y ∈ ownName (some (Str.ofString "left", acc.map leftD)), y ∉ tnames (.Name (Str.ofString "term") p) := by
      intro y hy
      rw [List.mem_singleton.mp hy]; walk_at "kd"
    have h1 : Ex1 (cx w) k fd109.scope ((Str.ofString "term", termD t) :: σ) (some (Str.ofString "left", acc.map leftD)) ((forBody ((fnBody (stm 25)).drop 1)).headD default) (.next ((Str.ofString "whole", .int (wholeF ts t)) :: (Str.ofString "term", termD t) :: σ) (some (Str.ofString "left", acc.map leftD))) := by
      refine Ex1.assign (EvF.of (Ev.bin (Ev.call (f := .builtin "sum") (by kernel_rfl) (by kernel_rfl) (.inl ⟨_, rfl⟩) (.cons (no_comp _ _ _ _) (Ev.compIf termD_inj (src_of (by walk_at "ev") (iter_lst _)) (by omega) (fun o h => ?_) (fun o h _ => ?_) (by kernel_rfl) (fun _ _ => rfl)) .nil) (fn_sumMap (ts.filter fun o => sameAB o t) fun o => 3 ^ o.2.toNat) (by kernel_rfl)) Ev.int (op_mod _ _ (by omega)))) (by walk_at "kd") (by walk_at "kd") (fun _ => by kernel_rfl)
      · exact EvB.cmp (a := .tup ([o.1.1, o.1.2.1].map D.int)) (b := .tup ([t.1.1, t.1.2.1].map D.int)) (Ev.sliceTup (ds := [.int o.1.1, .int o.1.2.1, .int o.1.2.2, .int o.2, .dict0]) (b := 2) (show Ev _ _ _ _ _ (termD o) by walk_at "ev") Ev.int (by simp) (by simp)) (Ev.sliceTup (ds := [.int t.1.1, .int t.1.2.1, .int t.1.2.2, .int t.2, .dict0]) (b := 2) (show Ev _ _ _ _ _ (termD t) by walk_at "ev") Ev.int (by simp) (by simp)) (op_eqTup [o.1.1, o.1.2.1] [t.1.1, t.1.2.1]) (by with_unfolding_all rfl)
      · have := hts o h
        exact Ev.bin Ev.int (Ev.sub (a := termD o) (by walk_at "ev") Ev.int (op_itemTup (ns_const _ _ _) (by decide) (by decide) rfl)) (op_pow _ _ (by omega) (by omega))
    have test : EvBF (cx w) k fd109.scope ((Str.ofString "whole", .int (wholeF ts t)) :: (Str.ofString "term", termD t) :: σ) (some (Str.ofString "left", acc.map leftD)) (match (forBody ((fnBody (stm 25)).drop 1)) with | [_, .If t _ _ _] => t | _ => default) ((wholeF ts t != 0) && decide ((acc.filter fun o => sameAB o t) = [])) := by
      refine EvBF.and2 (EvBF.of (by walk_at "evb")) (fun _ => ?_)
      refine EvBF.cmp (EvF.ownIf (f := leftD) (g := leftD) leftD_inj (by simp at hl; omega) (fun o h => ?_) (fun o h _ => by walk_at "ev") (by kernel_rfl) (by kernel_rfl)) (Ev.list EvL.nil) (op_eqNilMap _ _) (by with_unfolding_all rfl)
      exact EvB.cmp (a := .tup ([o.1.1, o.1.2.1].map D.int)) (b := .tup ([t.1.1, t.1.2.1].map D.int)) (Ev.sliceTup (ds := [.int o.1.1, .int o.1.2.1, .int o.1.2.2, .int o.2]) (b := 2) (show Ev _ _ _ _ _ (leftD o) by walk_at "ev") Ev.int (by simp) (by simp)) (Ev.sliceTup (ds := [.int t.1.1, .int t.1.2.1, .int t.1.2.2, .int t.2, .dict0]) (b := 2) (show Ev _ _ _ _ _ (termD t) by walk_at "ev") Ev.int (by simp) (by simp)) (op_eqTup [o.1.1, o.1.2.1] [t.1.1, t.1.2.1]) (by with_unfolding_all rfl)
    by_cases h : wholeF ts t ≠ 0 ∧ (acc.filter fun o => sameAB o t) = []
    · obtain ⟨σ', q⟩ := ih (acc ++ [(t.1, wholeF ts t)]) ((Str.ofString "whole", .int (wholeF ts t)) :: (Str.ofString "term", termD t) :: σ) (by simp at hl ⊢; omega) (by walk_at "lk")
      refine ⟨σ', ?_⟩
      rw [show leftF ts (t :: r) acc = leftF ts r (acc ++ [(t.1, wholeF ts t)]) from if_pos h]
      refine .next asg ho ?_ q
      refine Ex.cons h1 (Ex.cons (Ex1.if test (fun _ => ?_) (fun q => ?_)) Ex.nil)
      · refine Ex.cons ?_ Ex.nil
        rw [List.map_append]
        exact Ex1.append (d := leftD (t.1, wholeF ts t)) (Ev.bin (Ev.sliceTup (ds := [.int t.1.1, .int t.1.2.1, .int t.1.2.2, .int t.2, .dict0]) (b := 3) (show Ev _ _ _ _ _ (termD t) by walk_at "ev") Ev.int (by simp) (by simp)) (Ev.tuple (ds := [.int (wholeF ts t)]) (by walk_at "evl") (by simp)) (op_addTup [.int t.1.1, .int t.1.2.1, .int t.1.2.2] [.int (wholeF ts t)] (by simp) (by simp) (by simp))) (no_bin _ _ _ _) (by simp at hl ⊢; omega) (by rfl) (fun _ => by kernel_rfl) (fun env h => by cases env; simp only at h; subst h; kernel_rfl) (by kernel_rfl)
      · rw [decide_eq_true h.2, Bool.and_true] at q
        exact absurd (by simpa using q) h.1
    · obtain ⟨σ', q⟩ := ih acc ((Str.ofString "whole", .int (wholeF ts t)) :: (Str.ofString "term", termD t) :: σ) (by simp at hl ⊢; omega) (by walk_at "lk")
      refine ⟨σ', ?_⟩
      rw [show leftF ts (t :: r) acc = leftF ts r acc from if_neg h]
      refine .next asg ho ?_ q
      refine Ex.cons h1 (Ex.cons (Ex1.if test (fun q => ?_) (fun _ => Ex.nil)) Ex.nil)
      simp only [Bool.and_eq_true, bne_iff_ne, decide_eq_true_eq] at q
      exact absurd q h
theorem ex_left (w : World) (k : Nat) (ts : List T) (hts : ∀ t ∈ ts, 0 ≤ t.2 ∧ t.2 ≤ 30) (hl : ts.length ≤ 100) : Ex (cx w) k fd109.scope [(Str.ofString "terms", .lst (ts.map termD))] none (fnBody (stm 25)) (.ret (.lst ((leftF ts ts []).map leftD))) := by
  refine Ex.newOwn (by walk_at "kd") (by kernel_rfl) ?_
  obtain ⟨σ', q⟩ := for_left w k _ ts hts hl ts [] [(Str.ofString "terms", .lst (ts.map termD))] (by simpa using hl) (by walk_at "lk")
  refine Ex.cons (Ex1.for (src_of (by walk_at "ev") (iter_lst _)) (fun _ _ => rfl) q) ?_
  exact Ex.ret (Ex1.returnOwn (by kernel_rfl))
theorem op_left (w : World) (k : Nat) (ts : List T) (hts : ∀ t ∈ ts, 0 ≤ t.2 ∧ t.2 ≤ 30) (hl : ts.length ≤ 100) : OpN (cx w) (k + 1) (.ref 109) [.lst (ts.map termD)] (.lst ((leftF ts ts []).map leftD)) :=
  OpN.fn (exd := []) (F109 w) (by walk_at "kd") (by kernel_rfl) (binds1 fd109 (Str.ofString "terms") (fun u => by kernel_rfl) (cx w) _ rfl) (ex_left w k ts hts hl)
theorem can109 (w : World) : CanCall (cx w) (.ref 109) := .inr (.inr (by kernel_rfl))

theorem cut_from {α : Type} (l : List α) (a : Nat) : cut (some (a : Int)) none l = l.drop a := by
  unfold cut
  simp only [Option.elim]
  have : clipAt l.length (a : Int) = min a l.length := by unfold clipAt; split <;> omega
  rw [this]
  rw [List.take_of_length_le (by rw [List.length_drop]; omega)]
  by_cases h : a ≤ l.length
  · rw [Nat.min_eq_left h]
  · rw [Nat.min_eq_right (by omega), List.drop_eq_nil_of_le (Nat.le_refl _), List.drop_eq_nil_of_le (by omega)]
theorem cut_upto {α : Type} (l : List α) (b : Nat) : cut none (some (b : Int)) l = l.take b := by
  unfold cut
  simp only [Option.elim]
  have : clipAt l.length (b : Int) = min b l.length := by unfold clipAt; split <;> omega
  rw [this, List.drop_zero, Nat.sub_zero]
  by_cases h : b ≤ l.length
  · rw [Nat.min_eq_left h]
  · rw [Nat.min_eq_right (by omega), List.take_of_length_le (Nat.le_refl _), List.take_of_length_le (by omega)]
theorem cut_both {α : Type} (l : List α) (a b : Nat) : cut (some (a : Int)) (some (b : Int)) l = (l.take b).drop a := by
  unfold cut
  simp only [Option.elim]
  have h1 : clipAt l.length (a : Int) = min a l.length := by unfold clipAt; split <;> omega
  have h2 : clipAt l.length (b : Int) = min b l.length := by unfold clipAt; split <;> omega
  rw [h1, h2, List.drop_take]
  by_cases h : a ≤ l.length
  · rw [Nat.min_eq_left h]
    by_cases h' : b ≤ l.length
    · rw [Nat.min_eq_left h']
    · rw [Nat.min_eq_right (show l.length ≤ b by omega), List.take_of_length_le (by rw [List.length_drop]; omega), List.take_of_length_le (by rw [List.length_drop]; omega)]
  · rw [Nat.min_eq_right (show l.length ≤ a by omega), List.drop_eq_nil_of_le (Nat.le_refl l.length), List.drop_eq_nil_of_le (show l.length ≤ a by omega)]; simp
theorem cmp_turn (ks : List (Nat × Int)) (l r : Int × Int × Int) : cmpF (ks.map fun p => (p.1, -2 * p.2)) l r = -2 * cmpF ks l r := by
  induction ks with
  | nil => rfl
  | cons p ks ih =>
    obtain ⟨i, w⟩ := p
    simp only [List.map_cons, cmpF]
    split
    · omega
    · split
      · rfl
      · exact ih
noncomputable def greatestF (ks : List (Nat × Int)) : T → List T → T
  | g, [] => g
  | g, t :: r => if cmpF ks t.1 g.1 > 0 then greatestF ks t r else greatestF ks g r
noncomputable def turnD (p : D × D) : D := match p with
  | (a, .int w) => .tup [a, .int (-2 * w)]
  | _ => .none
theorem for_greatest (w : World) (k : Nat) (p : Pos) (ks : List (Nat × Int)) (hk : ∀ p ∈ ks, p.1 ≤ 2 ∧ p.2 ≠ 0) (rest : T → List D) : ∀ (r : List T) (g : T) (σ : List (Str × D)),
    σ.lookup (Str.ofString "comp") = some (.comp (.lst (ks.map keyD))) → σ.lookup (Str.ofString "turned") = some (.comp (.lst ((ks.map fun p => (p.1, -2 * p.2)).map keyD))) → σ.lookup (Str.ofString "greatest") = some (tup3 g.1 (rest g)) →
    ∃ σ', ForR (cx w) (k + 1) fd114.scope (.Name (Str.ofString "term") p) (forBody ((fnBody (stm 26)).drop 2)) σ none (r.map fun t => tup3 t.1 (rest t)) (.next σ' none) ∧ σ'.lookup (Str.ofString "greatest") = some (tup3 (greatestF ks g r).1 (rest (greatestF ks g r))) := by
  intro r
  induction r with
  | nil => intro g σ _ _ h; exact ⟨σ, .nil, h⟩
  | cons t r ih =>
    intro g σ hc ht hg
    have asg : Asg (cx w) (k + 1) fd114.scope (.Name (Str.ofString "term") p) (tup3 t.1 (rest t)) σ ((Str.ofString "term", tup3 t.1 (rest t)) :: σ) := asg_name (by walk_at "kd")
    have hk2 : ∀ p ∈ (ks.map fun p => (p.1, -2 * p.2)), p.1 ≤ 2 ∧ p.2 ≠ 0 := by
      intro p hp
      obtain ⟨q, hq, rfl⟩ := List.mem_map.mp hp
      have := hk q hq
      exact ⟨this.1, by show -2 * q.2 ≠ 0; omega⟩
    have kb : keepIn (cx w).K (.ref 35) = true := by kernel_rfl
    have h1 : Ex1 (cx w) (k + 1) fd114.scope ((Str.ofString "term", tup3 t.1 (rest t)) :: σ) none ((forBody ((fnBody (stm 26)).drop 2)).headD default) (.next ((Str.ofString "told", .int (cmpF ks t.1 g.1)) :: (Str.ofString "term", tup3 t.1 (rest t)) :: σ) none) :=
      Ex1.assign (EvF.of (Ev.meth (C38 w) (by walk_at "ev") kb (by walk_at "ev") (by walk_at "ev") (op_compare w k t.1 g.1 (rest t) (rest g) ks hk) (by rfl))) (by walk_at "kd") (by walk_at "kd") (fun _ => by kernel_rfl)
    have h2 : EvB (cx w) (k + 1) fd114.scope ((Str.ofString "told", .int (cmpF ks t.1 g.1)) :: (Str.ofString "term", tup3 t.1 (rest t)) :: σ) (match (forBody ((fnBody (stm 26)).drop 2)) with | [_, .If t _ _ _, _] => t | _ => default) (false || (cmpF (ks.map fun p => (p.1, -2 * p.2)) t.1 g.1 != -2 * cmpF ks t.1 g.1)) := by
      refine EvB.or2 (EvB.bool (Ev.call (f := .builtin "isinstance") (by kernel_rfl) (by kernel_rfl) (.inl ⟨_, rfl⟩) (.cons (no_name _ _) (by walk_at "ev") (.cons (no_name _ _) (Ev.globTyp (n := "bool") (by kernel_rfl) (by kernel_rfl) (by kernel_rfl)) .nil)) (fn_isBool (cmpF ks t.1 g.1)) (by kernel_rfl)) (wh_call _ _ _ _)) (fun _ => ?_)
      exact EvB.cmp (Ev.meth (C38 w) (by walk_at "ev") kb (by walk_at "ev") (by walk_at "ev") (op_compare w k t.1 g.1 (rest t) (rest g) _ hk2) (by rfl)) (Ev.bin (Ev.un Ev.int (op_neg 2)) (by walk_at "ev") (op_mul (-2) _ (by omega))) (op_ne _ _) (by with_unfolding_all rfl)
    have h2' : Ex1 (cx w) (k + 1) fd114.scope ((Str.ofString "told", .int (cmpF ks t.1 g.1)) :: (Str.ofString "term", tup3 t.1 (rest t)) :: σ) none (((forBody ((fnBody (stm 26)).drop 2)).drop 1).headD default) (.next ((Str.ofString "told", .int (cmpF ks t.1 g.1)) :: (Str.ofString "term", tup3 t.1 (rest t)) :: σ) none) := by
      refine Ex1.if (EvBF.of h2) (fun q => ?_) (fun _ => Ex.nil)
      rw [cmp_turn] at q
      simp at q
    by_cases h : cmpF ks t.1 g.1 > 0
    · obtain ⟨σ', q1, q2⟩ := ih t ((Str.ofString "greatest", tup3 t.1 (rest t)) :: (Str.ofString "told", .int (cmpF ks t.1 g.1)) :: (Str.ofString "term", tup3 t.1 (rest t)) :: σ) (by walk_at "lk") (by walk_at "lk") (by walk_at "lk")
      rw [show greatestF ks g (t :: r) = greatestF ks t r from if_pos h]
      refine ⟨σ', .next asg (fun y hy => by cases hy) ?_ q1, q2⟩
      refine Ex.cons h1 (Ex.cons h2' (Ex.cons (Ex1.if (b := decide (cmpF ks t.1 g.1 > 0)) (EvBF.of (by walk_at "evb")) (fun _ => ?_) (fun q => absurd h (of_decide_eq_false q))) Ex.nil))
      exact Ex.cons (Ex1.assign (EvF.of (by walk_at "ev")) (by walk_at "kd") (by walk_at "kd") (fun _ => by kernel_rfl)) Ex.nil
    · obtain ⟨σ', q1, q2⟩ := ih g ((Str.ofString "told", .int (cmpF ks t.1 g.1)) :: (Str.ofString "term", tup3 t.1 (rest t)) :: σ) (by walk_at "lk") (by walk_at "lk") (by walk_at "lk")
      rw [show greatestF ks g (t :: r) = greatestF ks g r from if_neg h]
      refine ⟨σ', .next asg (fun y hy => by cases hy) ?_ q1, q2⟩
      exact Ex.cons h1 (Ex.cons h2' (Ex.cons (Ex1.if (b := decide (cmpF ks t.1 g.1 > 0)) (EvBF.of (by walk_at "evb")) (fun q => absurd (of_decide_eq_true q) h) (fun _ => Ex.nil)) Ex.nil))
theorem ev_turn {c : Cx} {k : Nat} {sc scope : Scope} {σ : List (Str × D)} {ks : List (Nat × Int)} {p1 p2 p3 p4 p5 p6 px py pt pk pos : Pos} {n1 n2 n3 : Nat} (hσ : σ.lookup (Str.ofString "keys") = some (.lst (ks.map keyD))) (ok : compOk scope sc [Str.ofString "column", Str.ofString "way"] = true) (hlk : ks.length ≤ 100) :
    Ev c k sc σ (.ListComp (.Tuple [.Name (Str.ofString "column") p1, .BinOp (.UnaryOp .USub (.Constant (.int 2) n3 p2) p3) .Mult (.Name (Str.ofString "way") p4) p5] n1 p6) [⟨.Tuple [.Name (Str.ofString "column") px, .Name (Str.ofString "way") py] n2 pt, .Name (Str.ofString "keys") pk, [], 0⟩] scope pos) (.lst ((ks.map fun p => (p.1, -2 * p.2)).map keyD)) := by
  have hkeys : (.lst (ks.map keyD) : D) = .lst ((ks.map fun p => (D.int (p.1 : Int), D.int p.2)).map fun p => D.tup [p.1, p.2]) := by rw [List.map_map]; rfl
  have hturn : (.lst ((ks.map fun p => (D.int (p.1 : Int), D.int p.2)).map turnD) : D) = .lst ((ks.map fun p => (p.1, -2 * p.2)).map keyD) := by rw [List.map_map, List.map_map]; rfl
  rw [← hturn]
  rw [hkeys] at hσ
  refine Ev.compPair (ds := ks.map fun p => (D.int (p.1 : Int), D.int p.2)) (g := turnD) ok (by walk_at "kd") (fun _ _ => rfl) (src_of (Ev.name hσ (by kernel_rfl) (by kernel_rfl)) (iter_lst _)) (fun p hp => ?_) (by simp; omega)
  obtain ⟨q, hq, rfl⟩ := List.mem_map.mp hp
  exact Ev.tuple (ds := [.int (q.1 : Int), .int (-2 * q.2)]) (.cons (no_name _ _) (by walk_at "ev") (.cons (no_bin _ _ _ _) (Ev.bin (Ev.un Ev.int (op_neg 2)) (by walk_at "ev") (op_mul (-2) _ (by omega))) .nil)) (by simp)
theorem ex_greatest (w : World) (k : Nat) (ks : List (Nat × Int)) (hk : ∀ p ∈ ks, p.1 ≤ 2 ∧ p.2 ≠ 0) (hlk : ks.length ≤ 100) (rest : T → List D) (g : T) (r : List T) (hl : r.length ≤ 100) :
    Ex (cx w) (k + 2) fd114.scope [(Str.ofString "terms", .lst ((g :: r).map fun t => tup3 t.1 (rest t))), (Str.ofString "keys", .lst (ks.map keyD))] none (fnBody (stm 26)) (.ret (tup3 (greatestF ks g r).1 (rest (greatestF ks g r)))) := by
  refine Ex.cons (Ex1.assignS (EvF.of (Ev.tuple (.cons (no_call _ _ _ _) (Ev.call (f := .ref 38) (by kernel_rfl) (by kernel_rfl) (can38 w) (.cons (no_name _ _) (by walk_at "ev") .nil) (op_cls w k _) (by kernel_rfl)) (.cons (no_call _ _ _ _) (Ev.call (f := .ref 38) (by kernel_rfl) (by kernel_rfl) (can38 w) (.cons (no_comp _ _ _ _) (ev_turn (by walk_at "lk") (by kernel_rfl) hlk) .nil) (op_cls w k _) (by kernel_rfl)) .nil)) (by simp))) (by walk_at "kd") (by walk_at "kd") (by walk_at "kd") (by walk_at "kd") (fun _ => by kernel_rfl) (fun env h => by cases env; simp only at h; subst h; kernel_rfl)) ?_
  refine Ex.cons (Ex1.assign (EvF.of (Ev.sub (a := .lst ((g :: r).map fun t => tup3 t.1 (rest t))) (by walk_at "ev") Ev.int (op_itemLst (ns_const _ _ _) (by decide) (by decide) rfl))) (by walk_at "kd") (by walk_at "kd") (fun _ => by kernel_rfl)) ?_
  obtain ⟨σ', q1, q2⟩ := for_greatest w (k + 1) _ ks hk rest r g [(Str.ofString "greatest", tup3 g.1 (rest g)), (Str.ofString "comp", .comp (.lst (ks.map keyD))), (Str.ofString "turned", .comp (.lst ((ks.map fun p => (p.1, -2 * p.2)).map keyD))), (Str.ofString "terms", .lst ((g :: r).map fun t => tup3 t.1 (rest t))), (Str.ofString "keys", .lst (ks.map keyD))] (by walk_at "lk") (by walk_at "lk") (by walk_at "lk")
  have hs : cut (some (1 : Int)) none ((g :: r).map fun t => tup3 t.1 (rest t)) = r.map fun t => tup3 t.1 (rest t) := by
    rw [show (1 : Int) = ((1 : Nat) : Int) from rfl, cut_from]; rfl
  refine Ex.cons (Ex1.for (src_of (a := .lst (cut (some (1 : Int)) none ((g :: r).map fun t => tup3 t.1 (rest t)))) (Ev.sliceLst (by walk_at "ev") (show EvP _ _ _ _ (some _) (some 1) from Ev.int) trivial (by simp; omega)) (by rw [hs]; exact iter_lst _)) (fun _ _ => rfl) q1) ?_
  exact Ex.ret (Ex1.return (EvF.of (Ev.name q2 (by kernel_rfl) (by kernel_rfl))))
theorem op_greatest (w : World) (k : Nat) (ks : List (Nat × Int)) (hk : ∀ p ∈ ks, p.1 ≤ 2 ∧ p.2 ≠ 0) (hlk : ks.length ≤ 100) (rest : T → List D) (g : T) (r : List T) (hl : r.length ≤ 100) :
    OpN (cx w) (k + 3) (.ref 114) [.lst ((g :: r).map fun t => tup3 t.1 (rest t)), .lst (ks.map keyD)] (tup3 (greatestF ks g r).1 (rest (greatestF ks g r))) :=
  OpN.fn (exd := []) (F114 w) (by walk_at "kd") (by kernel_rfl) (binds2 fd114 (Str.ofString "terms") (Str.ofString "keys") (fun u v => by kernel_rfl) (cx w) _ rfl) (ex_greatest w k ks hk hlk rest g r hl)
theorem can114 (w : World) : CanCall (cx w) (.ref 114) := .inr (.inr (by kernel_rfl))

noncomputable def H6 : List Nat := [0, 3, 6, 9, 12, 15]
noncomputable def pgL (os : List Nat) : List Nat := os.flatMap fun o => [61, hc (o / 16), hc (o % 16)]
noncomputable def OctOk (os : List Nat) : Prop := ∀ o ∈ os, o / 16 ∈ H6 ∧ o % 16 ∈ H6
noncomputable def sgn : List Nat := [61, 48, 51, 54, 57, 67, 70]
theorem hc_sgn : ∀ x ∈ H6, hc x ∈ sgn := by decide
theorem pg_sgn {os : List Nat} (h : OctOk os) : ∀ q ∈ pgL os, q ∈ sgn := by
  intro q hq
  obtain ⟨o, ho, hq⟩ := List.mem_flatMap.mp hq
  obtain ⟨h1, h2⟩ := h o ho
  rcases List.mem_cons.mp hq with rfl | hq
  · decide
  · rcases List.mem_cons.mp hq with rfl | hq
    · exact hc_sgn _ h1
    · rw [List.mem_singleton.mp hq]; exact hc_sgn _ h2
theorem pg_len (os : List Nat) : (pgL os).length = 3 * os.length := by
  induction os with
  | nil => rfl
  | cons o os ih => show (61 :: hc (o / 16) :: hc (o % 16) :: pgL os).length = _; simp only [List.length_cons, ih]; omega
theorem pg_app (a b : List Nat) : pgL (a ++ b) = pgL a ++ pgL b := List.flatMap_append ..
theorem sgn_break : ∀ q ∈ sgn, Unicode.isLineBreak q = false := by decide +kernel
theorem sgn_space : ∀ q ∈ sgn, Unicode.isSpace q = false := by decide +kernel
theorem ls_quiet (s : Str) (h : ∀ i, i < s.length → Unicode.isLineBreak (s.cps.getD i 0) = false) : ∀ (m cur : Nat) (st : StrLaws.LsSt), cur + m ≤ s.length → Id.run (forIn (m := Id) (List.range' cur m) st (StrLaws.lsBody s)) = st
  | 0, _, _, _ => rfl
  | m + 1, cur, (a, b), hm => by
    rw [List.range'_succ, List.forIn_cons]
    have : StrLaws.lsBody s cur (a, b) = pure (ForInStep.yield (a, b)) := by
      unfold StrLaws.lsBody
      rw [h cur (by omega), Bool.and_false, if_neg (by decide)]
    rw [this]
    exact ls_quiet s h m (cur + 1) (a, b) (by omega)
theorem cuts_one (s : Str) (h : ∀ i, i < s.length → Unicode.isLineBreak (s.cps.getD i 0) = false) (h0 : 0 < s.length) : lineCuts s = [(0, s.length)] := by
  unfold lineCuts
  rw [StrLaws.ls_eq, ls_quiet s h s.length 0 _ (by omega)]
  unfold StrLaws.lsEnd
  rw [if_pos h0]
  rfl
theorem rstrip_same (x : Str) (h0 : 0 < x.length) (h : Unicode.isSpace (x.cps.getD (x.length - 1) 0) = false) : Txt.rstrip x = x := by
  obtain ⟨_, h2, h3, _⟩ := hi_facts Unicode.isSpace x 0 (Nat.zero_le _)
  have e : PySem.stripHi Unicode.isSpace true x 0 = x.length := by
    refine Nat.le_antisymm h2 (Nat.not_lt.mp fun q => ?_)
    have := h3 (x.length - 1) (by omega) (by omega)
    rw [h] at this; cases this
  unfold Txt.rstrip Txt.stripBy
  refine if_pos ?_
  unfold PySem.stripSame
  show (0 == 0 && PySem.stripHi Unicode.isSpace true x 0 == x.length) = true
  rw [e]; simp
noncomputable def pgS (os : List Nat) : Str := ⟨(pgL os).toArray⟩
theorem pgS_len (os : List Nat) : (pgS os).length = 3 * os.length := by
  show (pgL os).toArray.size = _; rw [List.size_toArray, pg_len]
theorem pgS_get (os : List Nat) (i : Nat) : (pgS os).cps[i]? = (pgL os)[i]? := by
  show (pgL os).toArray[i]? = _; simp
theorem pgS_getD {os : List Nat} (h : OctOk os) (i : Nat) (hi : i < (pgS os).length) : (pgS os).cps.getD i 0 ∈ sgn := by
  have hi' : i < (pgL os).length := by rw [pg_len]; rwa [pgS_len] at hi
  have : (pgS os).cps.getD i 0 = (pgL os)[i] := by
    show (pgL os).toArray.getD i 0 = _
    simp [Array.getD, hi']
  rw [this]
  exact pg_sgn h _ (List.getElem_mem _)
theorem pg_cuts {os : List Nat} (h : OctOk os) (h0 : os ≠ []) : lineCuts (pgS os) = [(0, (pgS os).length)] :=
  cuts_one _ (fun i hi => sgn_break _ (pgS_getD h i hi)) (by rw [pgS_len]; have := List.length_pos_iff.mpr h0; omega)
theorem pg_rstrip {os : List Nat} (h : OctOk os) (h0 : os ≠ []) : Txt.rstrip (pgS os) = pgS os := by
  have hp : 0 < (pgS os).length := by rw [pgS_len]; have := List.length_pos_iff.mpr h0; omega
  exact rstrip_same _ hp (sgn_space _ (pgS_getD h _ (by omega)))
theorem pg_at (dn : List Nat) (o : Nat) (rest : List Nat) : (pgS (dn ++ o :: rest)).cps[3 * dn.length]? = some 61 ∧ (pgS (dn ++ o :: rest)).cps[3 * dn.length + 1]? = some (hc (o / 16)) ∧ (pgS (dn ++ o :: rest)).cps[3 * dn.length + 2]? = some (hc (o % 16)) := by
  have e : ∀ j, (pgL (dn ++ o :: rest))[3 * dn.length + j]? = (61 :: hc (o / 16) :: hc (o % 16) :: pgL rest)[j]? := by
    intro j
    rw [pg_app, ← pg_len dn, List.getElem?_append_right (by omega)]
    congr 1; omega
  refine ⟨?_, ?_, ?_⟩ <;> rw [pgS_get]
  · exact e 0
  · exact e 1
  · exact e 2
theorem pg_slice (dn : List Nat) (o : Nat) (rest : List Nat) : Txt.slice (pgS (dn ++ o :: rest)) (some ((3 * dn.length : Nat) : Int)) (some ((3 * dn.length : Nat) + 3 : Int)) = ⟨#[61, hc (o / 16), hc (o % 16)]⟩ := by
  have hl : (pgS (dn ++ o :: rest)).cps.toList.length = 3 * (dn ++ o :: rest).length := by
    show (pgL _).length = _; exact pg_len _
  have := eq_of_beq (slice_closes (x := pgS (dn ++ o :: rest)) (i := ((3 * dn.length : Nat) : Int)) (j := ((3 * dn.length : Nat) + 3 : Int)) ⟨by omega, by omega, by rw [hl]; simp; omega⟩)
  rw [this]
  have e1 : ((((3 * dn.length : Nat) : Int) + 3 - ((3 * dn.length : Nat) : Int)).toNat) = 3 := by omega
  have e2 : (((3 * dn.length : Nat) : Int)).toNat = 3 * dn.length := by omega
  rw [e1, e2]
  show (⟨((pgL (dn ++ o :: rest)).drop (3 * dn.length) |>.take 3).toArray⟩ : Str) = _
  rw [pg_app, ← pg_len dn, List.drop_left]
  rfl
theorem pg_figs (dn : List Nat) (o : Nat) (rest : List Nat) : Txt.slice (pgS (dn ++ o :: rest)) (some ((3 * dn.length : Nat) + 1 : Int)) (some ((3 * dn.length : Nat) + 3 : Int)) = ⟨#[hc (o / 16), hc (o % 16)]⟩ := by
  have hl : (pgS (dn ++ o :: rest)).cps.toList.length = 3 * (dn ++ o :: rest).length := by
    show (pgL _).length = _; exact pg_len _
  have := eq_of_beq (slice_closes (x := pgS (dn ++ o :: rest)) (i := ((3 * dn.length : Nat) + 1 : Int)) (j := ((3 * dn.length : Nat) + 3 : Int)) ⟨by omega, by omega, by rw [hl]; simp; omega⟩)
  rw [this]
  have e1 : ((((3 * dn.length : Nat) : Int) + 3 - (((3 * dn.length : Nat) : Int) + 1)).toNat) = 2 := by omega
  have e2 : (((3 * dn.length : Nat) : Int) + 1).toNat = 3 * dn.length + 1 := by omega
  rw [e1, e2]
  show (⟨((pgL (dn ++ o :: rest)).drop (3 * dn.length + 1) |>.take 2).toArray⟩ : Str) = _
  rw [pg_app, ← pg_len dn, ← List.drop_drop, List.drop_left]
  rfl
theorem slice13 (p q : Nat) : Txt.slice ⟨#[61, p, q]⟩ (some 1) (some 3) = ⟨#[p, q]⟩ := by kernel_rfl
theorem str_app (a b : List Nat) : (⟨a.toArray⟩ : Str) ++ ⟨b.toArray⟩ = ⟨(a ++ b).toArray⟩ := by
  show (⟨a.toArray ++ b.toArray⟩ : Str) = _
  rw [List.append_toArray]
theorem drop_last (a : List Nat) (q : Nat) : Txt.slice ⟨(a ++ [q]).toArray⟩ none (some (-1)) = ⟨a.toArray⟩ := by
  have hl : (⟨(a ++ [q]).toArray⟩ : Str).length = a.length + 1 := by show (a ++ [q]).toArray.size = _; simp
  have := eq_of_beq (slice_closes_to_neg (x := ⟨(a ++ [q]).toArray⟩) (j := -1) (k := a.length) (by omega) (by rw [hl]; omega) (by rw [hl]; omega))
  rw [this]
  show (⟨((a ++ [q]).drop 0 |>.take ((a.length : Int) - 0).toNat).toArray⟩ : Str) = _
  have e : ((a.length : Int) - 0).toNat = a.length := by omega
  rw [e, List.drop_zero, List.take_left]
theorem ends_nl (a : List Nat) (q : Nat) : Txt.endswith ⟨(a ++ [q]).toArray⟩ ⟨#[q]⟩ = true := by
  have hl : (⟨(a ++ [q]).toArray⟩ : Str).length = a.length + 1 := by show (a ++ [q]).toArray.size = _; simp
  unfold Txt.endswith
  rw [StrLaws.subAt_eq, hl]
  show (decide (0 + 1 ≤ a.length + 1) && (((a ++ [q]).drop (a.length + 1 - 1)).take 1 == [q])) = true
  rw [Nat.add_sub_cancel, List.drop_left]
  simp

/- unquote, quote -/
theorem ex_unquote (w : World) (k : Nat) (x y : Nat) (hx : x ∈ H6) (hy : y ∈ H6) : Ex (cx w) k fd79.scope [(Str.ofString "s", .str ⟨#[61, hc x, hc y]⟩)] none (fnBody (stm 17)) (.ret (.str ⟨#[16 * x + y]⟩)) := by
  have hb : 16 * x + y ≤ 1114111 := by
    simp only [H6, List.mem_cons, List.not_mem_nil, or_false] at hx hy
    omega
  have hs : Ev (cx w) k fd79.scope [(Str.ofString "s", .str ⟨#[61, hc x, hc y]⟩)] (match (fnBody (stm 17)) with | [.Return (some (.Call _ [.Call _ [e, _] _ _] _ _)) _] => e | _ => default) (.str ⟨#[hc x, hc y]⟩) := by
    rw [← slice13]
    exact Ev.sliceStr (lo := some 1) (hi := some 3) (by walk_at "ev") (show Ev _ _ _ _ _ (.int 1) from Ev.int) (show Ev _ _ _ _ _ (.int 3) from Ev.int) (by show 3 ≤ 1000; decide)
  have h2 : Ev (cx w) k fd79.scope [(Str.ofString "s", .str ⟨#[61, hc x, hc y]⟩)] (match (fnBody (stm 17)) with | [.Return (some (.Call _ [e] _ _)) _] => e | _ => default) (.int ((16 * x + y : Nat) : Int)) :=
    Ev.call (f := .type "int") (by kernel_rfl) (by kernel_rfl) (.inr (.inl ⟨_, rfl⟩)) (.cons (no_sub _ _ _) hs (.cons (no_const _ _ _) Ev.int .nil)) (fn_int16 x y hx hy) (by kernel_rfl)
  have := Ev.call (pos := default) (p := default) (x := Str.ofString "chr") (f := .builtin "chr") (sc := fd79.scope) (c := cx w) (by kernel_rfl) (by kernel_rfl) (.inl ⟨_, rfl⟩) (.cons (no_call _ _ _ _) h2 .nil) (fn_chr ((16 * x + y : Nat) : Int) (by omega) (by omega)) (by kernel_rfl)
  refine Ex.ret (Ex1.return (EvF.of (Ev.call (f := .builtin "chr") (by kernel_rfl) (by kernel_rfl) (.inl ⟨_, rfl⟩) (.cons (no_call _ _ _ _) h2 .nil) ?_ (by kernel_rfl))))
  have e := fn_chr (c := cx w) (k := k) ((16 * x + y : Nat) : Int) (by omega) (by omega)
  rwa [show (((16 * x + y : Nat) : Int)).toNat = 16 * x + y from Int.toNat_natCast _] at e
theorem op_unquote (w : World) (k : Nat) (x y : Nat) (hx : x ∈ H6) (hy : y ∈ H6) : OpN (cx w) (k + 1) (.ref 79) [.str ⟨#[61, hc x, hc y]⟩] (.str ⟨#[16 * x + y]⟩) :=
  OpN.fn (exd := []) (F79 w) (by walk_at "kd") (by kernel_rfl) (binds1 fd79 (Str.ofString "s") (fun u => by kernel_rfl) (cx w) _ rfl) (ex_unquote w k x y hx hy)
theorem can79 (w : World) : CanCall (cx w) (.ref 79) := .inr (.inr (by kernel_rfl))
noncomputable def vs59 (P : Params) : List Value := match (ob59_4 P).data with | .seq a _ => a.toList | _ => []
noncomputable def n59 (P : Params) : Nat := match (ob59_4 P).data with | .seq _ n => n | _ => 0
noncomputable def strOf? : Value → Option Str
  | .str x _ => some x
  | _ => none
theorem rd_strs {X : List Addr} {h : Heap} : ∀ (vs : List Value) (xs : List Str), vs.map strOf? = xs.map some → RdL X h vs (xs.map D.str)
  | [], [], _ => .nil
  | [], _ :: _, e => by cases e
  | _ :: _, [], e => by cases e
  | v :: vs, x :: xs, e => by
    rw [List.map_cons, List.map_cons] at e
    injection e with e1 e2
    refine .cons ?_ (rd_strs vs xs e2)
    cases v <;> simp [strOf?] at e1
    subst e1
    exact .str _ _
noncomputable def mapS (o : Nat) : Str := ⟨#[61, hc (o / 16), hc (o % 16)]⟩
theorem look59 (P : Params) : (vs59 P).map strOf? = ((List.range 256).map mapS).map some := by kernel_rfl
theorem at59 (w : World) : (cx w).K.lookup 59 = some { cls := .type "list", data := .seq (vs59 w.params).toArray (n59 w.params) } := by kernel_rfl
theorem ex_quote (w : World) (k : Nat) (o : Nat) (ho : o < 256) : Ex (cx w) k fd86.scope [(Str.ofString "c", .str ⟨#[o]⟩)] none (fnBody (stm 18)) (.ret (.str (mapS o))) := by
  refine Ex.ret (Ex1.return (EvF.of (Ev.sub (a := .lst (((List.range 256).map mapS).map D.str)) (b := .int o) (Ev.globLst (a := 59) (by kernel_rfl) (by kernel_rfl) (at59 w) (fun X h => rd_strs _ _ (look59 w.params)) (by kernel_rfl)) (Ev.call (f := .builtin "ord") (by kernel_rfl) (by kernel_rfl) (.inl ⟨_, rfl⟩) (.cons (no_name _ _) (by walk_at "ev") .nil) (fn_ord o) (by kernel_rfl)) (op_itemLst (ns_call _ _ _ _) (by omega) (by omega) ?_))))
  rw [Int.toNat_natCast, List.getElem?_map, List.getElem?_map, List.getElem?_range ho]
  rfl
theorem op_quote (w : World) (k : Nat) (o : Nat) (ho : o < 256) : OpN (cx w) (k + 1) (.ref 86) [.str ⟨#[o]⟩] (.str (mapS o)) :=
  OpN.fn (exd := []) (F86 w) (by walk_at "kd") (by kernel_rfl) (binds1 fd86 (Str.ofString "c") (fun u => by kernel_rfl) (cx w) _ rfl) (ex_quote w k o ho)
theorem can86 (w : World) : CanCall (cx w) (.ref 86) := .inr (.inr (by kernel_rfl))

noncomputable def hexd : Str := Str.ofString "0123456789abcdefABCDEF"
theorem inHex : ∀ x ∈ H6, (!(Builtin.Str.occurrences hexd ⟨#[hc x]⟩ 0 hexd.length 1).isEmpty) = true := by decide +kernel
noncomputable def whBody : List Stmt → List Stmt
  | .While _ b _ _ :: _ => b
  | _ => []
noncomputable def whTest : List Stmt → Expr
  | .While t _ _ _ :: _ => t
  | _ => default
noncomputable def whL : List Stmt := (forBody ((fnBody (stm 22)).drop 2)).drop 4
structure DecSt (σ : List (Str × D)) (os : List Nat) (i : Nat) (dec : List Nat) : Prop where
  line : σ.lookup (Str.ofString "line") = some (.str (pgS os))
  n : σ.lookup (Str.ofString "n") = some (.int (3 * os.length : Nat))
  i : σ.lookup (Str.ofString "i") = some (.int (i : Nat))
  dec : σ.lookup (Str.ofString "decoded") = some (.str ⟨dec.toArray⟩)
  eol : σ.lookup (Str.ofString "eol") = some (.str ⟨#[10]⟩)
  enc : σ.lookup (Str.ofString "encoded") = some (.str (pgS os))
theorem wh_turn (w : World) (k : Nat) (os dn : List Nat) (o : Nat) (rest : List Nat) (hos : os = dn ++ o :: rest) (hok : OctOk os) (hl : os.length ≤ 40) (σ : List (Str × D)) (S : DecSt σ os (3 * dn.length) dn) :
    ∃ σ', Ex (cx w) (k + 1) fd99.scope σ none (whBody whL) (.next σ' none) ∧ DecSt σ' os (3 * (dn ++ [o]).length) (if rest = [] then dn ++ [o] ++ [10] else dn ++ [o]) := by
  obtain ⟨h1, h2, h3, h4, h5, h6⟩ := S
  obtain ⟨a0, a1, a2⟩ := pg_at dn o rest
  rw [← hos] at a0 a1 a2
  have hx := (hok o (by rw [hos]; simp)).1
  have hy := (hok o (by rw [hos]; simp)).2
  have ho : 16 * (o / 16) + o % 16 = o := by omega
  have hlen : os.length = dn.length + 1 + rest.length := by rw [hos]; simp; omega
  have hj : ((3 * dn.length : Nat) : Int).toNat = 3 * dn.length := Int.toNat_natCast _
  -- c = line[i]
  have s1 : Ex1 (cx w) (k + 1) fd99.scope σ none ((whBody whL).headD default) (.next ((Str.ofString "c", .str ⟨#[61]⟩) :: σ) none) :=
    Ex1.assign (EvF.of (Ev.sub (a := .str (pgS os)) (b := .int (3 * dn.length : Nat)) (by walk_at "ev") (by walk_at "ev") (op_itemStr (ns_name _ _) (by omega) (by omega) (by rw [hj]; exact a0)))) (by walk_at "kd") (by walk_at "kd") (fun _ => by kernel_rfl)
  have hsl : Txt.slice (pgS os) (some ((3 * dn.length : Nat) : Int)) (some (((3 * dn.length : Nat) : Int) + 3)) = ⟨#[61, hc (o / 16), hc (o % 16)]⟩ := by
    rw [hos]; exact pg_slice dn o rest
  have happ : (⟨dn.toArray⟩ : Str) ++ (⟨#[16 * (o / 16) + o % 16]⟩ : Str) = ⟨(dn ++ [o]).toArray⟩ := by
    rw [ho]; exact str_app dn [o]
  have hdl : (⟨dn.toArray⟩ : Str).length = dn.length := by show dn.toArray.size = _; simp
  have s2 : Ex1 (cx w) (k + 1) fd99.scope ((Str.ofString "c", .str ⟨#[61]⟩) :: σ) none (((whBody whL).drop 1).headD default) (.next ((Str.ofString "i", .int (((3 * dn.length : Nat) : Int) + 3)) :: (Str.ofString "decoded", .str ⟨(dn ++ [o]).toArray⟩) :: (Str.ofString "c", .str ⟨#[61]⟩) :: σ) none) := by
    refine Ex1.if (b := ((⟨#[61]⟩ : Str) != Str.ofString "=")) (EvBF.of (by walk_at "evb")) (fun h => absurd h (by decide)) (fun _ => ?_)
    refine Ex.cons (Ex1.if (b := (((3 * dn.length : Nat) : Int) + 1 == (3 * os.length : Nat))) (EvBF.of (by walk_at "evb")) (fun h => ?_) (fun _ => ?_)) Ex.nil
    · have h := eq_of_beq h
      exfalso; omega
    refine Ex.cons (Ex1.if (b := (decide (((3 * dn.length : Nat) : Int) + 2 < (3 * os.length : Nat)) && true && true)) (EvBF.of (EvB.and3 (by walk_at "evb") (fun _ => ?_) (fun _ _ => ?_))) (fun _ => ?_) (fun h => ?_)) Ex.nil
    · rw [← inHex _ hx]
      exact EvB.cmp (Ev.sub (a := .str (pgS os)) (b := .int (((3 * dn.length : Nat) : Int) + 1)) (by walk_at "ev") (by walk_at "ev") (op_itemStr (ns_bin _ _ _ _) (by omega) (by omega) (by rw [show (((3 * dn.length : Nat) : Int) + 1).toNat = 3 * dn.length + 1 by omega]; exact a1))) (Ev.globStr (u := 1303) (by kernel_rfl) (by kernel_rfl) (by kernel_rfl)) (op_inStr hexd _) (by with_unfolding_all rfl)
    · rw [← inHex _ hy]
      exact EvB.cmp (Ev.sub (a := .str (pgS os)) (b := .int (((3 * dn.length : Nat) : Int) + 2)) (by walk_at "ev") (by walk_at "ev") (op_itemStr (ns_bin _ _ _ _) (by omega) (by omega) (by rw [show (((3 * dn.length : Nat) : Int) + 2).toNat = 3 * dn.length + 2 by omega]; exact a2))) (Ev.globStr (u := 1303) (by kernel_rfl) (by kernel_rfl) (by kernel_rfl)) (op_inStr hexd _) (by with_unfolding_all rfl)
    · refine Ex.cons (Ex1.aug (a := .str ⟨dn.toArray⟩) (b := .str ⟨#[16 * (o / 16) + o % 16]⟩) (d := .str ⟨(dn ++ [o]).toArray⟩) (by walk_at "lk") (Ev.call (f := .ref 79) (by kernel_rfl) (by kernel_rfl) (can79 w) (.cons (no_sub _ _ _) (?_ : Ev _ _ _ _ _ (.str ⟨#[61, hc (o / 16), hc (o % 16)]⟩)) .nil) (op_unquote w k _ _ hx hy) (by kernel_rfl)) ?_ (by walk_at "kd") (by walk_at "kd") (by kernel_rfl)) ?_
      · rw [← hsl]
        exact Ev.sliceStr (lo := some ((3 * dn.length : Nat) : Int)) (hi := some (((3 * dn.length : Nat) : Int) + 3)) (by walk_at "ev") (show Ev _ _ _ _ _ (.int ((3 * dn.length : Nat) : Int)) by walk_at "ev") (show Ev _ _ _ _ _ (.int (((3 * dn.length : Nat) : Int) + 3)) by walk_at "ev") (by rw [pgS_len]; omega)
      · rw [← happ]
        exact iop_addStr _ _ (by rw [hdl]; show dn.length + 1 ≤ 1000; omega)
      · exact Ex.cons (Ex1.aug (by walk_at "lk") Ev.int (iop_add _ _) (by walk_at "kd") (by walk_at "kd") (by kernel_rfl)) Ex.nil
    · rw [decide_eq_true (by omega)] at h; cases h
  have hi' : (((3 * dn.length : Nat) : Int) + 3) = ((3 * (dn ++ [o]).length : Nat) : Int) := by simp; omega
  by_cases hr : rest = []
  · rw [if_pos hr]
    have hn : ((((3 * dn.length : Nat) : Int) + 3) == (3 * os.length : Nat)) = true := by
      subst hr; rw [beq_iff_eq]; simp at hlen; omega
    refine ⟨_, Ex.cons s1 (Ex.cons s2 (Ex.cons (Ex1.if (b := ((((3 * dn.length : Nat) : Int) + 3) == (3 * os.length : Nat))) (EvBF.of (by walk_at "evb")) (fun _ => Ex.cons (Ex1.aug (a := .str ⟨(dn ++ [o]).toArray⟩) (b := .str ⟨#[10]⟩) (d := .str ⟨(dn ++ [o] ++ [10]).toArray⟩) (by walk_at "lk") (by walk_at "ev") (by have q := iop_addStr (c := cx w) (k := k + 1) ⟨(dn ++ [o]).toArray⟩ ⟨[10].toArray⟩ (by show (dn ++ [o]).toArray.size + 1 ≤ 1000; simp; omega); rw [str_app] at q; exact q) (by walk_at "kd") (by walk_at "kd") (by kernel_rfl)) Ex.nil) (fun h => by rw [hn] at h; cases h)) Ex.nil)), ?_⟩
    refine ⟨by walk_at "lk", by walk_at "lk", ?_, by walk_at "lk", by walk_at "lk", by walk_at "lk"⟩
    rw [← hi']; walk_at "lk"
  · rw [if_neg hr]
    have hn : ((((3 * dn.length : Nat) : Int) + 3) == (3 * os.length : Nat)) = false := by
      rw [beq_eq_false_iff_ne]; have := List.length_pos_iff.mpr hr; omega
    refine ⟨_, Ex.cons s1 (Ex.cons s2 (Ex.cons (Ex1.if (b := ((((3 * dn.length : Nat) : Int) + 3) == (3 * os.length : Nat))) (EvBF.of (by walk_at "evb")) (fun h => by rw [hn] at h; cases h) (fun _ => Ex.nil)) Ex.nil)), ?_⟩
    refine ⟨by walk_at "lk", by walk_at "lk", ?_, by walk_at "lk", by walk_at "lk", by walk_at "lk"⟩
    rw [← hi']; walk_at "lk"
theorem wh_all (w : World) (k : Nat) (os : List Nat) (hok : OctOk os) (hl : os.length ≤ 40) : ∀ (rem : List Nat) (dn : List Nat) (σ : List (Str × D)), os = dn ++ rem → rem ≠ [] → DecSt σ os (3 * dn.length) dn →
    ∃ σ', WhR (cx w) (k + 1) fd99.scope (whTest whL) (whBody whL) σ none (.next σ' none) ∧ DecSt σ' os (3 * os.length) (os ++ [10])
  | [], _, _, _, h, _ => absurd rfl h
  | o :: rest, dn, σ, hos, _, S => by
    obtain ⟨σ1, q1, q2⟩ := wh_turn w k os dn o rest hos hok hl σ S
    have hlen : os.length = dn.length + 1 + rest.length := by rw [hos]; simp; omega
    have t0 : EvBF (cx w) (k + 1) fd99.scope σ none (whTest whL) true := by
      rw [show true = decide (((3 * dn.length : Nat) : Int) < (3 * os.length : Nat)) from (decide_eq_true (by omega)).symm]
      obtain ⟨h1, h2, h3, h4, h5, h6⟩ := S
      exact EvBF.of (EvB.cmp (by walk_at "ev") (by walk_at "ev") (op_lt _ _) (by with_unfolding_all rfl))
    by_cases hr : rest = []
    · rw [if_pos hr] at q2
      subst hr
      have e : dn ++ [o] = os := hos.symm
      rw [e] at q2
      refine ⟨σ1, .next t0 q1 (.stop ?_), q2⟩
      rw [show false = decide (((3 * os.length : Nat) : Int) < (3 * os.length : Nat)) from (decide_eq_false (by omega)).symm]
      obtain ⟨h1, h2, h3, h4, h5, h6⟩ := q2
      exact EvBF.of (EvB.cmp (by walk_at "ev") (by walk_at "ev") (op_lt _ _) (by with_unfolding_all rfl))
    · rw [if_neg hr] at q2
      obtain ⟨σ', q3, q4⟩ := wh_all w k os hok hl rest (dn ++ [o]) σ1 (by rw [hos]; simp) hr q2
      exact ⟨σ', .next t0 q1 q3, q4⟩

theorem empty_str : Str.ofString "" = ⟨([] : List Nat).toArray⟩ := by kernel_rfl
theorem crlf : ∀ q ∈ sgn, (!(!(Builtin.Str.occurrences (Str.ofString "\r\n") ⟨#[q]⟩ 0 (Str.ofString "\r\n").length 1).isEmpty)) = true := by decide +kernel
theorem ex_decode (w : World) (k : Nat) (os : List Nat) (hok : OctOk os) (hl : os.length ≤ 40) (h0 : os ≠ []) : Ex (cx w) (k + 1) fd99.scope [(Str.ofString "encoded", .str (pgS os)), (Str.ofString "eol", .str ⟨#[10]⟩)] none (fnBody (stm 22)) (.ret (.str ⟨os.toArray⟩)) := by
  have hp : 0 < os.length := List.length_pos_iff.mpr h0
  have hlen := pgS_len os
  have hne : (!(((pgS os).length : Int) != 0)) = false := by
    have : ((pgS os).length : Int) ≠ 0 := by omega
    rw [bne_iff_ne.mpr this]; rfl
  refine Ex.cons (Ex1.if (b := !(((pgS os).length : Int) != 0)) (EvBF.of (EvB.not (EvB.str (by walk_at "ev") (wh_name _ _) (by omega)))) (fun h => by rw [hne] at h; cases h) (fun _ => Ex.nil)) ?_
  refine Ex.cons (Ex1.assign (d := .str ⟨([] : List Nat).toArray⟩) (EvF.of (by rw [← empty_str]; exact Ev.str)) (by walk_at "kd") (by walk_at "kd") (fun _ => by kernel_rfl)) ?_
  -- the loop's one turn
  have turn : ∃ σ', Ex (cx w) (k + 1) fd99.scope [(Str.ofString "line", .str (pgS os)), (Str.ofString "decoded", .str ⟨([] : List Nat).toArray⟩), (Str.ofString "encoded", .str (pgS os)), (Str.ofString "eol", .str ⟨#[10]⟩)] none (forBody ((fnBody (stm 22)).drop 2)) (.next σ' none) ∧ DecSt σ' os (3 * os.length) (os ++ [10]) := by
    obtain ⟨σ', q1, q2⟩ := wh_all w k os hok hl os [] [(Str.ofString "n", .int ((pgS os).length : Int)), (Str.ofString "i", .int 0), (Str.ofString "line", .str (pgS os)), (Str.ofString "line", .str (pgS os)), (Str.ofString "decoded", .str ⟨([] : List Nat).toArray⟩), (Str.ofString "encoded", .str (pgS os)), (Str.ofString "eol", .str ⟨#[10]⟩)] rfl h0
      ⟨by walk_at "lk", by rw [← hlen]; walk_at "lk", by show List.lookup _ _ = some (D.int 0); walk_at "lk", by walk_at "lk", by walk_at "lk", by walk_at "lk"⟩
    refine ⟨σ', ?_, q2⟩
    refine Ex.cons (Ex1.assign (d := .str (pgS os)) (EvF.of ?_) (by walk_at "kd") (by walk_at "kd") (fun _ => by kernel_rfl)) ?_
    · have := Ev.methStr (c := cx w) (k := k + 1) (sc := fd99.scope) (σ := [(Str.ofString "line", .str (pgS os)), (Str.ofString "decoded", .str ⟨([] : List Nat).toArray⟩), (Str.ofString "encoded", .str (pgS os)), (Str.ofString "eol", .str ⟨#[10]⟩)]) (o := .Name (Str.ofString "line") ⟨61, 15, 61, 19⟩) (apos := ⟨61, 15, 61, 26⟩) (pos := ⟨61, 15, 61, 28⟩) (by walk_at "ev") EvL.nil F.slot_str_rstrip F.type_str_rstrip (fn_rstrip (pgS os) (by omega)) (pb_name _ _)
      rw [pg_rstrip hok h0] at this
      exact this
    refine Ex.cons (Ex1.if (b := !(((pgS os).length : Int) != 0)) (EvBF.of (EvB.not (EvB.str (by walk_at "ev") (wh_name _ _) (by omega)))) (fun h => by rw [hne] at h; cases h) (fun _ => Ex.nil)) ?_
    refine Ex.cons (Ex1.assign (EvF.of Ev.int) (by walk_at "kd") (by walk_at "kd") (fun _ => by kernel_rfl)) ?_
    refine Ex.cons (Ex1.assign (EvF.of (Ev.call (f := .builtin "len") (by kernel_rfl) (by kernel_rfl) (.inl ⟨_, rfl⟩) (.cons (no_name _ _) (by walk_at "ev") .nil) (fn_lenStr (pgS os) (by omega)) (by kernel_rfl))) (by walk_at "kd") (by walk_at "kd") (fun _ => by kernel_rfl)) ?_
    exact Ex.cons (Ex1.while q1) Ex.nil
  obtain ⟨σ', q1, q2⟩ := turn
  refine Ex.cons (Ex1.for (src_of (Ev.methStr (by walk_at "ev") EvL.nil F.slot_str_splitlines F.type_str_splitlines (fn_splitlines1 (pgS os) (by omega) (pg_cuts hok h0)) (pb_name _ _)) (iter_lst _)) (fun _ _ => by rfl) (.next (asg_name (by walk_at "kd")) (fun y hy => by cases hy) q1 .nil)) ?_
  obtain ⟨h1, h2, h3, h4, h5, h6⟩ := q2
  have hlast : ∃ q, q ∈ sgn ∧ (pgS os).cps[((-1 : Int) + (pgS os).length).toNat]? = some q := by
    have hi : ((-1 : Int) + (pgS os).length).toNat < (pgS os).length := by omega
    refine ⟨(pgS os).cps.getD ((-1 : Int) + (pgS os).length).toNat 0, pgS_getD hok _ hi, ?_⟩
    have hi' : ((-1 : Int) + (pgS os).length).toNat < (pgS os).cps.size := hi
    simp [Array.getD, hi']
  obtain ⟨q, hq1, hq2⟩ := hlast
  refine Ex.cons (σ' := (Str.ofString "decoded", .str ⟨os.toArray⟩) :: σ') (ow' := none) (Ex1.if (b := (true && true)) (EvBF.of (EvB.and2 ?_ (fun _ => ?_))) (fun _ => ?_) (fun h => by cases h)) ?_
  · rw [← crlf q hq1]
    exact EvB.cmp (Ev.sub (a := .str (pgS os)) (b := .int (-1)) (Ev.name h6 (by kernel_rfl) (by kernel_rfl)) (Ev.un Ev.int (op_neg 1)) (op_lastStr (ns_un _ _ _) (by decide) (by decide) (by omega) hq2)) Ev.str (op_notInStr _ _) (by with_unfolding_all rfl)
  · rw [← ends_nl os 10]
    exact EvB.bool (Ev.methStr (Ev.name h4 (by kernel_rfl) (by kernel_rfl)) (.cons (no_name _ _) (Ev.name h5 (by kernel_rfl) (by kernel_rfl)) .nil) F.slot_str_endswith F.type_str_endswith (fn_endswith _ _) (pb_name _ _)) (wh_call _ _ _ _)
  · refine Ex.cons (Ex1.assign (d := .str ⟨os.toArray⟩) (EvF.of ?_) (by walk_at "kd") (by walk_at "kd") (fun _ => by kernel_rfl)) Ex.nil
    rw [← drop_last os 10]
    exact Ev.sliceStr (lo := none) (hi := some (-1)) (Ev.name h4 (by kernel_rfl) (by kernel_rfl)) trivial (show Ev _ _ _ _ _ (.int (-1)) from Ev.un (Ev.call (f := .builtin "len") (by kernel_rfl) (by kernel_rfl) (.inl ⟨_, rfl⟩) (.cons (no_name _ _) (Ev.name h5 (by kernel_rfl) (by kernel_rfl)) .nil) (fn_lenStr ⟨#[10]⟩ (by decide)) (by kernel_rfl)) (op_neg 1)) (by show (os ++ [10]).toArray.size ≤ 1000; simp; omega)
  · exact Ex.ret (Ex1.return (EvF.of (by walk_at "ev")))
theorem op_decode (w : World) (k : Nat) (os : List Nat) (hok : OctOk os) (hl : os.length ≤ 40) (h0 : os ≠ []) : OpN (cx w) (k + 2) (.ref 99) [.str (pgS os)] (.str ⟨os.toArray⟩) := by
  refine OpN.fn (exd := [.str ⟨#[10]⟩]) (ps := [Str.ofString "encoded", Str.ofString "eol"]) (F99 w) (by walk_at "kd") (by kernel_rfl) (fun s vs hK hv => ?_) (ex_decode w k os hok hl h0)
  match vs, hv with
  | [u], _ =>
    refine ⟨[.str ⟨#[10]⟩ 260], ?_, fun X => .cons (.str _ _) .nil⟩
    exact binds_K (T := 92) (K := (cx w).K) (o := ob92_0 w.params) (items := #[.str ⟨#[10]⟩ 260]) (n := 0) hK rfl (by kernel_rfl) rfl (by with_unfolding_all rfl) (by with_unfolding_all rfl)
theorem can99 (w : World) : CanCall (cx w) (.ref 99) := .inr (.inr (by kernel_rfl))

noncomputable def ls (i : Nat) : Stmt := (fnBody (stm 28)).getD i default
noncomputable def numsF (ns : List Int) : List Int := (ns ++ [1, 75, 1, 63, 6, 14].drop ns.length).take 8
theorem law0 (w : World) (ns : List Int) (hl : ns.length ≤ 63) : Ex1 (cx w) 6 fd124.scope [(Str.ofString "script", .lst (ns.map D.int))] none (ls 0) (.next [(Str.ofString "numbers", .lst ((numsF ns).map D.int)), (Str.ofString "script", .lst (ns.map D.int))] none) := by
  refine Ex1.assign (EvF.of ?_) (by walk_at "kd") (by walk_at "kd") (fun _ => by kernel_rfl)
  have e : (D.lst ((numsF ns).map D.int)) = .lst (cut none (some 8) (ns.map D.int ++ cut (some ((ns.map D.int).length : Int)) none ([1, 75, 1, 63, 6, 14].map D.int))) := by
    rw [cut_from, show (8 : Int) = ((8 : Nat) : Int) from rfl, cut_upto, List.length_map]
    unfold numsF
    rw [List.map_take, List.map_append, List.map_drop]
  rw [e]
  refine Ev.sliceLst (Ev.bin (by walk_at "ev") (Ev.sliceLst (lo := some ((ns.map D.int).length : Int)) (hi := none) (Ev.list (show EvL _ _ _ _ _ [D.int 1, .int 75, .int 1, .int 63, .int 6, .int 14] by walk_at "evl") (by simp)) (?_ : EvP _ _ _ _ (some _) (some _)) trivial (by simp)) (op_addLst _ _ ?_)) trivial (show EvP _ _ _ _ (some _) (some 8) from Ev.int) ?_
  · exact Ev.call (f := .builtin "len") (by kernel_rfl) (by kernel_rfl) (.inl ⟨_, rfl⟩) (.cons (no_name _ _) (by walk_at "ev") .nil) (fn_lenLst (ns.map D.int) (by simp; omega)) (by kernel_rfl)
  · have := cut_length (some ((ns.map D.int).length : Int)) none ([1, 75, 1, 63, 6, 14].map D.int)
    simp at this ⊢; omega
  · have := cut_length (some ((ns.map D.int).length : Int)) none ([1, 75, 1, 63, 6, 14].map D.int)
    simp at this ⊢; omega
theorem nums_shape (ns : List Int) : ∃ a b c d e f ex, numsF ns = a :: b :: c :: d :: e :: f :: ex ∧ ex.length ≤ 2 := by
  have h : (numsF ns).length ≤ 8 ∧ 6 ≤ (numsF ns).length := by
    unfold numsF; simp; omega
  match hn : numsF ns with
  | [] | [_] | [_, _] | [_, _, _] | [_, _, _, _] | [_, _, _, _, _] => rw [hn] at h; simp at h
  | a :: b :: c :: d :: e :: f :: ex => rw [hn] at h; exact ⟨a, b, c, d, e, f, ex, rfl, by simp at h; omega⟩
theorem law1 (w : World) (σ : List (Str × D)) (a b c d e f : Int) (ex : List Int) (hex : ex.length ≤ 2) (hσ : σ.lookup (Str.ofString "numbers") = some (.lst ((a :: b :: c :: d :: e :: f :: ex).map D.int))) :
    Ex1 (cx w) 6 fd124.scope σ none (ls 1) (.next ((Str.ofString "other", .lst ((termsF ([c, d] ++ ex.drop 1) []).map termD)) :: (Str.ofString "one", .lst ((termsF ([a, b] ++ ex.take 1) []).map termD)) :: σ) none) := by
  have c1 : ∀ (lo hi : Nat), cut (some (lo : Int)) (some (hi : Int)) ((a :: b :: c :: d :: e :: f :: ex).map D.int) = (((a :: b :: c :: d :: e :: f :: ex).take hi).drop lo).map D.int := by
    intro lo hi; rw [cut_both, List.map_drop, List.map_take]
  have n0 : ∀ (p : Pos), Ev (cx w) 6 fd124.scope σ (.Name (Str.ofString "numbers") p) (.lst ((a :: b :: c :: d :: e :: f :: ex).map D.int)) := fun p => by walk_at "ev"
  have hsz : ((a :: b :: c :: d :: e :: f :: ex).map D.int).length ≤ 1000 := by simp; omega
  have s1 : ∀ (p1 p2 p3 p4 : Pos) (n1 n2 : Nat), Ev (cx w) 6 fd124.scope σ (.Subscript (.Name (Str.ofString "numbers") p1) (.Slice none (some (.Constant (.int 2) n1 p2)) none p3) p4) (.lst ([a, b].map D.int)) := fun p1 p2 p3 p4 n1 n2 => by
    have := Ev.sliceLst (p := p3) (pos := p4) (lo := none) (hi := some 2) (lower := none) (upper := some (.Constant (.int 2) n1 p2)) (n0 p1) trivial (show Ev _ _ _ _ _ (.int 2) from Ev.int) hsz
    rw [show (2 : Int) = ((2 : Nat) : Int) from rfl, cut_upto] at this
    exact this
  have s2 : ∀ (p1 p2 p3 p4 p5 : Pos) (n1 n2 : Nat), Ev (cx w) 6 fd124.scope σ (.Subscript (.Name (Str.ofString "numbers") p1) (.Slice (some (.Constant (.int 6) n1 p2)) (some (.Constant (.int 7) n2 p5)) none p3) p4) (.lst ((ex.take 1).map D.int)) := fun p1 p2 p3 p4 p5 n1 n2 => by
    have := Ev.sliceLst (p := p3) (pos := p4) (lo := some 6) (hi := some 7) (lower := some (.Constant (.int 6) n1 p2)) (upper := some (.Constant (.int 7) n2 p5)) (n0 p1) (show Ev _ _ _ _ _ (.int 6) from Ev.int) (show Ev _ _ _ _ _ (.int 7) from Ev.int) hsz
    rw [show (6 : Int) = ((6 : Nat) : Int) from rfl, show (7 : Int) = ((7 : Nat) : Int) from rfl, c1] at this
    exact this
  have s3 : ∀ (p1 p2 p3 p4 p5 : Pos) (n1 n2 : Nat), Ev (cx w) 6 fd124.scope σ (.Subscript (.Name (Str.ofString "numbers") p1) (.Slice (some (.Constant (.int 2) n1 p2)) (some (.Constant (.int 4) n2 p5)) none p3) p4) (.lst ([c, d].map D.int)) := fun p1 p2 p3 p4 p5 n1 n2 => by
    have := Ev.sliceLst (p := p3) (pos := p4) (lo := some 2) (hi := some 4) (lower := some (.Constant (.int 2) n1 p2)) (upper := some (.Constant (.int 4) n2 p5)) (n0 p1) (show Ev _ _ _ _ _ (.int 2) from Ev.int) (show Ev _ _ _ _ _ (.int 4) from Ev.int) hsz
    rw [show (2 : Int) = ((2 : Nat) : Int) from rfl, show (4 : Int) = ((4 : Nat) : Int) from rfl, c1] at this
    exact this
  have s4 : ∀ (p1 p2 p3 p4 : Pos) (n1 : Nat), Ev (cx w) 6 fd124.scope σ (.Subscript (.Name (Str.ofString "numbers") p1) (.Slice (some (.Constant (.int 7) n1 p2)) none none p3) p4) (.lst ((ex.drop 1).map D.int)) := fun p1 p2 p3 p4 n1 => by
    have := Ev.sliceLst (p := p3) (pos := p4) (lo := some 7) (hi := none) (lower := some (.Constant (.int 7) n1 p2)) (upper := none) (n0 p1) (show Ev _ _ _ _ _ (.int 7) from Ev.int) trivial hsz
    rw [show (7 : Int) = ((7 : Nat) : Int) from rfl, cut_from, ← List.map_drop] at this
    exact this
  refine Ex1.assignT (σ' := (Str.ofString "other", .lst ((termsF ([c, d] ++ ex.drop 1) []).map termD)) :: (Str.ofString "one", .lst ((termsF ([a, b] ++ ex.take 1) []).map termD)) :: σ) (EvF.of (Ev.tuple (.cons (no_call _ _ _ _) (Ev.call (f := .ref 104) (by kernel_rfl) (by kernel_rfl) (can104 w) (.cons (no_bin _ _ _ _) (Ev.bin (s1 _ _ _ _ _ 0) (s2 _ _ _ _ _ _ _) (op_addLst _ _ (by simp; omega))) .nil) ?_ (by kernel_rfl)) (.cons (no_call _ _ _ _) (Ev.call (f := .ref 104) (by kernel_rfl) (by kernel_rfl) (can104 w) (.cons (no_bin _ _ _ _) (Ev.bin (s3 _ _ _ _ _ _ _) (s4 _ _ _ _ _) (op_addLst _ _ (by simp; omega))) .nil) ?_ (by kernel_rfl)) .nil)) (by simp)))
    (asg_tup (ns := [(Str.ofString "one", _), (Str.ofString "other", _)]) (ds := [.lst ((termsF ([a, b] ++ ex.take 1) []).map termD), .lst ((termsF ([c, d] ++ ex.drop 1) []).map termD)]) (by rfl) (by walk_at "kd")) (fun x hx => by cases hx) (fun _ => by kernel_rfl) (fun env h => ?_)
  · rw [← List.map_append]; exact op_terms w 5 _ (by simp; omega)
  · rw [← List.map_append]; exact op_terms w 5 _ (by simp; omega)
  · cases env; simp only at h; subst h; kernel_rfl
noncomputable def addT (t u : T) : T := ((u.1.1 + t.1.1, u.1.2.1 + t.1.2.1, u.1.2.2 + t.1.2.2), u.2 + t.2)
noncomputable def prodF (one other : List T) : List T := one.flatMap fun t => other.map fun u => addT t u

noncomputable def unT : D → T
  | .tup [.int a, .int b, .int c, .int e, _] => ((a, b, c), e)
  | _ => default
theorem unT_term (t : T) : unT (termD t) = t := rfl
theorem prod_map (one other : List T) : ((one.map termD).flatMap fun d => (other.map termD).map fun e => termD (addT (unT d) (unT e))) = (prodF one other).map termD := by
  unfold prodF
  rw [List.flatMap_map, List.map_flatMap]
  congr 1
  funext t
  rw [List.map_map, List.map_map]
  rfl
theorem law2 (w : World) (σ : List (Str × D)) (one other : List T) (h1 : σ.lookup (Str.ofString "one") = some (.lst (one.map termD))) (h2 : σ.lookup (Str.ofString "other") = some (.lst (other.map termD))) (hl : (prodF one other).length ≤ 1000) :
    Ex1 (cx w) 6 fd124.scope σ none (ls 2) (.next ((Str.ofString "product", .lst ((prodF one other).map termD)) :: σ) none) := by
  rw [← prod_map]
  refine Ex1.assignComp2 (ds := one.map termD) (es := fun _ => other.map termD) (g := fun d e => termD (addT (unT d) (unT e))) (by kernel_rfl) (by walk_at "kd") (fun _ _ => by rfl) (fun _ _ => by rfl) (src_of (by walk_at "ev") (iter_lst _)) (fun d hd => src_of (by walk_at "ev") (iter_lst _)) (fun d hd e he => ?_) (by rw [prod_map]; simpa using hl) (by walk_at "kd") (by walk_at "kd") (fun env h => ?_)
  · obtain ⟨t, _, rfl⟩ := List.mem_map.mp hd
    obtain ⟨u, _, rfl⟩ := List.mem_map.mp he
    exact Ev.call (f := .ref 49) (by kernel_rfl) (by kernel_rfl) (can49 w) (.cons (no_name _ _) (show Ev _ _ _ _ _ (termD t) by walk_at "ev") (.cons (no_name _ _) (show Ev _ _ _ _ _ (termD u) by walk_at "ev") .nil)) (op_stats w 4 u.1.1 u.1.2.1 u.1.2.2 u.2 t.1.1 t.1.2.1 t.1.2.2 t.2) (by kernel_rfl)
  · cases env; simp only at h; subst h; kernel_rfl
theorem law3 (w : World) (σ : List (Str × D)) (ts : List T) (h : σ.lookup (Str.ofString "product") = some (.lst (ts.map termD))) (hts : ∀ t ∈ ts, 0 ≤ t.2 ∧ t.2 ≤ 30) (hl : ts.length ≤ 100) :
    Ex1 (cx w) 6 fd124.scope σ none (ls 3) (.next ((Str.ofString "left", .lst ((leftF ts ts []).map leftD)) :: σ) none) :=
  Ex1.assign (EvF.of (Ev.call (f := .ref 109) (by kernel_rfl) (by kernel_rfl) (can109 w) (.cons (no_name _ _) (by walk_at "ev") .nil) (op_left w 5 ts hts hl) (by kernel_rfl))) (by walk_at "kd") (by walk_at "kd") (fun _ => by kernel_rfl)
noncomputable def natD (x : Nat) : D := .int (x : Int)
theorem natD_inj : ∀ x y, natD x = natD y → x = y := fun x y h => by
  unfold natD at h
  injection h with h
  exact Int.ofNat.inj h
noncomputable def bitP (n : Int) (k : Nat) : Bool := (n % 63 + 1) / 2 ^ (k : Int).toNat % 2 != 0
noncomputable def colsF (n : Int) : List Nat := ((List.range 6).filter (bitP n)).map fun k => 3 * k
theorem src_range6 (w : World) (k : Nat) (sc : Scope) (σ : List (Str × D)) (p1 p2 p3 : Pos) (n : Nat) (hk : sc.names.lookup (Str.ofString "range") = some .globalImplicit) : Src (cx w) k sc σ (.Call (.Name (Str.ofString "range") p1) [.Constant (.int 6) n p2] [] p3) false ((List.range 6).map natD) := by
  have e : ((List.range 6).map natD) = (List.range 6).map fun (i : Nat) => D.int (0 + (i : Int) * 1) := List.map_congr_left fun i _ => by unfold natD; congr 1; omega
  rw [e]
  exact src_of (Ev.call (f := .type "range") hk (by kernel_rfl) (.inr (.inl ⟨_, rfl⟩)) (.cons (no_const _ _ _) Ev.int .nil) (fn_range1 6) (by kernel_rfl)) (iter_rng 0 6 1 6 (by decide +kernel) (by decide +kernel))
theorem pow2_bound (k : Nat) (h : k < 6) : 0 < (2 : Int) ^ (k : Int).toNat ∧ (2 : Int) ^ (k : Int).toNat < 1000000 := by
  have : k = 0 ∨ k = 1 ∨ k = 2 ∨ k = 3 ∨ k = 4 ∨ k = 5 := by omega
  rcases this with rfl | rfl | rfl | rfl | rfl | rfl <;> decide
theorem law4 (w : World) (σ : List (Str × D)) (a b c d e f : Int) (ex : List Int) (hex : ex.length ≤ 2) (hσ : σ.lookup (Str.ofString "numbers") = some (.lst ((a :: b :: c :: d :: e :: f :: ex).map D.int))) :
    Ex1 (cx w) 6 fd124.scope σ none (ls 4) (.next ((Str.ofString "rows", .lst ((colsF f).map natD)) :: (Str.ofString "columns", .lst ((colsF e).map natD)) :: σ) none) := by
  have hs : cut (some (4 : Int)) (some (6 : Int)) ((a :: b :: c :: d :: e :: f :: ex).map D.int) = [e, f].map D.int := by
    rw [show (4 : Int) = ((4 : Nat) : Int) from rfl, show (6 : Int) = ((6 : Nat) : Int) from rfl, cut_both]; rfl
  have src : ∀ (p1 p2 p3 p4 p5 : Pos) (n1 n2 : Nat), Src (cx w) 6 fd124.scope σ (.Subscript (.Name (Str.ofString "numbers") p1) (.Slice (some (.Constant (.int 4) n1 p2)) (some (.Constant (.int 6) n2 p5)) none p3) p4) false ([e, f].map D.int) := fun p1 p2 p3 p4 p5 n1 n2 => by
    rw [← hs]
    exact src_of (Ev.sliceLst (lo := some 4) (hi := some 6) (by walk_at "ev") (show Ev _ _ _ _ _ (.int 4) from Ev.int) (show Ev _ _ _ _ _ (.int 6) from Ev.int) (by simp; omega)) (iter_lst _)
  refine Ex1.assignT (d := .lst ([e, f].map fun n => D.lst ((colsF n).map natD))) (EvF.of (Ev.compAll int_inj (src _ _ _ _ _ _ _) (by simp) (fun n hn => ?_) (by kernel_rfl) (fun _ _ => by rfl))) (asg_lst2 (by walk_at "kd") (by walk_at "kd")) (fun x hx => by cases hx) (fun _ => by kernel_rfl) (fun env h => by kernel_rfl)
  have e1 : (.lst ((colsF n).map natD) : D) = .lst (((List.range 6).filter (bitP n)).map fun (k : Nat) => D.int (3 * (k : Int))) := by
    unfold colsF; rw [List.map_map]; rfl
  rw [e1]
  refine Ev.compIf natD_inj (src_range6 w 6 _ _ _ _ _ _ (by kernel_rfl)) (by simp) (fun k hk => ?_) (fun k hk _ => ?_) (by kernel_rfl) (fun _ _ => by rfl)
  · have hk' : k < 6 := List.mem_range.mp hk
    refine EvB.int (a := (n % 63 + 1) / 2 ^ (k : Int).toNat % 2) ?_ (wh_bin _ _ _ _)
    exact Ev.bin (Ev.bin (Ev.bin (Ev.bin (show Ev _ _ _ _ _ (.int n) by walk_at "ev") Ev.int (op_mod _ _ (by omega))) Ev.int (op_add _ _)) (Ev.bin Ev.int (show Ev _ _ _ _ _ (natD k) by walk_at "ev") (op_pow 2 (k : Int) (by omega) (by omega))) (op_div _ _ (pow2_bound k hk'))) Ev.int (op_mod _ _ (by omega))
  · exact Ev.bin Ev.int (show Ev _ _ _ _ _ (natD k) by walk_at "ev") (op_mul 3 (k : Int) (by omega))

noncomputable def unN : D → Nat
  | .int i => i.toNat
  | _ => 0
theorem unN_nat (x : Nat) : unN (natD x) = x := Int.toNat_natCast x
noncomputable def octF (cs rs : List Nat) : List Nat := cs.flatMap fun x => rs.map fun y => 16 * x + y
theorem oct_map (cs rs : List Nat) : ((cs.map natD).flatMap fun d => (rs.map natD).map fun e => D.int (16 * (unN d : Int) + (unN e : Int))) = (octF cs rs).map natD := by
  unfold octF
  rw [List.flatMap_map, List.map_flatMap]
  congr 1
  funext x
  rw [List.map_map, List.map_map]
  refine List.map_congr_left fun y _ => ?_
  show D.int (16 * (unN (natD x) : Int) + (unN (natD y) : Int)) = natD (16 * x + y)
  rw [unN_nat, unN_nat]
  unfold natD
  congr 1
theorem law5 (w : World) (σ : List (Str × D)) (cs rs : List Nat) (h1 : σ.lookup (Str.ofString "columns") = some (.lst (cs.map natD))) (h2 : σ.lookup (Str.ofString "rows") = some (.lst (rs.map natD))) (hl : (octF cs rs).length ≤ 1000) :
    Ex1 (cx w) 6 fd124.scope σ none (ls 5) (.next ((Str.ofString "octets", .lst ((octF cs rs).map natD)) :: σ) none) := by
  rw [← oct_map]
  refine Ex1.assignComp2 (ds := cs.map natD) (es := fun _ => rs.map natD) (g := fun d e => D.int (16 * (unN d : Int) + (unN e : Int))) (by kernel_rfl) (by walk_at "kd") (fun _ _ => by rfl) (fun _ _ => by rfl) (src_of (by walk_at "ev") (iter_lst _)) (fun d hd => src_of (by walk_at "ev") (iter_lst _)) (fun d hd e he => ?_) (by rw [oct_map]; simpa using hl) (by walk_at "kd") (by walk_at "kd") (fun env h => ?_)
  · obtain ⟨x, _, rfl⟩ := List.mem_map.mp hd
    obtain ⟨y, _, rfl⟩ := List.mem_map.mp he
    rw [unN_nat, unN_nat]
    exact Ev.bin (Ev.bin Ev.int (show Ev _ _ _ _ _ (.int (x : Int)) from (show Ev _ _ _ _ _ (natD x) by walk_at "ev")) (op_mul 16 _ (by omega))) (show Ev _ _ _ _ _ (.int (y : Int)) from (show Ev _ _ _ _ _ (natD y) by walk_at "ev")) (op_add _ _)
  · cases env; simp only at h; subst h; kernel_rfl
theorem join_nil (os : List Nat) : Txt.join (Str.ofString "") (os.map mapS) = pgS os := by
  show Builtin.Str.glued _ _ = _
  rw [StrLaws.glued_eq_join, empty_str]
  have app : ∀ (a b : List Nat), (⟨a.toArray⟩ : Str) ++ (⟨([] : List Nat).toArray⟩ : Str) ++ (⟨b.toArray⟩ : Str) = ⟨(a ++ b).toArray⟩ := fun a b => by rw [str_app, str_app, List.append_nil]
  induction os with
  | nil => rfl
  | cons o os ih =>
    cases os with
    | nil =>
      show (⟨[61, hc (o / 16), hc (o % 16)].toArray⟩ : Str) = pgS [o]
      rfl
    | cons p os =>
      show (⟨[61, hc (o / 16), hc (o % 16)].toArray⟩ : Str) ++ (⟨([] : List Nat).toArray⟩ : Str) ++ Str.join ⟨([] : List Nat).toArray⟩ ((p :: os).map mapS) = _
      rw [ih]
      exact app _ _
theorem sum_three (os : List Nat) : ((os.map mapS).map (·.length)).sum = 3 * os.length := by
  induction os with
  | nil => rfl
  | cons o os ih =>
    show 3 + ((os.map mapS).map (·.length)).sum = _
    rw [ih, List.length_cons]; omega
noncomputable def sigD (q : Nat) : D := .str ⟨#[q]⟩
theorem sigD_inj : ∀ x y, sigD x = sigD y → x = y := fun x y h => by
  unfold sigD at h
  injection h with h
  injection h with h
  simpa using h
theorem law7 (w : World) (σ : List (Str × D)) (os : List Nat) (h1 : σ.lookup (Str.ofString "page") = some (.str (pgS os))) (h2 : σ.lookup (Str.ofString "octets") = some (.lst (os.map natD))) (hok : OctOk os) (hl : os.length ≤ 40) (h0 : os ≠ []) :
    Ex1 (cx w) 6 fd124.scope σ none (ls 7) (.next σ none) := by
  have e : ∀ os : List Nat, (.lst (os.map natD) : D) = .lst ((os.map fun (q : Nat) => (q : Int)).map D.int) := fun os => by rw [List.map_map]; rfl
  rw [e] at h2
  have hb : ((os.map fun (q : Nat) => (q : Int)) != (os.map fun (q : Nat) => (q : Int))) = false := by simp
  refine Ex1.if (b := ((os.map fun (q : Nat) => (q : Int)) != (os.map fun (q : Nat) => (q : Int)))) (EvBF.of ?_) (fun h => by rw [hb] at h; cases h) (fun _ => Ex.nil)
  refine EvB.cmp (a := .lst ((os.map fun (q : Nat) => (q : Int)).map D.int)) (b := .lst ((os.map fun (q : Nat) => (q : Int)).map D.int)) ?_ (by walk_at "ev") (op_neLst _ _) (by with_unfolding_all rfl)
  rw [List.map_map]
  refine Ev.compAll (xs := os) (f := sigD) (g := fun q => D.int (q : Int)) sigD_inj (src_of (Ev.call (f := .ref 99) (by kernel_rfl) (by kernel_rfl) (can99 w) (.cons (no_name _ _) (by walk_at "ev") .nil) (op_decode w 4 os hok hl h0) (by kernel_rfl)) (iter_str ⟨os.toArray⟩)) (by omega) (fun q hm => ?_) (by kernel_rfl) (fun _ _ => by rfl)
  exact Ev.call (f := .builtin "ord") (by kernel_rfl) (by kernel_rfl) (.inl ⟨_, rfl⟩) (.cons (no_name _ _) (show Ev _ _ _ _ _ (sigD q) by walk_at "ev") .nil) (fn_ord q) (by kernel_rfl)
theorem law8 (w : World) (σ : List (Str × D)) : Ex1 (cx w) 6 fd124.scope σ none (ls 8) (.next ((Str.ofString "many", .int 0) :: σ) none) :=
  Ex1.assign (EvF.of Ev.int) (by walk_at "kd") (by walk_at "kd") (fun _ => by kernel_rfl)

theorem law6 (w : World) (σ : List (Str × D)) (os : List Nat) (h : σ.lookup (Str.ofString "octets") = some (.lst (os.map natD))) (ho : ∀ o ∈ os, o < 256) (hl : os.length ≤ 40) :
    Ex1 (cx w) 6 fd124.scope σ none (ls 6) (.next ((Str.ofString "page", .str (pgS os)) :: σ) none) := by
  conv in (ls 6) => whnf
  generalize hq : Expr.Constant _ _ _ = o
  have he : Ev (cx w) 6 fd124.scope σ o (.str (Str.ofString "")) := hq ▸ Ev.str
  have hb : PlainBase o := hq ▸ pb_const _ _ _
  have hsw : ∀ (nm ap p e ep kw cp) (env : Env), swapsWith (.Call (.Attribute o nm ap) e kw cp) (some (.Name (Str.ofString "page") p)) ep env = pure false := fun _ _ _ _ _ _ _ _ => rfl
  clear hq
  have hj := fn_join (c := cx w) (k := 6) (Str.ofString "") (os.map mapS) (by
    rw [sum_three]
    have : (Str.ofString "").length = 0 := by rw [empty_str]; rfl
    rw [this]; omega)
  rw [join_nil] at hj
  have hm : ((os.map mapS).map D.str) = os.map fun o => D.str (mapS o) := by rw [List.map_map]; rfl
  rw [hm] at hj
  refine Ex1.assign (EvF.of (Ev.methStr he (.cons (no_comp _ _ _ _) (Ev.compAll (g := fun o => D.str (mapS o)) natD_inj (src_of (by walk_at "ev") (iter_lst _)) (by omega) (fun o hm => ?_) (by kernel_rfl) (fun _ _ => by rfl)) .nil) F.slot_str_join F.type_str_join hj hb)) (by walk_at "kd") (by walk_at "kd") (hsw _ _ _ _ _ _ _)
  have e := fn_chr (c := cx w) (k := 6) (o : Int) (by omega) (by have := ho o hm; omega)
  rw [Int.toNat_natCast] at e
  exact Ev.call (f := .ref 86) (by kernel_rfl) (by kernel_rfl) (can86 w) (.cons (no_call _ _ _ _) (Ev.call (f := .builtin "chr") (by kernel_rfl) (by kernel_rfl) (.inl ⟨_, rfl⟩) (.cons (no_name _ _) (show Ev _ _ _ _ _ (natD o) by walk_at "ev") .nil) e (by kernel_rfl)) .nil) (op_quote w 5 o (ho o hm)) (by kernel_rfl)

theorem hc_inj (x y : Nat) (h : hc x = hc y) : x = y := by
  unfold hc at h
  split at h <;> split at h <;> omega
noncomputable def figD (x : Nat) : D := sigD (hc x)
theorem figD_inj : ∀ x y, figD x = figD y → x = y := fun x y h => hc_inj x y (sigD_inj _ _ h)
theorem idx16 : ∀ x ∈ H6, Builtin.Str.occurrences (Str.ofString "0123456789ABCDEF") ⟨#[hc x]⟩ 0 (Str.ofString "0123456789ABCDEF").length 1 = [x] := by decide +kernel
noncomputable def cntF (ts : List T) : List Nat → Int
  | [] => 0
  | o :: os => (if worthF ts (o / 16) (o % 16) != 0 then 1 else 0) + cntF ts os
theorem worth_range (ts : List T) (x y : Nat) : 0 ≤ worthF ts x y ∧ worthF ts x y < 17 := by
  unfold worthF; omega
noncomputable def kB : List Stmt := forBody ((fnBody (stm 28)).drop 9)
structure KSt (σ : List (Str × D)) (os : List Nat) (one other : List T) (m : Int) : Prop where
  fpage : σ.lookup (Str.ofString "page") = some (.str (pgS os))
  fone : σ.lookup (Str.ofString "one") = some (.lst (one.map termD))
  fother : σ.lookup (Str.ofString "other") = some (.lst (other.map termD))
  fprod : σ.lookup (Str.ofString "product") = some (.lst ((prodF one other).map termD))
  fmany : σ.lookup (Str.ofString "many") = some (.int m)
theorem kb0 (w : World) (σ : List (Str × D)) (os dn : List Nat) (o : Nat) (rest : List Nat) (hos : os = dn ++ o :: rest) (hok : OctOk os) (hl : os.length ≤ 40) (hp : σ.lookup (Str.ofString "page") = some (.str (pgS os))) (hk : σ.lookup (Str.ofString "k") = some (natD (3 * dn.length))) :
    Ex1 (cx w) 6 fd124.scope σ none (kB.headD default) (.next ((Str.ofString "y", natD (o % 16)) :: (Str.ofString "x", natD (o / 16)) :: σ) none) := by
  have hx := (hok o (by rw [hos]; simp)).1
  have hy := (hok o (by rw [hos]; simp)).2
  have hsl : Txt.slice (pgS os) (some (((3 * dn.length : Nat) : Int) + 1)) (some (((3 * dn.length : Nat) : Int) + 3)) = ⟨#[hc (o / 16), hc (o % 16)]⟩ := by rw [hos]; exact pg_figs dn o rest
  conv in (kB.headD default) => whnf
  generalize hq : Expr.Constant (Const.str (Str.ofString "0123456789ABCDEF")) _ _ = q
  have he : ∀ sc σ, Ev (cx w) 6 sc σ q (.str (Str.ofString "0123456789ABCDEF")) := fun sc σ => hq ▸ Ev.str
  have hb : PlainBase q := hq ▸ pb_const _ _ _
  have src : ∀ (p1 p2 p3 p4 p5 p6 p7 p8 p9 : Pos) (n1 n2 : Nat), Src (cx w) 6 fd124.scope σ (.Subscript (.Name (Str.ofString "page") p1) (.Slice (some (.BinOp (.Name (Str.ofString "k") p2) .Add (.Constant (.int 1) n1 p3) p4)) (some (.BinOp (.Name (Str.ofString "k") p5) .Add (.Constant (.int 3) n2 p6) p7)) none p8) p9) false ([o / 16, o % 16].map figD) := fun p1 p2 p3 p4 p5 p6 p7 p8 p9 n1 n2 => by
    have h1 : Ev (cx w) 6 fd124.scope σ (.Subscript (.Name (Str.ofString "page") p1) (.Slice (some (.BinOp (.Name (Str.ofString "k") p2) .Add (.Constant (.int 1) n1 p3) p4)) (some (.BinOp (.Name (Str.ofString "k") p5) .Add (.Constant (.int 3) n2 p6) p7)) none p8) p9) (.str ⟨#[hc (o / 16), hc (o % 16)]⟩) := by
      rw [← hsl]
      exact Ev.sliceStr (lo := some (((3 * dn.length : Nat) : Int) + 1)) (hi := some (((3 * dn.length : Nat) : Int) + 3)) (by walk_at "ev") (show Ev _ _ _ _ _ (.int (((3 * dn.length : Nat) : Int) + 1)) from Ev.bin (Ev.name hk (by kernel_rfl) (by kernel_rfl)) Ev.int (op_add _ _)) (show Ev _ _ _ _ _ (.int (((3 * dn.length : Nat) : Int) + 3)) from Ev.bin (Ev.name hk (by kernel_rfl) (by kernel_rfl)) Ev.int (op_add _ _)) (by rw [pgS_len]; omega)
    exact src_of h1 (iter_str _)
  clear hq
  refine Ex1.assignT (d := .lst ([o / 16, o % 16].map natD)) (EvF.of (Ev.compAll figD_inj (src _ _ _ _ _ _ _ _ _ _ _) (by simp) (fun x hx => ?_) (by kernel_rfl) (fun _ _ => by rfl))) (asg_lst2 (by walk_at "kd") (by walk_at "kd")) (fun x hx => by cases hx) (fun _ => by rfl) (fun env h => by rfl)
  have hxm : x ∈ H6 := by
    rcases List.mem_cons.mp hx with rfl | hx
    · assumption
    · rw [List.mem_singleton.mp hx]; assumption
  exact Ev.methStr (he _ _) (.cons (no_name _ _) (show Ev _ _ _ _ _ (figD x) by walk_at "ev") .nil) F.slot_str_index F.type_str_index (fn_index _ _ x [] (idx16 x hxm)) hb
theorem k_turn (w : World) (os dn : List Nat) (o : Nat) (rest : List Nat) (hos : os = dn ++ o :: rest) (hok : OctOk os) (hl : os.length ≤ 40) (one other : List T) (hone : ∀ t ∈ one, TermOk t) (hother : ∀ t ∈ other, TermOk t) (hprod : ∀ t ∈ prodF one other, TermOk t) (hl1 : one.length ≤ 10) (hl2 : other.length ≤ 10) (hl3 : (prodF one other).length ≤ 100)
    (m : Int) (hm : worthF (prodF one other) (o / 16) (o % 16) = worthF one (o / 16) (o % 16) * worthF other (o / 16) (o % 16) % 17) (σ : List (Str × D)) (S : KSt σ os one other m) (hk : σ.lookup (Str.ofString "k") = some (natD (3 * dn.length))) :
    ∃ σ', Ex (cx w) 6 fd124.scope σ none kB (.next σ' none) ∧ KSt σ' os one other (m + (if worthF (prodF one other) (o / 16) (o % 16) != 0 then 1 else 0)) ∧ ∀ z, z ∉ [Str.ofString "x", Str.ofString "y", Str.ofString "worth", Str.ofString "many"] → σ'.lookup z = σ.lookup z := by
  obtain ⟨h1, h2, h3, h4, h5⟩ := S
  have hx : o / 16 ≤ 15 := by
    have := (hok o (by rw [hos]; simp)).1
    simp only [H6, List.mem_cons, List.not_mem_nil, or_false] at this; omega
  have hy : o % 16 ≤ 15 := by omega
  have s0 := kb0 w σ os dn o rest hos hok hl h1 hk
  have wcall : ∀ (σ : List (Str × D)) (nm : Str) (ts : List T) (p1 p2 p3 p4 p5 : Pos), (∀ t ∈ ts, TermOk t) → ts.length ≤ 1000 → Ev (cx w) 6 fd124.scope σ (.Name nm p2) (.lst (ts.map termD)) → Ev (cx w) 6 fd124.scope σ (.Name (Str.ofString "x") p3) (natD (o / 16)) → Ev (cx w) 6 fd124.scope σ (.Name (Str.ofString "y") p4) (natD (o % 16)) →
      Ev (cx w) 6 fd124.scope σ (.Call (.Name (Str.ofString "_law_worth") p1) [.Name nm p2, .Name (Str.ofString "x") p3, .Name (Str.ofString "y") p4] [] p5) (.int (worthF ts (o / 16) (o % 16))) := fun σ nm ts p1 p2 p3 p4 p5 h1 h2 h3 h4 h5 =>
    Ev.call (f := .ref 119) (by kernel_rfl) (by kernel_rfl) (can119 w) (.cons (no_name _ _) h3 (.cons (no_name _ _) h4 (.cons (no_name _ _) h5 .nil))) (op_worth w 5 ts (o / 16) (o % 16) hx hy h1 h2) (by kernel_rfl)
  generalize hW : worthF (prodF one other) (o / 16) (o % 16) = W at *
  have w1 := worth_range one (o / 16) (o % 16)
  refine ⟨_, Ex.cons s0 (Ex.cons (Ex1.assign (d := .int W) (EvF.of (hW ▸ wcall _ _ (prodF one other) _ _ _ _ _ hprod (by omega) (by walk_at "ev") (by walk_at "ev") (by walk_at "ev"))) (by walk_at "kd") (by walk_at "kd") (fun _ => by kernel_rfl))
    (Ex.cons (Ex1.if (b := (W != worthF one (o / 16) (o % 16) * worthF other (o / 16) (o % 16) % 17)) (EvBF.of (EvB.cmp (by walk_at "ev") (Ev.bin (Ev.bin (wcall _ _ one _ _ _ _ _ hone (by omega) (by walk_at "ev") (by walk_at "ev") (by walk_at "ev")) (wcall _ _ other _ _ _ _ _ hother (by omega) (by walk_at "ev") (by walk_at "ev") (by walk_at "ev")) (op_mul _ _ (by omega))) Ev.int (op_mod _ _ (by omega))) (op_ne _ _) (by with_unfolding_all rfl))) (fun h => ?_) (fun _ => Ex.nil))
    (Ex.cons (Ex1.aug (by walk_at "lk") (Ev.ifExp (d := .int (if W != 0 then 1 else 0)) (EvB.int (by walk_at "ev") (wh_name _ _)) (fun h => ?_) (fun h => ?_)) (iop_add _ _) (by walk_at "kd") (by walk_at "kd") (by kernel_rfl)) Ex.nil))), ?_, ?_⟩
  · rw [hm] at h; simp at h
  · rw [if_pos h]; exact Ev.int
  · rw [if_neg (by rw [h]; decide)]; exact Ev.int
  · exact ⟨by walk_at "lk", by walk_at "lk", by walk_at "lk", by walk_at "lk", by walk_at "lk"⟩
  · intro z hz
    simp only [List.mem_cons, List.not_mem_nil, or_false, not_or] at hz
    rw [lookup_tl hz.2.2.2, lookup_tl hz.2.2.1, lookup_tl hz.2.1, lookup_tl hz.1]
theorem k_all (w : World) (p : Pos) (os : List Nat) (hok : OctOk os) (hl : os.length ≤ 40) (one other : List T) (hone : ∀ t ∈ one, TermOk t) (hother : ∀ t ∈ other, TermOk t) (hprod : ∀ t ∈ prodF one other, TermOk t) (hl1 : one.length ≤ 10) (hl2 : other.length ≤ 10) (hl3 : (prodF one other).length ≤ 100)
    (hm : ∀ o ∈ os, worthF (prodF one other) (o / 16) (o % 16) = worthF one (o / 16) (o % 16) * worthF other (o / 16) (o % 16) % 17) : ∀ (rem dn : List Nat) (m : Int) (σ : List (Str × D)), os = dn ++ rem → KSt σ os one other m →
    ∃ σ', ForR (cx w) 6 fd124.scope (.Name (Str.ofString "k") p) kB σ none ((List.range' dn.length rem.length).map fun i => natD (3 * i)) (.next σ' none) ∧ KSt σ' os one other (m + cntF (prodF one other) rem) ∧ ∀ z, z ∉ [Str.ofString "k", Str.ofString "x", Str.ofString "y", Str.ofString "worth", Str.ofString "many"] → σ'.lookup z = σ.lookup z
  | [], dn, m, σ, _, S => ⟨σ, .nil, by rw [show cntF (prodF one other) [] = 0 from rfl, Int.add_zero]; exact S, fun _ _ => rfl⟩
  | o :: rest, dn, m, σ, hos, S => by
    have S' : KSt ((Str.ofString "k", natD (3 * dn.length)) :: σ) os one other m := by
      obtain ⟨h1, h2, h3, h4, h5⟩ := S
      exact ⟨by walk_at "lk", by walk_at "lk", by walk_at "lk", by walk_at "lk", by walk_at "lk"⟩
    obtain ⟨σ1, q1, q2, q3⟩ := k_turn w os dn o rest hos hok hl one other hone hother hprod hl1 hl2 hl3 m (hm o (by rw [hos]; simp)) _ S' lookup_hd
    obtain ⟨σ', q4, q5, q6⟩ := k_all w p os hok hl one other hone hother hprod hl1 hl2 hl3 hm rest (dn ++ [o]) _ σ1 (by rw [hos]; simp) q2
    refine ⟨σ', ?_, ?_, ?_⟩
    · rw [List.length_cons, List.range'_succ, List.map_cons]
      rw [List.length_append] at q4
      exact .next (asg_name (by walk_at "kd")) (fun y hy => by cases hy) q1 q4
    · rw [show cntF (prodF one other) (o :: rest) = (if worthF (prodF one other) (o / 16) (o % 16) != 0 then 1 else 0) + cntF (prodF one other) rest from rfl, ← Int.add_assoc]
      exact q5
    · intro z hz
      have hz' := hz
      simp only [List.mem_cons, List.not_mem_nil, or_false, not_or] at hz'
      rw [q6 z hz, q3 z (by simp only [List.mem_cons, List.not_mem_nil, or_false, not_or]; exact hz'.2), lookup_tl hz'.1]
theorem small3 (n q : Nat) (hl : q ≤ 40) (hn : n = 3 * q) (hsz : Builtin.Range.rangeSize 0 (n : Int) 3 = (q : Int)) : Builtin.Range.small 0 (n : Int) 3 = true := by
  unfold Builtin.Range.small
  rw [hsz]
  unfold Builtin.Range.rangeFitsLong
  rw [if_pos (show (3 : Int) > 0 by decide)]
  rw [decide_eq_true (show (-2 ^ 63 : Int) ≤ 0 by omega), decide_eq_true (show (0 : Int) < 2 ^ 63 by omega), decide_eq_true (show (-2 ^ 63 : Int) ≤ (n : Int) by omega), decide_eq_true (show (n : Int) < 2 ^ 63 by omega), decide_eq_true (show (-2 ^ 63 : Int) ≤ 3 by omega), decide_eq_true (show (3 : Int) < 2 ^ 63 by omega), decide_eq_true (show (-2 ^ 63 : Int) ≤ (q : Int) by omega), decide_eq_true (show (q : Int) < 2 ^ 63 by omega), decide_eq_true (show (-2 ^ 63 : Int) ≤ (n : Int) + (3 - 1) by omega), decide_eq_true (show (n : Int) + (3 - 1) < 2 ^ 63 by omega)]
  simp
theorem law9 (w : World) (σ : List (Str × D)) (os : List Nat) (hok : OctOk os) (hl : os.length ≤ 40) (one other : List T) (hone : ∀ t ∈ one, TermOk t) (hother : ∀ t ∈ other, TermOk t) (hprod : ∀ t ∈ prodF one other, TermOk t) (hl1 : one.length ≤ 10) (hl2 : other.length ≤ 10) (hl3 : (prodF one other).length ≤ 100)
    (hm : ∀ o ∈ os, worthF (prodF one other) (o / 16) (o % 16) = worthF one (o / 16) (o % 16) * worthF other (o / 16) (o % 16) % 17) (S : KSt σ os one other 0) :
    ∃ σ', Ex1 (cx w) 6 fd124.scope σ none (ls 9) (.next σ' none) ∧ KSt σ' os one other (cntF (prodF one other) os) ∧ ∀ z, z ∉ [Str.ofString "k", Str.ofString "x", Str.ofString "y", Str.ofString "worth", Str.ofString "many"] → σ'.lookup z = σ.lookup z := by
  have hpg := S.fpage
  obtain ⟨σ', q1, q2, q3⟩ := k_all w ⟨124, 8, 124, 9⟩ os hok hl one other hone hother hprod hl1 hl2 hl3 hm os [] 0 σ rfl S
  refine ⟨σ', ?_, by rwa [Int.zero_add] at q2, q3⟩
  have hsz : Builtin.Range.rangeSize 0 ((pgS os).length : Int) 3 = (os.length : Int) := by
    rw [pgS_len]; unfold Builtin.Range.rangeSize
    simp only [show (3 : Int) > 0 by decide, if_true]
    split <;> omega
  have hds : ((List.range' ([] : List Nat).length os.length).map fun i => natD (3 * i)) = (List.range os.length).map fun (i : Nat) => D.int (0 + (i : Int) * 3) := by
    rw [List.range_eq_range']
    refine List.map_congr_left fun i _ => ?_
    unfold natD; congr 1; omega
  rw [hds] at q1
  refine Ex1.for (src_of (Ev.call (f := .type "range") (by kernel_rfl) (by kernel_rfl) (.inr (.inl ⟨_, rfl⟩)) (.cons (no_const _ _ _) Ev.int (.cons (no_call _ _ _ _) (Ev.call (f := .builtin "len") (by kernel_rfl) (by kernel_rfl) (.inl ⟨_, rfl⟩) (.cons (no_name _ _) (by walk_at "ev") .nil) (fn_lenStr (pgS os) (by rw [pgS_len]; omega)) (by kernel_rfl)) (.cons (no_const _ _ _) Ev.int .nil))) (fn_range3 0 ((pgS os).length : Int) 3 (by decide) (PyProof.noPylong_small (by decide))) (by kernel_rfl)) (iter_rng 0 ((pgS os).length : Int) 3 os.length ?_ hsz)) (fun _ _ => by rfl) q1
  have hlen := pgS_len os
  generalize hn : (pgS os).length = n at *
  generalize hq : os.length = q at *
  exact small3 n q hl hlen hsz

noncomputable def gB : List Stmt := forBody ((fnBody (stm 28)).drop 10)
noncomputable def KS : List (List (Nat × Int)) := [[(0, 1), (1, 1)], [(1, 1), (0, 1)], [(2, 1), (0, 1)], [(2, 1), (1, 1)]]
structure GSt (σ : List (Str × D)) (one other left : List T) (cs rs : List Nat) (m : Int) : Prop where
  fone : σ.lookup (Str.ofString "one") = some (.lst (one.map termD))
  fother : σ.lookup (Str.ofString "other") = some (.lst (other.map termD))
  fleft : σ.lookup (Str.ofString "left") = some (.lst (left.map leftD))
  fcols : σ.lookup (Str.ofString "columns") = some (.lst (cs.map natD))
  frows : σ.lookup (Str.ofString "rows") = some (.lst (rs.map natD))
  fmany : σ.lookup (Str.ofString "many") = some (.int m)
noncomputable def leadF (ks : List (Nat × Int)) (one other : List T) : T := addT (greatestF ks (one.headD default) one.tail) (greatestF ks (other.headD default) other.tail)
theorem g_turn (w : World) (ks : List (Nat × Int)) (hk : ∀ p ∈ ks, p.1 ≤ 2 ∧ p.2 ≠ 0) (hlk : ks.length ≤ 100) (one other left : List T) (h1 : one ≠ []) (h2 : other ≠ []) (h3 : left ≠ []) (hl1 : one.length ≤ 100) (hl2 : other.length ≤ 100) (hl3 : left.length ≤ 100) (cs rs : List Nat) (hcs : cs.length ≤ 10) (hrs : rs.length ≤ 10) (m : Int)
    (he : 0 ≤ (leadF ks one other).2 ∧ (leadF ks one other).2 ≤ 1000) (ha : 0 ≤ (leadF ks one other).1.1)
    (hlead : greatestF ks (left.headD default) left.tail = ((leadF ks one other).1, 3 ^ (leadF ks one other).2.toNat % 17))
    (hmany : max 0 ((cs.length : Int) - (leadF ks one other).1.1) * max 0 ((rs.length : Int) - (leadF ks one other).1.2.1) ≤ m)
    (σ : List (Str × D)) (S : GSt σ one other left cs rs m) (hkeys : σ.lookup (Str.ofString "keys") = some (.lst (ks.map keyD))) :
    ∃ σ', Ex (cx w) 6 fd124.scope σ none gB (.next σ' none) ∧ GSt σ' one other left cs rs m := by
  obtain ⟨f1, f2, f3, f4, f5, f6⟩ := S
  have gcall : ∀ (σ : List (Str × D)) (nm : Str) (ts : List T) (rest : T → List D) (p1 p2 p3 p5 : Pos), ts ≠ [] → ts.length ≤ 100 → Ev (cx w) 6 fd124.scope σ (.Name nm p2) (.lst (ts.map fun t => tup3 t.1 (rest t))) → Ev (cx w) 6 fd124.scope σ (.Name (Str.ofString "keys") p3) (.lst (ks.map keyD)) →
      Ev (cx w) 6 fd124.scope σ (.Call (.Name (Str.ofString "_law_greatest") p1) [.Name nm p2, .Name (Str.ofString "keys") p3] [] p5) (tup3 (greatestF ks (ts.headD default) ts.tail).1 (rest (greatestF ks (ts.headD default) ts.tail))) := fun σ nm ts rest p1 p2 p3 p5 h1 h2 h3 h4 => by
    cases ts with
    | nil => exact absurd rfl h1
    | cons g r => exact Ev.call (f := .ref 114) (by kernel_rfl) (by kernel_rfl) (can114 w) (.cons (no_name _ _) h3 (.cons (no_name _ _) h4 .nil)) (op_greatest w 3 ks hk hlk rest g r (by simp at h2; omega)) (by kernel_rfl)
  have s0 : Ex1 (cx w) 6 fd124.scope σ none (gB.headD default) (.next ((Str.ofString "lead", termD (leadF ks one other)) :: σ) none) := by
    refine Ex1.assign (EvF.of (Ev.call (f := .ref 49) (by kernel_rfl) (by kernel_rfl) (can49 w) (.cons (no_call _ _ _ _) (gcall _ _ one (fun t => [.int t.2, .dict0]) _ _ _ _ h1 hl1 (show Ev _ _ _ _ _ (.lst (one.map termD)) by walk_at "ev") (by walk_at "ev")) (.cons (no_call _ _ _ _) (gcall _ _ other (fun t => [.int t.2, .dict0]) _ _ _ _ h2 hl2 (show Ev _ _ _ _ _ (.lst (other.map termD)) by walk_at "ev") (by walk_at "ev")) .nil)) ?_ (by kernel_rfl))) (by walk_at "kd") (by walk_at "kd") (fun _ => by kernel_rfl)
    exact op_stats w 4 (greatestF ks (other.headD default) other.tail).1.1 (greatestF ks (other.headD default) other.tail).1.2.1 (greatestF ks (other.headD default) other.tail).1.2.2 (greatestF ks (other.headD default) other.tail).2 (greatestF ks (one.headD default) one.tail).1.1 (greatestF ks (one.headD default) one.tail).1.2.1 (greatestF ks (one.headD default) one.tail).1.2.2 (greatestF ks (one.headD default) one.tail).2
  generalize hL : leadF ks one other = L at *
  have gl := fun (p1 p2 p3 p5 : Pos) => gcall ((Str.ofString "lead", termD L) :: σ) (Str.ofString "left") left (fun t => [.int t.2]) p1 p2 p3 p5 h3 hl3 (show Ev _ _ _ _ _ (.lst (left.map leftD)) by walk_at "ev") (by walk_at "ev")
  rw [hlead] at gl
  have hb : ([L.1.1, L.1.2.1, L.1.2.2, 3 ^ L.2.toNat % 17] != [L.1.1, L.1.2.1, L.1.2.2, 3 ^ L.2.toNat % 17]) = false := by simp
  have hld : ∀ (p : Pos), Ev (cx w) 6 fd124.scope ((Str.ofString "lead", termD L) :: σ) (.Name (Str.ofString "lead") p) (termD L) := fun p => by walk_at "ev"
  refine ⟨_, Ex.cons s0 (Ex.cons (Ex1.if (b := ([L.1.1, L.1.2.1, L.1.2.2, 3 ^ L.2.toNat % 17] != [L.1.1, L.1.2.1, L.1.2.2, 3 ^ L.2.toNat % 17])) (EvBF.of (EvB.cmp (a := .tup ([L.1.1, L.1.2.1, L.1.2.2, 3 ^ L.2.toNat % 17].map D.int)) (b := .tup ([L.1.1, L.1.2.1, L.1.2.2, 3 ^ L.2.toNat % 17].map D.int)) (gl _ _ _ _)
      (Ev.bin (Ev.sliceTup (ds := [.int L.1.1, .int L.1.2.1, .int L.1.2.2, .int L.2, .dict0]) (b := 3) (hld _) Ev.int (by simp) (by simp)) (Ev.tuple (ds := [.int (3 ^ L.2.toNat % 17)]) (.cons (no_bin _ _ _ _) (Ev.bin (Ev.bin Ev.int (Ev.sub (a := termD L) (hld _) Ev.int (op_itemTup (ns_const _ _ _) (by decide) (by decide) rfl)) (op_pow 3 L.2 he (by omega))) Ev.int (op_mod _ _ (by omega))) .nil) (by simp)) (op_addTup [.int L.1.1, .int L.1.2.1, .int L.1.2.2] [.int (3 ^ L.2.toNat % 17)] (by simp) (by simp) (by simp))) (op_neTup _ _) (by with_unfolding_all rfl))) (fun h => by rw [hb] at h; cases h) (fun _ => Ex.nil))
    (Ex.cons (Ex1.if (b := decide (m < max 0 ((cs.length : Int) - L.1.1) * max 0 ((rs.length : Int) - L.1.2.1))) (EvBF.of (EvB.cmp (by walk_at "ev") (Ev.bin
      (Ev.call (f := .builtin "max") (by kernel_rfl) (by kernel_rfl) (.inl ⟨_, rfl⟩) (.cons (no_const _ _ _) Ev.int (.cons (no_bin _ _ _ _) (Ev.bin (Ev.call (f := .builtin "len") (by kernel_rfl) (by kernel_rfl) (.inl ⟨_, rfl⟩) (.cons (no_name _ _) (by walk_at "ev") .nil) (fn_lenLst (cs.map natD) (by simp; omega)) (by kernel_rfl)) (Ev.sub (a := termD L) (hld _) Ev.int (op_itemTup (ns_const _ _ _) (by decide) (by decide) rfl)) (by rw [List.length_map]; exact op_sub _ _)) .nil)) (fn_max 0 ((cs.length : Int) - L.1.1)) (by kernel_rfl))
      (Ev.call (f := .builtin "max") (by kernel_rfl) (by kernel_rfl) (.inl ⟨_, rfl⟩) (.cons (no_const _ _ _) Ev.int (.cons (no_bin _ _ _ _) (Ev.bin (Ev.call (f := .builtin "len") (by kernel_rfl) (by kernel_rfl) (.inl ⟨_, rfl⟩) (.cons (no_name _ _) (by walk_at "ev") .nil) (fn_lenLst (rs.map natD) (by simp; omega)) (by kernel_rfl)) (Ev.sub (a := termD L) (hld _) Ev.int (op_itemTup (ns_const _ _ _) (by decide) (by decide) rfl)) (by rw [List.length_map]; exact op_sub _ _)) .nil)) (fn_max 0 ((rs.length : Int) - L.1.2.1)) (by kernel_rfl))
      (op_mul _ _ (by omega))) (op_lt _ _) (by with_unfolding_all rfl))) (fun h => absurd (of_decide_eq_true h) (by omega)) (fun _ => Ex.nil)) Ex.nil)), ?_⟩
  exact ⟨by walk_at "lk", by walk_at "lk", by walk_at "lk", by walk_at "lk", by walk_at "lk", by walk_at "lk"⟩

structure LawOk (one other : List T) (e f : Int) : Prop where
  n1 : one ≠ []
  n2 : other ≠ []
  l1 : one.length ≤ 3
  l2 : other.length ≤ 3
  t1 : ∀ t ∈ one, TermOk t
  t2 : ∀ t ∈ other, TermOk t
  t3 : ∀ t ∈ prodF one other, TermOk t
  n3 : leftF (prodF one other) (prodF one other) [] ≠ []
  l3 : (leftF (prodF one other) (prodF one other) []).length ≤ 100
  ok : OctOk (octF (colsF e) (colsF f))
  n4 : octF (colsF e) (colsF f) ≠ []
  worth : ∀ o ∈ octF (colsF e) (colsF f), worthF (prodF one other) (o / 16) (o % 16) = worthF one (o / 16) (o % 16) * worthF other (o / 16) (o % 16) % 17
  exps : ∀ ks ∈ KS, 0 ≤ (leadF ks one other).2 ∧ (leadF ks one other).2 ≤ 1000 ∧ 0 ≤ (leadF ks one other).1.1
  lead : ∀ ks ∈ KS, greatestF ks ((leftF (prodF one other) (prodF one other) []).headD default) (leftF (prodF one other) (prodF one other) []).tail = ((leadF ks one other).1, 3 ^ (leadF ks one other).2.toNat % 17)
  many : ∀ ks ∈ KS, max 0 (((colsF e).length : Int) - (leadF ks one other).1.1) * max 0 (((colsF f).length : Int) - (leadF ks one other).1.2.1) ≤ cntF (prodF one other) (octF (colsF e) (colsF f))
theorem cols_len (n : Int) : (colsF n).length ≤ 6 := by
  unfold colsF
  rw [List.length_map]
  exact Nat.le_trans (List.length_filter_le ..) (by simp)
theorem oct_len (cs rs : List Nat) : (octF cs rs).length = cs.length * rs.length := by
  unfold octF
  induction cs with
  | nil => simp
  | cons c cs ih => rw [List.flatMap_cons, List.length_append, ih, List.length_map, List.length_cons, Nat.add_mul]; omega
theorem prod_len (one other : List T) : (prodF one other).length = one.length * other.length := by
  unfold prodF
  induction one with
  | nil => simp
  | cons c cs ih => rw [List.flatMap_cons, List.length_append, ih, List.length_map, List.length_cons, Nat.add_mul]; omega
theorem ks_ok : ∀ ks ∈ KS, (∀ p ∈ ks, p.1 ≤ 2 ∧ p.2 ≠ 0) ∧ ks.length ≤ 100 := by
  unfold KS; decide
theorem g_all (w : World) (p : Pos) (one other : List T) (e f : Int) (H : LawOk one other e f) : ∀ (kss : List (List (Nat × Int))) (σ : List (Str × D)), (∀ ks ∈ kss, ks ∈ KS) → GSt σ one other (leftF (prodF one other) (prodF one other) []) (colsF e) (colsF f) (cntF (prodF one other) (octF (colsF e) (colsF f))) →
    ∃ σ', ForR (cx w) 6 fd124.scope (.Name (Str.ofString "keys") p) gB σ none (kss.map fun ks => D.lst (ks.map keyD)) (.next σ' none)
  | [], σ, _, S => ⟨σ, .nil⟩
  | ks :: kss, σ, hk, S => by
    have hks := hk ks (List.mem_cons_self ..)
    have S' : GSt ((Str.ofString "keys", .lst (ks.map keyD)) :: σ) one other (leftF (prodF one other) (prodF one other) []) (colsF e) (colsF f) (cntF (prodF one other) (octF (colsF e) (colsF f))) := by
      obtain ⟨f1, f2, f3, f4, f5, f6⟩ := S
      exact ⟨by walk_at "lk", by walk_at "lk", by walk_at "lk", by walk_at "lk", by walk_at "lk", by walk_at "lk"⟩
    obtain ⟨x1, x2, x3⟩ := H.exps ks hks
    have := H.l1
    have := H.l2
    have := cols_len e
    have := cols_len f
    obtain ⟨σ1, q1, q2⟩ := g_turn w ks (ks_ok ks hks).1 (ks_ok ks hks).2 one other _ H.n1 H.n2 H.n3 (by omega) (by omega) H.l3 (colsF e) (colsF f) (by omega) (by omega) _ ⟨x1, x2⟩ x3 (H.lead ks hks) (H.many ks hks) _ S' lookup_hd
    obtain ⟨σ', q3⟩ := g_all w p one other e f H kss σ1 (fun k h => hk k (List.mem_cons_of_mem _ h)) q2
    exact ⟨σ', .next (asg_name (by walk_at "kd")) (fun y hy => by cases hy) q1 q3⟩
theorem kl {c : Cx} {k : Nat} {sc : Scope} {σ : List (Str × D)} (i1 j1 i2 j2 : Int) {n1 n2 n3 n4 m1 m2 : Nat} {p1 p2 p3 p4 p5 p6 p7 : Pos} : Ev c k sc σ (.List [.Tuple [.Constant (.int i1) n1 p1, .Constant (.int j1) n2 p2] m1 p3, .Tuple [.Constant (.int i2) n3 p4, .Constant (.int j2) n4 p5] m2 p6] p7) (.lst [.tup [.int i1, .int j1], .tup [.int i2, .int j2]]) :=
  Ev.list (.cons (no_tup _ _ _) (Ev.tuple (.cons (no_const _ _ _) Ev.int (.cons (no_const _ _ _) Ev.int .nil)) (by simp)) (.cons (no_tup _ _ _) (Ev.tuple (.cons (no_const _ _ _) Ev.int (.cons (no_const _ _ _) Ev.int .nil)) (by simp)) .nil)) (by simp)
theorem kl4 {c : Cx} {k : Nat} {sc : Scope} {σ : List (Str × D)} {e1 e2 e3 e4 : Expr} {d1 d2 d3 d4 : D} {z : Pos} (n1 : NoStar e1) (n2 : NoStar e2) (n3 : NoStar e3) (n4 : NoStar e4) (h1 : Ev c k sc σ e1 d1) (h2 : Ev c k sc σ e2 d2) (h3 : Ev c k sc σ e3 d3) (h4 : Ev c k sc σ e4 d4) : Ev c k sc σ (.List [e1, e2, e3, e4] z) (.lst [d1, d2, d3, d4]) :=
  Ev.list (.cons n1 h1 (.cons n2 h2 (.cons n3 h3 (.cons n4 h4 .nil)))) (by simp)
noncomputable def forIter : Stmt → Expr
  | .For _ e _ _ _ => e
  | _ => default
noncomputable def stPos : Stmt → Pos
  | .For _ _ _ _ p => p
  | _ => default
theorem ks_data : (KS.map fun ks => D.lst (ks.map keyD)) = [D.lst [.tup [.int 0, .int 1], .tup [.int 1, .int 1]], .lst [.tup [.int 1, .int 1], .tup [.int 0, .int 1]], .lst [.tup [.int 2, .int 1], .tup [.int 0, .int 1]], .lst [.tup [.int 2, .int 1], .tup [.int 1, .int 1]]] := by kernel_rfl
theorem kl_a {c : Cx} {k : Nat} {sc : Scope} {σ : List (Str × D)} {i1 j1 i2 j2 : Int} (e : Expr) (h : ∃ n1 n2 n3 n4 m1 m2 p1 p2 p3 p4 p5 p6 p7, e = .List [.Tuple [.Constant (.int i1) n1 p1, .Constant (.int j1) n2 p2] m1 p3, .Tuple [.Constant (.int i2) n3 p4, .Constant (.int j2) n4 p5] m2 p6] p7) : NoStar e ∧ Ev c k sc σ e (.lst [.tup [.int i1, .int j1], .tup [.int i2, .int j2]]) := by
  obtain ⟨n1, n2, n3, n4, m1, m2, p1, p2, p3, p4, p5, p6, p7, rfl⟩ := h
  exact ⟨no_lst _ _, kl _ _ _ _⟩
noncomputable def lsElts : Expr → List Expr
  | .List es _ => es
  | _ => []
noncomputable def exPos : Expr → Pos
  | .List _ p => p
  | _ => default
noncomputable def el (i : Nat) : Expr := (lsElts (forIter (ls 10))).getD i default
theorem el_shape : forIter (ls 10) = .List [el 0, el 1, el 2, el 3] (exPos (forIter (ls 10))) := by kernel_rfl
theorem el0 : ∃ n1 n2 n3 n4 m1 m2 p1 p2 p3 p4 p5 p6 p7, el 0 = .List [.Tuple [.Constant (.int 0) n1 p1, .Constant (.int 1) n2 p2] m1 p3, .Tuple [.Constant (.int 1) n3 p4, .Constant (.int 1) n4 p5] m2 p6] p7 := ⟨_, _, _, _, _, _, _, _, _, _, _, _, _, rfl⟩
theorem el1 : ∃ n1 n2 n3 n4 m1 m2 p1 p2 p3 p4 p5 p6 p7, el 1 = .List [.Tuple [.Constant (.int 1) n1 p1, .Constant (.int 1) n2 p2] m1 p3, .Tuple [.Constant (.int 0) n3 p4, .Constant (.int 1) n4 p5] m2 p6] p7 := ⟨_, _, _, _, _, _, _, _, _, _, _, _, _, rfl⟩
theorem el2 : ∃ n1 n2 n3 n4 m1 m2 p1 p2 p3 p4 p5 p6 p7, el 2 = .List [.Tuple [.Constant (.int 2) n1 p1, .Constant (.int 1) n2 p2] m1 p3, .Tuple [.Constant (.int 0) n3 p4, .Constant (.int 1) n4 p5] m2 p6] p7 := ⟨_, _, _, _, _, _, _, _, _, _, _, _, _, rfl⟩
theorem el3 : ∃ n1 n2 n3 n4 m1 m2 p1 p2 p3 p4 p5 p6 p7, el 3 = .List [.Tuple [.Constant (.int 2) n1 p1, .Constant (.int 1) n2 p2] m1 p3, .Tuple [.Constant (.int 1) n3 p4, .Constant (.int 1) n4 p5] m2 p6] p7 := ⟨_, _, _, _, _, _, _, _, _, _, _, _, _, rfl⟩
theorem ev_keys {c : Cx} {k : Nat} {sc : Scope} {σ : List (Str × D)} (it e0 e1 e2 e3 : Expr) (z : Pos) (h : it = .List [e0, e1, e2, e3] z)
    (h0 : ∃ n1 n2 n3 n4 m1 m2 p1 p2 p3 p4 p5 p6 p7, e0 = .List [.Tuple [.Constant (.int 0) n1 p1, .Constant (.int 1) n2 p2] m1 p3, .Tuple [.Constant (.int 1) n3 p4, .Constant (.int 1) n4 p5] m2 p6] p7)
    (h1 : ∃ n1 n2 n3 n4 m1 m2 p1 p2 p3 p4 p5 p6 p7, e1 = .List [.Tuple [.Constant (.int 1) n1 p1, .Constant (.int 1) n2 p2] m1 p3, .Tuple [.Constant (.int 0) n3 p4, .Constant (.int 1) n4 p5] m2 p6] p7)
    (h2 : ∃ n1 n2 n3 n4 m1 m2 p1 p2 p3 p4 p5 p6 p7, e2 = .List [.Tuple [.Constant (.int 2) n1 p1, .Constant (.int 1) n2 p2] m1 p3, .Tuple [.Constant (.int 0) n3 p4, .Constant (.int 1) n4 p5] m2 p6] p7)
    (h3 : ∃ n1 n2 n3 n4 m1 m2 p1 p2 p3 p4 p5 p6 p7, e3 = .List [.Tuple [.Constant (.int 2) n1 p1, .Constant (.int 1) n2 p2] m1 p3, .Tuple [.Constant (.int 1) n3 p4, .Constant (.int 1) n4 p5] m2 p6] p7) : Ev c k sc σ it (.lst [D.lst [.tup [.int 0, .int 1], .tup [.int 1, .int 1]], .lst [.tup [.int 1, .int 1], .tup [.int 0, .int 1]], .lst [.tup [.int 2, .int 1], .tup [.int 0, .int 1]], .lst [.tup [.int 2, .int 1], .tup [.int 1, .int 1]]]) := by
  obtain ⟨a0, b0⟩ := kl_a (c := c) (k := k) (sc := sc) (σ := σ) e0 h0
  obtain ⟨a1, b1⟩ := kl_a (c := c) (k := k) (sc := sc) (σ := σ) e1 h1
  obtain ⟨a2, b2⟩ := kl_a (c := c) (k := k) (sc := sc) (σ := σ) e2 h2
  obtain ⟨a3, b3⟩ := kl_a (c := c) (k := k) (sc := sc) (σ := σ) e3 h3
  subst h
  exact kl4 a0 a1 a2 a3 b0 b1 b2 b3
theorem no_set10 : NotSet (forIter (ls 10)) := fun _ _ => by kernel_rfl
theorem for_ex {c : Cx} {k : Nat} {sc : Scope} {σ σ' : List (Str × D)} {target it : Expr} {body : List Stmt} {pos : Pos} {ds : List D} (st : Stmt) (h : st = .For target it body [] pos) (hev : Ev c k sc σ it (.lst ds)) (hn : NotSet it) (q : ForR c k sc target body σ none ds (.next σ' none)) : Ex1 c k sc σ none st (.next σ' none) := by
  subst h; exact Ex1.for (src_of hev (iter_lst _)) hn q
theorem law10_abs {c : Cx} {k : Nat} {sc : Scope} {σ σ' : List (Str × D)} {target : Expr} {body : List Stmt} {pos : Pos} (st : Stmt) (it e0 e1 e2 e3 : Expr) (z : Pos) (hst : st = .For target it body [] pos) (h : it = .List [e0, e1, e2, e3] z)
    (h0 : ∃ n1 n2 n3 n4 m1 m2 p1 p2 p3 p4 p5 p6 p7, e0 = .List [.Tuple [.Constant (.int 0) n1 p1, .Constant (.int 1) n2 p2] m1 p3, .Tuple [.Constant (.int 1) n3 p4, .Constant (.int 1) n4 p5] m2 p6] p7)
    (h1 : ∃ n1 n2 n3 n4 m1 m2 p1 p2 p3 p4 p5 p6 p7, e1 = .List [.Tuple [.Constant (.int 1) n1 p1, .Constant (.int 1) n2 p2] m1 p3, .Tuple [.Constant (.int 0) n3 p4, .Constant (.int 1) n4 p5] m2 p6] p7)
    (h2 : ∃ n1 n2 n3 n4 m1 m2 p1 p2 p3 p4 p5 p6 p7, e2 = .List [.Tuple [.Constant (.int 2) n1 p1, .Constant (.int 1) n2 p2] m1 p3, .Tuple [.Constant (.int 0) n3 p4, .Constant (.int 1) n4 p5] m2 p6] p7)
    (h3 : ∃ n1 n2 n3 n4 m1 m2 p1 p2 p3 p4 p5 p6 p7, e3 = .List [.Tuple [.Constant (.int 2) n1 p1, .Constant (.int 1) n2 p2] m1 p3, .Tuple [.Constant (.int 1) n3 p4, .Constant (.int 1) n4 p5] m2 p6] p7)
    (hn : NotSet it) (q : ForR c k sc target body σ none (KS.map fun ks => D.lst (ks.map keyD)) (.next σ' none)) : Ex1 c k sc σ none st (.next σ' none) := by
  rw [ks_data] at q
  have hev := ev_keys (c := c) (k := k) (sc := sc) (σ := σ) it e0 e1 e2 e3 z h h0 h1 h2 h3
  exact for_ex st hst hev hn q
theorem law10 (w : World) (σ : List (Str × D)) (one other : List T) (e f : Int) (H : LawOk one other e f) (S : GSt σ one other (leftF (prodF one other) (prodF one other) []) (colsF e) (colsF f) (cntF (prodF one other) (octF (colsF e) (colsF f)))) :
    ∃ σ', Ex1 (cx w) 6 fd124.scope σ none (ls 10) (.next σ' none) := by
  obtain ⟨σ', q⟩ := g_all w ⟨130, 8, 130, 12⟩ one other e f H KS σ (fun _ h => h) S
  have hst : ls 10 = .For (.Name (Str.ofString "keys") ⟨130, 8, 130, 12⟩) (forIter (ls 10)) gB [] (stPos (ls 10)) := by kernel_rfl
  have hsh := el_shape
  have h0 := el0
  have h1 := el1
  have h2 := el2
  have h3 := el3
  have hn := no_set10
  generalize stPos (ls 10) = pos at *
  generalize forIter (ls 10) = it at *
  generalize exPos it = z at *
  generalize el 0 = e0 at *
  generalize el 1 = e1 at *
  generalize el 2 = e2 at *
  generalize el 3 = e3 at *
  generalize gB = body at *
  generalize ls 10 = st at *
  exact ⟨σ', law10_abs st it e0 e1 e2 e3 z hst hsh h0 h1 h2 h3 hn q⟩

theorem ex_chain {c : Cx} {k : Nat} {sc : Scope} {d : D} {s0 s1 s2 s3 s4 s5 s6 s7 s8 s9 s10 s11 : Stmt} {σ0 σ1 σ2 σ3 σ4 σ5 σ6 σ7 σ8 σ9 σ10 σ11 : List (Str × D)} (h0 : Ex1 c k sc σ0 none s0 (.next σ1 none)) (h1 : Ex1 c k sc σ1 none s1 (.next σ2 none)) (h2 : Ex1 c k sc σ2 none s2 (.next σ3 none)) (h3 : Ex1 c k sc σ3 none s3 (.next σ4 none)) (h4 : Ex1 c k sc σ4 none s4 (.next σ5 none)) (h5 : Ex1 c k sc σ5 none s5 (.next σ6 none)) (h6 : Ex1 c k sc σ6 none s6 (.next σ7 none)) (h7 : Ex1 c k sc σ7 none s7 (.next σ8 none)) (h8 : Ex1 c k sc σ8 none s8 (.next σ9 none)) (h9 : Ex1 c k sc σ9 none s9 (.next σ10 none)) (h10 : Ex1 c k sc σ10 none s10 (.next σ11 none)) (h11 : Ex1 c k sc σ11 none s11 (.ret d)) :
    Ex c k sc σ0 none [s0, s1, s2, s3, s4, s5, s6, s7, s8, s9, s10, s11] (.ret d) :=
  Ex.cons h0 (Ex.cons h1 (Ex.cons h2 (Ex.cons h3 (Ex.cons h4 (Ex.cons h5 (Ex.cons h6 (Ex.cons h7 (Ex.cons h8 (Ex.cons h9 (Ex.cons h10 (Ex.ret h11)))))))))))
theorem law_body : fnBody (stm 28) = [ls 0, ls 1, ls 2, ls 3, ls 4, ls 5, ls 6, ls 7, ls 8, ls 9, ls 10, ls 11] := by kernel_rfl
theorem law11 (w : World) (σ : List (Str × D)) : Ex1 (cx w) 6 fd124.scope σ none (ls 11) (.ret (.bool true)) := Ex1.return (EvF.of Ev.ctrue)
theorem ex_law (w : World) (ns : List Int) (hl : ns.length ≤ 63) (H : ∀ a b c d e f ex, numsF ns = a :: b :: c :: d :: e :: f :: ex → ex.length ≤ 2 → LawOk (termsF ([a, b] ++ ex.take 1) []) (termsF ([c, d] ++ ex.drop 1) []) e f) :
    Ex (cx w) 6 fd124.scope [(Str.ofString "script", .lst (ns.map D.int))] none (fnBody (stm 28)) (.ret (.bool true)) := by
  rw [law_body]
  obtain ⟨a, b, c, d, e, f, ex, hn, hex⟩ := nums_shape ns
  have K := H a b c d e f ex hn hex
  have h0 := law0 w ns hl
  rw [hn] at h0
  have h1 := law1 w ((Str.ofString "numbers", .lst ((a :: b :: c :: d :: e :: f :: ex).map D.int)) :: [(Str.ofString "script", .lst (ns.map D.int))]) a b c d e f ex hex lookup_hd
  have k4 : ∀ σ : List (Str × D), σ.lookup (Str.ofString "numbers") = some (.lst ((a :: b :: c :: d :: e :: f :: ex).map D.int)) → Ex1 (cx w) 6 fd124.scope σ none (ls 4) (.next ((Str.ofString "rows", .lst ((colsF f).map natD)) :: (Str.ofString "columns", .lst ((colsF e).map natD)) :: σ) none) := fun σ h => law4 w σ a b c d e f ex hex h
  generalize termsF ([a, b] ++ ex.take 1) [] = one at *
  generalize termsF ([c, d] ++ ex.drop 1) [] = other at *
  have p1 : (prodF one other).length ≤ 9 := by
    rw [prod_len]; exact Nat.le_trans (Nat.mul_le_mul K.l1 K.l2) (by decide)
  have o1 : (octF (colsF e) (colsF f)).length ≤ 36 := by
    rw [oct_len]; exact Nat.le_trans (Nat.mul_le_mul (cols_len e) (cols_len f)) (by decide)
  have o2 : ∀ o ∈ octF (colsF e) (colsF f), o < 256 := fun o ho => by
    have := (K.ok o ho).1
    simp only [H6, List.mem_cons, List.not_mem_nil, or_false] at this; omega
  have hl1 := K.l1
  have hl2 := K.l2
  have k2 : ∀ σ : List (Str × D), σ.lookup (Str.ofString "one") = some (.lst (one.map termD)) → σ.lookup (Str.ofString "other") = some (.lst (other.map termD)) → Ex1 (cx w) 6 fd124.scope σ none (ls 2) (.next ((Str.ofString "product", .lst ((prodF one other).map termD)) :: σ) none) := fun σ q1 q2 => law2 w σ one other q1 q2 (by omega)
  have k3 : ∀ σ : List (Str × D), σ.lookup (Str.ofString "product") = some (.lst ((prodF one other).map termD)) → Ex1 (cx w) 6 fd124.scope σ none (ls 3) (.next ((Str.ofString "left", .lst ((leftF (prodF one other) (prodF one other) []).map leftD)) :: σ) none) := fun σ q1 => law3 w σ _ q1 (fun t ht => ⟨(K.t3 t ht).2.2.2.2.1, (K.t3 t ht).2.2.2.2.2⟩) (by omega)
  have k5 : ∀ σ : List (Str × D), σ.lookup (Str.ofString "columns") = some (.lst ((colsF e).map natD)) → σ.lookup (Str.ofString "rows") = some (.lst ((colsF f).map natD)) → Ex1 (cx w) 6 fd124.scope σ none (ls 5) (.next ((Str.ofString "octets", .lst ((octF (colsF e) (colsF f)).map natD)) :: σ) none) := fun σ q1 q2 => law5 w σ _ _ q1 q2 (by omega)
  have k6 : ∀ σ : List (Str × D), σ.lookup (Str.ofString "octets") = some (.lst ((octF (colsF e) (colsF f)).map natD)) → Ex1 (cx w) 6 fd124.scope σ none (ls 6) (.next ((Str.ofString "page", .str (pgS (octF (colsF e) (colsF f)))) :: σ) none) := fun σ q1 => law6 w σ _ q1 o2 (by omega)
  have k7 : ∀ σ : List (Str × D), σ.lookup (Str.ofString "page") = some (.str (pgS (octF (colsF e) (colsF f)))) → σ.lookup (Str.ofString "octets") = some (.lst ((octF (colsF e) (colsF f)).map natD)) → Ex1 (cx w) 6 fd124.scope σ none (ls 7) (.next σ none) := fun σ q1 q2 => law7 w σ _ q1 q2 K.ok (by omega) K.n4
  have k8 := law8 w
  have k9 : ∀ σ : List (Str × D), KSt σ (octF (colsF e) (colsF f)) one other 0 → ∃ σ', Ex1 (cx w) 6 fd124.scope σ none (ls 9) (.next σ' none) ∧ KSt σ' (octF (colsF e) (colsF f)) one other (cntF (prodF one other) (octF (colsF e) (colsF f))) ∧ ∀ z, z ∉ [Str.ofString "k", Str.ofString "x", Str.ofString "y", Str.ofString "worth", Str.ofString "many"] → σ'.lookup z = σ.lookup z := fun σ q => law9 w σ _ K.ok (by omega) one other K.t1 K.t2 K.t3 (by omega) (by omega) (by omega) K.worth q
  have k10 : ∀ σ : List (Str × D), GSt σ one other (leftF (prodF one other) (prodF one other) []) (colsF e) (colsF f) (cntF (prodF one other) (octF (colsF e) (colsF f))) → ∃ σ', Ex1 (cx w) 6 fd124.scope σ none (ls 10) (.next σ' none) := fun σ q => law10 w σ one other e f K q
  have k11 := law11 w
  generalize ls 0 = s0 at *
  generalize ls 1 = s1 at *
  generalize ls 2 = s2 at *
  generalize ls 3 = s3 at *
  generalize ls 4 = s4 at *
  generalize ls 5 = s5 at *
  generalize ls 6 = s6 at *
  generalize ls 7 = s7 at *
  generalize ls 8 = s8 at *
  generalize ls 9 = s9 at *
  generalize ls 10 = s10 at *
  generalize ls 11 = s11 at *
  have h2 := k2 _ (show List.lookup _ ((Str.ofString "other", .lst (other.map termD)) :: (Str.ofString "one", .lst (one.map termD)) :: (Str.ofString "numbers", .lst ((a :: b :: c :: d :: e :: f :: ex).map D.int)) :: [(Str.ofString "script", .lst (ns.map D.int))]) = _ by walk_at "lk") (by walk_at "lk")
  have h3 := k3 _ (show List.lookup _ ((Str.ofString "product", .lst ((prodF one other).map termD)) :: (Str.ofString "other", .lst (other.map termD)) :: (Str.ofString "one", .lst (one.map termD)) :: (Str.ofString "numbers", .lst ((a :: b :: c :: d :: e :: f :: ex).map D.int)) :: [(Str.ofString "script", .lst (ns.map D.int))]) = _ by walk_at "lk")
  have h4 := k4 _ (show List.lookup _ ((Str.ofString "left", .lst ((leftF (prodF one other) (prodF one other) []).map leftD)) :: (Str.ofString "product", .lst ((prodF one other).map termD)) :: (Str.ofString "other", .lst (other.map termD)) :: (Str.ofString "one", .lst (one.map termD)) :: (Str.ofString "numbers", .lst ((a :: b :: c :: d :: e :: f :: ex).map D.int)) :: [(Str.ofString "script", .lst (ns.map D.int))]) = _ by walk_at "lk")
  have h5 := k5 _ (show List.lookup _ ((Str.ofString "rows", .lst ((colsF f).map natD)) :: (Str.ofString "columns", .lst ((colsF e).map natD)) :: (Str.ofString "left", .lst ((leftF (prodF one other) (prodF one other) []).map leftD)) :: (Str.ofString "product", .lst ((prodF one other).map termD)) :: (Str.ofString "other", .lst (other.map termD)) :: (Str.ofString "one", .lst (one.map termD)) :: (Str.ofString "numbers", .lst ((a :: b :: c :: d :: e :: f :: ex).map D.int)) :: [(Str.ofString "script", .lst (ns.map D.int))]) = _ by walk_at "lk") (by walk_at "lk")
  have h6 := k6 _ (show List.lookup _ ((Str.ofString "octets", .lst ((octF (colsF e) (colsF f)).map natD)) :: (Str.ofString "rows", .lst ((colsF f).map natD)) :: (Str.ofString "columns", .lst ((colsF e).map natD)) :: (Str.ofString "left", .lst ((leftF (prodF one other) (prodF one other) []).map leftD)) :: (Str.ofString "product", .lst ((prodF one other).map termD)) :: (Str.ofString "other", .lst (other.map termD)) :: (Str.ofString "one", .lst (one.map termD)) :: (Str.ofString "numbers", .lst ((a :: b :: c :: d :: e :: f :: ex).map D.int)) :: [(Str.ofString "script", .lst (ns.map D.int))]) = _ by walk_at "lk")
  have h7 := k7 _ (show List.lookup _ ((Str.ofString "page", .str (pgS (octF (colsF e) (colsF f)))) :: (Str.ofString "octets", .lst ((octF (colsF e) (colsF f)).map natD)) :: (Str.ofString "rows", .lst ((colsF f).map natD)) :: (Str.ofString "columns", .lst ((colsF e).map natD)) :: (Str.ofString "left", .lst ((leftF (prodF one other) (prodF one other) []).map leftD)) :: (Str.ofString "product", .lst ((prodF one other).map termD)) :: (Str.ofString "other", .lst (other.map termD)) :: (Str.ofString "one", .lst (one.map termD)) :: (Str.ofString "numbers", .lst ((a :: b :: c :: d :: e :: f :: ex).map D.int)) :: [(Str.ofString "script", .lst (ns.map D.int))]) = _ by walk_at "lk") (by walk_at "lk")
  obtain ⟨σ9, q1, q2, q3⟩ := k9 ((Str.ofString "many", .int 0) :: (Str.ofString "page", .str (pgS (octF (colsF e) (colsF f)))) :: (Str.ofString "octets", .lst ((octF (colsF e) (colsF f)).map natD)) :: (Str.ofString "rows", .lst ((colsF f).map natD)) :: (Str.ofString "columns", .lst ((colsF e).map natD)) :: (Str.ofString "left", .lst ((leftF (prodF one other) (prodF one other) []).map leftD)) :: (Str.ofString "product", .lst ((prodF one other).map termD)) :: (Str.ofString "other", .lst (other.map termD)) :: (Str.ofString "one", .lst (one.map termD)) :: (Str.ofString "numbers", .lst ((a :: b :: c :: d :: e :: f :: ex).map D.int)) :: [(Str.ofString "script", .lst (ns.map D.int))])
    ⟨by walk_at "lk", by walk_at "lk", by walk_at "lk", by walk_at "lk", by walk_at "lk"⟩
  obtain ⟨σ10, q⟩ := k10 σ9 ⟨q2.fone, q2.fother, by rw [q3 _ (of_decide_eq_true (by kernel_rfl))]; walk_at "lk", by rw [q3 _ (of_decide_eq_true (by kernel_rfl))]; walk_at "lk", by rw [q3 _ (of_decide_eq_true (by kernel_rfl))]; walk_at "lk", q2.fmany⟩
  exact ex_chain h0 h1 h2 h3 h4 h5 h6 h7 (k8 _) q1 q (k11 _)
theorem law_code (w : World) (ns : List Int) (hl : ns.length ≤ 63) (H : ∀ a b c d e f ex, numsF ns = a :: b :: c :: d :: e :: f :: ex → ex.length ≤ 2 → LawOk (termsF ([a, b] ++ ex.take 1) []) (termsF ([c, d] ++ ex.drop 1) []) e f) :
    OpN (cx w) 7 (.ref 124) [.lst (ns.map D.int)] (.bool true) :=
  OpN.fn (exd := []) (F124 w) (by walk_at "kd") (by kernel_rfl) (binds1 fd124 (Str.ofString "script") (fun u => by kernel_rfl) (cx w) _ rfl) (ex_law w ns hl H)
end Mine
end

section
namespace Mine
/-- a sum over a list -/
noncomputable def Sm {α : Type} (l : List α) (f : α → Int) : Int := (l.map f).sum
section
variable {α β : Type}
theorem sm_nil (f : α → Int) : Sm [] f = 0 := rfl
theorem sm_cons (x : α) (l : List α) (f : α → Int) : Sm (x :: l) f = f x + Sm l f := by simp [Sm]
theorem sm_congr {l : List α} {f g : α → Int} (h : ∀ x ∈ l, f x = g x) : Sm l f = Sm l g := by
  induction l with
  | nil => rfl
  | cons x l ih => rw [sm_cons, sm_cons, h x (by simp), ih fun y hy => h y (by simp [hy])]
theorem sm_add (l : List α) (f g : α → Int) : Sm l (fun x => f x + g x) = Sm l f + Sm l g := by
  induction l with
  | nil => rfl
  | cons x l ih => rw [sm_cons, sm_cons, sm_cons, ih]; omega
theorem sm_mul (l : List α) (c : Int) (f : α → Int) : Sm l (fun x => c * f x) = c * Sm l f := by
  induction l with
  | nil => simp [sm_nil]
  | cons x l ih => rw [sm_cons, sm_cons, ih, Int.mul_add]
theorem sm_mulr (l : List α) (c : Int) (f : α → Int) : Sm l (fun x => f x * c) = Sm l f * c := by
  induction l with
  | nil => simp [sm_nil]
  | cons x l ih => rw [sm_cons, sm_cons, ih, Int.add_mul]
theorem sm_zero (l : List α) : Sm l (fun _ => 0) = 0 := by
  induction l with
  | nil => rfl
  | cons x l ih => rw [sm_cons, ih]; rfl
theorem sm_swap (l : List α) (m : List β) (f : α → β → Int) : Sm l (fun x => Sm m (f x)) = Sm m (fun y => Sm l fun x => f x y) := by
  induction l with
  | nil => simp only [sm_nil]; rw [sm_zero]
  | cons x l ih =>
    rw [sm_cons, ih, ← sm_add]
    exact sm_congr fun y _ => by rw [sm_cons]
theorem sm_map (l : List β) (g : β → α) (f : α → Int) : Sm (l.map g) f = Sm l (fun x => f (g x)) := by
  unfold Sm; rw [List.map_map]; rfl
theorem sm_append (l m : List α) (f : α → Int) : Sm (l ++ m) f = Sm l f + Sm m f := by
  induction l with
  | nil => simp [sm_nil]
  | cons x l ih => rw [List.cons_append, sm_cons, sm_cons, ih]; omega
theorem sm_flat (l : List α) (g : α → List β) (f : β → Int) : Sm (l.flatMap g) f = Sm l (fun x => Sm (g x) f) := by
  induction l with
  | nil => rfl
  | cons x l ih => rw [List.flatMap_cons, sm_append, sm_cons, ih]
theorem sm_dvd {l : List α} {f : α → Int} (h : ∀ x ∈ l, (17 : Int) ∣ f x) : (17 : Int) ∣ Sm l f := by
  induction l with
  | nil => exact ⟨0, rfl⟩
  | cons x l ih => rw [sm_cons]; exact Int.dvd_add (h x (by simp)) (ih fun y hy => h y (by simp [hy]))
theorem sm_erase [BEq α] [LawfulBEq α] {l : List α} {a : α} (h : a ∈ l) (f : α → Int) : Sm l f = f a + Sm (l.erase a) f := by
  induction l with
  | nil => simp at h
  | cons x l ih =>
    by_cases e : x = a
    · subst e; rw [List.erase_cons_head, sm_cons]
    · have ha : a ∈ l := by
        rcases List.mem_cons.mp h with q | q
        · exact absurd q.symm e
        · exact q
      rw [List.erase_cons_tail (by simpa using e), sm_cons, sm_cons, ih ha]; omega
end
/-- congruence -/
noncomputable def Cg (a b : Int) : Prop := (17 : Int) ∣ a - b
theorem cg_rfl (a : Int) : Cg a a := by unfold Cg; rw [Int.sub_self]; exact ⟨0, rfl⟩
theorem cg_sm {α : Type} {l : List α} {f g : α → Int} (h : ∀ x ∈ l, Cg (f x) (g x)) : Cg (Sm l f) (Sm l g) := by
  induction l with
  | nil => exact cg_rfl _
  | cons x l ih =>
    rw [sm_cons, sm_cons]
    have h1 := h x (by simp)
    have h2 := ih fun y hy => h y (by simp [hy])
    unfold Cg at *; omega
theorem cg_mul {a b : Int} (c : Int) (h : Cg a b) : Cg (c * a) (c * b) := by
  unfold Cg at *
  rw [← Int.mul_sub]; exact Int.dvd_mul_of_dvd_right h
theorem cg_zero {a : Int} : Cg a 0 ↔ (17 : Int) ∣ a := by unfold Cg; rw [Int.sub_zero]
theorem prime17 {a b : Int} (h : (17 : Int) ∣ a * b) : (17 : Int) ∣ a ∨ (17 : Int) ∣ b := by
  have h1 : (a * b) % 17 = 0 := Int.emod_eq_zero_of_dvd h
  rw [Int.mul_emod] at h1
  have ha : 0 ≤ a % 17 ∧ a % 17 < 17 := by omega
  have hb : 0 ≤ b % 17 ∧ b % 17 < 17 := by omega
  by_cases e : a % 17 = 0
  · exact .inl (Int.dvd_of_emod_eq_zero e)
  · right
    refine Int.dvd_of_emod_eq_zero ?_
    generalize a % 17 = x at *
    generalize b % 17 = y at *
    obtain ⟨x1, x2⟩ := ha
    have : x = 1 ∨ x = 2 ∨ x = 3 ∨ x = 4 ∨ x = 5 ∨ x = 6 ∨ x = 7 ∨ x = 8 ∨ x = 9 ∨ x = 10 ∨ x = 11 ∨ x = 12 ∨ x = 13 ∨ x = 14 ∨ x = 15 ∨ x = 16 := by omega
    rcases this with rfl | rfl | rfl | rfl | rfl | rfl | rfl | rfl | rfl | rfl | rfl | rfl | rfl | rfl | rfl | rfl <;> omega
theorem nd_mul {a b : Int} (ha : ¬ (17 : Int) ∣ a) (hb : ¬ (17 : Int) ∣ b) : ¬ (17 : Int) ∣ a * b := fun h => (prime17 h).elim ha hb
theorem inv17 (d : Int) (h : ¬ (17 : Int) ∣ d) : ∃ v : Int, (17 : Int) ∣ d * v - 1 := by
  have hd : ¬ d % 17 = 0 := fun e => h (Int.dvd_of_emod_eq_zero e)
  have key : ∀ r : Int, 0 ≤ r → r < 17 → r ≠ 0 → ∃ v : Int, (r * v - 1) % 17 = 0 := by
    intro r h0 h1 h2
    have : r = 1 ∨ r = 2 ∨ r = 3 ∨ r = 4 ∨ r = 5 ∨ r = 6 ∨ r = 7 ∨ r = 8 ∨ r = 9 ∨ r = 10 ∨ r = 11 ∨ r = 12 ∨ r = 13 ∨ r = 14 ∨ r = 15 ∨ r = 16 := by omega
    rcases this with rfl | rfl | rfl | rfl | rfl | rfl | rfl | rfl | rfl | rfl | rfl | rfl | rfl | rfl | rfl | rfl
    · exact ⟨1, by decide⟩
    · exact ⟨9, by decide⟩
    · exact ⟨6, by decide⟩
    · exact ⟨13, by decide⟩
    · exact ⟨7, by decide⟩
    · exact ⟨3, by decide⟩
    · exact ⟨5, by decide⟩
    · exact ⟨15, by decide⟩
    · exact ⟨2, by decide⟩
    · exact ⟨12, by decide⟩
    · exact ⟨14, by decide⟩
    · exact ⟨10, by decide⟩
    · exact ⟨4, by decide⟩
    · exact ⟨11, by decide⟩
    · exact ⟨8, by decide⟩
    · exact ⟨16, by decide⟩
  obtain ⟨v, hv⟩ := key (d % 17) (by omega) (by omega) hd
  refine ⟨v, Int.dvd_of_emod_eq_zero ?_⟩
  have e : d = 17 * (d / 17) + d % 17 := (Int.mul_ediv_add_emod d 17).symm
  have : d * v - 1 = 17 * (d / 17 * v) + (d % 17 * v - 1) := by
    generalize d / 17 = q at *
    generalize d % 17 = r at *
    subst e
    rw [Int.add_mul, Int.mul_assoc]; omega
  rw [this]; omega
end Mine
end

section
namespace Mine
/-- a moment of weighted points -/
noncomputable def Mo (W : List (Int × Int)) (i : Nat) : Int := Sm W fun p => p.1 * p.2 ^ i
noncomputable def Gs (x0 x : Int) : Nat → Int
  | 0 => 0
  | i + 1 => x * Gs x0 x i + x0 ^ i
theorem gs_eq (x0 x : Int) (i : Nat) : (x - x0) * Gs x0 x i = x ^ i - x0 ^ i := by
  induction i with
  | zero => simp [Gs]
  | succ i ih =>
    have e : (x - x0) * Gs x0 x (i + 1) = x * ((x - x0) * Gs x0 x i) + (x - x0) * x0 ^ i := by
      show (x - x0) * (x * Gs x0 x i + x0 ^ i) = _
      rw [Int.mul_add, ← Int.mul_assoc, ← Int.mul_assoc, Int.mul_comm (x - x0) x]
    rw [e, ih, Int.mul_sub, Int.sub_mul, Int.pow_succ, Int.pow_succ, Int.mul_comm x (x ^ i), Int.mul_comm x0 (x0 ^ i)]
    omega
noncomputable def No (W : List (Int × Int)) (x0 : Int) (a i : Nat) : Int := Sm W fun p => p.1 * p.2 ^ a * Gs x0 p.2 i
theorem no_succ (W : List (Int × Int)) (x0 : Int) (a i : Nat) : No W x0 a (i + 1) = No W x0 (a + 1) i + x0 ^ i * Mo W a := by
  unfold No Mo
  rw [← sm_mul, ← sm_add]
  refine sm_congr fun p _ => ?_
  show p.1 * p.2 ^ a * (p.2 * Gs x0 p.2 i + x0 ^ i) = p.1 * p.2 ^ (a + 1) * Gs x0 p.2 i + x0 ^ i * (p.1 * p.2 ^ a)
  rw [Int.mul_add, Int.pow_succ, ← Int.mul_assoc, ← Int.mul_assoc, Int.mul_comm (x0 ^ i)]
theorem no_zero (W : List (Int × Int)) (x0 : Int) (a : Nat) : No W x0 a 0 = 0 := by
  unfold No
  rw [sm_congr (g := fun _ => 0) fun p _ => by simp [Gs]]
  exact sm_zero _
theorem no_low (W : List (Int × Int)) (x0 : Int) (A : Nat) (h : ∀ j, j < A → (17 : Int) ∣ Mo W j) : ∀ (i a : Nat), a + i ≤ A → (17 : Int) ∣ No W x0 a i
  | 0, a, _ => by rw [no_zero]; exact ⟨0, rfl⟩
  | i + 1, a, hi => by
    rw [no_succ]
    exact Int.dvd_add (no_low W x0 A h i (a + 1) (by omega)) (Int.dvd_mul_of_dvd_right (h a (by omega)))
theorem no_top (W : List (Int × Int)) (x0 : Int) (A : Nat) (h : ∀ j, j < A → (17 : Int) ∣ Mo W j) : ∀ (i a : Nat), a + i = A → Cg (No W x0 a (i + 1)) (Mo W A)
  | 0, a, hi => by
    rw [no_succ, no_zero]
    have : a = A := by omega
    subst this
    have e : (0 : Int) + x0 ^ 0 * Mo W a = Mo W a := by rw [Int.pow_zero]; omega
    rw [e]; exact cg_rfl _
  | i + 1, a, hi => by
    have h1 := no_top W x0 A h i (a + 1) (by omega)
    have h2 : (17 : Int) ∣ x0 ^ (i + 1) * Mo W a := Int.dvd_mul_of_dvd_right (h a (by omega))
    rw [no_succ]
    unfold Cg at *; omega
/-- weights that see the top power alone -/
theorem weights : ∀ (X : List Int), X ≠ [] → X.Pairwise (fun x y => ¬ (17 : Int) ∣ y - x) → ∃ W : List (Int × Int), W.map (·.2) = X ∧ (∀ i, i < X.length - 1 → (17 : Int) ∣ Mo W i) ∧ ¬ (17 : Int) ∣ Mo W (X.length - 1)
  | [], h, _ => absurd rfl h
  | [x], _, _ => ⟨[(1, x)], rfl, fun i hi => by simp at hi, by
      show ¬ (17 : Int) ∣ Sm [(1, x)] (fun p => p.1 * p.2 ^ 0)
      rw [sm_cons, sm_nil]
      simp⟩
  | x0 :: y :: X, _, hp => by
    rw [List.pairwise_cons] at hp
    obtain ⟨W, h1, h2, h3⟩ := weights (y :: X) (by simp) hp.2
    have inv : ∀ p : Int × Int, ∃ v : Int, p ∈ W → (17 : Int) ∣ (p.2 - x0) * v - 1 := fun p => by
      by_cases hm : p ∈ W
      · have : p.2 ∈ y :: X := by rw [← h1]; exact List.mem_map.mpr ⟨p, hm, rfl⟩
        obtain ⟨v, hv⟩ := inv17 (p.2 - x0) (hp.1 _ this)
        exact ⟨v, fun _ => hv⟩
      · exact ⟨0, fun h => absurd h hm⟩
    let v : Int × Int → Int := fun p => Classical.choose (inv p)
    have hv : ∀ p ∈ W, (17 : Int) ∣ (p.2 - x0) * v p - 1 := fun p hm => Classical.choose_spec (inv p) hm
    let W' : List (Int × Int) := (-(Sm W fun p => p.1 * v p), x0) :: W.map fun p => (p.1 * v p, p.2)
    have mo : ∀ i, Cg (Mo W' i) (No W x0 0 i) := fun i => by
      have e : Mo W' i = Sm W fun p => p.1 * v p * (p.2 ^ i - x0 ^ i) := by
        show Sm W' _ = _
        rw [sm_cons, sm_map]
        show -(Sm W fun p => p.1 * v p) * x0 ^ i + Sm W (fun p => p.1 * v p * p.2 ^ i) = _
        have : (Sm W fun p => p.1 * v p * (p.2 ^ i - x0 ^ i)) = Sm W (fun p => p.1 * v p * p.2 ^ i) + Sm W (fun p => p.1 * v p * (-(x0 ^ i))) := by
          rw [← sm_add]; exact sm_congr fun p _ => by rw [← Int.mul_add]; rfl
        rw [this, sm_mulr, Int.mul_neg, Int.neg_mul]; omega
      rw [e]
      refine cg_sm fun p hm => ?_
      rw [← gs_eq, Int.pow_zero, Int.mul_one]
      have := hv p hm
      unfold Cg
      have e2 : p.1 * v p * ((p.2 - x0) * Gs x0 p.2 i) - p.1 * Gs x0 p.2 i = (p.1 * Gs x0 p.2 i) * ((p.2 - x0) * v p - 1) := by
        rw [Int.mul_sub, Int.mul_one]
        congr 1
        rw [Int.mul_assoc p.1 (v p), Int.mul_assoc p.1 (Gs x0 p.2 i)]
        congr 1
        rw [← Int.mul_assoc, Int.mul_comm (v p) (p.2 - x0), Int.mul_comm (Gs x0 p.2 i)]
      rw [e2]; exact Int.dvd_mul_of_dvd_right this
    have hlen : (x0 :: y :: X).length - 1 = (y :: X).length - 1 + 1 := by simp
    refine ⟨W', ?_, fun i hi => ?_, fun h => ?_⟩
    · show x0 :: (W.map fun p => (p.1 * v p, p.2)).map (·.2) = _
      rw [List.map_map]
      congr 1
    · have h4 := no_low W x0 ((y :: X).length - 1) h2 i 0 (by omega)
      have := mo i
      unfold Cg at this; omega
    · rw [hlen] at h
      have h4 := no_top W x0 ((y :: X).length - 1) h2 ((y :: X).length - 1) 0 (by omega)
      have := mo ((y :: X).length - 1 + 1)
      unfold Cg at this h4
      exact h3 (by omega)
/-- more vectors than places depend -/
theorem dep {ι α : Type} [DecidableEq ι] : ∀ (S : List α) (I : List ι) (V : ι → α → Int), I.Nodup → S.length < I.length → ∃ c : ι → Int, (∃ i ∈ I, ¬ (17 : Int) ∣ c i) ∧ ∀ s ∈ S, (17 : Int) ∣ Sm I fun i => c i * V i s
  | [], I, V, _, h => by
    match I, h with
    | i :: I, _ => exact ⟨fun _ => 1, ⟨i, by simp, by show ¬ (17 : Int) ∣ 1; decide⟩, fun s hs => by simp at hs⟩
  | p :: S, I, V, hn, h => by
    by_cases hp : ∀ i ∈ I, (17 : Int) ∣ V i p
    · obtain ⟨c, h1, h2⟩ := dep S I V hn (by simp at h; omega)
      refine ⟨c, h1, fun s hs => ?_⟩
      rcases List.mem_cons.mp hs with rfl | hs
      · exact sm_dvd fun i hi => Int.dvd_mul_of_dvd_right (hp i hi)
      · exact h2 s hs
    · obtain ⟨i0, hi0, hv⟩ : ∃ i0, i0 ∈ I ∧ ¬ (17 : Int) ∣ V i0 p := by
        refine Classical.byContradiction fun q => hp fun i hi => Classical.byContradiction fun q' => q ⟨i, hi, q'⟩
      obtain ⟨c, ⟨i1, h1, h1'⟩, h2⟩ := dep S (I.erase i0) (fun i s => V i s * V i0 p - V i p * V i0 s) (hn.erase i0) (by rw [List.length_erase_of_mem hi0]; simp at h; omega)
      have hne : ∀ i ∈ I.erase i0, i ≠ i0 := fun i hi e => by
        subst e; exact (hn.not_mem_erase) hi
      let c' : ι → Int := fun i => if i = i0 then -(Sm (I.erase i0) fun i => c i * V i p) else c i * V i0 p
      have c'0 : c' i0 = -(Sm (I.erase i0) fun i => c i * V i p) := if_pos rfl
      have sum : ∀ s, (Sm I fun i => c' i * V i s) = Sm (I.erase i0) fun i => c i * (V i s * V i0 p - V i p * V i0 s) := fun s => by
        rw [sm_erase hi0, c'0]
        have e1 : (Sm (I.erase i0) fun i => c' i * V i s) = Sm (I.erase i0) fun i => c i * (V i s * V i0 p) := sm_congr fun i hi => by
          show (if i = i0 then _ else c i * V i0 p) * V i s = _
          rw [if_neg (hne i hi), Int.mul_assoc, Int.mul_comm (V i0 p)]
        have e2 : (Sm (I.erase i0) fun i => c i * (V i s * V i0 p - V i p * V i0 s)) = Sm (I.erase i0) (fun i => c i * (V i s * V i0 p)) + Sm (I.erase i0) (fun i => c i * V i p * (-(V i0 s))) := by
          rw [← sm_add]; exact sm_congr fun i _ => by rw [Int.mul_sub, Int.mul_neg, Int.mul_assoc (c i)]; omega
        rw [e1, e2, sm_mulr, Int.mul_neg, Int.neg_mul]; omega
      refine ⟨c', ⟨i1, List.mem_of_mem_erase h1, ?_⟩, fun s hs => ?_⟩
      · show ¬ (17 : Int) ∣ (if i1 = i0 then _ else c i1 * V i0 p)
        rw [if_neg (hne i1 h1)]
        exact nd_mul h1' hv
      · rw [sum]
        rcases List.mem_cons.mp hs with rfl | hs
        · refine sm_dvd fun i _ => ?_
          rw [show V i s * V i0 s - V i s * V i0 s = 0 by omega, Int.mul_zero]; exact ⟨0, rfl⟩
        · exact h2 s hs
end Mine
end

section
namespace Mine
noncomputable def evP (P : List (Int × Nat × Nat)) (x y : Int) : Int := Sm P fun t => t.1 * (x ^ t.2.1 * y ^ t.2.2)
theorem sm4 {α β γ δ : Type} (A : List α) (B : List β) (C : List γ) (D : List δ) (F : α → β → γ → δ → Int) :
    (Sm A fun p => Sm B fun q => Sm C fun i => Sm D fun t => F p q i t) = Sm C fun i => Sm D fun t => Sm A fun p => Sm B fun q => F p q i t := by
  have h1 : ∀ p, (Sm B fun q => Sm C fun i => Sm D fun t => F p q i t) = Sm C fun i => Sm D fun t => Sm B fun q => F p q i t := fun p => by
    rw [sm_swap B C fun q i => Sm D fun t => F p q i t]
    exact sm_congr fun i _ => sm_swap B D fun q t => F p q i t
  rw [sm_congr fun p _ => h1 p, sm_swap A C fun p i => Sm D fun t => Sm B fun q => F p q i t]
  exact sm_congr fun i _ => sm_swap A D fun p t => Sm B fun q => F p q i t
theorem sm_prod {α β : Type} (A : List α) (B : List β) (f : α → Int) (g : β → Int) : Sm A f * Sm B g = Sm A fun i => Sm B fun t => f i * g t := by
  rw [← sm_mulr]
  exact sm_congr fun i _ => by rw [sm_mul]
noncomputable def box (m n : Nat) : List (Nat × Nat) := (List.range m).flatMap fun i => (List.range n).map fun j => (i, j)
theorem box_mem {m n : Nat} {p : Nat × Nat} (h : p ∈ box m n) : p.1 < m ∧ p.2 < n := by
  obtain ⟨i, hi, h⟩ := List.mem_flatMap.mp h
  obtain ⟨j, hj, rfl⟩ := List.mem_map.mp h
  exact ⟨List.mem_range.mp hi, List.mem_range.mp hj⟩
theorem box_len (m n : Nat) : (box m n).length = m * n := by
  unfold box
  have : ∀ l : List Nat, (l.flatMap fun i => (List.range n).map fun j => (i, j)).length = l.length * n := by
    intro l
    induction l with
    | nil => simp
    | cons x l ih => rw [List.flatMap_cons, List.length_append, ih, List.length_map, List.length_range, List.length_cons, Nat.add_mul]; omega
  rw [this, List.length_range]
theorem box_nodup (m n : Nat) : (box m n).Nodup := by
  unfold box
  have key : ∀ l : List Nat, l.Nodup → (l.flatMap fun i => (List.range n).map fun j => (i, j)).Nodup := by
    intro l
    induction l with
    | nil => intro _; exact List.nodup_nil
    | cons x l ih =>
      intro h
      rw [List.nodup_cons] at h
      rw [List.flatMap_cons, List.nodup_append]
      refine ⟨?_, ih h.2, ?_⟩
      · have : ∀ r : List Nat, r.Nodup → (r.map fun j => (x, j)).Nodup := by
          intro r
          induction r with
          | nil => intro _; exact List.nodup_nil
          | cons y r ihr =>
            intro hr
            rw [List.nodup_cons] at hr
            rw [List.map_cons, List.nodup_cons]
            refine ⟨fun q => ?_, ihr hr.2⟩
            obtain ⟨z, hz, e⟩ := List.mem_map.mp q
            exact hr.1 ((Prod.mk.inj e).2 ▸ hz)
        exact this _ List.nodup_range
      · intro p hp q hq e
        obtain ⟨j, _, rfl⟩ := List.mem_map.mp hp
        obtain ⟨i, hi, hq⟩ := List.mem_flatMap.mp hq
        obtain ⟨j', _, rfl⟩ := List.mem_map.mp hq
        exact h.1 ((Prod.mk.inj e).1 ▸ hi)
  exact key _ List.nodup_range
theorem top_of {ι : Type} (w : ι → Nat) (p : ι → Prop) : ∀ (I : List ι), (∃ i ∈ I, p i) → ∃ i0 ∈ I, p i0 ∧ ∀ i ∈ I, p i → w i ≤ w i0
  | [], h => by obtain ⟨i, hi, _⟩ := h; simp at hi
  | x :: I, h => by
    by_cases hI : ∃ i ∈ I, p i
    · obtain ⟨i0, h0, hp0, hm⟩ := top_of w p I hI
      by_cases hx : p x ∧ w i0 ≤ w x
      · refine ⟨x, by simp, hx.1, fun i hi hp => ?_⟩
        rcases List.mem_cons.mp hi with rfl | hi
        · exact Nat.le_refl _
        · exact Nat.le_trans (hm i hi hp) hx.2
      · refine ⟨i0, by simp [h0], hp0, fun i hi hp => ?_⟩
        rcases List.mem_cons.mp hi with rfl | hi
        · exact Nat.le_of_not_le fun q => hx ⟨hp, q⟩
        · exact hm i hi hp
    · obtain ⟨i, hi, hp⟩ := h
      rcases List.mem_cons.mp hi with rfl | hi
      · refine ⟨i, by simp, hp, fun j hj hpj => ?_⟩
        rcases List.mem_cons.mp hj with rfl | hj
        · exact Nat.le_refl _
        · exact absurd ⟨j, hj, hpj⟩ hI
      · exact absurd ⟨i, hi, hp⟩ hI
/-- the footprint bound -/
theorem footprint (α β : Nat) (P : List (Int × Nat × Nat)) (a b : Nat) (hc : ¬ (17 : Int) ∣ Sm P fun t => if t.2 = (a, b) then t.1 else 0) (hlt : ∀ t ∈ P, t.2 ≠ (a, b) → α * t.2.1 + β * t.2.2 < α * a + β * b)
    (X Y : List Int) (hX : X.Pairwise fun x y => ¬ (17 : Int) ∣ y - x) (hY : Y.Pairwise fun x y => ¬ (17 : Int) ∣ y - x) (ha : a < X.length) (hb : b < Y.length)
    (hinj : ∀ p q : Nat × Nat, p.1 < X.length → p.2 < Y.length → q.1 < X.length → q.2 < Y.length → α * p.1 + β * p.2 = α * q.1 + β * q.2 → p = q)
    (S : List (Int × Int)) (hS : ∀ x ∈ X, ∀ y ∈ Y, ¬ (17 : Int) ∣ evP P x y → (x, y) ∈ S) : (X.length - a) * (Y.length - b) ≤ S.length := by
  refine Nat.le_of_not_lt fun hlt' => ?_
  rw [← box_len] at hlt'
  obtain ⟨c, hne, hdep⟩ := dep S (box (X.length - a) (Y.length - b)) (fun p s => s.1 ^ p.1 * s.2 ^ p.2) (box_nodup _ _) hlt'
  obtain ⟨i0, hi0, hc0, hmax⟩ := top_of (fun p : Nat × Nat => α * p.1 + β * p.2) (fun p => ¬ (17 : Int) ∣ c p) _ hne
  have hb0 := box_mem hi0
  generalize hI : box (X.length - a) (Y.length - b) = I at *
  have hbox : ∀ p ∈ I, p.1 < X.length - a ∧ p.2 < Y.length - b := fun p hp => box_mem (hI ▸ hp)
  have hA : a + i0.1 < X.length := by omega
  have hB : b + i0.2 < Y.length := by omega
  have lx : (X.take (a + i0.1 + 1)).length = a + i0.1 + 1 := by rw [List.length_take]; omega
  have ly : (Y.take (b + i0.2 + 1)).length = b + i0.2 + 1 := by rw [List.length_take]; omega
  obtain ⟨Wx, wx1, wx2, wx3⟩ := weights (X.take (a + i0.1 + 1)) (by intro e; rw [e] at lx; simp at lx) (hX.sublist (List.take_sublist ..))
  obtain ⟨Wy, wy1, wy2, wy3⟩ := weights (Y.take (b + i0.2 + 1)) (by intro e; rw [e] at ly; simp at ly) (hY.sublist (List.take_sublist ..))
  rw [lx, Nat.add_sub_cancel] at wx2 wx3
  rw [ly, Nat.add_sub_cancel] at wy2 wy3
  have memX : ∀ p ∈ Wx, p.2 ∈ X := fun p hp => List.mem_of_mem_take (by rw [← wx1]; exact List.mem_map.mpr ⟨p, hp, rfl⟩)
  have memY : ∀ p ∈ Wy, p.2 ∈ Y := fun p hp => List.mem_of_mem_take (by rw [← wy1]; exact List.mem_map.mpr ⟨p, hp, rfl⟩)
  -- the whole sum, which is nought
  have tot : (17 : Int) ∣ Sm Wx fun p => Sm Wy fun q => p.1 * q.1 * ((Sm I fun i => c i * (p.2 ^ i.1 * q.2 ^ i.2)) * evP P p.2 q.2) := by
    refine sm_dvd fun p hp => sm_dvd fun q hq => Int.dvd_mul_of_dvd_right ?_
    by_cases h : (17 : Int) ∣ evP P p.2 q.2
    · exact Int.dvd_mul_of_dvd_right h
    · exact Int.dvd_mul_of_dvd_left (hdep (p.2, q.2) (hS _ (memX p hp) _ (memY q hq) h))
  have e1 : (Sm Wx fun p => Sm Wy fun q => p.1 * q.1 * ((Sm I fun i => c i * (p.2 ^ i.1 * q.2 ^ i.2)) * evP P p.2 q.2)) = Sm I fun i => Sm P fun t => c i * t.1 * (Mo Wx (i.1 + t.2.1) * Mo Wy (i.2 + t.2.2)) := by
    have s1 : ∀ p q : Int × Int, p.1 * q.1 * ((Sm I fun i => c i * (p.2 ^ i.1 * q.2 ^ i.2)) * evP P p.2 q.2) = Sm I fun i => Sm P fun t => (c i * t.1) * ((p.1 * p.2 ^ (i.1 + t.2.1)) * (q.1 * q.2 ^ (i.2 + t.2.2))) := fun p q => by
      unfold evP
      rw [sm_prod, ← sm_mul]
      refine sm_congr fun i _ => ?_
      rw [← sm_mul]
      refine sm_congr fun t _ => ?_
      rw [Int.pow_add, Int.pow_add]
      ac_rfl
    rw [sm_congr fun p _ => sm_congr fun q _ => s1 p q, sm4]
    refine sm_congr fun i _ => sm_congr fun t _ => ?_
    unfold Mo
    rw [sm_prod, ← sm_mul]
    refine sm_congr fun p _ => ?_
    rw [← sm_mul]
  rw [e1] at tot
  -- its one term
  have e2 : Cg (Sm I fun i => Sm P fun t => c i * t.1 * (Mo Wx (i.1 + t.2.1) * Mo Wy (i.2 + t.2.2))) (Sm I fun i => Sm P fun t => if i = i0 then (if t.2 = (a, b) then t.1 else 0) * (c i0 * (Mo Wx (a + i0.1) * Mo Wy (b + i0.2))) else 0) := by
    refine cg_sm fun i hi => cg_sm fun t ht => ?_
    have low : α * (i.1 + t.2.1) + β * (i.2 + t.2.2) < α * (a + i0.1) + β * (b + i0.2) → (17 : Int) ∣ c i * t.1 * (Mo Wx (i.1 + t.2.1) * Mo Wy (i.2 + t.2.2)) := fun h => by
      refine Int.dvd_mul_of_dvd_right ?_
      by_cases h1 : i.1 + t.2.1 < a + i0.1
      · exact Int.dvd_mul_of_dvd_left (wx2 _ h1)
      · by_cases h2 : i.2 + t.2.2 < b + i0.2
        · exact Int.dvd_mul_of_dvd_right (wy2 _ h2)
        · have := Nat.mul_le_mul_left α (Nat.le_of_not_lt h1)
          have := Nat.mul_le_mul_left β (Nat.le_of_not_lt h2)
          omega
    by_cases hd : (17 : Int) ∣ c i
    · have hne : i ≠ i0 := fun e => hc0 (e ▸ hd)
      rw [if_neg hne, cg_zero, Int.mul_assoc]
      exact Int.dvd_mul_of_dvd_left hd
    · have hw := hmax i hi hd
      simp only [Nat.mul_add] at low
      by_cases he : i = i0
      · rw [if_pos he]
        subst he
        by_cases ht' : t.2 = (a, b)
        · rw [if_pos ht', ht']
          have : c i * t.1 * (Mo Wx (i.1 + a) * Mo Wy (i.2 + b)) = t.1 * (c i * (Mo Wx (a + i.1) * Mo Wy (b + i.2))) := by
            rw [Nat.add_comm i.1 a, Nat.add_comm i.2 b]; ac_rfl
          rw [this]; exact cg_rfl _
        · have := hlt t ht ht'
          rw [if_neg ht', Int.zero_mul, cg_zero]
          exact low (by omega)
      · rw [if_neg he, cg_zero]
        have hb1 := hbox i hi
        have hs : α * i.1 + β * i.2 ≠ α * i0.1 + β * i0.2 := fun q => he (hinj i i0 (by omega) (by omega) (by omega) (by omega) q)
        have : α * t.2.1 + β * t.2.2 ≤ α * a + β * b := by
          by_cases ht' : t.2 = (a, b)
          · rw [ht']; exact Nat.le_refl _
          · exact Nat.le_of_lt (hlt t ht ht')
        exact low (by omega)
  have e3 : (Sm I fun i => Sm P fun t => if i = i0 then (if t.2 = (a, b) then t.1 else 0) * (c i0 * (Mo Wx (a + i0.1) * Mo Wy (b + i0.2))) else 0) = (Sm P fun t => if t.2 = (a, b) then t.1 else 0) * (c i0 * (Mo Wx (a + i0.1) * Mo Wy (b + i0.2))) := by
    have hn : I.Nodup := hI ▸ box_nodup _ _
    rw [sm_erase hi0]
    have z : (Sm (I.erase i0) fun i => Sm P fun t => if i = i0 then (if t.2 = (a, b) then t.1 else 0) * (c i0 * (Mo Wx (a + i0.1) * Mo Wy (b + i0.2))) else 0) = 0 := by
      rw [sm_congr (g := fun _ => 0) fun i hi => ?_, sm_zero]
      have : i ≠ i0 := fun e => by subst e; exact hn.not_mem_erase hi
      rw [sm_congr (g := fun _ => 0) fun t _ => if_neg this, sm_zero]
    rw [z, Int.add_zero, ← sm_mulr]
    exact sm_congr fun t _ => if_pos rfl
  rw [e3] at e2
  refine nd_mul hc (nd_mul hc0 (nd_mul wx3 wy3)) ?_
  unfold Cg at e2; omega
end Mine
end

section
set_option Elab.async false
set_option linter.unusedVariables false
namespace Mine
/-! the plain law -/
noncomputable def Basic (t : T) : Prop := 0 ≤ t.1.1 ∧ t.1.1 ≤ 2 ∧ 0 ≤ t.1.2.1 ∧ t.1.2.1 ≤ 2 ∧ t.1.2.2 = t.1.1 + t.1.2.1 ∧ 0 ≤ t.2 ∧ t.2 ≤ 15
noncomputable def Nice (t : T) : Prop := 0 ≤ t.1.1 ∧ t.1.1 ≤ 4 ∧ 0 ≤ t.1.2.1 ∧ t.1.2.1 ≤ 4 ∧ t.1.2.2 = t.1.1 + t.1.2.1
theorem sameAB_iff (t u : T) : sameAB t u = true ↔ t.1.1 = u.1.1 ∧ t.1.2.1 = u.1.2.1 := by
  unfold sameAB; rw [beq_iff_eq]; simp
theorem sameAB_rfl (t : T) : sameAB t t = true := (sameAB_iff t t).mpr ⟨rfl, rfl⟩
theorem termOf_basic (n : Int) : Basic (termOf n) := by
  unfold Basic termOf
  refine ⟨?_, ?_, ?_, ?_, rfl, ?_, ?_⟩ <;> dsimp only <;> omega
noncomputable def Apart (l : List T) : Prop := l.Pairwise fun t u => sameAB t u = false
theorem terms_ok : ∀ (ns : List Int) (acc : List T), (∀ t ∈ acc, Basic t) → Apart acc → (∀ t ∈ termsF ns acc, Basic t) ∧ Apart (termsF ns acc) ∧ (termsF ns acc).length ≤ acc.length + ns.length ∧ acc.length ≤ (termsF ns acc).length ∧ (ns ≠ [] → termsF ns acc ≠ [])
  | [], acc, h1, h2 => ⟨h1, h2, Nat.le_refl _, Nat.le_refl _, fun h => absurd rfl h⟩
  | n :: ns, acc, h1, h2 => by
    by_cases h : (acc.filter fun t => sameAB t (termOf n)) = []
    · rw [show termsF (n :: ns) acc = termsF ns (acc ++ [termOf n]) from if_pos h]
      have b1 : ∀ t ∈ acc ++ [termOf n], Basic t := fun t ht => by
        rcases List.mem_append.mp ht with ht | ht
        · exact h1 t ht
        · rw [List.mem_singleton.mp ht]; exact termOf_basic n
      have b2 : Apart (acc ++ [termOf n]) := by
        unfold Apart
        rw [List.pairwise_append]
        refine ⟨h2, List.pairwise_singleton .., fun t ht u hu => ?_⟩
        rw [List.mem_singleton.mp hu]
        have := List.filter_eq_nil_iff.mp h t ht
        simpa using this
      obtain ⟨q1, q2, q3, q4, q5⟩ := terms_ok ns (acc ++ [termOf n]) b1 b2
      rw [List.length_append, List.length_singleton] at q3 q4
      refine ⟨q1, q2, by rw [List.length_cons]; omega, by omega, fun _ e => ?_⟩
      rw [e] at q4; simp at q4
    · rw [show termsF (n :: ns) acc = termsF ns acc from if_neg h]
      obtain ⟨q1, q2, q3, q4, q5⟩ := terms_ok ns acc h1 h2
      refine ⟨q1, q2, by rw [List.length_cons]; omega, q4, fun _ e => ?_⟩
      rw [e] at q4
      have : acc = [] := List.length_eq_zero_iff.mp (by simpa using q4)
      rw [this] at h
      exact h rfl
theorem apart_eq {l : List T} (h : Apart l) {t u : T} (ht : t ∈ l) (hu : u ∈ l) (e : sameAB t u = true) : t = u := by
  induction l with
  | nil => simp at ht
  | cons x l ih =>
    unfold Apart at h
    rw [List.pairwise_cons] at h
    rcases List.mem_cons.mp ht with e1 | ht'
    · rcases List.mem_cons.mp hu with e2 | hu'
      · rw [e1, e2]
      · rw [e1, h.1 u hu'] at e; cases e
    · rcases List.mem_cons.mp hu with e2 | hu'
      · have e' : sameAB u t = true := by
          rw [sameAB_iff] at e ⊢; exact ⟨e.1.symm, e.2.symm⟩
        rw [e2, h.1 t ht'] at e'; cases e'
      · exact ih h.2 ht' hu'
theorem apart_nodup {l : List T} (h : Apart l) : l.Nodup := by
  unfold Apart at h
  unfold List.Nodup
  exact h.imp fun {a b} q e => by subst e; rw [sameAB_rfl] at q; cases q
theorem prod_mem {one other : List T} {p : T} (h : p ∈ prodF one other) : ∃ t ∈ one, ∃ u ∈ other, p = addT t u := by
  obtain ⟨t, ht, h⟩ := List.mem_flatMap.mp h
  obtain ⟨u, hu, rfl⟩ := List.mem_map.mp h
  exact ⟨t, ht, u, hu, rfl⟩
theorem mem_prod {one other : List T} {t u : T} (ht : t ∈ one) (hu : u ∈ other) : addT t u ∈ prodF one other :=
  List.mem_flatMap.mpr ⟨t, ht, List.mem_map.mpr ⟨u, hu, rfl⟩⟩
theorem basic_nice {t : T} (h : Basic t) : Nice t := by unfold Basic at h; unfold Nice; omega
theorem basic_ok {t : T} (h : Basic t) : TermOk t := by unfold Basic at h; unfold TermOk; omega
theorem add_nice {t u : T} (h : Basic t) (k : Basic u) : Nice (addT t u) ∧ TermOk (addT t u) := by
  unfold Basic at h k; unfold Nice TermOk addT; dsimp only; omega
/-- the sum whose rest is the worth -/
noncomputable def fW (ts : List T) (x y : Int) : Int := Sm ts fun t => 3 ^ t.2.toNat * x ^ t.1.1.toNat * y ^ t.1.2.1.toNat
theorem worth_fW (ts : List T) (x y : Nat) : worthF ts x y = fW ts x y % 17 := rfl
theorem fW_prod (one other : List T) (h1 : ∀ t ∈ one, Basic t) (h2 : ∀ t ∈ other, Basic t) (x y : Int) : fW (prodF one other) x y = fW one x y * fW other x y := by
  unfold fW prodF
  rw [sm_flat, sm_prod]
  refine sm_congr fun t ht => ?_
  rw [sm_map]
  refine sm_congr fun u hu => ?_
  have b1 := h1 t ht
  have b2 := h2 u hu
  unfold Basic at b1 b2
  show 3 ^ (u.2 + t.2).toNat * x ^ (u.1.1 + t.1.1).toNat * y ^ (u.1.2.1 + t.1.2.1).toNat = _
  rw [show (u.2 + t.2).toNat = u.2.toNat + t.2.toNat by omega, show (u.1.1 + t.1.1).toNat = u.1.1.toNat + t.1.1.toNat by omega, show (u.1.2.1 + t.1.2.1).toNat = u.1.2.1.toNat + t.1.2.1.toNat by omega, Int.pow_add, Int.pow_add, Int.pow_add]
  ac_rfl
/-- what a pair of keys weighs -/
structure OrdOk (ks : List (Nat × Int)) (α β : Nat) : Prop where
  cmp : ∀ t u : T, Nice t → Nice u → (cmpF ks t.1 u.1 > 0 ↔ (α : Int) * u.1.1 + β * u.1.2.1 < α * t.1.1 + β * t.1.2.1)
  inj : ∀ p q : Nat × Nat, p.1 < 7 → p.2 < 7 → q.1 < 7 → q.2 < 7 → α * p.1 + β * p.2 = α * q.1 + β * q.2 → p = q
theorem ord_all : ∀ ks ∈ KS, ∃ α β, OrdOk ks α β := by
  intro ks hk
  have inj : ∀ α β : Nat, (∀ a b c d : Nat, a < 7 → b < 7 → c < 7 → d < 7 → α * a + β * b = α * c + β * d → a = c ∧ b = d) → ∀ p q : Nat × Nat, p.1 < 7 → p.2 < 7 → q.1 < 7 → q.2 < 7 → α * p.1 + β * p.2 = α * q.1 + β * q.2 → p = q := fun α β h p q h1 h2 h3 h4 e => by
    obtain ⟨e1, e2⟩ := h p.1 p.2 q.1 q.2 h1 h2 h3 h4 e
    exact Prod.ext e1 e2
  simp only [KS, List.mem_cons, List.not_mem_nil, or_false] at hk
  rcases hk with rfl | rfl | rfl | rfl
  · refine ⟨100, 1, fun t u ht hu => ?_, inj _ _ (by omega)⟩
    unfold Nice at ht hu
    simp only [cmpF, col]
    split
    · omega
    · split
      · omega
      · split
        · omega
        · split <;> omega
  · refine ⟨1, 100, fun t u ht hu => ?_, inj _ _ (by omega)⟩
    unfold Nice at ht hu
    simp only [cmpF, col]
    split
    · omega
    · split
      · omega
      · split
        · omega
        · split <;> omega
  · refine ⟨101, 100, fun t u ht hu => ?_, inj _ _ (by omega)⟩
    unfold Nice at ht hu
    simp only [cmpF, col]
    split
    · omega
    · split
      · omega
      · split
        · omega
        · split <;> omega
  · refine ⟨100, 101, fun t u ht hu => ?_, inj _ _ (by omega)⟩
    unfold Nice at ht hu
    simp only [cmpF, col]
    split
    · omega
    · split
      · omega
      · split
        · omega
        · split <;> omega
noncomputable def wI (α β : Nat) (t : T) : Int := (α : Int) * t.1.1 + β * t.1.2.1
theorem wI_inj {ks : List (Nat × Int)} {α β : Nat} (H : OrdOk ks α β) {t u : T} (ht : Nice t) (hu : Nice u) (e : wI α β t = wI α β u) : t.1 = u.1 := by
  unfold Nice at ht hu
  unfold wI at e
  have := H.inj (t.1.1.toNat, t.1.2.1.toNat) (u.1.1.toNat, u.1.2.1.toNat) (by show t.1.1.toNat < 7; omega) (by show t.1.2.1.toNat < 7; omega) (by show u.1.1.toNat < 7; omega) (by show u.1.2.1.toNat < 7; omega) (by
    have h1 : ((t.1.1.toNat : Nat) : Int) = t.1.1 := by omega
    have h2 : ((t.1.2.1.toNat : Nat) : Int) = t.1.2.1 := by omega
    have h3 : ((u.1.1.toNat : Nat) : Int) = u.1.1 := by omega
    have h4 : ((u.1.2.1.toNat : Nat) : Int) = u.1.2.1 := by omega
    have : ((α * t.1.1.toNat + β * t.1.2.1.toNat : Nat) : Int) = ((α * u.1.1.toNat + β * u.1.2.1.toNat : Nat) : Int) := by
      rw [Int.natCast_add, Int.natCast_mul, Int.natCast_mul, Int.natCast_add, Int.natCast_mul, Int.natCast_mul, h1, h2, h3, h4]; exact e
    exact Int.ofNat.inj this)
  obtain ⟨e1, e2⟩ := Prod.mk.inj this
  refine Prod.ext (by omega) (Prod.ext (by omega) (by omega))
theorem greatest_ok {ks : List (Nat × Int)} {α β : Nat} (H : OrdOk ks α β) : ∀ (r : List T) (g : T), (∀ t ∈ g :: r, Nice t) → greatestF ks g r ∈ g :: r ∧ ∀ t ∈ g :: r, wI α β t ≤ wI α β (greatestF ks g r)
  | [], g, _ => ⟨by simp [greatestF], fun t ht => by rw [List.mem_singleton.mp ht]; exact Int.le_refl _⟩
  | t :: r, g, hn => by
    have hc := H.cmp t g (hn t (by simp)) (hn g (by simp))
    by_cases h : cmpF ks t.1 g.1 > 0
    · rw [show greatestF ks g (t :: r) = greatestF ks t r from if_pos h]
      obtain ⟨q1, q2⟩ := greatest_ok H r t fun u hu => hn u (by simp only [List.mem_cons] at hu ⊢; exact .inr hu)
      refine ⟨List.mem_cons_of_mem _ q1, fun u hu => ?_⟩
      rcases List.mem_cons.mp hu with rfl | hu
      · have := hc.mp h
        have := q2 t (by simp)
        unfold wI at *; omega
      · exact q2 u hu
    · rw [show greatestF ks g (t :: r) = greatestF ks g r from if_neg h]
      obtain ⟨q1, q2⟩ := greatest_ok H r g fun u hu => hn u (by simp only [List.mem_cons] at hu ⊢; exact hu.imp id .inr)
      refine ⟨by simp only [List.mem_cons] at q1 ⊢; exact q1.imp id .inr, fun u hu => ?_⟩
      rcases List.mem_cons.mp hu with rfl | hu
      · exact q2 u (by simp)
      · rcases List.mem_cons.mp hu with rfl | hu
        · have : ¬ _ := fun q => h (hc.mpr q)
          have := q2 g (by simp)
          unfold wI at *; omega
        · exact q2 u (by simp [hu])
theorem filter_sum {α : Type} (l : List α) (p : α → Bool) (f : α → Int) : ((l.filter p).map f).sum = Sm l fun x => if p x = true then f x else 0 := by
  induction l with
  | nil => rfl
  | cons x l ih =>
    rw [sm_cons, List.filter_cons]
    by_cases h : p x = true
    · rw [if_pos h, if_pos h, List.map_cons, List.sum_cons, ih]
    · rw [if_neg h, if_neg h, ih]; omega
theorem whole_sm (ts : List T) (t : T) : wholeF ts t = (Sm ts fun o => if sameAB o t = true then 3 ^ o.2.toNat else 0) % 17 := by
  unfold wholeF; rw [filter_sum]
theorem left_ok (ts : List T) : ∀ (r acc : List T), (∀ q ∈ acc, ∃ t ∈ ts, q = (t.1, wholeF ts t)) → (∀ t ∈ r, t ∈ ts) →
    (∀ q ∈ leftF ts r acc, ∃ t ∈ ts, q = (t.1, wholeF ts t)) ∧ (∀ q ∈ acc, q ∈ leftF ts r acc) ∧ (∀ t ∈ r, wholeF ts t ≠ 0 → ∃ q ∈ leftF ts r acc, sameAB q t = true) ∧ (leftF ts r acc).length ≤ acc.length + r.length
  | [], acc, h1, _ => ⟨h1, fun _ h => h, fun t ht => by simp at ht, Nat.le_refl _⟩
  | t :: r, acc, h1, h2 => by
    by_cases h : wholeF ts t ≠ 0 ∧ (acc.filter fun o => sameAB o t) = []
    · rw [show leftF ts (t :: r) acc = leftF ts r (acc ++ [(t.1, wholeF ts t)]) from if_pos h]
      obtain ⟨q1, q2, q3, q4⟩ := left_ok ts r (acc ++ [(t.1, wholeF ts t)]) (fun q hq => by
        rcases List.mem_append.mp hq with hq | hq
        · exact h1 q hq
        · rw [List.mem_singleton.mp hq]; exact ⟨t, h2 t (by simp), rfl⟩) fun u hu => h2 u (by simp [hu])
      refine ⟨q1, fun q hq => q2 q (by simp [hq]), fun u hu hw => ?_, by simp at q4 ⊢; omega⟩
      rcases List.mem_cons.mp hu with rfl | hu
      · exact ⟨_, q2 (u.1, wholeF ts u) (by simp), (sameAB_iff _ _).mpr ⟨rfl, rfl⟩⟩
      · exact q3 u hu hw
    · rw [show leftF ts (t :: r) acc = leftF ts r acc from if_neg h]
      obtain ⟨q1, q2, q3, q4⟩ := left_ok ts r acc h1 fun u hu => h2 u (by simp [hu])
      refine ⟨q1, q2, fun u hu hw => ?_, by simp; omega⟩
      rcases List.mem_cons.mp hu with rfl | hu
      · have hne : (acc.filter fun o => sameAB o u) ≠ [] := fun e => h ⟨hw, e⟩
        obtain ⟨q, hq⟩ := List.exists_mem_of_ne_nil _ hne
        obtain ⟨m1, m2⟩ := List.mem_filter.mp hq
        exact ⟨q, q2 q m1, m2⟩
      · exact q3 u hu hw
theorem three_nd : ∀ n : Nat, ¬ (17 : Int) ∣ 3 ^ n
  | 0 => by decide
  | n + 1 => by rw [Int.pow_succ]; exact nd_mul (three_nd n) (by decide)
end Mine
end

section
set_option Elab.async false
set_option linter.unusedVariables false
namespace Mine
section
variable {one other : List T} {ks : List (Nat × Int)} {α β : Nat}
/-- what is known of the two factors -/
structure Fac (one other : List T) : Prop where
  n1 : one ≠ []
  n2 : other ≠ []
  l1 : one.length ≤ 3
  l2 : other.length ≤ 3
  b1 : ∀ t ∈ one, Basic t
  b2 : ∀ t ∈ other, Basic t
  a1 : Apart one
  a2 : Apart other
theorem head_tail {l : List T} (h : l ≠ []) : l.headD default :: l.tail = l := by cases l with | nil => exact absurd rfl h | cons x l => rfl
theorem lead_parts (F : Fac one other) (H : OrdOk ks α β) : ∃ G1 ∈ one, ∃ G2 ∈ other, leadF ks one other = addT G1 G2 ∧ (∀ t ∈ one, wI α β t ≤ wI α β G1) ∧ ∀ t ∈ other, wI α β t ≤ wI α β G2 := by
  have h1 := head_tail F.n1
  have h2 := head_tail F.n2
  obtain ⟨q1, q2⟩ := greatest_ok H one.tail (one.headD default) (by rw [h1]; exact fun t ht => basic_nice (F.b1 t ht))
  obtain ⟨q3, q4⟩ := greatest_ok H other.tail (other.headD default) (by rw [h2]; exact fun t ht => basic_nice (F.b2 t ht))
  rw [h1] at q1 q2
  rw [h2] at q3 q4
  exact ⟨_, q1, _, q3, rfl, q2, q4⟩
theorem wI_add (t u : T) : wI α β (addT t u) = wI α β t + wI α β u := by
  unfold wI addT; dsimp only; rw [Int.mul_add, Int.mul_add]; omega
/-- the pair that makes the lead stands alone -/
theorem lead_alone (F : Fac one other) (H : OrdOk ks α β) {G1 G2 : T} (h1 : G1 ∈ one) (h2 : G2 ∈ other) (m1 : ∀ t ∈ one, wI α β t ≤ wI α β G1) (m2 : ∀ t ∈ other, wI α β t ≤ wI α β G2) {t u : T} (ht : t ∈ one) (hu : u ∈ other)
    (e : sameAB (addT t u) (addT G1 G2) = true) : t = G1 ∧ u = G2 := by
  obtain ⟨e1, e2⟩ := (sameAB_iff _ _).mp e
  have ew : wI α β (addT t u) = wI α β (addT G1 G2) := by unfold wI; rw [e1, e2]
  rw [wI_add, wI_add] at ew
  have := m1 t ht
  have := m2 u hu
  have x1 := wI_inj H (basic_nice (F.b1 t ht)) (basic_nice (F.b1 _ h1)) (by omega)
  have x2 := wI_inj H (basic_nice (F.b2 u hu)) (basic_nice (F.b2 _ h2)) (by omega)
  exact ⟨apart_eq F.a1 ht h1 ((sameAB_iff _ _).mpr ⟨by rw [x1], by rw [x1]⟩), apart_eq F.a2 hu h2 ((sameAB_iff _ _).mpr ⟨by rw [x2], by rw [x2]⟩)⟩
theorem lone (F : Fac one other) (H : OrdOk ks α β) {G1 G2 : T} (h1 : G1 ∈ one) (h2 : G2 ∈ other) (m1 : ∀ t ∈ one, wI α β t ≤ wI α β G1) (m2 : ∀ t ∈ other, wI α β t ≤ wI α β G2) :
    (Sm (prodF one other) fun o => if sameAB o (addT G1 G2) = true then (3 : Int) ^ o.2.toNat else 0) = 3 ^ (addT G1 G2).2.toNat := by
  unfold prodF
  rw [sm_flat]
  have inner : ∀ t ∈ one, (Sm (other.map fun u => addT t u) fun o => if sameAB o (addT G1 G2) = true then (3 : Int) ^ o.2.toNat else 0) = if t = G1 then 3 ^ (addT G1 G2).2.toNat else 0 := fun t ht => by
    rw [sm_map]
    by_cases e : t = G1
    · rw [if_pos e, sm_erase h2]
      subst e
      rw [if_pos (sameAB_rfl _)]
      have z : (Sm (other.erase G2) fun x => if sameAB (addT t x) (addT t G2) = true then (3 : Int) ^ (addT t x).2.toNat else 0) = 0 := by
        rw [sm_congr (g := fun _ => 0) fun u hu => ?_, sm_zero]
        refine if_neg fun q => ?_
        have hu' := List.mem_of_mem_erase hu
        obtain ⟨_, e2⟩ := lead_alone F H h1 h2 m1 m2 ht hu' q
        subst e2
        exact (apart_nodup F.a2).not_mem_erase hu
      rw [z]; omega
    · rw [if_neg e, sm_congr (g := fun _ => 0) fun u hu => ?_, sm_zero]
      exact if_neg fun q => e (lead_alone F H h1 h2 m1 m2 ht hu q).1
  rw [sm_congr inner, sm_erase h1, if_pos rfl]
  have z : (Sm (one.erase G1) fun t => if t = G1 then (3 : Int) ^ (addT G1 G2).2.toNat else 0) = 0 := by
    rw [sm_congr (g := fun _ => 0) fun t ht => ?_, sm_zero]
    refine if_neg fun q => ?_
    subst q
    exact (apart_nodup F.a1).not_mem_erase ht
  rw [z]; omega
theorem whole_same (ts : List T) {t u : T} (e : sameAB t u = true) : wholeF ts t = wholeF ts u := by
  rw [whole_sm, whole_sm]
  congr 1
  refine sm_congr fun o _ => ?_
  obtain ⟨e1, e2⟩ := (sameAB_iff _ _).mp e
  have : sameAB o t = sameAB o u := by unfold sameAB; rw [e1, e2]
  rw [this]
theorem lead_left (F : Fac one other) (H : OrdOk ks α β) : leftF (prodF one other) (prodF one other) [] ≠ [] ∧
    greatestF ks ((leftF (prodF one other) (prodF one other) []).headD default) (leftF (prodF one other) (prodF one other) []).tail = ((leadF ks one other).1, 3 ^ (leadF ks one other).2.toNat % 17) := by
  obtain ⟨G1, h1, G2, h2, hL, m1, m2⟩ := lead_parts F H
  rw [hL]
  have hlone := lone F H h1 h2 m1 m2
  obtain ⟨r1, _, r3, _⟩ := left_ok (prodF one other) (prodF one other) [] (fun q h => by simp at h) fun _ h => h
  have hLm : addT G1 G2 ∈ prodF one other := mem_prod h1 h2
  have hw : wholeF (prodF one other) (addT G1 G2) = 3 ^ (addT G1 G2).2.toNat % 17 := by rw [whole_sm, hlone]
  have hw0 : wholeF (prodF one other) (addT G1 G2) ≠ 0 := by
    rw [hw]; intro q; exact three_nd _ (Int.dvd_of_emod_eq_zero q)
  obtain ⟨q, hq, hqs⟩ := r3 _ hLm hw0
  generalize leftF (prodF one other) (prodF one other) [] = R at *
  have hne : R ≠ [] := by intro e; rw [e] at hq; simp at hq
  refine ⟨hne, ?_⟩
  have nice : ∀ p ∈ prodF one other, Nice p := fun p hp => by
    obtain ⟨t, ht, u, hu, rfl⟩ := prod_mem hp
    exact (add_nice (F.b1 t ht) (F.b2 u hu)).1
  have niceR : ∀ p ∈ R, Nice p := fun p hp => by
    obtain ⟨t, ht, rfl⟩ := r1 p hp
    exact nice t ht
  obtain ⟨s1, s2⟩ := greatest_ok H R.tail (R.headD default) (by rw [head_tail hne]; exact niceR)
  rw [head_tail hne] at s1 s2
  obtain ⟨t, ht, hQ⟩ := r1 _ s1
  rw [hQ]
  have w1 : wI α β t ≤ wI α β (addT G1 G2) := by
    obtain ⟨t', ht', u', hu', rfl⟩ := prod_mem ht
    rw [wI_add, wI_add]
    have := m1 t' ht'
    have := m2 u' hu'
    omega
  have w2 : wI α β (addT G1 G2) ≤ wI α β t := by
    have := s2 q hq
    rw [hQ] at this
    obtain ⟨e1, e2⟩ := (sameAB_iff _ _).mp hqs
    have e3 : wI α β q = wI α β (addT G1 G2) := by unfold wI; rw [e1, e2]
    rw [e3] at this
    exact this
  have e := wI_inj H (nice t ht) (nice _ hLm) (by omega)
  have es : sameAB t (addT G1 G2) = true := (sameAB_iff _ _).mpr ⟨by rw [e], by rw [e]⟩
  rw [whole_same _ es, hw, e]
/-! the count -/
noncomputable def prs (cs rs : List Nat) : List (Nat × Nat) := cs.flatMap fun x => rs.map fun y => (x, y)
theorem oct_prs (cs rs : List Nat) : octF cs rs = (prs cs rs).map fun p => 16 * p.1 + p.2 := by
  unfold octF prs
  rw [List.map_flatMap]
  congr 1
  funext x
  rw [List.map_map]; rfl
theorem cnt_filter (ts : List T) : ∀ (l : List (Nat × Nat)), (∀ p ∈ l, p.2 < 16) → cntF ts (l.map fun p => 16 * p.1 + p.2) = ((l.filter fun p => worthF ts p.1 p.2 != 0).length : Int)
  | [], _ => rfl
  | p :: l, h => by
    have ih := cnt_filter ts l fun q hq => h q (by simp [hq])
    have hp := h p (by simp)
    rw [List.map_cons, List.filter_cons]
    show (if worthF ts ((16 * p.1 + p.2) / 16) ((16 * p.1 + p.2) % 16) != 0 then 1 else 0) + cntF ts (l.map fun p => 16 * p.1 + p.2) = _
    rw [show (16 * p.1 + p.2) / 16 = p.1 by omega, show (16 * p.1 + p.2) % 16 = p.2 by omega, ih]
    by_cases e : (worthF ts p.1 p.2 != 0) = true
    · rw [if_pos e, if_pos e, List.length_cons]; omega
    · rw [if_neg e, if_neg e]; omega
theorem pts_apart {l : List Nat} (h : l.Pairwise (· < ·)) (hb : ∀ x ∈ l, x < 16) : (l.map fun (x : Nat) => (x : Int)).Pairwise fun x y => ¬ (17 : Int) ∣ y - x := by
  induction l with
  | nil => exact List.Pairwise.nil
  | cons x l ih =>
    rw [List.pairwise_cons] at h
    rw [List.map_cons, List.pairwise_cons]
    refine ⟨fun y hy => ?_, ih h.2 fun z hz => hb z (by simp [hz])⟩
    obtain ⟨z, hz, rfl⟩ := List.mem_map.mp hy
    have := h.1 z hz
    have := hb z (by simp [hz])
    omega
theorem count_ok (F : Fac one other) (H : OrdOk ks α β) (cs rs : List Nat) (hc : cs.Pairwise (· < ·)) (hr : rs.Pairwise (· < ·)) (hcb : ∀ x ∈ cs, x < 16) (hrb : ∀ x ∈ rs, x < 16) (hcl : cs.length ≤ 6) (hrl : rs.length ≤ 6) :
    max 0 ((cs.length : Int) - (leadF ks one other).1.1) * max 0 ((rs.length : Int) - (leadF ks one other).1.2.1) ≤ cntF (prodF one other) (octF cs rs) := by
  obtain ⟨G1, h1, G2, h2, hL, m1, m2⟩ := lead_parts F H
  rw [hL]
  have hlone := lone F H h1 h2 m1 m2
  have hLm : addT G1 G2 ∈ prodF one other := mem_prod h1 h2
  have nice : ∀ p ∈ prodF one other, Nice p := fun p hp => by
    obtain ⟨t, ht, u, hu, rfl⟩ := prod_mem hp
    exact (add_nice (F.b1 t ht) (F.b2 u hu)).1
  have hn := nice _ hLm
  have hle : ∀ p ∈ prodF one other, wI α β p ≤ wI α β (addT G1 G2) := fun p hp => by
    obtain ⟨t, ht, u, hu, rfl⟩ := prod_mem hp
    rw [wI_add, wI_add]
    have := m1 t ht
    have := m2 u hu
    omega
  have hp2 : ∀ p ∈ prs cs rs, p.2 < 16 := fun p hp => by
    obtain ⟨x, _, hp⟩ := List.mem_flatMap.mp hp
    obtain ⟨y, hy, rfl⟩ := List.mem_map.mp hp
    exact hrb y hy
  rw [oct_prs, cnt_filter _ _ hp2]
  generalize hLL : addT G1 G2 = L at *
  generalize prodF one other = P at *
  obtain ⟨n1, n2, n3, n4, n5⟩ := hn
  by_cases ha : (cs.length : Int) ≤ L.1.1
  · rw [Int.max_eq_left (by omega), Int.zero_mul]; omega
  · by_cases hb : (rs.length : Int) ≤ L.1.2.1
    · rw [show max (0 : Int) ((rs.length : Int) - L.1.2.1) = 0 from Int.max_eq_left (by omega), Int.mul_zero]; omega
    · rw [Int.max_eq_right (by omega), Int.max_eq_right (by omega)]
      have key := footprint α β (P.map fun t => ((3 : Int) ^ t.2.toNat, t.1.1.toNat, t.1.2.1.toNat)) L.1.1.toNat L.1.2.1.toNat ?_ ?_ (cs.map fun (x : Nat) => (x : Int)) (rs.map fun (x : Nat) => (x : Int)) (pts_apart hc hcb) (pts_apart hr hrb) (by rw [List.length_map]; omega) (by rw [List.length_map]; omega) ?_
        (((prs cs rs).filter fun p => worthF P p.1 p.2 != 0).map fun p => ((p.1 : Int), (p.2 : Int))) ?_
      · rw [List.length_map, List.length_map, List.length_map] at key
        have e1 : ((cs.length - L.1.1.toNat : Nat) : Int) = (cs.length : Int) - L.1.1 := by omega
        have e2 : ((rs.length - L.1.2.1.toNat : Nat) : Int) = (rs.length : Int) - L.1.2.1 := by omega
        rw [← e1, ← e2, ← Int.natCast_mul]
        exact Int.ofNat_le.mpr key
      · rw [sm_map]
        rw [sm_congr (g := fun o => if sameAB o L = true then (3 : Int) ^ o.2.toNat else 0) fun t ht => ?_, hlone]
        · exact three_nd _
        · obtain ⟨k1, k2, k3, k4, k5⟩ := nice t ht
          have : ((t.1.1.toNat, t.1.2.1.toNat) = (L.1.1.toNat, L.1.2.1.toNat)) ↔ sameAB t L = true := by
            rw [sameAB_iff, Prod.mk.injEq]; omega
          dsimp only
          by_cases q : sameAB t L = true
          · rw [if_pos (this.mpr q), if_pos q]
          · rw [if_neg fun z => q (this.mp z), if_neg q]
      · intro t' ht' hne
        obtain ⟨t, ht, rfl⟩ := List.mem_map.mp ht'
        dsimp only at hne ⊢
        have hk := nice t ht
        have hw := hle t ht
        have hne' : ¬ wI α β t = wI α β L := fun e => by
          have := wI_inj H hk ⟨n1, n2, n3, n4, n5⟩ e
          exact hne (by rw [this])
        obtain ⟨k1, k2, k3, k4, k5⟩ := hk
        have g1 : ((t.1.1.toNat : Nat) : Int) = t.1.1 := by omega
        have g2 : ((t.1.2.1.toNat : Nat) : Int) = t.1.2.1 := by omega
        have g3 : ((L.1.1.toNat : Nat) : Int) = L.1.1 := by omega
        have g4 : ((L.1.2.1.toNat : Nat) : Int) = L.1.2.1 := by omega
        have : ((α * t.1.1.toNat + β * t.1.2.1.toNat : Nat) : Int) < ((α * L.1.1.toNat + β * L.1.2.1.toNat : Nat) : Int) := by
          rw [Int.natCast_add, Int.natCast_mul, Int.natCast_mul, Int.natCast_add, Int.natCast_mul, Int.natCast_mul, g1, g2, g3, g4]
          unfold wI at hw hne'
          omega
        exact Int.ofNat_lt.mp this
      · intro p q a1 a2 a3 a4 e
        rw [List.length_map] at a1 a2 a3 a4
        exact H.inj p q (by omega) (by omega) (by omega) (by omega) e
      · intro x hx y hy hv
        obtain ⟨x', hx', rfl⟩ := List.mem_map.mp hx
        obtain ⟨y', hy', rfl⟩ := List.mem_map.mp hy
        refine List.mem_map.mpr ⟨(x', y'), List.mem_filter.mpr ⟨List.mem_flatMap.mpr ⟨x', hx', List.mem_map.mpr ⟨y', hy', rfl⟩⟩, ?_⟩, rfl⟩
        rw [bne_iff_ne]
        intro e
        refine hv ?_
        have : evP (P.map fun t => ((3 : Int) ^ t.2.toNat, t.1.1.toNat, t.1.2.1.toNat)) (x' : Int) (y' : Int) = fW P (x' : Int) (y' : Int) := by
          unfold evP fW
          rw [sm_map]
          exact sm_congr fun t _ => by dsimp only; rw [Int.mul_assoc]
        rw [this]
        rw [worth_fW] at e
        exact Int.dvd_of_emod_eq_zero e
end
end Mine
end

section
set_option Elab.async false
set_option linter.unusedVariables false
namespace Mine
theorem cols_mem {n : Int} {x : Nat} (h : x ∈ colsF n) : ∃ k, k < 6 ∧ x = 3 * k := by
  obtain ⟨k, hk, rfl⟩ := List.mem_map.mp h
  exact ⟨k, List.mem_range.mp (List.mem_filter.mp hk).1, rfl⟩
theorem cols_H6 {n : Int} {x : Nat} (h : x ∈ colsF n) : x ∈ H6 ∧ x < 16 := by
  obtain ⟨k, hk, rfl⟩ := cols_mem h
  refine ⟨?_, by omega⟩
  simp only [H6, List.mem_cons, List.not_mem_nil, or_false]
  omega
theorem cols_lt (n : Int) : (colsF n).Pairwise (· < ·) := by
  unfold colsF
  rw [List.pairwise_map]
  exact (List.Pairwise.sublist List.filter_sublist List.pairwise_lt_range).imp fun h => by omega
theorem cols_ne (n : Int) : colsF n ≠ [] := by
  have key : ∃ k : Nat, k < 6 ∧ bitP n k = true := by
    refine Classical.byContradiction fun hq => ?_
    have hz : ∀ k : Nat, k < 6 → (n % 63 + 1) / 2 ^ (k : Int).toNat % 2 = 0 := fun k hk => Classical.byContradiction fun h => hq ⟨k, hk, by unfold bitP; rw [bne_iff_ne]; exact h⟩
    have z0 := hz 0 (by omega)
    have z1 := hz 1 (by omega)
    have z2 := hz 2 (by omega)
    have z3 := hz 3 (by omega)
    have z4 := hz 4 (by omega)
    have z5 := hz 5 (by omega)
    have p0 : (2 : Int) ^ ((0 : Nat) : Int).toNat = 1 := rfl
    have p1 : (2 : Int) ^ ((1 : Nat) : Int).toNat = 2 := rfl
    have p2 : (2 : Int) ^ ((2 : Nat) : Int).toNat = 4 := rfl
    have p3 : (2 : Int) ^ ((3 : Nat) : Int).toNat = 8 := rfl
    have p4 : (2 : Int) ^ ((4 : Nat) : Int).toNat = 16 := rfl
    have p5 : (2 : Int) ^ ((5 : Nat) : Int).toNat = 32 := rfl
    rw [p0] at z0
    rw [p1] at z1
    rw [p2] at z2
    rw [p3] at z3
    rw [p4] at z4
    rw [p5] at z5
    omega
  obtain ⟨k, hk, hb⟩ := key
  intro e
  have : 3 * k ∈ colsF n := List.mem_map.mpr ⟨k, List.mem_filter.mpr ⟨List.mem_range.mpr hk, hb⟩, rfl⟩
  rw [e] at this; simp at this
theorem law_ok {one other : List T} (F : Fac one other) (e f : Int) : LawOk one other e f := by
  have t3 : ∀ t ∈ prodF one other, TermOk t := fun p hp => by
    obtain ⟨t, ht, u, hu, rfl⟩ := prod_mem hp
    exact (add_nice (F.b1 t ht) (F.b2 u hu)).2
  have hl : (leftF (prodF one other) (prodF one other) []).length ≤ 100 := by
    obtain ⟨_, _, _, r4⟩ := left_ok (prodF one other) (prodF one other) [] (fun q h => by simp at h) fun _ h => h
    have : (prodF one other).length ≤ 9 := by rw [prod_len]; exact Nat.le_trans (Nat.mul_le_mul F.l1 F.l2) (by decide)
    simp at r4; omega
  have hK : ([(0, 1), (1, 1)] : List (Nat × Int)) ∈ KS := by simp [KS]
  obtain ⟨α0, β0, H0⟩ := ord_all _ hK
  have hok : OctOk (octF (colsF e) (colsF f)) := by
    intro o ho
    obtain ⟨x, hx, ho⟩ := List.mem_flatMap.mp ho
    obtain ⟨y, hy, rfl⟩ := List.mem_map.mp ho
    have h1 := cols_H6 hx
    have h2 := cols_H6 hy
    rw [show (16 * x + y) / 16 = x by omega, show (16 * x + y) % 16 = y by omega]
    exact ⟨h1.1, h2.1⟩
  have hne : octF (colsF e) (colsF f) ≠ [] := by
    intro q
    have h1 := List.length_pos_iff.mpr (cols_ne e)
    have h2 := List.length_pos_iff.mpr (cols_ne f)
    have h3 := oct_len (colsF e) (colsF f)
    rw [q] at h3
    have := Nat.mul_pos h1 h2
    rw [List.length_nil] at h3
    omega
  refine ⟨F.n1, F.n2, F.l1, F.l2, fun t ht => basic_ok (F.b1 t ht), fun t ht => basic_ok (F.b2 t ht), t3, (lead_left F H0).1, hl, hok, hne, fun o ho => ?_, fun ks hk => ?_, fun ks hk => ?_, fun ks hk => ?_⟩
  · rw [worth_fW, worth_fW, worth_fW, fW_prod one other F.b1 F.b2, Int.mul_emod]
  · obtain ⟨α, β, H⟩ := ord_all ks hk
    obtain ⟨G1, h1, G2, h2, hL, _, _⟩ := lead_parts F H
    rw [hL]
    have := (add_nice (F.b1 _ h1) (F.b2 _ h2)).2
    unfold TermOk at this
    omega
  · obtain ⟨α, β, H⟩ := ord_all ks hk
    exact (lead_left F H).2
  · obtain ⟨α, β, H⟩ := ord_all ks hk
    exact count_ok F H (colsF e) (colsF f) (cols_lt e) (cols_lt f) (fun x hx => (cols_H6 hx).2) (fun x hx => (cols_H6 hx).2) (cols_len e) (cols_len f)
theorem fac_of (a b c d : Int) (ex : List Int) (hex : ex.length ≤ 2) : Fac (termsF ([a, b] ++ ex.take 1) []) (termsF ([c, d] ++ ex.drop 1) []) := by
  obtain ⟨q1, q2, q3, _, q5⟩ := terms_ok ([a, b] ++ ex.take 1) [] (fun t h => by simp at h) List.Pairwise.nil
  obtain ⟨r1, r2, r3, _, r5⟩ := terms_ok ([c, d] ++ ex.drop 1) [] (fun t h => by simp at h) List.Pairwise.nil
  exact ⟨q5 (by simp), r5 (by simp), by rw [List.length_append, List.length_take] at q3; simp only [List.length_cons, List.length_nil] at q3; omega, by rw [List.length_append, List.length_drop] at r3; simp only [List.length_cons, List.length_nil] at r3; omega, q1, r1, q2, r2⟩
/-- the law's def gives True -/
theorem law_true (w : PySem.World) (ns : List Int) (hl : ns.length ≤ 63) : OpN (cx w) 7 (.ref 124) [.lst (ns.map D.int)] (.bool true) :=
  law_code w ns hl fun a b c d e f ex _ hex => law_ok (fac_of a b c d ex hex) e f
end Mine
end

section
open PySem PySem.W PyProof.Rows
set_option Elab.async false
set_option maxRecDepth 100000
set_option maxHeartbeats 0
set_option linter.unusedVariables false
namespace Mine
theorem sys0 (P : Params) : ∃ es n, (boot_o_1 P).data = .dict es n ∧ es.size ≠ 0 := ⟨_, _, rfl, by simp⟩
theorem look_each {P : Str → Value → Prop} : ∀ (l : List (Str × Value)), (∀ p ∈ l, P p.1 p.2) → ∀ x v, l.lookup x = some v → P x v
  | [], _, x, v, e => by simp at e
  | (y, u) :: r, k, x, v, e => by
    rw [List.lookup_cons] at e
    by_cases q : x = y
    · subst q
      rw [show (x == x) = true from by simp] at e
      cases e
      exact k _ (List.mem_cons_self)
    · rw [show (x == y) = false from by simpa using q] at e
      exact look_each r (fun p hp => k p (List.mem_cons_of_mem _ hp)) x v e
theorem main0 {w : World} {h : Heap} {mg : Str → Option Value} (KX : (K0 w.params).In h) (hg : h.Ns mainGlobals mg) : ∃ es n, (ob3_11 w.params).data = .dict es n ∧ ∀ name, nsFind es name = mg name := by
  have e3 : h.get? 3 = some (ob3_11 w.params) := KX 3 _ (by kernel_rfl)
  obtain ⟨o, es, ep, e, d, k, f⟩ := hg
  have e' : h.get? mainGlobals = some (ob3_11 w.params) := e3
  rw [e'] at e
  cases e
  exact ⟨es, ep, d, f⟩
theorem glob0 {w : World} {h : Heap} {mg mb : Str → Option Value} (KX : (K0 w.params).In h) (hg : h.Ns mainGlobals mg) (hb : h.Ns builtinsNs mb) (hbt : ∀ x : Str, x ≠ "__name__" → mb x = bootBuiltins x) : ∀ x v, G0.lookup x = some v → GlobIs h x v := by
  obtain ⟨es, ep, d, f⟩ := main0 KX hg
  cases d
  refine look_each G0 ?_
  have L : ∀ x v, nsFind _ x = some v → GlobIs h x v := fun x v e => .inl ⟨mg, hg, (f x).symm.trans e⟩
  have B : ∀ x v, nsFind _ x = none → x ≠ "__name__" → bootBuiltins x = some v → GlobIs h x v := fun x v e n b => .inr ⟨mg, mb, hg, (f x).symm.trans e, hb, (hbt x n).trans b⟩
  intro p hp
  unfold G0 at hp
  simp only [List.mem_cons, List.not_mem_nil, or_false] at hp
  rcases hp with rfl | rfl | rfl | rfl | rfl | rfl | rfl | rfl | rfl | rfl | rfl | rfl | rfl | rfl | rfl | rfl | rfl | rfl | rfl | rfl | rfl
  · exact L _ _ (by kernel_rfl)
  · exact L _ _ (by kernel_rfl)
  · exact L _ _ (by kernel_rfl)
  · exact L _ _ (by kernel_rfl)
  · exact L _ _ (by kernel_rfl)
  · exact L _ _ (by kernel_rfl)
  · exact L _ _ (by kernel_rfl)
  · exact L _ _ (by kernel_rfl)
  · exact L _ _ (by kernel_rfl)
  · exact L _ _ (by kernel_rfl)
  · exact L _ _ (by kernel_rfl)
  · exact L _ _ (by kernel_rfl)
  · exact B _ _ (by kernel_rfl) (by decide +kernel) (by kernel_rfl)
  · exact B _ _ (by kernel_rfl) (by decide +kernel) (by kernel_rfl)
  · exact B _ _ (by kernel_rfl) (by decide +kernel) (by kernel_rfl)
  · exact B _ _ (by kernel_rfl) (by decide +kernel) (by kernel_rfl)
  · exact B _ _ (by kernel_rfl) (by decide +kernel) (by kernel_rfl)
  · exact B _ _ (by kernel_rfl) (by decide +kernel) (by kernel_rfl)
  · exact B _ _ (by kernel_rfl) (by decide +kernel) (by kernel_rfl)
  · exact B _ _ (by kernel_rfl) (by decide +kernel) (by kernel_rfl)
  · exact B _ _ (by kernel_rfl) (by decide +kernel) (by kernel_rfl)
theorem glob1 {w : World} {h : Heap} {mg : Str → Option Value} (KX : (K0 w.params).In h) (hg : h.Ns mainGlobals mg) : mg (Str.ofString "law") = some (.ref 124) := by
  obtain ⟨es, ep, d, f⟩ := main0 KX hg
  cases d
  exact (f _).symm.trans (by kernel_rfl)
theorem post0 (a : List WData) : row0.toRowW.claim.post a (.bool true) a = true := postW_of (r := row0.toRowW) rfl (w_eq_bool (w_res rfl) w_lit) rfl
theorem hc0 : WalkO q0 loose0 (XL q0 []) hook0.says row0.toRowW lawRec [] (fun f vs => PySem.call f vs) := by
  intro w s₀ s₁ mg mb G Y fa o pm cd doc dV kV ho hd hcd hD hmg hg args vals as hpre hlay hrd hwl hlo
  have KX := kIn_of Y
  refine Ground.open G ?_
  intro T B Dd TE TW
  have TK : TopOk (cx w) s₁.heap := ⟨KX, T.nolimit, glob0 KX T.g T.b T.builtins, by
    obtain ⟨es, n, h1, h2⟩ := sys0 w.params
    exact ⟨boot_o_1 w.params, es, n, KX 1 _ (by kernel_rfl), h1, h2⟩⟩
  have hfa : fa = 124 := by
    have q := glob1 KX T.g
    have q' : mg (Str.ofString "law") = some (.ref fa) := hmg
    rw [q] at q'
    cases q'
    rfl
  clear hmg
  wrow_args hpre hlay hrd hwl hlo
  rename_i ns _ _ _ _ _ _ _ a vs _ hL ra _ _ hI _ hcond _
  subst hfa
  have hlen : ns.length ≤ 63 := by omega
  have hr : ∀ vs (ns : List Int), IntsAre vs ns → RdL [] s₁.heap vs (ns.map D.int) := fun vs ns h => by
    induction h with
    | nil => exact .nil
    | cons n t _ ih => exact .cons (.int _ _) ih
  have hrd : Rd [] s₁.heap (.ref a) (.lst (ns.map D.int)) := by
    obtain ⟨o, h1, h2, n, h3⟩ := hL
    obtain ⟨oc, od, odt, osl⟩ := o
    cases h2
    cases h3
    exact .lst (by simp) h1 (hr _ _ hI)
  have call := law_true w ns hlen callerA [] s₁ (fun e s' => GoodWG row0.claim (classAt s₀.heap) (ExcName.means s₀.heap) [ofPy (PyData.list (ns.map PyData.int))] s₁ (.error e) s') [.ref a] ⟨rfl, by decide +kernel, by decide +kernel⟩ ⟨s₁.heap, TK, fun b o e => ⟨by simp, e⟩⟩ (fun b hb => by simp at hb) (.cons hrd .nil)
  refine wpAny_mono call (fun v s' q => ?_) fun _ _ e => e
  obtain ⟨⟨h', tk, rfl, kp⟩, r⟩ := q
  cases r
  refine GoodW.toG ⟨.inl ⟨.bool true, .bool true, [], rfl, ?_, .bool true, ?_, unshared_nil⟩, kp, rfl, hg⟩
  · intro cls; rfl
  · exact post0 _
end Mine
end

open PySem PySem.W PyProof.Rows
set_option maxRecDepth 100000
set_option linter.unusedVariables false
set_option maxHeartbeats 40000000 in
theorem PySem.Challenge.cw_rl0035_01_holds : PySem.Challenge.rw_rl0035_01.Holds := by
  (w_on; o_law)
  refine holds_open (q := Mine.q0) (loose := Mine.loose0) (Xt := Mine.Xt0) (XP := XL Mine.q0 []) (Yf := Mine.hook0.obs) (Ya := Mine.hook0.val) (YP := Mine.hook0.says) (N := 40000) Mine.left0 (Hook.of Mine.hook0) (Hook.keeps Mine.hook0) (fun s e => xl_of s (Bool.and_eq_true_iff.mp e).1) XL.keeps Mine.def0 (by rfl) (by rfl) (fun s e => recFacts_of (Bool.and_eq_true_iff.mp e).2) (by rfl) (by first | assumption | decide +kernel) (by decide +kernel) ⟨rfl, rfl, rfl, rfl, rfl, by decide +kernel⟩ ?hw Mine.hc0
  case hw => w_witness2
