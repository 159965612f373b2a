import PyProof.Rows.All
import Wide.All
import OpenK.AllK
import Wide.FinOn
import PySem.Challenge.RW_uc0026_01
set_option Elab.async false
set_option linter.all false
set_option maxRecDepth 100000
namespace Mine
noncomputable section
open PySem PySem.W PyProof.Rows
abbrev pw : Program := PySem.Challenge.pw_uc0026_01
@[irreducible] noncomputable def st (i : Nat) : Stmt := pw.main.body.getD i (.Pass default)
noncomputable def nameOfS : Stmt → Str
  | .FunctionDef n _ _ _ _ _ _ _ _ _ => n
  | _ => ⟨#[]⟩
noncomputable def argsOfS : Stmt → Arguments
  | .FunctionDef _ a _ _ _ _ _ _ _ _ => a
  | _ => ⟨[], [], none, [], [], none, []⟩
noncomputable def bodyOfS : Stmt → List Stmt
  | .FunctionDef _ _ b _ _ _ _ _ _ _ => b
  | _ => []
noncomputable def scopeOfS : Stmt → Scope
  | .FunctionDef _ _ _ _ _ _ s _ _ _ => s
  | _ => pw.main.scope
abbrev fnName (i : Nat) : Str := nameOfS (st i)
abbrev fnArgs (i : Nat) : Arguments := argsOfS (st i)
abbrev fnBody (i : Nat) : List Stmt := bodyOfS (st i)
abbrev fnScope (i : Nat) : Scope := scopeOfS (st i)
noncomputable def o11 (P : Params) : Obj := ⟨(.type "tuple"), none, (.seq #[] 0), #[]⟩
noncomputable def o13 (P : Params) : Obj := ⟨(.type "code"), none, (.fields #[(.str (Str.ofString "<module>") 182), (.str (Str.ofString "<module>") 183), (.str (Str.ofString "/claim/cut.py") 184), (.int (.ofNat 1) 0), (.int (.ofNat 0) 0), (.int (.ofNat 0) 0), (.int (.ofNat 0) 0), (.int (.ofNat 0) 0), (.ref 11), (.bool false), (.int (.ofNat 181) 0), (.ref 12), .none, .none, .none, .none, (.int (.ofNat 185) 0), (.int (.ofNat 1) 0), (.str (Str.ofString "/claim/cut.py") 186)]), #[]⟩
noncomputable def o14 (P : Params) : Obj := ⟨(.type "frame"), none, .plain, #[(some (.ref 13)), (some (.ref 3)), (some (.ref 3)), none, (some (.str (Str.ofString "__main__") 164)), none, (some (.ref 0))]⟩
noncomputable def o15 (P : Params) : Obj := ⟨(.type "tuple"), none, (.seq #[] 0), #[]⟩
noncomputable def o16 (P : Params) : Obj := ⟨.none, none, (.fields #[]), #[]⟩
noncomputable def o17 (P : Params) : Obj := ⟨(.type "tuple"), none, (.seq #[(.str (Str.ofString "a") 192), (.str (Str.ofString "b") 193)] 0), #[]⟩
noncomputable def o18 (P : Params) : Obj := ⟨(.type "tuple"), none, (.seq #[] 0), #[]⟩
noncomputable def o19 (P : Params) : Obj := ⟨.none, none, (.func ⟨fnName 1, (Str.ofString "lt"), fnArgs 1, .stmts (fnBody 1), fnScope 1, 0, [], .none, .none, .none, .none, none, .none, .none, 0⟩), #[]⟩
noncomputable def o20 (P : Params) : Obj := ⟨(.type "code"), none, (.fields #[(.str (Str.ofString "lt") 189), (.str (Str.ofString "lt") 190), (.str (Str.ofString "/claim/cut.py") 191), (.int (.ofNat 2) 0), (.int (.ofNat 2) 0), (.int (.ofNat 0) 0), (.int (.ofNat 0) 0), (.int (.ofNat 3) 0), (.ref 15), (.bool true), (.int (.ofNat 181) 0), (.ref 16), .none, (.ref 17), (.ref 18), (.ref 19), (.int (.ofNat 194) 0), (.int (.ofNat 2) 0), (.str (Str.ofString "/claim/cut.py") 195)]), #[]⟩
noncomputable def o21 (P : Params) : Obj := ⟨(.type "function"), none, (.func ⟨fnName 1, (Str.ofString "lt"), fnArgs 1, .stmts (fnBody 1), fnScope 1, 3, [], .none, .none, .none, (.str (Str.ofString "cpy313.operator") 187), none, (.ref 20), .none, 0⟩), #[]⟩
noncomputable def o22 (P : Params) : Obj := ⟨(.type "tuple"), none, (.seq #[] 0), #[]⟩
noncomputable def o23 (P : Params) : Obj := ⟨.none, none, (.fields #[]), #[]⟩
noncomputable def o24 (P : Params) : Obj := ⟨(.type "tuple"), none, (.seq #[(.str (Str.ofString "a") 200), (.str (Str.ofString "b") 201)] 0), #[]⟩
noncomputable def o25 (P : Params) : Obj := ⟨(.type "tuple"), none, (.seq #[] 0), #[]⟩
noncomputable def o26 (P : Params) : Obj := ⟨.none, none, (.func ⟨fnName 2, (Str.ofString "eq"), fnArgs 2, .stmts (fnBody 2), fnScope 2, 0, [], .none, .none, .none, .none, none, .none, .none, 0⟩), #[]⟩
noncomputable def o27 (P : Params) : Obj := ⟨(.type "code"), none, (.fields #[(.str (Str.ofString "eq") 197), (.str (Str.ofString "eq") 198), (.str (Str.ofString "/claim/cut.py") 199), (.int (.ofNat 4) 0), (.int (.ofNat 2) 0), (.int (.ofNat 0) 0), (.int (.ofNat 0) 0), (.int (.ofNat 3) 0), (.ref 22), (.bool true), (.int (.ofNat 181) 0), (.ref 23), .none, (.ref 24), (.ref 25), (.ref 26), (.int (.ofNat 202) 0), (.int (.ofNat 4) 0), (.str (Str.ofString "/claim/cut.py") 203)]), #[]⟩
noncomputable def o28 (P : Params) : Obj := ⟨(.type "function"), none, (.func ⟨fnName 2, (Str.ofString "eq"), fnArgs 2, .stmts (fnBody 2), fnScope 2, 3, [], .none, .none, .none, (.str (Str.ofString "cpy313.operator") 187), none, (.ref 27), .none, 0⟩), #[]⟩
noncomputable def o29 (P : Params) : Obj := ⟨(.type "tuple"), none, (.seq #[] 0), #[]⟩
noncomputable def o30 (P : Params) : Obj := ⟨.none, none, (.fields #[]), #[]⟩
noncomputable def o31 (P : Params) : Obj := ⟨(.type "tuple"), none, (.seq #[(.str (Str.ofString "a") 208), (.str (Str.ofString "b") 209)] 0), #[]⟩
noncomputable def o32 (P : Params) : Obj := ⟨(.type "tuple"), none, (.seq #[] 0), #[]⟩
noncomputable def o33 (P : Params) : Obj := ⟨.none, none, (.func ⟨fnName 3, (Str.ofString "add"), fnArgs 3, .stmts (fnBody 3), fnScope 3, 0, [], .none, .none, .none, .none, none, .none, .none, 0⟩), #[]⟩
noncomputable def o34 (P : Params) : Obj := ⟨(.type "code"), none, (.fields #[(.str (Str.ofString "add") 205), (.str (Str.ofString "add") 206), (.str (Str.ofString "/claim/cut.py") 207), (.int (.ofNat 6) 0), (.int (.ofNat 2) 0), (.int (.ofNat 0) 0), (.int (.ofNat 0) 0), (.int (.ofNat 3) 0), (.ref 29), (.bool true), (.int (.ofNat 181) 0), (.ref 30), .none, (.ref 31), (.ref 32), (.ref 33), (.int (.ofNat 210) 0), (.int (.ofNat 6) 0), (.str (Str.ofString "/claim/cut.py") 211)]), #[]⟩
noncomputable def o35 (P : Params) : Obj := ⟨(.type "function"), none, (.func ⟨fnName 3, (Str.ofString "add"), fnArgs 3, .stmts (fnBody 3), fnScope 3, 3, [], .none, .none, .none, (.str (Str.ofString "cpy313.operator") 187), none, (.ref 34), .none, 0⟩), #[]⟩
noncomputable def o36 (P : Params) : Obj := ⟨(.type "tuple"), none, (.seq #[] 0), #[]⟩
noncomputable def o37 (P : Params) : Obj := ⟨.none, none, (.fields #[]), #[]⟩
noncomputable def o38 (P : Params) : Obj := ⟨(.type "tuple"), none, (.seq #[(.str (Str.ofString "a") 216), (.str (Str.ofString "b") 217)] 0), #[]⟩
noncomputable def o39 (P : Params) : Obj := ⟨(.type "tuple"), none, (.seq #[] 0), #[]⟩
noncomputable def o40 (P : Params) : Obj := ⟨.none, none, (.func ⟨fnName 4, (Str.ofString "floordiv"), fnArgs 4, .stmts (fnBody 4), fnScope 4, 0, [], .none, .none, .none, .none, none, .none, .none, 0⟩), #[]⟩
noncomputable def o41 (P : Params) : Obj := ⟨(.type "code"), none, (.fields #[(.str (Str.ofString "floordiv") 213), (.str (Str.ofString "floordiv") 214), (.str (Str.ofString "/claim/cut.py") 215), (.int (.ofNat 8) 0), (.int (.ofNat 2) 0), (.int (.ofNat 0) 0), (.int (.ofNat 0) 0), (.int (.ofNat 3) 0), (.ref 36), (.bool true), (.int (.ofNat 181) 0), (.ref 37), .none, (.ref 38), (.ref 39), (.ref 40), (.int (.ofNat 218) 0), (.int (.ofNat 8) 0), (.str (Str.ofString "/claim/cut.py") 219)]), #[]⟩
noncomputable def o42 (P : Params) : Obj := ⟨(.type "function"), none, (.func ⟨fnName 4, (Str.ofString "floordiv"), fnArgs 4, .stmts (fnBody 4), fnScope 4, 3, [], .none, .none, .none, (.str (Str.ofString "cpy313.operator") 187), none, (.ref 41), .none, 0⟩), #[]⟩
noncomputable def o43 (P : Params) : Obj := ⟨(.type "tuple"), none, (.seq #[] 0), #[]⟩
noncomputable def o44 (P : Params) : Obj := ⟨.none, none, (.fields #[]), #[]⟩
noncomputable def o45 (P : Params) : Obj := ⟨(.type "tuple"), none, (.seq #[(.str (Str.ofString "a") 224), (.str (Str.ofString "b") 225)] 0), #[]⟩
noncomputable def o46 (P : Params) : Obj := ⟨(.type "tuple"), none, (.seq #[] 0), #[]⟩
noncomputable def o47 (P : Params) : Obj := ⟨.none, none, (.func ⟨fnName 5, (Str.ofString "mul"), fnArgs 5, .stmts (fnBody 5), fnScope 5, 0, [], .none, .none, .none, .none, none, .none, .none, 0⟩), #[]⟩
noncomputable def o48 (P : Params) : Obj := ⟨(.type "code"), none, (.fields #[(.str (Str.ofString "mul") 221), (.str (Str.ofString "mul") 222), (.str (Str.ofString "/claim/cut.py") 223), (.int (.ofNat 10) 0), (.int (.ofNat 2) 0), (.int (.ofNat 0) 0), (.int (.ofNat 0) 0), (.int (.ofNat 3) 0), (.ref 43), (.bool true), (.int (.ofNat 181) 0), (.ref 44), .none, (.ref 45), (.ref 46), (.ref 47), (.int (.ofNat 226) 0), (.int (.ofNat 10) 0), (.str (Str.ofString "/claim/cut.py") 227)]), #[]⟩
noncomputable def o49 (P : Params) : Obj := ⟨(.type "function"), none, (.func ⟨fnName 5, (Str.ofString "mul"), fnArgs 5, .stmts (fnBody 5), fnScope 5, 3, [], .none, .none, .none, (.str (Str.ofString "cpy313.operator") 187), none, (.ref 48), .none, 0⟩), #[]⟩
noncomputable def o50 (P : Params) : Obj := ⟨(.type "tuple"), none, (.seq #[] 0), #[]⟩
noncomputable def o51 (P : Params) : Obj := ⟨.none, none, (.fields #[]), #[]⟩
noncomputable def o52 (P : Params) : Obj := ⟨(.type "tuple"), none, (.seq #[(.str (Str.ofString "a") 232)] 0), #[]⟩
noncomputable def o53 (P : Params) : Obj := ⟨(.type "tuple"), none, (.seq #[] 0), #[]⟩
noncomputable def o54 (P : Params) : Obj := ⟨.none, none, (.func ⟨fnName 6, (Str.ofString "neg"), fnArgs 6, .stmts (fnBody 6), fnScope 6, 0, [], .none, .none, .none, .none, none, .none, .none, 0⟩), #[]⟩
noncomputable def o55 (P : Params) : Obj := ⟨(.type "code"), none, (.fields #[(.str (Str.ofString "neg") 229), (.str (Str.ofString "neg") 230), (.str (Str.ofString "/claim/cut.py") 231), (.int (.ofNat 12) 0), (.int (.ofNat 1) 0), (.int (.ofNat 0) 0), (.int (.ofNat 0) 0), (.int (.ofNat 3) 0), (.ref 50), (.bool true), (.int (.ofNat 181) 0), (.ref 51), .none, (.ref 52), (.ref 53), (.ref 54), (.int (.ofNat 233) 0), (.int (.ofNat 12) 0), (.str (Str.ofString "/claim/cut.py") 234)]), #[]⟩
noncomputable def o56 (P : Params) : Obj := ⟨(.type "function"), none, (.func ⟨fnName 6, (Str.ofString "neg"), fnArgs 6, .stmts (fnBody 6), fnScope 6, 3, [], .none, .none, .none, (.str (Str.ofString "cpy313.operator") 187), none, (.ref 55), .none, 0⟩), #[]⟩
noncomputable def o57 (P : Params) : Obj := ⟨(.type "tuple"), none, (.seq #[] 0), #[]⟩
noncomputable def o58 (P : Params) : Obj := ⟨.none, none, (.fields #[]), #[]⟩
noncomputable def o59 (P : Params) : Obj := ⟨(.type "tuple"), none, (.seq #[(.str (Str.ofString "a") 239), (.str (Str.ofString "b") 240), (.str (Str.ofString "msg") 241)] 0), #[]⟩
noncomputable def o60 (P : Params) : Obj := ⟨(.type "tuple"), none, (.seq #[] 0), #[]⟩
noncomputable def o61 (P : Params) : Obj := ⟨.none, none, (.func ⟨fnName 7, (Str.ofString "concat"), fnArgs 7, .stmts (fnBody 7), fnScope 7, 0, [], .none, .none, .none, .none, none, .none, .none, 0⟩), #[]⟩
noncomputable def o62 (P : Params) : Obj := ⟨(.type "code"), none, (.fields #[(.str (Str.ofString "concat") 236), (.str (Str.ofString "concat") 237), (.str (Str.ofString "/claim/cut.py") 238), (.int (.ofNat 14) 0), (.int (.ofNat 2) 0), (.int (.ofNat 0) 0), (.int (.ofNat 0) 0), (.int (.ofNat 3) 0), (.ref 57), (.bool true), (.int (.ofNat 181) 0), (.ref 58), .none, (.ref 59), (.ref 60), (.ref 61), (.int (.ofNat 242) 0), (.int (.ofNat 14) 0), (.str (Str.ofString "/claim/cut.py") 243)]), #[]⟩
noncomputable def o63 (P : Params) : Obj := ⟨(.type "function"), none, (.func ⟨fnName 7, (Str.ofString "concat"), fnArgs 7, .stmts (fnBody 7), fnScope 7, 3, [], .none, .none, .none, (.str (Str.ofString "cpy313.operator") 187), none, (.ref 62), .none, 0⟩), #[]⟩
noncomputable def o64 (P : Params) : Obj := ⟨(.type "tuple"), none, (.seq #[] 0), #[]⟩
noncomputable def o65 (P : Params) : Obj := ⟨.none, none, (.fields #[]), #[]⟩
noncomputable def o66 (P : Params) : Obj := ⟨(.type "tuple"), none, (.seq #[(.str (Str.ofString "a") 248), (.str (Str.ofString "b") 249), (.str (Str.ofString "count") 250), (.str (Str.ofString "i") 251)] 0), #[]⟩
noncomputable def o67 (P : Params) : Obj := ⟨(.type "tuple"), none, (.seq #[] 0), #[]⟩
noncomputable def o68 (P : Params) : Obj := ⟨.none, none, (.func ⟨fnName 8, (Str.ofString "countOf"), fnArgs 8, .stmts (fnBody 8), fnScope 8, 0, [], .none, .none, .none, .none, none, .none, .none, 0⟩), #[]⟩
noncomputable def o69 (P : Params) : Obj := ⟨(.type "code"), none, (.fields #[(.str (Str.ofString "countOf") 245), (.str (Str.ofString "countOf") 246), (.str (Str.ofString "/claim/cut.py") 247), (.int (.ofNat 19) 0), (.int (.ofNat 2) 0), (.int (.ofNat 0) 0), (.int (.ofNat 0) 0), (.int (.ofNat 3) 0), (.ref 64), (.bool true), (.int (.ofNat 181) 0), (.ref 65), .none, (.ref 66), (.ref 67), (.ref 68), (.int (.ofNat 252) 0), (.int (.ofNat 19) 0), (.str (Str.ofString "/claim/cut.py") 253)]), #[]⟩
noncomputable def o70 (P : Params) : Obj := ⟨(.type "function"), none, (.func ⟨fnName 8, (Str.ofString "countOf"), fnArgs 8, .stmts (fnBody 8), fnScope 8, 3, [], .none, .none, .none, (.str (Str.ofString "cpy313.operator") 187), none, (.ref 69), .none, 0⟩), #[]⟩
noncomputable def o71 (P : Params) : Obj := ⟨(.type "tuple"), none, (.seq #[] 0), #[]⟩
noncomputable def o72 (P : Params) : Obj := ⟨.none, none, (.fields #[]), #[]⟩
noncomputable def o73 (P : Params) : Obj := ⟨(.type "tuple"), none, (.seq #[(.str (Str.ofString "a") 258), (.str (Str.ofString "b") 259), (.str (Str.ofString "c") 260)] 0), #[]⟩
noncomputable def o74 (P : Params) : Obj := ⟨(.type "tuple"), none, (.seq #[] 0), #[]⟩
noncomputable def o75 (P : Params) : Obj := ⟨.none, none, (.func ⟨fnName 9, (Str.ofString "setitem"), fnArgs 9, .stmts (fnBody 9), fnScope 9, 0, [], .none, .none, .none, .none, none, .none, .none, 0⟩), #[]⟩
noncomputable def o76 (P : Params) : Obj := ⟨(.type "code"), none, (.fields #[(.str (Str.ofString "setitem") 255), (.str (Str.ofString "setitem") 256), (.str (Str.ofString "/claim/cut.py") 257), (.int (.ofNat 25) 0), (.int (.ofNat 3) 0), (.int (.ofNat 0) 0), (.int (.ofNat 0) 0), (.int (.ofNat 3) 0), (.ref 71), (.bool true), (.int (.ofNat 181) 0), (.ref 72), .none, (.ref 73), (.ref 74), (.ref 75), (.int (.ofNat 261) 0), (.int (.ofNat 25) 0), (.str (Str.ofString "/claim/cut.py") 262)]), #[]⟩
noncomputable def o77 (P : Params) : Obj := ⟨(.type "function"), none, (.func ⟨fnName 9, (Str.ofString "setitem"), fnArgs 9, .stmts (fnBody 9), fnScope 9, 3, [], .none, .none, .none, (.str (Str.ofString "cpy313.operator") 187), none, (.ref 76), .none, 0⟩), #[]⟩
noncomputable def o78 (P : Params) : Obj := ⟨(.type "tuple"), none, (.seq #[(.int (.ofNat 0) 266), .none] 0), #[]⟩
noncomputable def o79 (P : Params) : Obj := ⟨(.type "dict"), none, (.dict #[⟨PyData.keyHash P (Str.ofString "key"), (.str (Str.ofString "key") 267), .none⟩] 1), #[]⟩
noncomputable def o80 (P : Params) : Obj := ⟨(.type "tuple"), none, (.seq #[] 0), #[]⟩
noncomputable def o81 (P : Params) : Obj := ⟨.none, none, (.fields #[]), #[]⟩
noncomputable def o82 (P : Params) : Obj := ⟨(.type "tuple"), none, (.seq #[(.str (Str.ofString "a") 271), (.str (Str.ofString "x") 272), (.str (Str.ofString "lo") 273), (.str (Str.ofString "hi") 274), (.str (Str.ofString "key") 275)] 0), #[]⟩
noncomputable def o83 (P : Params) : Obj := ⟨(.type "tuple"), none, (.seq #[] 0), #[]⟩
noncomputable def o84 (P : Params) : Obj := ⟨.none, none, (.func ⟨fnName 11, (Str.ofString "insort_left"), fnArgs 11, .stmts (fnBody 11), fnScope 11, 0, [], .none, .none, .none, .none, none, .none, .none, 0⟩), #[]⟩
noncomputable def o85 (P : Params) : Obj := ⟨(.type "code"), none, (.fields #[(.str (Str.ofString "insort_left") 268), (.str (Str.ofString "insort_left") 269), (.str (Str.ofString "/claim/cut.py") 270), (.int (.ofNat 28) 0), (.int (.ofNat 4) 0), (.int (.ofNat 0) 0), (.int (.ofNat 1) 0), (.int (.ofNat 3) 0), (.ref 80), (.bool true), (.int (.ofNat 181) 0), (.ref 81), .none, (.ref 82), (.ref 83), (.ref 84), (.int (.ofNat 276) 0), (.int (.ofNat 28) 0), (.str (Str.ofString "/claim/cut.py") 277)]), #[]⟩
noncomputable def o86 (P : Params) : Obj := ⟨(.type "function"), none, (.func ⟨fnName 11, (Str.ofString "insort_left"), fnArgs 11, .stmts (fnBody 11), fnScope 11, 3, [], (.ref 78), (.ref 79), .none, (.str (Str.ofString "cpy313.bisect") 264), none, (.ref 85), .none, 0⟩), #[]⟩
noncomputable def o87 (P : Params) : Obj := ⟨(.type "tuple"), none, (.seq #[(.int (.ofNat 0) 279), .none] 0), #[]⟩
noncomputable def o88 (P : Params) : Obj := ⟨(.type "dict"), none, (.dict #[⟨PyData.keyHash P (Str.ofString "key"), (.str (Str.ofString "key") 280), .none⟩] 1), #[]⟩
noncomputable def o89 (P : Params) : Obj := ⟨(.type "tuple"), none, (.seq #[] 0), #[]⟩
noncomputable def o90 (P : Params) : Obj := ⟨.none, none, (.fields #[]), #[]⟩
noncomputable def o91 (P : Params) : Obj := ⟨(.type "tuple"), none, (.seq #[(.str (Str.ofString "a") 284), (.str (Str.ofString "x") 285), (.str (Str.ofString "lo") 286), (.str (Str.ofString "hi") 287), (.str (Str.ofString "key") 288), (.str (Str.ofString "mid") 289)] 0), #[]⟩
noncomputable def o92 (P : Params) : Obj := ⟨(.type "tuple"), none, (.seq #[] 0), #[]⟩
noncomputable def o93 (P : Params) : Obj := ⟨.none, none, (.func ⟨fnName 12, (Str.ofString "bisect_left"), fnArgs 12, .stmts (fnBody 12), fnScope 12, 0, [], .none, .none, .none, .none, none, .none, .none, 0⟩), #[]⟩
noncomputable def o94 (P : Params) : Obj := ⟨(.type "code"), none, (.fields #[(.str (Str.ofString "bisect_left") 281), (.str (Str.ofString "bisect_left") 282), (.str (Str.ofString "/claim/cut.py") 283), (.int (.ofNat 34) 0), (.int (.ofNat 4) 0), (.int (.ofNat 0) 0), (.int (.ofNat 1) 0), (.int (.ofNat 3) 0), (.ref 89), (.bool true), (.int (.ofNat 181) 0), (.ref 90), .none, (.ref 91), (.ref 92), (.ref 93), (.int (.ofNat 290) 0), (.int (.ofNat 34) 0), (.str (Str.ofString "/claim/cut.py") 291)]), #[]⟩
noncomputable def o95 (P : Params) : Obj := ⟨(.type "function"), none, (.func ⟨fnName 12, (Str.ofString "bisect_left"), fnArgs 12, .stmts (fnBody 12), fnScope 12, 3, [], (.ref 87), (.ref 88), .none, (.str (Str.ofString "cpy313.bisect") 264), none, (.ref 94), .none, 0⟩), #[]⟩
noncomputable def o96 (P : Params) : Obj := ⟨(.type "list"), none, (.seq #[(.int (.ofNat 173) 295), (.int (.ofNat 847) 296), (.int (.ofNat 6150) 297), (.int (.ofNat 6155) 298), (.int (.ofNat 6156) 299), (.int (.ofNat 6157) 300), (.int (.ofNat 8203) 301), (.int (.ofNat 8204) 302), (.int (.ofNat 8205) 303), (.int (.ofNat 8288) 304), (.int (.ofNat 65279) 305)] 0), #[]⟩
noncomputable def o97 (P : Params) : Obj := ⟨(.type "range"), none, (.fields #[(.int (.ofNat 65024) 306), (.int (.ofNat 65040) 307), (.int (.ofNat 1) 308)]), #[]⟩
noncomputable def o98 (P : Params) : Obj := ⟨(.type "list"), none, (.seq #[(.int (.ofNat 65024) 311), (.int (.ofNat 65025) 312), (.int (.ofNat 65026) 313), (.int (.ofNat 65027) 314), (.int (.ofNat 65028) 315), (.int (.ofNat 65029) 316), (.int (.ofNat 65030) 317), (.int (.ofNat 65031) 318), (.int (.ofNat 65032) 319), (.int (.ofNat 65033) 320), (.int (.ofNat 65034) 321), (.int (.ofNat 65035) 322), (.int (.ofNat 65036) 323), (.int (.ofNat 65037) 324), (.int (.ofNat 65038) 325), (.int (.ofNat 65039) 326)] 18), #[]⟩
noncomputable def o99 (P : Params) : Obj := ⟨(.type "range_iterator"), none, (.fields #[(.int (.ofNat 65040) 0), (.int (.ofNat 0) 0), (.int (.ofNat 1) 0)]), #[]⟩
noncomputable def o100 (P : Params) : Obj := ⟨(.type "tuple"), none, (.seq #[] 0), #[]⟩
noncomputable def o101 (P : Params) : Obj := ⟨(.type "StopIteration"), none, (.fields #[(.ref 100), .none, .none, .none, (.bool false), .none]), #[]⟩
noncomputable def o102 (P : Params) : Obj := ⟨(.type "list"), none, (.seq #[(.int (.ofNat 173) 295), (.int (.ofNat 847) 296), (.int (.ofNat 6150) 297), (.int (.ofNat 6155) 298), (.int (.ofNat 6156) 299), (.int (.ofNat 6157) 300), (.int (.ofNat 8203) 301), (.int (.ofNat 8204) 302), (.int (.ofNat 8205) 303), (.int (.ofNat 8288) 304), (.int (.ofNat 65279) 305), (.int (.ofNat 65024) 311), (.int (.ofNat 65025) 312), (.int (.ofNat 65026) 313), (.int (.ofNat 65027) 314), (.int (.ofNat 65028) 315), (.int (.ofNat 65029) 316), (.int (.ofNat 65030) 317), (.int (.ofNat 65031) 318), (.int (.ofNat 65032) 319), (.int (.ofNat 65033) 320), (.int (.ofNat 65034) 321), (.int (.ofNat 65035) 322), (.int (.ofNat 65036) 323), (.int (.ofNat 65037) 324), (.int (.ofNat 65038) 325), (.int (.ofNat 65039) 326)] 0), #[]⟩
noncomputable def o103 (P : Params) : Obj := ⟨(.type "set"), none, (.set #[((.ofNat 65024), (.int (.ofNat 65024) 311)), ((.ofNat 65025), (.int (.ofNat 65025) 312)), ((.ofNat 65026), (.int (.ofNat 65026) 313)), ((.ofNat 65027), (.int (.ofNat 65027) 314)), ((.ofNat 65028), (.int (.ofNat 65028) 315)), ((.ofNat 65029), (.int (.ofNat 65029) 316)), ((.ofNat 6150), (.int (.ofNat 6150) 297)), ((.ofNat 65030), (.int (.ofNat 65030) 317)), ((.ofNat 65031), (.int (.ofNat 65031) 318)), ((.ofNat 65032), (.int (.ofNat 65032) 319)), ((.ofNat 65033), (.int (.ofNat 65033) 320)), ((.ofNat 6155), (.int (.ofNat 6155) 298)), ((.ofNat 6156), (.int (.ofNat 6156) 299)), ((.ofNat 6157), (.int (.ofNat 6157) 300)), ((.ofNat 8203), (.int (.ofNat 8203) 301)), ((.ofNat 8204), (.int (.ofNat 8204) 302)), ((.ofNat 8205), (.int (.ofNat 8205) 303)), ((.ofNat 65034), (.int (.ofNat 65034) 321)), ((.ofNat 65035), (.int (.ofNat 65035) 322)), ((.ofNat 65036), (.int (.ofNat 65036) 323)), ((.ofNat 65037), (.int (.ofNat 65037) 324)), ((.ofNat 65038), (.int (.ofNat 65038) 325)), ((.ofNat 65039), (.int (.ofNat 65039) 326)), ((.ofNat 173), (.int (.ofNat 173) 295)), ((.ofNat 847), (.int (.ofNat 847) 296)), ((.ofNat 8288), (.int (.ofNat 8288) 304)), ((.ofNat 65279), (.int (.ofNat 65279) 305))] 29 ⟨127, #[0, 1, 2, 3, 4, 5, 6, 7, 8, 9, 10, 11, 12, 13, 14, 15, 16, 17, 18, 19, 20, 21, 22, 45, 79, 96, 127], #[], 0, !P.followText "set-order", 2, true⟩), #[]⟩
noncomputable def o104 (P : Params) : Obj := ⟨(.type "list_iterator"), none, (.fields #[.none, (.int (.ofNat 27) 0)]), #[]⟩
noncomputable def o105 (P : Params) : Obj := ⟨(.type "tuple"), none, (.seq #[] 0), #[]⟩
noncomputable def o106 (P : Params) : Obj := ⟨(.type "StopIteration"), none, (.fields #[(.ref 105), .none, .none, .none, (.bool false), .none]), #[]⟩
noncomputable def o107 (P : Params) : Obj := ⟨(.type "tuple"), none, (.seq #[] 0), #[]⟩
noncomputable def o108 (P : Params) : Obj := ⟨.none, none, (.fields #[]), #[]⟩
noncomputable def o109 (P : Params) : Obj := ⟨(.type "tuple"), none, (.seq #[(.str (Str.ofString "code") 358)] 0), #[]⟩
noncomputable def o110 (P : Params) : Obj := ⟨(.type "tuple"), none, (.seq #[] 0), #[]⟩
noncomputable def o111 (P : Params) : Obj := ⟨.none, none, (.func ⟨fnName 15, (Str.ofString "in_table_b1"), fnArgs 15, .stmts (fnBody 15), fnScope 15, 0, [], .none, .none, .none, .none, none, .none, .none, 0⟩), #[]⟩
noncomputable def o112 (P : Params) : Obj := ⟨(.type "code"), none, (.fields #[(.str (Str.ofString "in_table_b1") 355), (.str (Str.ofString "in_table_b1") 356), (.str (Str.ofString "/claim/cut.py") 357), (.int (.ofNat 56) 0), (.int (.ofNat 1) 0), (.int (.ofNat 0) 0), (.int (.ofNat 0) 0), (.int (.ofNat 3) 0), (.ref 107), (.bool true), (.int (.ofNat 181) 0), (.ref 108), .none, (.ref 109), (.ref 110), (.ref 111), (.int (.ofNat 359) 0), (.int (.ofNat 56) 0), (.str (Str.ofString "/claim/cut.py") 360)]), #[]⟩
noncomputable def o113 (P : Params) : Obj := ⟨(.type "function"), none, (.func ⟨fnName 15, (Str.ofString "in_table_b1"), fnArgs 15, .stmts (fnBody 15), fnScope 15, 3, [], .none, .none, .none, (.str (Str.ofString "cpy313.stringprep") 293), none, (.ref 112), .none, 0⟩), #[]⟩
noncomputable def o153 (P : Params) : Obj := ⟨(.type "tuple"), none, (.seq #[] 0), #[]⟩
noncomputable def o154 (P : Params) : Obj := ⟨.none, none, (.fields #[]), #[]⟩
noncomputable def o155 (P : Params) : Obj := ⟨(.type "tuple"), none, (.seq #[(.str (Str.ofString "code") 2316), (.str (Str.ofString "r") 2317)] 0), #[]⟩
noncomputable def o156 (P : Params) : Obj := ⟨(.type "tuple"), none, (.seq #[] 0), #[]⟩
noncomputable def o157 (P : Params) : Obj := ⟨.none, none, (.func ⟨fnName 17, (Str.ofString "map_table_b3"), fnArgs 17, .stmts (fnBody 17), fnScope 17, 0, [], .none, .none, .none, .none, none, .none, .none, 0⟩), #[]⟩
noncomputable def o158 (P : Params) : Obj := ⟨(.type "code"), none, (.fields #[(.str (Str.ofString "map_table_b3") 2313), (.str (Str.ofString "map_table_b3") 2314), (.str (Str.ofString "/claim/cut.py") 2315), (.int (.ofNat 59) 0), (.int (.ofNat 1) 0), (.int (.ofNat 0) 0), (.int (.ofNat 0) 0), (.int (.ofNat 3) 0), (.ref 153), (.bool true), (.int (.ofNat 181) 0), (.ref 154), .none, (.ref 155), (.ref 156), (.ref 157), (.int (.ofNat 2318) 0), (.int (.ofNat 59) 0), (.str (Str.ofString "/claim/cut.py") 2319)]), #[]⟩
noncomputable def o159 (P : Params) : Obj := ⟨(.type "function"), none, (.func ⟨fnName 17, (Str.ofString "map_table_b3"), fnArgs 17, .stmts (fnBody 17), fnScope 17, 3, [], .none, .none, .none, (.str (Str.ofString "cpy313.stringprep") 293), none, (.ref 158), .none, 0⟩), #[]⟩
noncomputable def o160 (P : Params) : Obj := ⟨(.type "tuple"), none, (.seq #[] 0), #[]⟩
noncomputable def o161 (P : Params) : Obj := ⟨.none, none, (.fields #[]), #[]⟩
noncomputable def o162 (P : Params) : Obj := ⟨(.type "tuple"), none, (.seq #[(.str (Str.ofString "word") 2326), (.str (Str.ofString "x") 2327), (.str (Str.ofString "veils") 2328), (.str (Str.ofString "beside") 2329), (.str (Str.ofString "text") 2330), (.str (Str.ofString "spot") 2331), (.str (Str.ofString "size") 2332), (.str (Str.ofString "dress") 2333), (.str (Str.ofString "sign") 2334), (.str (Str.ofString "code") 2335), (.str (Str.ofString "means") 2336), (.str (Str.ofString "hidden") 2337)] 0), #[]⟩
noncomputable def o163 (P : Params) : Obj := ⟨(.type "tuple"), none, (.seq #[] 0), #[]⟩
noncomputable def o164 (P : Params) : Obj := ⟨.none, none, (.func ⟨fnName 19, (Str.ofString "_law_typed"), fnArgs 19, .stmts (fnBody 19), fnScope 19, 0, [], .none, .none, .none, .none, none, .none, .none, 0⟩), #[]⟩
noncomputable def o165 (P : Params) : Obj := ⟨(.type "code"), none, (.fields #[(.str (Str.ofString "_law_typed") 2323), (.str (Str.ofString "_law_typed") 2324), (.str (Str.ofString "/claim/cut.py") 2325), (.int (.ofNat 65) 0), (.int (.ofNat 2) 0), (.int (.ofNat 0) 0), (.int (.ofNat 0) 0), (.int (.ofNat 3) 0), (.ref 160), (.bool true), (.int (.ofNat 181) 0), (.ref 161), .none, (.ref 162), (.ref 163), (.ref 164), (.int (.ofNat 2338) 0), (.int (.ofNat 65) 0), (.str (Str.ofString "/claim/cut.py") 2339)]), #[]⟩
noncomputable def o166 (P : Params) : Obj := ⟨(.type "function"), none, (.func ⟨fnName 19, (Str.ofString "_law_typed"), fnArgs 19, .stmts (fnBody 19), fnScope 19, 3, [], .none, .none, .none, (.str (Str.ofString "law_uc0026_01") 2321), none, (.ref 165), .none, 0⟩), #[]⟩
noncomputable def o167 (P : Params) : Obj := ⟨(.type "tuple"), none, (.seq #[] 0), #[]⟩
noncomputable def o168 (P : Params) : Obj := ⟨.none, none, (.fields #[]), #[]⟩
noncomputable def o169 (P : Params) : Obj := ⟨(.type "tuple"), none, (.seq #[(.str (Str.ofString "text") 2344), (.str (Str.ofString "kept") 2345), (.str (Str.ofString "sign") 2346), (.str (Str.ofString "unseen") 2347)] 0), #[]⟩
noncomputable def o170 (P : Params) : Obj := ⟨(.type "tuple"), none, (.seq #[] 0), #[]⟩
noncomputable def o171 (P : Params) : Obj := ⟨.none, none, (.func ⟨fnName 20, (Str.ofString "_law_prepared"), fnArgs 20, .stmts (fnBody 20), fnScope 20, 0, [], .none, .none, .none, .none, none, .none, .none, 0⟩), #[]⟩
noncomputable def o172 (P : Params) : Obj := ⟨(.type "code"), none, (.fields #[(.str (Str.ofString "_law_prepared") 2341), (.str (Str.ofString "_law_prepared") 2342), (.str (Str.ofString "/claim/cut.py") 2343), (.int (.ofNat 82) 0), (.int (.ofNat 1) 0), (.int (.ofNat 0) 0), (.int (.ofNat 0) 0), (.int (.ofNat 3) 0), (.ref 167), (.bool true), (.int (.ofNat 181) 0), (.ref 168), .none, (.ref 169), (.ref 170), (.ref 171), (.int (.ofNat 2348) 0), (.int (.ofNat 82) 0), (.str (Str.ofString "/claim/cut.py") 2349)]), #[]⟩
noncomputable def o173 (P : Params) : Obj := ⟨(.type "function"), none, (.func ⟨fnName 20, (Str.ofString "_law_prepared"), fnArgs 20, .stmts (fnBody 20), fnScope 20, 3, [], .none, .none, .none, (.str (Str.ofString "law_uc0026_01") 2321), none, (.ref 172), .none, 0⟩), #[]⟩
noncomputable def o174 (P : Params) : Obj := ⟨(.type "tuple"), none, (.seq #[] 0), #[]⟩
noncomputable def o175 (P : Params) : Obj := ⟨.none, none, (.fields #[]), #[]⟩
noncomputable def o176 (P : Params) : Obj := ⟨(.type "tuple"), none, (.seq #[(.str (Str.ofString "entry") 2354)] 0), #[]⟩
noncomputable def o177 (P : Params) : Obj := ⟨(.type "tuple"), none, (.seq #[] 0), #[]⟩
noncomputable def o178 (P : Params) : Obj := ⟨.none, none, (.func ⟨fnName 21, (Str.ofString "_law_word"), fnArgs 21, .stmts (fnBody 21), fnScope 21, 0, [], .none, .none, .none, .none, none, .none, .none, 0⟩), #[]⟩
noncomputable def o179 (P : Params) : Obj := ⟨(.type "code"), none, (.fields #[(.str (Str.ofString "_law_word") 2351), (.str (Str.ofString "_law_word") 2352), (.str (Str.ofString "/claim/cut.py") 2353), (.int (.ofNat 91) 0), (.int (.ofNat 1) 0), (.int (.ofNat 0) 0), (.int (.ofNat 0) 0), (.int (.ofNat 3) 0), (.ref 174), (.bool true), (.int (.ofNat 181) 0), (.ref 175), .none, (.ref 176), (.ref 177), (.ref 178), (.int (.ofNat 2355) 0), (.int (.ofNat 91) 0), (.str (Str.ofString "/claim/cut.py") 2356)]), #[]⟩
noncomputable def o180 (P : Params) : Obj := ⟨(.type "function"), none, (.func ⟨fnName 21, (Str.ofString "_law_word"), fnArgs 21, .stmts (fnBody 21), fnScope 21, 3, [], .none, .none, .none, (.str (Str.ofString "law_uc0026_01") 2321), none, (.ref 179), .none, 0⟩), #[]⟩
noncomputable def o181 (P : Params) : Obj := ⟨(.type "tuple"), none, (.seq #[] 0), #[]⟩
noncomputable def o182 (P : Params) : Obj := ⟨.none, none, (.fields #[]), #[]⟩
noncomputable def o183 (P : Params) : Obj := ⟨(.type "tuple"), none, (.seq #[(.str (Str.ofString "pairs") 2361), (.str (Str.ofString "shelf") 2362), (.str (Str.ofString "word") 2363), (.str (Str.ofString "number") 2364), (.str (Str.ofString "at") 2365), (.str (Str.ofString "told") 2366)] 0), #[]⟩
noncomputable def o184 (P : Params) : Obj := ⟨(.type "tuple"), none, (.seq #[] 0), #[]⟩
noncomputable def o185 (P : Params) : Obj := ⟨.none, none, (.func ⟨fnName 22, (Str.ofString "_law_gathered"), fnArgs 22, .stmts (fnBody 22), fnScope 22, 0, [], .none, .none, .none, .none, none, .none, .none, 0⟩), #[]⟩
noncomputable def o186 (P : Params) : Obj := ⟨(.type "code"), none, (.fields #[(.str (Str.ofString "_law_gathered") 2358), (.str (Str.ofString "_law_gathered") 2359), (.str (Str.ofString "/claim/cut.py") 2360), (.int (.ofNat 93) 0), (.int (.ofNat 1) 0), (.int (.ofNat 0) 0), (.int (.ofNat 0) 0), (.int (.ofNat 3) 0), (.ref 181), (.bool true), (.int (.ofNat 181) 0), (.ref 182), .none, (.ref 183), (.ref 184), (.ref 185), (.int (.ofNat 2367) 0), (.int (.ofNat 93) 0), (.str (Str.ofString "/claim/cut.py") 2368)]), #[]⟩
noncomputable def o187 (P : Params) : Obj := ⟨(.type "function"), none, (.func ⟨fnName 22, (Str.ofString "_law_gathered"), fnArgs 22, .stmts (fnBody 22), fnScope 22, 3, [], .none, .none, .none, (.str (Str.ofString "law_uc0026_01") 2321), none, (.ref 186), .none, 0⟩), #[]⟩
noncomputable def o188 (P : Params) : Obj := ⟨(.type "tuple"), none, (.seq #[] 0), #[]⟩
noncomputable def o189 (P : Params) : Obj := ⟨.none, none, (.fields #[]), #[]⟩
noncomputable def o190 (P : Params) : Obj := ⟨.none, none, (.func ⟨fnName 23, (Str.ofString "_law_cut"), fnArgs 23, .stmts (fnBody 23), fnScope 23, 0, [], .none, .none, .none, .none, none, .none, .none, 0⟩), #[]⟩
noncomputable def o191 (P : Params) : Obj := ⟨(.type "code"), none, (.fields #[(.str (Str.ofString "_law_cut") 2370), (.str (Str.ofString "_law_cut") 2371), (.str (Str.ofString "/claim/cut.py") 2372), (.int (.ofNat 104) 0), (.int (.ofNat 1) 0), (.int (.ofNat 0) 0), (.int (.ofNat 0) 0), (.int (.ofNat 3) 0), (.ref 188), (.bool true), (.int (.ofNat 181) 0), (.ref 189), .none, .none, .none, (.ref 190), (.int (.ofNat 2373) 0), (.int (.ofNat 104) 0), (.str (Str.ofString "/claim/cut.py") 2374)]), #[]⟩
noncomputable def o192 (P : Params) : Obj := ⟨(.type "function"), none, (.func ⟨fnName 23, (Str.ofString "_law_cut"), fnArgs 23, .stmts (fnBody 23), fnScope 23, 3, [], .none, .none, .none, (.str (Str.ofString "law_uc0026_01") 2321), none, (.ref 191), .none, 0⟩), #[]⟩
noncomputable def o193 (P : Params) : Obj := ⟨(.type "tuple"), none, (.seq #[] 0), #[]⟩
noncomputable def o194 (P : Params) : Obj := ⟨.none, none, (.fields #[]), #[]⟩
noncomputable def o195 (P : Params) : Obj := ⟨.none, none, (.func ⟨fnName 24, (Str.ofString "_law_brackets"), fnArgs 24, .stmts (fnBody 24), fnScope 24, 0, [], .none, .none, .none, .none, none, .none, .none, 0⟩), #[]⟩
noncomputable def o196 (P : Params) : Obj := ⟨(.type "code"), none, (.fields #[(.str (Str.ofString "_law_brackets") 2376), (.str (Str.ofString "_law_brackets") 2377), (.str (Str.ofString "/claim/cut.py") 2378), (.int (.ofNat 112) 0), (.int (.ofNat 1) 0), (.int (.ofNat 0) 0), (.int (.ofNat 0) 0), (.int (.ofNat 3) 0), (.ref 193), (.bool true), (.int (.ofNat 181) 0), (.ref 194), .none, .none, .none, (.ref 195), (.int (.ofNat 2379) 0), (.int (.ofNat 112) 0), (.str (Str.ofString "/claim/cut.py") 2380)]), #[]⟩
noncomputable def o197 (P : Params) : Obj := ⟨(.type "function"), none, (.func ⟨fnName 24, (Str.ofString "_law_brackets"), fnArgs 24, .stmts (fnBody 24), fnScope 24, 3, [], .none, .none, .none, (.str (Str.ofString "law_uc0026_01") 2321), none, (.ref 196), .none, 0⟩), #[]⟩
noncomputable def o198 (P : Params) : Obj := ⟨(.type "tuple"), none, (.seq #[] 0), #[]⟩
noncomputable def o199 (P : Params) : Obj := ⟨.none, none, (.fields #[]), #[]⟩
noncomputable def o200 (P : Params) : Obj := ⟨.none, none, (.func ⟨fnName 25, (Str.ofString "_law_ways"), fnArgs 25, .stmts (fnBody 25), fnScope 25, 0, [], .none, .none, .none, .none, none, .none, .none, 0⟩), #[]⟩
noncomputable def o201 (P : Params) : Obj := ⟨(.type "code"), none, (.fields #[(.str (Str.ofString "_law_ways") 2382), (.str (Str.ofString "_law_ways") 2383), (.str (Str.ofString "/claim/cut.py") 2384), (.int (.ofNat 122) 0), (.int (.ofNat 2) 0), (.int (.ofNat 0) 0), (.int (.ofNat 0) 0), (.int (.ofNat 3) 0), (.ref 198), (.bool true), (.int (.ofNat 181) 0), (.ref 199), .none, .none, .none, (.ref 200), (.int (.ofNat 2385) 0), (.int (.ofNat 122) 0), (.str (Str.ofString "/claim/cut.py") 2386)]), #[]⟩
noncomputable def o202 (P : Params) : Obj := ⟨(.type "function"), none, (.func ⟨fnName 25, (Str.ofString "_law_ways"), fnArgs 25, .stmts (fnBody 25), fnScope 25, 3, [], .none, .none, .none, (.str (Str.ofString "law_uc0026_01") 2321), none, (.ref 201), .none, 0⟩), #[]⟩
noncomputable def o203 (P : Params) : Obj := ⟨(.type "tuple"), none, (.seq #[] 0), #[]⟩
noncomputable def o204 (P : Params) : Obj := ⟨.none, none, (.fields #[]), #[]⟩
noncomputable def o205 (P : Params) : Obj := ⟨.none, none, (.func ⟨fnName 26, (Str.ofString "_law_shuffles"), fnArgs 26, .stmts (fnBody 26), fnScope 26, 0, [], .none, .none, .none, .none, none, .none, .none, 0⟩), #[]⟩
noncomputable def o206 (P : Params) : Obj := ⟨(.type "code"), none, (.fields #[(.str (Str.ofString "_law_shuffles") 2388), (.str (Str.ofString "_law_shuffles") 2389), (.str (Str.ofString "/claim/cut.py") 2390), (.int (.ofNat 126) 0), (.int (.ofNat 1) 0), (.int (.ofNat 0) 0), (.int (.ofNat 0) 0), (.int (.ofNat 3) 0), (.ref 203), (.bool true), (.int (.ofNat 181) 0), (.ref 204), .none, .none, .none, (.ref 205), (.int (.ofNat 2391) 0), (.int (.ofNat 126) 0), (.str (Str.ofString "/claim/cut.py") 2392)]), #[]⟩
noncomputable def o207 (P : Params) : Obj := ⟨(.type "function"), none, (.func ⟨fnName 26, (Str.ofString "_law_shuffles"), fnArgs 26, .stmts (fnBody 26), fnScope 26, 3, [], .none, .none, .none, (.str (Str.ofString "law_uc0026_01") 2321), none, (.ref 206), .none, 0⟩), #[]⟩
noncomputable def o208 (P : Params) : Obj := ⟨(.type "tuple"), none, (.seq #[] 0), #[]⟩
noncomputable def o209 (P : Params) : Obj := ⟨.none, none, (.fields #[]), #[]⟩
noncomputable def o210 (P : Params) : Obj := ⟨(.type "tuple"), none, (.seq #[(.str (Str.ofString "brackets") 2397), (.str (Str.ofString "shuffles") 2398), (.str (Str.ofString "total") 2399), (.str (Str.ofString "word") 2400), (.str (Str.ofString "number") 2401), (.str (Str.ofString "at") 2402)] 0), #[]⟩
noncomputable def o211 (P : Params) : Obj := ⟨(.type "tuple"), none, (.seq #[] 0), #[]⟩
noncomputable def o212 (P : Params) : Obj := ⟨.none, none, (.func ⟨fnName 27, (Str.ofString "_law_measured"), fnArgs 27, .stmts (fnBody 27), fnScope 27, 0, [], .none, .none, .none, .none, none, .none, .none, 0⟩), #[]⟩
noncomputable def o213 (P : Params) : Obj := ⟨(.type "code"), none, (.fields #[(.str (Str.ofString "_law_measured") 2394), (.str (Str.ofString "_law_measured") 2395), (.str (Str.ofString "/claim/cut.py") 2396), (.int (.ofNat 139) 0), (.int (.ofNat 2) 0), (.int (.ofNat 0) 0), (.int (.ofNat 0) 0), (.int (.ofNat 3) 0), (.ref 208), (.bool true), (.int (.ofNat 181) 0), (.ref 209), .none, (.ref 210), (.ref 211), (.ref 212), (.int (.ofNat 2403) 0), (.int (.ofNat 139) 0), (.str (Str.ofString "/claim/cut.py") 2404)]), #[]⟩
noncomputable def o214 (P : Params) : Obj := ⟨(.type "function"), none, (.func ⟨fnName 27, (Str.ofString "_law_measured"), fnArgs 27, .stmts (fnBody 27), fnScope 27, 3, [], .none, .none, .none, (.str (Str.ofString "law_uc0026_01") 2321), none, (.ref 213), .none, 0⟩), #[]⟩
noncomputable def o215 (P : Params) : Obj := ⟨(.type "tuple"), none, (.seq #[] 0), #[]⟩
noncomputable def o216 (P : Params) : Obj := ⟨.none, none, (.fields #[]), #[]⟩
noncomputable def o217 (P : Params) : Obj := ⟨.none, none, (.func ⟨fnName 28, (Str.ofString "law"), fnArgs 28, .stmts (fnBody 28), fnScope 28, 0, [], .none, .none, .none, .none, none, .none, .none, 0⟩), #[]⟩
noncomputable def o218 (P : Params) : Obj := ⟨(.type "code"), none, (.fields #[(.str (Str.ofString "law") 2406), (.str (Str.ofString "law") 2407), (.str (Str.ofString "/claim/cut.py") 2408), (.int (.ofNat 146) 0), (.int (.ofNat 1) 0), (.int (.ofNat 0) 0), (.int (.ofNat 0) 0), (.int (.ofNat 3) 0), (.ref 215), (.bool true), (.int (.ofNat 181) 0), (.ref 216), .none, .none, .none, (.ref 217), (.int (.ofNat 2409) 0), (.int (.ofNat 146) 0), (.str (Str.ofString "/claim/cut.py") 2410)]), #[]⟩
noncomputable def o219 (P : Params) : Obj := ⟨(.type "function"), none, (.func ⟨fnName 28, (Str.ofString "law"), fnArgs 28, .stmts (fnBody 28), fnScope 28, 3, [], .none, .none, .none, (.str (Str.ofString "law_uc0026_01") 2321), none, (.ref 218), .none, 0⟩), #[]⟩
noncomputable def gs (P : Params) : Obj := ⟨(.type "dict"), none, (.dict #[⟨PyData.keyHash P (Str.ofString "__name__"), (.str (Str.ofString "__name__") 165), (.str (Str.ofString "__main__") 164)⟩, ⟨PyData.keyHash P (Str.ofString "__doc__"), (.str (Str.ofString "__doc__") 166), .none⟩, ⟨PyData.keyHash P (Str.ofString "__package__"), (.str (Str.ofString "__package__") 167), .none⟩, ⟨PyData.keyHash P (Str.ofString "__loader__"), (.str (Str.ofString "__loader__") 168), (.builtin "__main__.__loader__#opaque")⟩, ⟨PyData.keyHash P (Str.ofString "__spec__"), (.str (Str.ofString "__spec__") 169), .none⟩, ⟨PyData.keyHash P (Str.ofString "__annotations__"), (.str (Str.ofString "__annotations__") 170), (.ref 6)⟩, ⟨PyData.keyHash P (Str.ofString "__builtins__"), (.str (Str.ofString "__builtins__") 171), (.ref 4)⟩, ⟨PyData.keyHash P (Str.ofString "__file__"), (.str (Str.ofString "__file__") 173), (.str (Str.ofString "/claim/cut.py") 172)⟩, ⟨PyData.keyHash P (Str.ofString "__cached__"), (.str (Str.ofString "__cached__") 174), .none⟩] 9), #[]⟩
noncomputable def cs (P : Params) : Obj := ⟨.none, none, (.fields #[]), #[]⟩
noncomputable def g0 (P : Params) : Obj := ⟨(.type "dict"), none, (.dict #[⟨PyData.keyHash P (Str.ofString "__name__"), (.str (Str.ofString "__name__") 165), (.str (Str.ofString "cpy313.operator") 187)⟩, ⟨PyData.keyHash P (Str.ofString "__doc__"), (.str (Str.ofString "__doc__") 166), .none⟩, ⟨PyData.keyHash P (Str.ofString "__package__"), (.str (Str.ofString "__package__") 167), .none⟩, ⟨PyData.keyHash P (Str.ofString "__loader__"), (.str (Str.ofString "__loader__") 168), (.builtin "__main__.__loader__#opaque")⟩, ⟨PyData.keyHash P (Str.ofString "__spec__"), (.str (Str.ofString "__spec__") 169), .none⟩, ⟨PyData.keyHash P (Str.ofString "__annotations__"), (.str (Str.ofString "__annotations__") 170), (.ref 6)⟩, ⟨PyData.keyHash P (Str.ofString "__builtins__"), (.str (Str.ofString "__builtins__") 171), (.ref 4)⟩, ⟨PyData.keyHash P (Str.ofString "__file__"), (.str (Str.ofString "__file__") 173), (.str (Str.ofString "/claim/cut.py") 172)⟩, ⟨PyData.keyHash P (Str.ofString "__cached__"), (.str (Str.ofString "__cached__") 174), .none⟩] 9), #[]⟩
noncomputable def c0 (P : Params) : Obj := ⟨.none, none, (.fields #[]), #[]⟩
noncomputable def g1 (P : Params) : Obj := ⟨(.type "dict"), none, (.dict #[⟨PyData.keyHash P (Str.ofString "__name__"), (.str (Str.ofString "__name__") 165), (.str (Str.ofString "cpy313.operator") 187)⟩, ⟨PyData.keyHash P (Str.ofString "__doc__"), (.str (Str.ofString "__doc__") 166), .none⟩, ⟨PyData.keyHash P (Str.ofString "__package__"), (.str (Str.ofString "__package__") 167), .none⟩, ⟨PyData.keyHash P (Str.ofString "__loader__"), (.str (Str.ofString "__loader__") 168), (.builtin "__main__.__loader__#opaque")⟩, ⟨PyData.keyHash P (Str.ofString "__spec__"), (.str (Str.ofString "__spec__") 169), .none⟩, ⟨PyData.keyHash P (Str.ofString "__annotations__"), (.str (Str.ofString "__annotations__") 170), (.ref 6)⟩, ⟨PyData.keyHash P (Str.ofString "__builtins__"), (.str (Str.ofString "__builtins__") 171), (.ref 4)⟩, ⟨PyData.keyHash P (Str.ofString "__file__"), (.str (Str.ofString "__file__") 173), (.str (Str.ofString "/claim/cut.py") 172)⟩, ⟨PyData.keyHash P (Str.ofString "__cached__"), (.str (Str.ofString "__cached__") 174), .none⟩, ⟨PyData.keyHash P (Str.ofString "lt"), (.str (Str.ofString "lt") 196), (.ref 21)⟩] 10), #[]⟩
noncomputable def c1 (P : Params) : Obj := ⟨.none, none, (.fields #[(.int (.ofNat 2) 0), (.int (.ofNat 0) 0), (.ref 20)]), #[]⟩
noncomputable def g13 (P : Params) : Obj := ⟨(.type "dict"), none, (.dict #[⟨PyData.keyHash P (Str.ofString "__name__"), (.str (Str.ofString "__name__") 165), (.str (Str.ofString "cpy313.stringprep") 293)⟩, ⟨PyData.keyHash P (Str.ofString "__doc__"), (.str (Str.ofString "__doc__") 166), .none⟩, ⟨PyData.keyHash P (Str.ofString "__package__"), (.str (Str.ofString "__package__") 167), .none⟩, ⟨PyData.keyHash P (Str.ofString "__loader__"), (.str (Str.ofString "__loader__") 168), (.builtin "__main__.__loader__#opaque")⟩, ⟨PyData.keyHash P (Str.ofString "__spec__"), (.str (Str.ofString "__spec__") 169), .none⟩, ⟨PyData.keyHash P (Str.ofString "__annotations__"), (.str (Str.ofString "__annotations__") 170), (.ref 6)⟩, ⟨PyData.keyHash P (Str.ofString "__builtins__"), (.str (Str.ofString "__builtins__") 171), (.ref 4)⟩, ⟨PyData.keyHash P (Str.ofString "__file__"), (.str (Str.ofString "__file__") 173), (.str (Str.ofString "/claim/cut.py") 172)⟩, ⟨PyData.keyHash P (Str.ofString "__cached__"), (.str (Str.ofString "__cached__") 174), .none⟩, ⟨PyData.keyHash P (Str.ofString "lt"), (.str (Str.ofString "lt") 196), (.ref 21)⟩, ⟨PyData.keyHash P (Str.ofString "eq"), (.str (Str.ofString "eq") 204), (.ref 28)⟩, ⟨PyData.keyHash P (Str.ofString "add"), (.str (Str.ofString "add") 212), (.ref 35)⟩, ⟨PyData.keyHash P (Str.ofString "floordiv"), (.str (Str.ofString "floordiv") 220), (.ref 42)⟩, ⟨PyData.keyHash P (Str.ofString "mul"), (.str (Str.ofString "mul") 228), (.ref 49)⟩, ⟨PyData.keyHash P (Str.ofString "neg"), (.str (Str.ofString "neg") 235), (.ref 56)⟩, ⟨PyData.keyHash P (Str.ofString "concat"), (.str (Str.ofString "concat") 244), (.ref 63)⟩, ⟨PyData.keyHash P (Str.ofString "countOf"), (.str (Str.ofString "countOf") 254), (.ref 70)⟩, ⟨PyData.keyHash P (Str.ofString "setitem"), (.str (Str.ofString "setitem") 263), (.ref 77)⟩, ⟨PyData.keyHash P (Str.ofString "insort_left"), (.str (Str.ofString "insort_left") 278), (.ref 86)⟩, ⟨PyData.keyHash P (Str.ofString "bisect_left"), (.str (Str.ofString "bisect_left") 292), (.ref 95)⟩] 20), #[]⟩
noncomputable def c13 (P : Params) : Obj := ⟨.none, none, (.fields #[(.int (.ofNat 2) 0), (.int (.ofNat 0) 0), (.ref 20), (.int (.ofNat 4) 0), (.int (.ofNat 0) 0), (.ref 27), (.int (.ofNat 6) 0), (.int (.ofNat 0) 0), (.ref 34), (.int (.ofNat 8) 0), (.int (.ofNat 0) 0), (.ref 41), (.int (.ofNat 10) 0), (.int (.ofNat 0) 0), (.ref 48), (.int (.ofNat 12) 0), (.int (.ofNat 0) 0), (.ref 55), (.int (.ofNat 14) 0), (.int (.ofNat 0) 0), (.ref 62), (.int (.ofNat 19) 0), (.int (.ofNat 0) 0), (.ref 69), (.int (.ofNat 25) 0), (.int (.ofNat 0) 0), (.ref 76), (.int (.ofNat 28) 0), (.int (.ofNat 0) 0), (.ref 85), (.int (.ofNat 34) 0), (.int (.ofNat 0) 0), (.ref 94)]), #[]⟩
noncomputable def g14 (P : Params) : Obj := ⟨(.type "dict"), none, (.dict #[⟨PyData.keyHash P (Str.ofString "__name__"), (.str (Str.ofString "__name__") 165), (.str (Str.ofString "cpy313.stringprep") 293)⟩, ⟨PyData.keyHash P (Str.ofString "__doc__"), (.str (Str.ofString "__doc__") 166), .none⟩, ⟨PyData.keyHash P (Str.ofString "__package__"), (.str (Str.ofString "__package__") 167), .none⟩, ⟨PyData.keyHash P (Str.ofString "__loader__"), (.str (Str.ofString "__loader__") 168), (.builtin "__main__.__loader__#opaque")⟩, ⟨PyData.keyHash P (Str.ofString "__spec__"), (.str (Str.ofString "__spec__") 169), .none⟩, ⟨PyData.keyHash P (Str.ofString "__annotations__"), (.str (Str.ofString "__annotations__") 170), (.ref 6)⟩, ⟨PyData.keyHash P (Str.ofString "__builtins__"), (.str (Str.ofString "__builtins__") 171), (.ref 4)⟩, ⟨PyData.keyHash P (Str.ofString "__file__"), (.str (Str.ofString "__file__") 173), (.str (Str.ofString "/claim/cut.py") 172)⟩, ⟨PyData.keyHash P (Str.ofString "__cached__"), (.str (Str.ofString "__cached__") 174), .none⟩, ⟨PyData.keyHash P (Str.ofString "lt"), (.str (Str.ofString "lt") 196), (.ref 21)⟩, ⟨PyData.keyHash P (Str.ofString "eq"), (.str (Str.ofString "eq") 204), (.ref 28)⟩, ⟨PyData.keyHash P (Str.ofString "add"), (.str (Str.ofString "add") 212), (.ref 35)⟩, ⟨PyData.keyHash P (Str.ofString "floordiv"), (.str (Str.ofString "floordiv") 220), (.ref 42)⟩, ⟨PyData.keyHash P (Str.ofString "mul"), (.str (Str.ofString "mul") 228), (.ref 49)⟩, ⟨PyData.keyHash P (Str.ofString "neg"), (.str (Str.ofString "neg") 235), (.ref 56)⟩, ⟨PyData.keyHash P (Str.ofString "concat"), (.str (Str.ofString "concat") 244), (.ref 63)⟩, ⟨PyData.keyHash P (Str.ofString "countOf"), (.str (Str.ofString "countOf") 254), (.ref 70)⟩, ⟨PyData.keyHash P (Str.ofString "setitem"), (.str (Str.ofString "setitem") 263), (.ref 77)⟩, ⟨PyData.keyHash P (Str.ofString "insort_left"), (.str (Str.ofString "insort_left") 278), (.ref 86)⟩, ⟨PyData.keyHash P (Str.ofString "bisect_left"), (.str (Str.ofString "bisect_left") 292), (.ref 95)⟩, ⟨PyData.keyHash P (Str.ofString "b1_set"), (.str (Str.ofString "b1_set") 354), (.ref 103)⟩] 21), #[]⟩
noncomputable def c14 (P : Params) : Obj := ⟨.none, none, (.fields #[(.int (.ofNat 2) 0), (.int (.ofNat 0) 0), (.ref 20), (.int (.ofNat 4) 0), (.int (.ofNat 0) 0), (.ref 27), (.int (.ofNat 6) 0), (.int (.ofNat 0) 0), (.ref 34), (.int (.ofNat 8) 0), (.int (.ofNat 0) 0), (.ref 41), (.int (.ofNat 10) 0), (.int (.ofNat 0) 0), (.ref 48), (.int (.ofNat 12) 0), (.int (.ofNat 0) 0), (.ref 55), (.int (.ofNat 14) 0), (.int (.ofNat 0) 0), (.ref 62), (.int (.ofNat 19) 0), (.int (.ofNat 0) 0), (.ref 69), (.int (.ofNat 25) 0), (.int (.ofNat 0) 0), (.ref 76), (.int (.ofNat 28) 0), (.int (.ofNat 0) 0), (.ref 85), (.int (.ofNat 34) 0), (.int (.ofNat 0) 0), (.ref 94)]), #[]⟩
noncomputable def g15 (P : Params) : Obj := ⟨(.type "dict"), none, (.dict #[⟨PyData.keyHash P (Str.ofString "__name__"), (.str (Str.ofString "__name__") 165), (.str (Str.ofString "cpy313.stringprep") 293)⟩, ⟨PyData.keyHash P (Str.ofString "__doc__"), (.str (Str.ofString "__doc__") 166), .none⟩, ⟨PyData.keyHash P (Str.ofString "__package__"), (.str (Str.ofString "__package__") 167), .none⟩, ⟨PyData.keyHash P (Str.ofString "__loader__"), (.str (Str.ofString "__loader__") 168), (.builtin "__main__.__loader__#opaque")⟩, ⟨PyData.keyHash P (Str.ofString "__spec__"), (.str (Str.ofString "__spec__") 169), .none⟩, ⟨PyData.keyHash P (Str.ofString "__annotations__"), (.str (Str.ofString "__annotations__") 170), (.ref 6)⟩, ⟨PyData.keyHash P (Str.ofString "__builtins__"), (.str (Str.ofString "__builtins__") 171), (.ref 4)⟩, ⟨PyData.keyHash P (Str.ofString "__file__"), (.str (Str.ofString "__file__") 173), (.str (Str.ofString "/claim/cut.py") 172)⟩, ⟨PyData.keyHash P (Str.ofString "__cached__"), (.str (Str.ofString "__cached__") 174), .none⟩, ⟨PyData.keyHash P (Str.ofString "lt"), (.str (Str.ofString "lt") 196), (.ref 21)⟩, ⟨PyData.keyHash P (Str.ofString "eq"), (.str (Str.ofString "eq") 204), (.ref 28)⟩, ⟨PyData.keyHash P (Str.ofString "add"), (.str (Str.ofString "add") 212), (.ref 35)⟩, ⟨PyData.keyHash P (Str.ofString "floordiv"), (.str (Str.ofString "floordiv") 220), (.ref 42)⟩, ⟨PyData.keyHash P (Str.ofString "mul"), (.str (Str.ofString "mul") 228), (.ref 49)⟩, ⟨PyData.keyHash P (Str.ofString "neg"), (.str (Str.ofString "neg") 235), (.ref 56)⟩, ⟨PyData.keyHash P (Str.ofString "concat"), (.str (Str.ofString "concat") 244), (.ref 63)⟩, ⟨PyData.keyHash P (Str.ofString "countOf"), (.str (Str.ofString "countOf") 254), (.ref 70)⟩, ⟨PyData.keyHash P (Str.ofString "setitem"), (.str (Str.ofString "setitem") 263), (.ref 77)⟩, ⟨PyData.keyHash P (Str.ofString "insort_left"), (.str (Str.ofString "insort_left") 278), (.ref 86)⟩, ⟨PyData.keyHash P (Str.ofString "bisect_left"), (.str (Str.ofString "bisect_left") 292), (.ref 95)⟩, ⟨PyData.keyHash P (Str.ofString "b1_set"), (.str (Str.ofString "b1_set") 354), (.ref 103)⟩, ⟨PyData.keyHash P (Str.ofString "in_table_b1"), (.str (Str.ofString "in_table_b1") 361), (.ref 113)⟩] 22), #[]⟩
noncomputable def c15 (P : Params) : Obj := ⟨.none, none, (.fields #[(.int (.ofNat 2) 0), (.int (.ofNat 0) 0), (.ref 20), (.int (.ofNat 4) 0), (.int (.ofNat 0) 0), (.ref 27), (.int (.ofNat 6) 0), (.int (.ofNat 0) 0), (.ref 34), (.int (.ofNat 8) 0), (.int (.ofNat 0) 0), (.ref 41), (.int (.ofNat 10) 0), (.int (.ofNat 0) 0), (.ref 48), (.int (.ofNat 12) 0), (.int (.ofNat 0) 0), (.ref 55), (.int (.ofNat 14) 0), (.int (.ofNat 0) 0), (.ref 62), (.int (.ofNat 19) 0), (.int (.ofNat 0) 0), (.ref 69), (.int (.ofNat 25) 0), (.int (.ofNat 0) 0), (.ref 76), (.int (.ofNat 28) 0), (.int (.ofNat 0) 0), (.ref 85), (.int (.ofNat 34) 0), (.int (.ofNat 0) 0), (.ref 94), (.int (.ofNat 56) 0), (.int (.ofNat 0) 0), (.ref 112)]), #[]⟩
noncomputable def g16 (P : Params) : Obj := ⟨(.type "dict"), none, (.dict #[⟨PyData.keyHash P (Str.ofString "__name__"), (.str (Str.ofString "__name__") 165), (.str (Str.ofString "cpy313.stringprep") 293)⟩, ⟨PyData.keyHash P (Str.ofString "__doc__"), (.str (Str.ofString "__doc__") 166), .none⟩, ⟨PyData.keyHash P (Str.ofString "__package__"), (.str (Str.ofString "__package__") 167), .none⟩, ⟨PyData.keyHash P (Str.ofString "__loader__"), (.str (Str.ofString "__loader__") 168), (.builtin "__main__.__loader__#opaque")⟩, ⟨PyData.keyHash P (Str.ofString "__spec__"), (.str (Str.ofString "__spec__") 169), .none⟩, ⟨PyData.keyHash P (Str.ofString "__annotations__"), (.str (Str.ofString "__annotations__") 170), (.ref 6)⟩, ⟨PyData.keyHash P (Str.ofString "__builtins__"), (.str (Str.ofString "__builtins__") 171), (.ref 4)⟩, ⟨PyData.keyHash P (Str.ofString "__file__"), (.str (Str.ofString "__file__") 173), (.str (Str.ofString "/claim/cut.py") 172)⟩, ⟨PyData.keyHash P (Str.ofString "__cached__"), (.str (Str.ofString "__cached__") 174), .none⟩, ⟨PyData.keyHash P (Str.ofString "lt"), (.str (Str.ofString "lt") 196), (.ref 21)⟩, ⟨PyData.keyHash P (Str.ofString "eq"), (.str (Str.ofString "eq") 204), (.ref 28)⟩, ⟨PyData.keyHash P (Str.ofString "add"), (.str (Str.ofString "add") 212), (.ref 35)⟩, ⟨PyData.keyHash P (Str.ofString "floordiv"), (.str (Str.ofString "floordiv") 220), (.ref 42)⟩, ⟨PyData.keyHash P (Str.ofString "mul"), (.str (Str.ofString "mul") 228), (.ref 49)⟩, ⟨PyData.keyHash P (Str.ofString "neg"), (.str (Str.ofString "neg") 235), (.ref 56)⟩, ⟨PyData.keyHash P (Str.ofString "concat"), (.str (Str.ofString "concat") 244), (.ref 63)⟩, ⟨PyData.keyHash P (Str.ofString "countOf"), (.str (Str.ofString "countOf") 254), (.ref 70)⟩, ⟨PyData.keyHash P (Str.ofString "setitem"), (.str (Str.ofString "setitem") 263), (.ref 77)⟩, ⟨PyData.keyHash P (Str.ofString "insort_left"), (.str (Str.ofString "insort_left") 278), (.ref 86)⟩, ⟨PyData.keyHash P (Str.ofString "bisect_left"), (.str (Str.ofString "bisect_left") 292), (.ref 95)⟩, ⟨PyData.keyHash P (Str.ofString "b1_set"), (.str (Str.ofString "b1_set") 354), (.ref 103)⟩, ⟨PyData.keyHash P (Str.ofString "in_table_b1"), (.str (Str.ofString "in_table_b1") 361), (.ref 113)⟩, ⟨PyData.keyHash P (Str.ofString "b3_exceptions"), (.str (Str.ofString "b3_exceptions") 2312), (.ref 114)⟩] 23), #[]⟩
noncomputable def c16 (P : Params) : Obj := ⟨.none, none, (.fields #[(.int (.ofNat 2) 0), (.int (.ofNat 0) 0), (.ref 20), (.int (.ofNat 4) 0), (.int (.ofNat 0) 0), (.ref 27), (.int (.ofNat 6) 0), (.int (.ofNat 0) 0), (.ref 34), (.int (.ofNat 8) 0), (.int (.ofNat 0) 0), (.ref 41), (.int (.ofNat 10) 0), (.int (.ofNat 0) 0), (.ref 48), (.int (.ofNat 12) 0), (.int (.ofNat 0) 0), (.ref 55), (.int (.ofNat 14) 0), (.int (.ofNat 0) 0), (.ref 62), (.int (.ofNat 19) 0), (.int (.ofNat 0) 0), (.ref 69), (.int (.ofNat 25) 0), (.int (.ofNat 0) 0), (.ref 76), (.int (.ofNat 28) 0), (.int (.ofNat 0) 0), (.ref 85), (.int (.ofNat 34) 0), (.int (.ofNat 0) 0), (.ref 94), (.int (.ofNat 56) 0), (.int (.ofNat 0) 0), (.ref 112)]), #[]⟩
noncomputable def g17 (P : Params) : Obj := ⟨(.type "dict"), none, (.dict #[⟨PyData.keyHash P (Str.ofString "__name__"), (.str (Str.ofString "__name__") 165), (.str (Str.ofString "cpy313.stringprep") 293)⟩, ⟨PyData.keyHash P (Str.ofString "__doc__"), (.str (Str.ofString "__doc__") 166), .none⟩, ⟨PyData.keyHash P (Str.ofString "__package__"), (.str (Str.ofString "__package__") 167), .none⟩, ⟨PyData.keyHash P (Str.ofString "__loader__"), (.str (Str.ofString "__loader__") 168), (.builtin "__main__.__loader__#opaque")⟩, ⟨PyData.keyHash P (Str.ofString "__spec__"), (.str (Str.ofString "__spec__") 169), .none⟩, ⟨PyData.keyHash P (Str.ofString "__annotations__"), (.str (Str.ofString "__annotations__") 170), (.ref 6)⟩, ⟨PyData.keyHash P (Str.ofString "__builtins__"), (.str (Str.ofString "__builtins__") 171), (.ref 4)⟩, ⟨PyData.keyHash P (Str.ofString "__file__"), (.str (Str.ofString "__file__") 173), (.str (Str.ofString "/claim/cut.py") 172)⟩, ⟨PyData.keyHash P (Str.ofString "__cached__"), (.str (Str.ofString "__cached__") 174), .none⟩, ⟨PyData.keyHash P (Str.ofString "lt"), (.str (Str.ofString "lt") 196), (.ref 21)⟩, ⟨PyData.keyHash P (Str.ofString "eq"), (.str (Str.ofString "eq") 204), (.ref 28)⟩, ⟨PyData.keyHash P (Str.ofString "add"), (.str (Str.ofString "add") 212), (.ref 35)⟩, ⟨PyData.keyHash P (Str.ofString "floordiv"), (.str (Str.ofString "floordiv") 220), (.ref 42)⟩, ⟨PyData.keyHash P (Str.ofString "mul"), (.str (Str.ofString "mul") 228), (.ref 49)⟩, ⟨PyData.keyHash P (Str.ofString "neg"), (.str (Str.ofString "neg") 235), (.ref 56)⟩, ⟨PyData.keyHash P (Str.ofString "concat"), (.str (Str.ofString "concat") 244), (.ref 63)⟩, ⟨PyData.keyHash P (Str.ofString "countOf"), (.str (Str.ofString "countOf") 254), (.ref 70)⟩, ⟨PyData.keyHash P (Str.ofString "setitem"), (.str (Str.ofString "setitem") 263), (.ref 77)⟩, ⟨PyData.keyHash P (Str.ofString "insort_left"), (.str (Str.ofString "insort_left") 278), (.ref 86)⟩, ⟨PyData.keyHash P (Str.ofString "bisect_left"), (.str (Str.ofString "bisect_left") 292), (.ref 95)⟩, ⟨PyData.keyHash P (Str.ofString "b1_set"), (.str (Str.ofString "b1_set") 354), (.ref 103)⟩, ⟨PyData.keyHash P (Str.ofString "in_table_b1"), (.str (Str.ofString "in_table_b1") 361), (.ref 113)⟩, ⟨PyData.keyHash P (Str.ofString "b3_exceptions"), (.str (Str.ofString "b3_exceptions") 2312), (.ref 114)⟩, ⟨PyData.keyHash P (Str.ofString "map_table_b3"), (.str (Str.ofString "map_table_b3") 2320), (.ref 159)⟩] 24), #[]⟩
noncomputable def c17 (P : Params) : Obj := ⟨.none, none, (.fields #[(.int (.ofNat 2) 0), (.int (.ofNat 0) 0), (.ref 20), (.int (.ofNat 4) 0), (.int (.ofNat 0) 0), (.ref 27), (.int (.ofNat 6) 0), (.int (.ofNat 0) 0), (.ref 34), (.int (.ofNat 8) 0), (.int (.ofNat 0) 0), (.ref 41), (.int (.ofNat 10) 0), (.int (.ofNat 0) 0), (.ref 48), (.int (.ofNat 12) 0), (.int (.ofNat 0) 0), (.ref 55), (.int (.ofNat 14) 0), (.int (.ofNat 0) 0), (.ref 62), (.int (.ofNat 19) 0), (.int (.ofNat 0) 0), (.ref 69), (.int (.ofNat 25) 0), (.int (.ofNat 0) 0), (.ref 76), (.int (.ofNat 28) 0), (.int (.ofNat 0) 0), (.ref 85), (.int (.ofNat 34) 0), (.int (.ofNat 0) 0), (.ref 94), (.int (.ofNat 56) 0), (.int (.ofNat 0) 0), (.ref 112), (.int (.ofNat 59) 0), (.int (.ofNat 0) 0), (.ref 158)]), #[]⟩
noncomputable def g28 (P : Params) : Obj := ⟨(.type "dict"), none, (.dict #[⟨PyData.keyHash P (Str.ofString "__name__"), (.str (Str.ofString "__name__") 165), (.str (Str.ofString "law_uc0026_01") 2321)⟩, ⟨PyData.keyHash P (Str.ofString "__doc__"), (.str (Str.ofString "__doc__") 166), .none⟩, ⟨PyData.keyHash P (Str.ofString "__package__"), (.str (Str.ofString "__package__") 167), .none⟩, ⟨PyData.keyHash P (Str.ofString "__loader__"), (.str (Str.ofString "__loader__") 168), (.builtin "__main__.__loader__#opaque")⟩, ⟨PyData.keyHash P (Str.ofString "__spec__"), (.str (Str.ofString "__spec__") 169), .none⟩, ⟨PyData.keyHash P (Str.ofString "__annotations__"), (.str (Str.ofString "__annotations__") 170), (.ref 6)⟩, ⟨PyData.keyHash P (Str.ofString "__builtins__"), (.str (Str.ofString "__builtins__") 171), (.ref 4)⟩, ⟨PyData.keyHash P (Str.ofString "__file__"), (.str (Str.ofString "__file__") 173), (.str (Str.ofString "/claim/cut.py") 172)⟩, ⟨PyData.keyHash P (Str.ofString "__cached__"), (.str (Str.ofString "__cached__") 174), .none⟩, ⟨PyData.keyHash P (Str.ofString "lt"), (.str (Str.ofString "lt") 196), (.ref 21)⟩, ⟨PyData.keyHash P (Str.ofString "eq"), (.str (Str.ofString "eq") 204), (.ref 28)⟩, ⟨PyData.keyHash P (Str.ofString "add"), (.str (Str.ofString "add") 212), (.ref 35)⟩, ⟨PyData.keyHash P (Str.ofString "floordiv"), (.str (Str.ofString "floordiv") 220), (.ref 42)⟩, ⟨PyData.keyHash P (Str.ofString "mul"), (.str (Str.ofString "mul") 228), (.ref 49)⟩, ⟨PyData.keyHash P (Str.ofString "neg"), (.str (Str.ofString "neg") 235), (.ref 56)⟩, ⟨PyData.keyHash P (Str.ofString "concat"), (.str (Str.ofString "concat") 244), (.ref 63)⟩, ⟨PyData.keyHash P (Str.ofString "countOf"), (.str (Str.ofString "countOf") 254), (.ref 70)⟩, ⟨PyData.keyHash P (Str.ofString "setitem"), (.str (Str.ofString "setitem") 263), (.ref 77)⟩, ⟨PyData.keyHash P (Str.ofString "insort_left"), (.str (Str.ofString "insort_left") 278), (.ref 86)⟩, ⟨PyData.keyHash P (Str.ofString "bisect_left"), (.str (Str.ofString "bisect_left") 292), (.ref 95)⟩, ⟨PyData.keyHash P (Str.ofString "b1_set"), (.str (Str.ofString "b1_set") 354), (.ref 103)⟩, ⟨PyData.keyHash P (Str.ofString "in_table_b1"), (.str (Str.ofString "in_table_b1") 361), (.ref 113)⟩, ⟨PyData.keyHash P (Str.ofString "b3_exceptions"), (.str (Str.ofString "b3_exceptions") 2312), (.ref 114)⟩, ⟨PyData.keyHash P (Str.ofString "map_table_b3"), (.str (Str.ofString "map_table_b3") 2320), (.ref 159)⟩, ⟨PyData.keyHash P (Str.ofString "_law_typed"), (.str (Str.ofString "_law_typed") 2340), (.ref 166)⟩, ⟨PyData.keyHash P (Str.ofString "_law_prepared"), (.str (Str.ofString "_law_prepared") 2350), (.ref 173)⟩, ⟨PyData.keyHash P (Str.ofString "_law_word"), (.str (Str.ofString "_law_word") 2357), (.ref 180)⟩, ⟨PyData.keyHash P (Str.ofString "_law_gathered"), (.str (Str.ofString "_law_gathered") 2369), (.ref 187)⟩, ⟨PyData.keyHash P (Str.ofString "_law_cut"), (.str (Str.ofString "_law_cut") 2375), (.ref 192)⟩, ⟨PyData.keyHash P (Str.ofString "_law_brackets"), (.str (Str.ofString "_law_brackets") 2381), (.ref 197)⟩, ⟨PyData.keyHash P (Str.ofString "_law_ways"), (.str (Str.ofString "_law_ways") 2387), (.ref 202)⟩, ⟨PyData.keyHash P (Str.ofString "_law_shuffles"), (.str (Str.ofString "_law_shuffles") 2393), (.ref 207)⟩, ⟨PyData.keyHash P (Str.ofString "_law_measured"), (.str (Str.ofString "_law_measured") 2405), (.ref 214)⟩, ⟨PyData.keyHash P (Str.ofString "law"), (.str (Str.ofString "law") 2411), (.ref 219)⟩] 34), #[]⟩
noncomputable def c28 (P : Params) : Obj := ⟨.none, none, (.fields #[(.int (.ofNat 2) 0), (.int (.ofNat 0) 0), (.ref 20), (.int (.ofNat 4) 0), (.int (.ofNat 0) 0), (.ref 27), (.int (.ofNat 6) 0), (.int (.ofNat 0) 0), (.ref 34), (.int (.ofNat 8) 0), (.int (.ofNat 0) 0), (.ref 41), (.int (.ofNat 10) 0), (.int (.ofNat 0) 0), (.ref 48), (.int (.ofNat 12) 0), (.int (.ofNat 0) 0), (.ref 55), (.int (.ofNat 14) 0), (.int (.ofNat 0) 0), (.ref 62), (.int (.ofNat 19) 0), (.int (.ofNat 0) 0), (.ref 69), (.int (.ofNat 25) 0), (.int (.ofNat 0) 0), (.ref 76), (.int (.ofNat 28) 0), (.int (.ofNat 0) 0), (.ref 85), (.int (.ofNat 34) 0), (.int (.ofNat 0) 0), (.ref 94), (.int (.ofNat 56) 0), (.int (.ofNat 0) 0), (.ref 112), (.int (.ofNat 59) 0), (.int (.ofNat 0) 0), (.ref 158), (.int (.ofNat 65) 0), (.int (.ofNat 0) 0), (.ref 165), (.int (.ofNat 82) 0), (.int (.ofNat 0) 0), (.ref 172), (.int (.ofNat 91) 0), (.int (.ofNat 0) 0), (.ref 179), (.int (.ofNat 93) 0), (.int (.ofNat 0) 0), (.ref 186), (.int (.ofNat 104) 0), (.int (.ofNat 0) 0), (.ref 191), (.int (.ofNat 112) 0), (.int (.ofNat 0) 0), (.ref 196), (.int (.ofNat 122) 0), (.int (.ofNat 0) 0), (.ref 201), (.int (.ofNat 126) 0), (.int (.ofNat 0) 0), (.ref 206), (.int (.ofNat 139) 0), (.int (.ofNat 0) 0), (.ref 213), (.int (.ofNat 146) 0), (.int (.ofNat 0) 0), (.ref 218)]), #[]⟩
noncomputable def t0 (P : Params) : BT := (.node (boot_o_0 P) (.node (boot_o_1 P) (.node (boot_o_3 P) (.node (boot_o_7 P) .nil .nil) .nil) (.node (boot_o_5 P) (.node (boot_o_9 P) .nil .nil) .nil)) (.node (boot_o_2 P) (.node (boot_o_4 P) (.node (boot_o_8 P) .nil .nil) .nil) (.node (boot_o_6 P) (.node (boot_o_10 P) .nil .nil) .nil)))
noncomputable def ts (P : Params) : BT := (.node (boot_o_0 P) (.node (boot_o_1 P) (.node (gs P) (.node (boot_o_7 P) .nil .nil) (.node (o11 P) .nil .nil)) (.node (boot_o_5 P) (.node (boot_o_9 P) .nil .nil) (.node (o13 P) .nil .nil))) (.node (boot_o_2 P) (.node (boot_o_4 P) (.node (boot_o_8 P) .nil .nil) (.node (cs P) .nil .nil)) (.node (boot_o_6 P) (.node (boot_o_10 P) .nil .nil) (.node (o14 P) .nil .nil))))
noncomputable def t13 (P : Params) : BT := (.node (boot_o_0 P) (.node (boot_o_1 P) (.node (g13 P) (.node (boot_o_7 P) (.node (o15 P) (.node (o31 P) (.node (o63 P) .nil .nil) (.node (o95 P) .nil .nil)) (.node (o47 P) (.node (o79 P) .nil .nil) .nil)) (.node (o23 P) (.node (o39 P) (.node (o71 P) .nil .nil) .nil) (.node (o55 P) (.node (o87 P) .nil .nil) .nil))) (.node (o11 P) (.node (o19 P) (.node (o35 P) (.node (o67 P) .nil .nil) .nil) (.node (o51 P) (.node (o83 P) .nil .nil) .nil)) (.node (o27 P) (.node (o43 P) (.node (o75 P) .nil .nil) .nil) (.node (o59 P) (.node (o91 P) .nil .nil) .nil)))) (.node (boot_o_5 P) (.node (boot_o_9 P) (.node (o17 P) (.node (o33 P) (.node (o65 P) .nil .nil) .nil) (.node (o49 P) (.node (o81 P) .nil .nil) .nil)) (.node (o25 P) (.node (o41 P) (.node (o73 P) .nil .nil) .nil) (.node (o57 P) (.node (o89 P) .nil .nil) .nil))) (.node (o13 P) (.node (o21 P) (.node (o37 P) (.node (o69 P) .nil .nil) .nil) (.node (o53 P) (.node (o85 P) .nil .nil) .nil)) (.node (o29 P) (.node (o45 P) (.node (o77 P) .nil .nil) .nil) (.node (o61 P) (.node (o93 P) .nil .nil) .nil))))) (.node (boot_o_2 P) (.node (boot_o_4 P) (.node (boot_o_8 P) (.node (o16 P) (.node (o32 P) (.node (o64 P) .nil .nil) .nil) (.node (o48 P) (.node (o80 P) .nil .nil) .nil)) (.node (o24 P) (.node (o40 P) (.node (o72 P) .nil .nil) .nil) (.node (o56 P) (.node (o88 P) .nil .nil) .nil))) (.node (c13 P) (.node (o20 P) (.node (o36 P) (.node (o68 P) .nil .nil) .nil) (.node (o52 P) (.node (o84 P) .nil .nil) .nil)) (.node (o28 P) (.node (o44 P) (.node (o76 P) .nil .nil) .nil) (.node (o60 P) (.node (o92 P) .nil .nil) .nil)))) (.node (boot_o_6 P) (.node (boot_o_10 P) (.node (o18 P) (.node (o34 P) (.node (o66 P) .nil .nil) .nil) (.node (o50 P) (.node (o82 P) .nil .nil) .nil)) (.node (o26 P) (.node (o42 P) (.node (o74 P) .nil .nil) .nil) (.node (o58 P) (.node (o90 P) .nil .nil) .nil))) (.node (o14 P) (.node (o22 P) (.node (o38 P) (.node (o70 P) .nil .nil) .nil) (.node (o54 P) (.node (o86 P) .nil .nil) .nil)) (.node (o30 P) (.node (o46 P) (.node (o78 P) .nil .nil) .nil) (.node (o62 P) (.node (o94 P) .nil .nil) .nil))))))
noncomputable def t14 (P : Params) : BT := (.node (boot_o_0 P) (.node (boot_o_1 P) (.node (g14 P) (.node (boot_o_7 P) (.node (o15 P) (.node (o31 P) (.node (o63 P) .nil .nil) (.node (o95 P) .nil .nil)) (.node (o47 P) (.node (o79 P) .nil .nil) .nil)) (.node (o23 P) (.node (o39 P) (.node (o71 P) .nil .nil) (.node (o103 P) .nil .nil)) (.node (o55 P) (.node (o87 P) .nil .nil) .nil))) (.node (o11 P) (.node (o19 P) (.node (o35 P) (.node (o67 P) .nil .nil) (.node (o99 P) .nil .nil)) (.node (o51 P) (.node (o83 P) .nil .nil) .nil)) (.node (o27 P) (.node (o43 P) (.node (o75 P) .nil .nil) .nil) (.node (o59 P) (.node (o91 P) .nil .nil) .nil)))) (.node (boot_o_5 P) (.node (boot_o_9 P) (.node (o17 P) (.node (o33 P) (.node (o65 P) .nil .nil) (.node (o97 P) .nil .nil)) (.node (o49 P) (.node (o81 P) .nil .nil) .nil)) (.node (o25 P) (.node (o41 P) (.node (o73 P) .nil .nil) (.node (o105 P) .nil .nil)) (.node (o57 P) (.node (o89 P) .nil .nil) .nil))) (.node (o13 P) (.node (o21 P) (.node (o37 P) (.node (o69 P) .nil .nil) (.node (o101 P) .nil .nil)) (.node (o53 P) (.node (o85 P) .nil .nil) .nil)) (.node (o29 P) (.node (o45 P) (.node (o77 P) .nil .nil) .nil) (.node (o61 P) (.node (o93 P) .nil .nil) .nil))))) (.node (boot_o_2 P) (.node (boot_o_4 P) (.node (boot_o_8 P) (.node (o16 P) (.node (o32 P) (.node (o64 P) .nil .nil) (.node (o96 P) .nil .nil)) (.node (o48 P) (.node (o80 P) .nil .nil) .nil)) (.node (o24 P) (.node (o40 P) (.node (o72 P) .nil .nil) (.node (o104 P) .nil .nil)) (.node (o56 P) (.node (o88 P) .nil .nil) .nil))) (.node (c14 P) (.node (o20 P) (.node (o36 P) (.node (o68 P) .nil .nil) (.node (o100 P) .nil .nil)) (.node (o52 P) (.node (o84 P) .nil .nil) .nil)) (.node (o28 P) (.node (o44 P) (.node (o76 P) .nil .nil) .nil) (.node (o60 P) (.node (o92 P) .nil .nil) .nil)))) (.node (boot_o_6 P) (.node (boot_o_10 P) (.node (o18 P) (.node (o34 P) (.node (o66 P) .nil .nil) (.node (o98 P) .nil .nil)) (.node (o50 P) (.node (o82 P) .nil .nil) .nil)) (.node (o26 P) (.node (o42 P) (.node (o74 P) .nil .nil) (.node (o106 P) .nil .nil)) (.node (o58 P) (.node (o90 P) .nil .nil) .nil))) (.node (o14 P) (.node (o22 P) (.node (o38 P) (.node (o70 P) .nil .nil) (.node (o102 P) .nil .nil)) (.node (o54 P) (.node (o86 P) .nil .nil) .nil)) (.node (o30 P) (.node (o46 P) (.node (o78 P) .nil .nil) .nil) (.node (o62 P) (.node (o94 P) .nil .nil) .nil))))))
noncomputable def t15 (P : Params) : BT := (.node (boot_o_0 P) (.node (boot_o_1 P) (.node (g15 P) (.node (boot_o_7 P) (.node (o15 P) (.node (o31 P) (.node (o63 P) .nil .nil) (.node (o95 P) .nil .nil)) (.node (o47 P) (.node (o79 P) .nil .nil) (.node (o111 P) .nil .nil))) (.node (o23 P) (.node (o39 P) (.node (o71 P) .nil .nil) (.node (o103 P) .nil .nil)) (.node (o55 P) (.node (o87 P) .nil .nil) .nil))) (.node (o11 P) (.node (o19 P) (.node (o35 P) (.node (o67 P) .nil .nil) (.node (o99 P) .nil .nil)) (.node (o51 P) (.node (o83 P) .nil .nil) .nil)) (.node (o27 P) (.node (o43 P) (.node (o75 P) .nil .nil) (.node (o107 P) .nil .nil)) (.node (o59 P) (.node (o91 P) .nil .nil) .nil)))) (.node (boot_o_5 P) (.node (boot_o_9 P) (.node (o17 P) (.node (o33 P) (.node (o65 P) .nil .nil) (.node (o97 P) .nil .nil)) (.node (o49 P) (.node (o81 P) .nil .nil) (.node (o113 P) .nil .nil))) (.node (o25 P) (.node (o41 P) (.node (o73 P) .nil .nil) (.node (o105 P) .nil .nil)) (.node (o57 P) (.node (o89 P) .nil .nil) .nil))) (.node (o13 P) (.node (o21 P) (.node (o37 P) (.node (o69 P) .nil .nil) (.node (o101 P) .nil .nil)) (.node (o53 P) (.node (o85 P) .nil .nil) .nil)) (.node (o29 P) (.node (o45 P) (.node (o77 P) .nil .nil) (.node (o109 P) .nil .nil)) (.node (o61 P) (.node (o93 P) .nil .nil) .nil))))) (.node (boot_o_2 P) (.node (boot_o_4 P) (.node (boot_o_8 P) (.node (o16 P) (.node (o32 P) (.node (o64 P) .nil .nil) (.node (o96 P) .nil .nil)) (.node (o48 P) (.node (o80 P) .nil .nil) (.node (o112 P) .nil .nil))) (.node (o24 P) (.node (o40 P) (.node (o72 P) .nil .nil) (.node (o104 P) .nil .nil)) (.node (o56 P) (.node (o88 P) .nil .nil) .nil))) (.node (c15 P) (.node (o20 P) (.node (o36 P) (.node (o68 P) .nil .nil) (.node (o100 P) .nil .nil)) (.node (o52 P) (.node (o84 P) .nil .nil) .nil)) (.node (o28 P) (.node (o44 P) (.node (o76 P) .nil .nil) (.node (o108 P) .nil .nil)) (.node (o60 P) (.node (o92 P) .nil .nil) .nil)))) (.node (boot_o_6 P) (.node (boot_o_10 P) (.node (o18 P) (.node (o34 P) (.node (o66 P) .nil .nil) (.node (o98 P) .nil .nil)) (.node (o50 P) (.node (o82 P) .nil .nil) .nil)) (.node (o26 P) (.node (o42 P) (.node (o74 P) .nil .nil) (.node (o106 P) .nil .nil)) (.node (o58 P) (.node (o90 P) .nil .nil) .nil))) (.node (o14 P) (.node (o22 P) (.node (o38 P) (.node (o70 P) .nil .nil) (.node (o102 P) .nil .nil)) (.node (o54 P) (.node (o86 P) .nil .nil) .nil)) (.node (o30 P) (.node (o46 P) (.node (o78 P) .nil .nil) (.node (o110 P) .nil .nil)) (.node (o62 P) (.node (o94 P) .nil .nil) .nil))))))
noncomputable def t15x (P : Params) (X : Nat → Obj) : BT := (.node (boot_o_0 P) (.node (boot_o_1 P) (.node (g15 P) (.node (boot_o_7 P) (.node (o15 P) (.node (o31 P) (.node (o63 P) (.node (X 127) .nil .nil) .nil) (.node (o95 P) .nil .nil)) (.node (o47 P) (.node (o79 P) (.node (X 143) .nil .nil) .nil) (.node (o111 P) .nil .nil))) (.node (o23 P) (.node (o39 P) (.node (o71 P) (.node (X 135) .nil .nil) .nil) (.node (o103 P) .nil .nil)) (.node (o55 P) (.node (o87 P) (.node (X 151) .nil .nil) .nil) (.node (X 119) .nil .nil)))) (.node (o11 P) (.node (o19 P) (.node (o35 P) (.node (o67 P) (.node (X 131) .nil .nil) .nil) (.node (o99 P) .nil .nil)) (.node (o51 P) (.node (o83 P) (.node (X 147) .nil .nil) .nil) (.node (X 115) .nil .nil))) (.node (o27 P) (.node (o43 P) (.node (o75 P) (.node (X 139) .nil .nil) .nil) (.node (o107 P) .nil .nil)) (.node (o59 P) (.node (o91 P) .nil .nil) (.node (X 123) .nil .nil))))) (.node (boot_o_5 P) (.node (boot_o_9 P) (.node (o17 P) (.node (o33 P) (.node (o65 P) (.node (X 129) .nil .nil) .nil) (.node (o97 P) .nil .nil)) (.node (o49 P) (.node (o81 P) (.node (X 145) .nil .nil) .nil) (.node (o113 P) .nil .nil))) (.node (o25 P) (.node (o41 P) (.node (o73 P) (.node (X 137) .nil .nil) .nil) (.node (o105 P) .nil .nil)) (.node (o57 P) (.node (o89 P) .nil .nil) (.node (X 121) .nil .nil)))) (.node (o13 P) (.node (o21 P) (.node (o37 P) (.node (o69 P) (.node (X 133) .nil .nil) .nil) (.node (o101 P) .nil .nil)) (.node (o53 P) (.node (o85 P) (.node (X 149) .nil .nil) .nil) (.node (X 117) .nil .nil))) (.node (o29 P) (.node (o45 P) (.node (o77 P) (.node (X 141) .nil .nil) .nil) (.node (o109 P) .nil .nil)) (.node (o61 P) (.node (o93 P) .nil .nil) (.node (X 125) .nil .nil)))))) (.node (boot_o_2 P) (.node (boot_o_4 P) (.node (boot_o_8 P) (.node (o16 P) (.node (o32 P) (.node (o64 P) (.node (X 128) .nil .nil) .nil) (.node (o96 P) .nil .nil)) (.node (o48 P) (.node (o80 P) (.node (X 144) .nil .nil) .nil) (.node (o112 P) .nil .nil))) (.node (o24 P) (.node (o40 P) (.node (o72 P) (.node (X 136) .nil .nil) .nil) (.node (o104 P) .nil .nil)) (.node (o56 P) (.node (o88 P) (.node (X 152) .nil .nil) .nil) (.node (X 120) .nil .nil)))) (.node (c15 P) (.node (o20 P) (.node (o36 P) (.node (o68 P) (.node (X 132) .nil .nil) .nil) (.node (o100 P) .nil .nil)) (.node (o52 P) (.node (o84 P) (.node (X 148) .nil .nil) .nil) (.node (X 116) .nil .nil))) (.node (o28 P) (.node (o44 P) (.node (o76 P) (.node (X 140) .nil .nil) .nil) (.node (o108 P) .nil .nil)) (.node (o60 P) (.node (o92 P) .nil .nil) (.node (X 124) .nil .nil))))) (.node (boot_o_6 P) (.node (boot_o_10 P) (.node (o18 P) (.node (o34 P) (.node (o66 P) (.node (X 130) .nil .nil) .nil) (.node (o98 P) .nil .nil)) (.node (o50 P) (.node (o82 P) (.node (X 146) .nil .nil) .nil) (.node (X 114) .nil .nil))) (.node (o26 P) (.node (o42 P) (.node (o74 P) (.node (X 138) .nil .nil) .nil) (.node (o106 P) .nil .nil)) (.node (o58 P) (.node (o90 P) .nil .nil) (.node (X 122) .nil .nil)))) (.node (o14 P) (.node (o22 P) (.node (o38 P) (.node (o70 P) (.node (X 134) .nil .nil) .nil) (.node (o102 P) .nil .nil)) (.node (o54 P) (.node (o86 P) (.node (X 150) .nil .nil) .nil) (.node (X 118) .nil .nil))) (.node (o30 P) (.node (o46 P) (.node (o78 P) (.node (X 142) .nil .nil) .nil) (.node (o110 P) .nil .nil)) (.node (o62 P) (.node (o94 P) .nil .nil) (.node (X 126) .nil .nil)))))))
noncomputable def t16 (P : Params) (X : Nat → Obj) : BT := (.node (boot_o_0 P) (.node (boot_o_1 P) (.node (g16 P) (.node (boot_o_7 P) (.node (o15 P) (.node (o31 P) (.node (o63 P) (.node (X 127) .nil .nil) .nil) (.node (o95 P) .nil .nil)) (.node (o47 P) (.node (o79 P) (.node (X 143) .nil .nil) .nil) (.node (o111 P) .nil .nil))) (.node (o23 P) (.node (o39 P) (.node (o71 P) (.node (X 135) .nil .nil) .nil) (.node (o103 P) .nil .nil)) (.node (o55 P) (.node (o87 P) (.node (X 151) .nil .nil) .nil) (.node (X 119) .nil .nil)))) (.node (o11 P) (.node (o19 P) (.node (o35 P) (.node (o67 P) (.node (X 131) .nil .nil) .nil) (.node (o99 P) .nil .nil)) (.node (o51 P) (.node (o83 P) (.node (X 147) .nil .nil) .nil) (.node (X 115) .nil .nil))) (.node (o27 P) (.node (o43 P) (.node (o75 P) (.node (X 139) .nil .nil) .nil) (.node (o107 P) .nil .nil)) (.node (o59 P) (.node (o91 P) .nil .nil) (.node (X 123) .nil .nil))))) (.node (boot_o_5 P) (.node (boot_o_9 P) (.node (o17 P) (.node (o33 P) (.node (o65 P) (.node (X 129) .nil .nil) .nil) (.node (o97 P) .nil .nil)) (.node (o49 P) (.node (o81 P) (.node (X 145) .nil .nil) .nil) (.node (o113 P) .nil .nil))) (.node (o25 P) (.node (o41 P) (.node (o73 P) (.node (X 137) .nil .nil) .nil) (.node (o105 P) .nil .nil)) (.node (o57 P) (.node (o89 P) .nil .nil) (.node (X 121) .nil .nil)))) (.node (o13 P) (.node (o21 P) (.node (o37 P) (.node (o69 P) (.node (X 133) .nil .nil) .nil) (.node (o101 P) .nil .nil)) (.node (o53 P) (.node (o85 P) (.node (X 149) .nil .nil) .nil) (.node (X 117) .nil .nil))) (.node (o29 P) (.node (o45 P) (.node (o77 P) (.node (X 141) .nil .nil) .nil) (.node (o109 P) .nil .nil)) (.node (o61 P) (.node (o93 P) .nil .nil) (.node (X 125) .nil .nil)))))) (.node (boot_o_2 P) (.node (boot_o_4 P) (.node (boot_o_8 P) (.node (o16 P) (.node (o32 P) (.node (o64 P) (.node (X 128) .nil .nil) .nil) (.node (o96 P) .nil .nil)) (.node (o48 P) (.node (o80 P) (.node (X 144) .nil .nil) .nil) (.node (o112 P) .nil .nil))) (.node (o24 P) (.node (o40 P) (.node (o72 P) (.node (X 136) .nil .nil) .nil) (.node (o104 P) .nil .nil)) (.node (o56 P) (.node (o88 P) (.node (X 152) .nil .nil) .nil) (.node (X 120) .nil .nil)))) (.node (c16 P) (.node (o20 P) (.node (o36 P) (.node (o68 P) (.node (X 132) .nil .nil) .nil) (.node (o100 P) .nil .nil)) (.node (o52 P) (.node (o84 P) (.node (X 148) .nil .nil) .nil) (.node (X 116) .nil .nil))) (.node (o28 P) (.node (o44 P) (.node (o76 P) (.node (X 140) .nil .nil) .nil) (.node (o108 P) .nil .nil)) (.node (o60 P) (.node (o92 P) .nil .nil) (.node (X 124) .nil .nil))))) (.node (boot_o_6 P) (.node (boot_o_10 P) (.node (o18 P) (.node (o34 P) (.node (o66 P) (.node (X 130) .nil .nil) .nil) (.node (o98 P) .nil .nil)) (.node (o50 P) (.node (o82 P) (.node (X 146) .nil .nil) .nil) (.node (X 114) .nil .nil))) (.node (o26 P) (.node (o42 P) (.node (o74 P) (.node (X 138) .nil .nil) .nil) (.node (o106 P) .nil .nil)) (.node (o58 P) (.node (o90 P) .nil .nil) (.node (X 122) .nil .nil)))) (.node (o14 P) (.node (o22 P) (.node (o38 P) (.node (o70 P) (.node (X 134) .nil .nil) .nil) (.node (o102 P) .nil .nil)) (.node (o54 P) (.node (o86 P) (.node (X 150) .nil .nil) .nil) (.node (X 118) .nil .nil))) (.node (o30 P) (.node (o46 P) (.node (o78 P) (.node (X 142) .nil .nil) .nil) (.node (o110 P) .nil .nil)) (.node (o62 P) (.node (o94 P) .nil .nil) (.node (X 126) .nil .nil)))))))
noncomputable def t28 (P : Params) (X : Nat → Obj) : BT := (.node (boot_o_0 P) (.node (boot_o_1 P) (.node (g28 P) (.node (boot_o_7 P) (.node (o15 P) (.node (o31 P) (.node (o63 P) (.node (X 127) .nil .nil) (.node (o191 P) .nil .nil)) (.node (o95 P) (.node (o159 P) .nil .nil) .nil)) (.node (o47 P) (.node (o79 P) (.node (X 143) .nil .nil) (.node (o207 P) .nil .nil)) (.node (o111 P) (.node (o175 P) .nil .nil) .nil))) (.node (o23 P) (.node (o39 P) (.node (o71 P) (.node (X 135) .nil .nil) (.node (o199 P) .nil .nil)) (.node (o103 P) (.node (o167 P) .nil .nil) .nil)) (.node (o55 P) (.node (o87 P) (.node (X 151) .nil .nil) (.node (o215 P) .nil .nil)) (.node (X 119) (.node (o183 P) .nil .nil) .nil)))) (.node (o11 P) (.node (o19 P) (.node (o35 P) (.node (o67 P) (.node (X 131) .nil .nil) (.node (o195 P) .nil .nil)) (.node (o99 P) (.node (o163 P) .nil .nil) .nil)) (.node (o51 P) (.node (o83 P) (.node (X 147) .nil .nil) (.node (o211 P) .nil .nil)) (.node (X 115) (.node (o179 P) .nil .nil) .nil))) (.node (o27 P) (.node (o43 P) (.node (o75 P) (.node (X 139) .nil .nil) (.node (o203 P) .nil .nil)) (.node (o107 P) (.node (o171 P) .nil .nil) .nil)) (.node (o59 P) (.node (o91 P) (.node (o155 P) .nil .nil) (.node (o219 P) .nil .nil)) (.node (X 123) (.node (o187 P) .nil .nil) .nil))))) (.node (boot_o_5 P) (.node (boot_o_9 P) (.node (o17 P) (.node (o33 P) (.node (o65 P) (.node (X 129) .nil .nil) (.node (o193 P) .nil .nil)) (.node (o97 P) (.node (o161 P) .nil .nil) .nil)) (.node (o49 P) (.node (o81 P) (.node (X 145) .nil .nil) (.node (o209 P) .nil .nil)) (.node (o113 P) (.node (o177 P) .nil .nil) .nil))) (.node (o25 P) (.node (o41 P) (.node (o73 P) (.node (X 137) .nil .nil) (.node (o201 P) .nil .nil)) (.node (o105 P) (.node (o169 P) .nil .nil) .nil)) (.node (o57 P) (.node (o89 P) (.node (o153 P) .nil .nil) (.node (o217 P) .nil .nil)) (.node (X 121) (.node (o185 P) .nil .nil) .nil)))) (.node (o13 P) (.node (o21 P) (.node (o37 P) (.node (o69 P) (.node (X 133) .nil .nil) (.node (o197 P) .nil .nil)) (.node (o101 P) (.node (o165 P) .nil .nil) .nil)) (.node (o53 P) (.node (o85 P) (.node (X 149) .nil .nil) (.node (o213 P) .nil .nil)) (.node (X 117) (.node (o181 P) .nil .nil) .nil))) (.node (o29 P) (.node (o45 P) (.node (o77 P) (.node (X 141) .nil .nil) (.node (o205 P) .nil .nil)) (.node (o109 P) (.node (o173 P) .nil .nil) .nil)) (.node (o61 P) (.node (o93 P) (.node (o157 P) .nil .nil) .nil) (.node (X 125) (.node (o189 P) .nil .nil) .nil)))))) (.node (boot_o_2 P) (.node (boot_o_4 P) (.node (boot_o_8 P) (.node (o16 P) (.node (o32 P) (.node (o64 P) (.node (X 128) .nil .nil) (.node (o192 P) .nil .nil)) (.node (o96 P) (.node (o160 P) .nil .nil) .nil)) (.node (o48 P) (.node (o80 P) (.node (X 144) .nil .nil) (.node (o208 P) .nil .nil)) (.node (o112 P) (.node (o176 P) .nil .nil) .nil))) (.node (o24 P) (.node (o40 P) (.node (o72 P) (.node (X 136) .nil .nil) (.node (o200 P) .nil .nil)) (.node (o104 P) (.node (o168 P) .nil .nil) .nil)) (.node (o56 P) (.node (o88 P) (.node (X 152) .nil .nil) (.node (o216 P) .nil .nil)) (.node (X 120) (.node (o184 P) .nil .nil) .nil)))) (.node (c28 P) (.node (o20 P) (.node (o36 P) (.node (o68 P) (.node (X 132) .nil .nil) (.node (o196 P) .nil .nil)) (.node (o100 P) (.node (o164 P) .nil .nil) .nil)) (.node (o52 P) (.node (o84 P) (.node (X 148) .nil .nil) (.node (o212 P) .nil .nil)) (.node (X 116) (.node (o180 P) .nil .nil) .nil))) (.node (o28 P) (.node (o44 P) (.node (o76 P) (.node (X 140) .nil .nil) (.node (o204 P) .nil .nil)) (.node (o108 P) (.node (o172 P) .nil .nil) .nil)) (.node (o60 P) (.node (o92 P) (.node (o156 P) .nil .nil) .nil) (.node (X 124) (.node (o188 P) .nil .nil) .nil))))) (.node (boot_o_6 P) (.node (boot_o_10 P) (.node (o18 P) (.node (o34 P) (.node (o66 P) (.node (X 130) .nil .nil) (.node (o194 P) .nil .nil)) (.node (o98 P) (.node (o162 P) .nil .nil) .nil)) (.node (o50 P) (.node (o82 P) (.node (X 146) .nil .nil) (.node (o210 P) .nil .nil)) (.node (X 114) (.node (o178 P) .nil .nil) .nil))) (.node (o26 P) (.node (o42 P) (.node (o74 P) (.node (X 138) .nil .nil) (.node (o202 P) .nil .nil)) (.node (o106 P) (.node (o170 P) .nil .nil) .nil)) (.node (o58 P) (.node (o90 P) (.node (o154 P) .nil .nil) (.node (o218 P) .nil .nil)) (.node (X 122) (.node (o186 P) .nil .nil) .nil)))) (.node (o14 P) (.node (o22 P) (.node (o38 P) (.node (o70 P) (.node (X 134) .nil .nil) (.node (o198 P) .nil .nil)) (.node (o102 P) (.node (o166 P) .nil .nil) .nil)) (.node (o54 P) (.node (o86 P) (.node (X 150) .nil .nil) (.node (o214 P) .nil .nil)) (.node (X 118) (.node (o182 P) .nil .nil) .nil))) (.node (o30 P) (.node (o46 P) (.node (o78 P) (.node (X 142) .nil .nil) (.node (o206 P) .nil .nil)) (.node (o110 P) (.node (o174 P) .nil .nil) .nil)) (.node (o62 P) (.node (o94 P) (.node (o158 P) .nil .nil) .nil) (.node (X 126) (.node (o190 P) .nil .nil) .nil)))))))
end
end Mine

set_option maxRecDepth 100000
namespace Mine
noncomputable section
open PySem PySem.W PyProof.Rows
@[irreducible] noncomputable def env0 : Env := { scope := pw.main.scope, locals := mainNs, globals := mainNs, cells := [], code := .ref 13, frame := some 14 }
@[irreducible] noncomputable def body0 : List Stmt := behindTheImports pw
noncomputable def cE : Code := .body body0 env0
noncomputable def shL (t : BT) (n : Nat) (life : Life) (k : Nat) (os : OsState) : SharedT := ⟨t, n, life, #[], ⟨0, 0, 0, 0⟩, k, os⟩
noncomputable def shT (t : BT) (n k : Nat) (os : OsState) : SharedT := shL t n {} k os
@[irreducible] noncomputable def sts (i n : Nat) : List Stmt := (pw.main.body.drop i).take n
end
end Mine

set_option maxRecDepth 100000
namespace Mine
noncomputable section
open PySem PySem.W PyProof.Rows

/-- the tree of one code, run at once; `cf` runs a called code -/
noncomputable def evT {α : Type} (pr : Program) (P : Params) (cf : Ctx → Pos → SharedT → Option (Result × SharedT)) (Γ : Ctx) : Sem α → Pos → SharedT → Option (Except Value α × Pos × SharedT)
  | .pure a, p, s => some (.ok a, p, s)
  | .raise e, p, s => some (.error e, p, s)
  | .rule _ k, p, s => evT pr P cf Γ (k ()) p s
  | .at q k, _, s => evT pr P cf Γ (k ()) q s
  | .load a _ k, p, s => match Nat.blt a s.n with
    | true => match s.tree.get a with
      | some o => match alive o with
        | some o' => evT pr P cf Γ (k o') p s
        | none => none
      | none => none
    | false => none
  | .update a _ f k, p, s => match Nat.blt a s.n with
    | true => match s.tree.get a with
      | some o => match alive o with
        | some _ => evT pr P cf Γ (k ()) p { s with tree := s.tree.set a f }
        | none => none
      | none => none
    | false => none
  | .alloc o k, p, s => match ((s.tree.ins s.n o).get s.n).isSome with
    | true => evT pr P cf Γ (k s.n) p { s with tree := s.tree.ins s.n o, n := s.n + 1 }
    | false => none
  | .loadIfAlive a k, p, s => match Nat.blt a s.n with
    | true => match s.tree.get a with
      | some o => evT pr P cf Γ (k (alive o)) p s
      | none => none
    | false => evT pr P cf Γ (k none) p s
  | .point _ k, p, s => evT pr P cf Γ (k ()) p s
  | .fresh k, p, s => evT pr P cf Γ (k s.toks) p { s with toks := s.toks + 1 }
  | .ask k, p, s => evT pr P cf Γ (k ⟨pr, P⟩) p s
  | .call c h _ _ k, p, s => match cf (Γ.enter c h p) p s with
    | some (r, s') => evT pr P cf Γ (k r) p s'
    | none => none
  | .handled own k, p, s => evT pr P cf Γ (k (if own then Γ.own else Γ.handled)) p s
  | .stack k, p, s => evT pr P cf Γ (k ((Γ.code, p) :: Γ.below)) p s
  | .thread k, p, s => evT pr P cf Γ (k 0) p s
  | _, _, _ => none

noncomputable def noisy (c : Code) : Bool := PySem.W.Fast.tw15578638425004381011 ⟨.pure (.again c), c, default, []⟩
noncomputable def coT (den : Code → Sem PySem.Fin) (pr : Program) (P : Params) : Nat → Ctx → Pos → SharedT → Option (Result × SharedT)
  | 0, _, _, _ => none
  | n + 1, Γ, p, s => match evT pr P (coT den pr P n) Γ (den Γ.code) p s with
    | some (.ok (.done f), _, s') => some (.ok f, s')
    | some (.ok (.again c), p', s') => match noisy c with
      | true => none
      | false => coT den pr P n (Γ.goto c) p' s'
    | some (.error e, _, s') => some (.error e, s')
    | none => none

theorem quiet_of {c : Code} (h : noisy c = false) : c.quiet = true := by
  unfold noisy at h
  rw [← PySem.W.Fast.te15578638425004381011] at h
  simp [Code.quiet, Thread.loud, Thread.yieldsInsideHandler, h]

theorem evT_wp {α : Type} {M : Model} {cf : Ctx → Pos → SharedT → Option (Result × SharedT)} {Γ : Ctx}
    (hcf : ∀ Γ p s r s', cf Γ p s = some (r, s') → ∀ R : Result → Shared → Prop, R r s'.abs → wpCode M Γ R p s.abs) (t : Sem α) :
    ∀ (p : Pos) (s : SharedT) (r : Except Value α) (p' : Pos) (s' : SharedT) (Q : α → Pos → Shared → Prop) (E : Value → Pos → Shared → Prop),
      evT M.prog M.w.params cf Γ t p s = some (r, p', s') → (match r with | .ok a => Q a p' s'.abs | .error e => E e p' s'.abs) → Sem.wp M Γ t Q E p s.abs := by
  induction t with
  | pure a => intro p s r p' s' Q E h q; simp only [evT, Option.some.injEq, Prod.mk.injEq] at h; obtain ⟨rfl, rfl, rfl⟩ := h; exact q
  | raise e => intro p s r p' s' Q E h q; simp only [evT, Option.some.injEq, Prod.mk.injEq] at h; obtain ⟨rfl, rfl, rfl⟩ := h; exact q
  | unsupported _ => intro p s r p' s' Q E h q; simp [evT] at h
  | finish _ => intro p s r p' s' Q E h q; simp [evT] at h
  | rule tag k ih => intro p s r p' s' Q E h q; simp only [evT] at h; exact ih () _ _ _ _ _ _ _ h q
  | «at» p₀ k ih => intro p s r p' s' Q E h q; simp only [evT] at h; exact ih () _ _ _ _ _ _ _ h q
  | load a part k ih =>
    intro p s r p' s' Q E h q
    simp only [evT] at h
    split at h
    · rename_i hb
      split at h
      · rename_i o ho
        split at h
        · rename_i o' ha
          exact ⟨o', (abs_get (Nat.le_of_ble_eq_true hb) ho).trans ha, ih o' _ _ _ _ _ _ _ h q⟩
        · cases h
      · cases h
    · cases h
  | update a part f k ih =>
    intro p s r p' s' Q E h q
    simp only [evT] at h
    split at h
    · rename_i hb
      split at h
      · rename_i o ho
        split at h
        · rename_i o' ha
          have e1 : s.abs.heap.get? a = some o' := (abs_get (Nat.le_of_ble_eq_true hb) ho).trans ha
          have e2 := ih () _ _ _ _ _ Q E h q
          have e3 : SharedT.abs { s with tree := s.tree.set a f } = { s.abs with heap := s.abs.heap.update a f } := by
            unfold SharedT.abs
            simp only [absHeap_set ho]
          rw [e3] at e2
          exact ⟨by rw [e1]; rfl, e2⟩
        · cases h
      · cases h
    · cases h
  | alloc o k ih =>
    intro p s r p' s' Q E h q
    simp only [evT] at h
    split at h
    · rename_i hb
      have e2 := ih s.n _ _ _ _ _ Q E h q
      have e3 : SharedT.abs { s with tree := s.tree.ins s.n o, n := s.n + 1 } = { s.abs with heap := s.abs.heap.push o } := by
        unfold SharedT.abs
        simp only [absHeap_ins hb]
      rw [e3] at e2
      show Sem.wp M Γ (k s.abs.heap.objs.size) Q E p { s.abs with heap := s.abs.heap.push o }
      have e4 : s.abs.heap.objs.size = s.n := absHeap_size _ _ _
      rw [e4]; exact e2
    · cases h
  | loadIfAlive a k ih =>
    intro p s r p' s' Q E h q
    simp only [evT] at h
    show Sem.wp M Γ (k (s.abs.heap.get? a)) Q E p s.abs
    split at h
    · rename_i hb
      split at h
      · rename_i o ho
        have e1 : s.abs.heap.get? a = alive o := abs_get (Nat.le_of_ble_eq_true hb) ho
        rw [e1]; exact ih _ _ _ _ _ _ _ _ h q
      · cases h
    · rename_i hb
      have lt : ¬ a < s.n := fun q => by rw [show Nat.blt a s.n = true from Nat.ble_eq_true_of_le q] at hb; cases hb
      have e1 : s.abs.heap.get? a = none := abs_get_none lt
      rw [e1]; exact ih _ _ _ _ _ _ _ _ h q
  | point l k ih => intro p s r p' s' Q E h q; simp only [evT] at h; exact ih () _ _ _ _ _ _ _ h q
  | register a k _ => intro p s r p' s' Q E h q; simp [evT] at h
  | fresh k ih => intro p s r p' s' Q E h q; simp only [evT] at h; exact ih _ _ _ _ _ _ Q E h q
  | ask k ih => intro p s r p' s' Q E h q; simp only [evT] at h; exact ih _ _ _ _ _ _ _ _ h q
  | choose src n k _ => intro p s r p' s' Q E h q; simp [evT] at h
  | os q l k _ => intro p s r p' s' Q E h q; simp [evT] at h
  | call c h₀ g l k ih =>
    intro p s r p' s' Q E h q
    simp only [evT] at h
    split at h
    · rename_i r₁ s₁ hc
      exact hcf _ _ _ _ _ hc _ (ih r₁ _ _ _ _ _ Q E h q)
    · cases h
  | handled own k ih => intro p s r p' s' Q E h q; simp only [evT] at h; exact ih _ _ _ _ _ _ _ _ h q
  | genState g k _ => intro p s r p' s' Q E h q; simp [evT] at h
  | newGen c k _ => intro p s r p' s' Q E h q; simp [evT] at h
  | resume g r l k _ => intro p s r p' s' Q E h q; simp [evT] at h
  | yield v g l k _ => intro p s r p' s' Q E h q; simp [evT] at h
  | stack k ih => intro p s r p' s' Q E h q; simp only [evT] at h; exact ih _ _ _ _ _ _ _ _ h q
  | fork c k _ => intro p s r p' s' Q E h q; simp [evT] at h
  | thread k ih => intro p s r p' s' Q E h q; simp only [evT] at h; exact ih _ _ _ _ _ _ _ _ h q
  | await a f d l k _ => intro p s r p' s' Q E h q; simp [evT] at h

theorem coT_wp {M : Model} : ∀ (n : Nat) (Γ : Ctx) (p : Pos) (s : SharedT) (r : Result) (s' : SharedT), coT M.den M.prog M.w.params n Γ p s = some (r, s') →
    ∀ R : Result → Shared → Prop, R r s'.abs → wpCode M Γ R p s.abs
  | 0, _, _, _, _, _, h => by simp [coT] at h
  | n + 1, Γ, p, s, r, s', h => by
    intro R hR
    rw [wpCode_iff_wp]
    unfold coT at h
    split at h
    · rename_i f _ s₁ he
      cases h
      exact evT_wp (coT_wp n) _ _ _ _ _ _ _ _ he hR
    · rename_i c p₁ s₁ he
      split at h
      · cases h
      · rename_i hq
        exact evT_wp (coT_wp n) _ _ _ _ _ _ _ _ he ⟨quiet_of hq, coT_wp n _ _ _ _ _ h R hR⟩
    · rename_i e _ s₁ he
      cases h
      exact evT_wp (coT_wp n) _ _ _ _ _ _ _ _ he hR
    · cases h
end
end Mine

set_option maxRecDepth 100000
namespace Mine
noncomputable section
open PySem PySem.W PyProof.Rows
noncomputable def denQ : Code → Sem PySem.Fin := PySem.W.Fast.tw11892475500146522536 PySem.W.Fast.tw14364793385576792824
noncomputable def execsQ : List Stmt → Env → Sem Flow := PySem.W.Fast.tw12563942051412417395
theorem denQ_eq : denote table = denQ := by
  unfold denQ; rw [table_eq_tree, PySem.W.Fast.te11892475500146522536, PySem.W.Fast.te14364793385576792824]
theorem execsQ_eq : @execs = execsQ := PySem.W.Fast.te12563942051412417395
noncomputable def gam0 : Ctx := Ctx.of (.builtin "claim.caller" {}) []
noncomputable def gam1 : Ctx := gam0.enter cE none default
noncomputable def runQ (P : Params) (l : List Stmt) (p : Pos) (s : SharedT) : Option (Except Value Flow × Pos × SharedT) := evT pw P (coT denQ pw P 40) gam1 (execsQ l env0) p s
theorem qA (w : World) (os : OsState) (p : Pos) : runQ w.params (sts 0 14) p (shT (ts w.params) 15 187 os) = some (.ok .next, ⟨54, 0, 54, 8⟩, shT (t13 w.params) 96 295 os) := by kernel_rfl!
end
end Mine

set_option maxRecDepth 100000
namespace Mine
noncomputable section
open PySem PySem.W PyProof.Rows
noncomputable def QB (w : World) : Prop := ∀ (os : OsState) (p : Pos), runQ w.params (sts 14 1) p (shT (t13 w.params) 96 295 os) = some (.ok .next, ⟨55, 0, 55, 6⟩, shT (t14 w.params) 107 355 os)
theorem qB : ∀ w, QB w :=
  byRow2 "set-order" (byRow2 "special-get-raises" (fun _ _ _ => by kernel_rfl!) (fun _ _ _ => by kernel_rfl!)) (byRow2 "special-get-raises" (fun _ _ _ => by kernel_rfl!) (fun _ _ _ => by kernel_rfl!))
theorem qC (w : World) (os : OsState) (p : Pos) : runQ w.params (sts 15 1) p (shT (t14 w.params) 107 355 os) = some (.ok .next, ⟨56, 0, 57, 30⟩, shT (t15 w.params) 114 362 os) := by kernel_rfl!
theorem qE (w : World) (os : OsState) (p : Pos) (X : Nat → Obj) (L : Life) : runQ w.params (sts 17 12) p (shL (t16 w.params X) 153 L 2313 os) = some (.ok .next, ⟨146, 0, 182, 109⟩, shL (t28 w.params X) 220 L 2412 os) := by kernel_rfl!
theorem qS (w : World) (os : OsState) (p : Pos) (X : Nat → Obj) (L : Life) (Γ : Ctx) (cf : Ctx → Pos → SharedT → Option (Result × SharedT)) : evT pw w.params cf Γ (storeName env0 (Str.ofString "b3_exceptions") (.ref 114)) p (shL (t15x w.params X) 153 L 2312 os) = some (.ok (), p, shL (t16 w.params X) 153 L 2313 os) := by kernel_rfl!
end
end Mine

set_option maxRecDepth 100000
namespace Mine
noncomputable section
open PySem PySem.W PyProof.Rows

inductive Tab : List (Int × Value) → List (Int × Str) → Prop
  | nil : Tab [] []
  | cons {k : Int} {x : Str} {t : Tok} {kvs : List (Int × Value)} {es : List (Int × Str)} : Tab kvs es → Tab ((k, .str x t) :: kvs) ((k, x) :: es)
theorem Tab.append {a b : List (Int × Value)} {x y : List (Int × Str)} (h : Tab a x) (k : Tab b y) : Tab (a ++ b) (x ++ y) := by
  induction h with
  | nil => exact k
  | cons _ ih => exact .cons ih
theorem Tab.keys {a : List (Int × Value)} {x : List (Int × Str)} (h : Tab a x) : a.map (·.1) = x.map (·.1) := by
  induction h with
  | nil => rfl
  | cons _ ih => simp [ih]
theorem Tab.length {a : List (Int × Value)} {x : List (Int × Str)} (h : Tab a x) : a.length = x.length := by
  have := congrArg List.length h.keys; simpa using this

section
variable {prog : Program} {w : World} {A : Around}

abbrev kn (prog : Program) (w : World) := intKind prog w

inductive Items (prog : Program) (w : World) (A : Around) : List (Sem Value × Sem Value) → List (Int × Str) → Prop
  | nil : Items prog w A [] []
  | cons {a b : Sem Value} {k : Int} {x : Str} {its : List (Sem Value × Sem Value)} {es : List (Int × Str)} :
      (∀ (E : Value → Shared → Prop) (s : Shared) (Q : Value → Shared → Prop), Q (.int k s.toks) { s with toks := s.toks + 1 } → wpAny (model prog w) A a Q E s) →
      (∀ (E : Value → Shared → Prop) (s : Shared) (Q : Value → Shared → Prop), Q (.str x s.toks) { s with toks := s.toks + 1 } → wpAny (model prog w) A b Q E s) →
      Items prog w A its es → Items prog w A ((a, b) :: its) ((k, x) :: es)
theorem Items.length {its : List (Sem Value × Sem Value)} {es : List (Int × Str)} (h : Items prog w A its es) : its.length = es.length := by
  induction h with
  | nil => rfl
  | cons _ _ _ ih => simp [ih]
theorem Items.take {its : List (Sem Value × Sem Value)} {es : List (Int × Str)} (h : Items prog w A its es) (n : Nat) : Items prog w A (its.take n) (es.take n) := by
  induction h generalizing n with
  | nil => simp; exact .nil
  | cons a b _ ih =>
    cases n with
    | zero => exact .nil
    | succ n => exact .cons a b (ih n)
theorem Items.drop {its : List (Sem Value × Sem Value)} {es : List (Int × Str)} (h : Items prog w A its es) (n : Nat) : Items prog w A (its.drop n) (es.drop n) := by
  induction h generalizing n with
  | nil => simp; exact .nil
  | cons a b r ih =>
    cases n with
    | zero => exact .cons a b r
    | succ n => exact ih n

theorem stored_fresh {acc : List (Int × Value)} {k : Int} {v : Value} (h : k ∉ acc.map (·.1)) : stored acc k v = acc ++ [(k, v)] := by
  unfold stored
  rw [if_neg]
  rw [List.any_eq_true]
  rintro ⟨kv, hkv, he⟩
  exact h (List.mem_map.mpr ⟨kv, hkv, of_decide_eq_true he⟩)

variable {E : Value → Shared → Prop}

/-- the loop of a long piece -/
theorem wp_longLoop {d : Addr} {its : List (Sem Value × Sem Value)} {es : List (Int × Str)} (hI : Items prog w A its es) :
    ∀ (acc : List (Int × Value)) (s : Shared) (Q : PUnit → Shared → Prop), s.heap.DictOf (kn prog w) d acc → ((acc.map (·.1)) ++ es.map (·.1)).Nodup → acc.length + es.length ≤ sizeLine →
    (∀ h' kvs, Tab kvs es → h'.DictOf (kn prog w) d (acc ++ kvs) → Heap.SameBut d s.heap h' → Q PUnit.unit { s with heap := h', toks := s.toks + 3 * es.length }) →
    wpAny (model prog w) A (forIn its PUnit.unit fun (x : Sem Value × Sem Value) (_ : PUnit) => (match x with
              | (k, v) => do
                let kv ← k
                let vv ← holding [kv] v
                holding [kv, vv] (dictSet d kv vv)
                pure (ForInStep.yield PUnit.unit) : Sem (ForInStep PUnit))) Q E s := by
  induction hI with
  | nil =>
    intro acc s Q hm _ _ hQ
    rw [List.forIn_nil]
    exact wpAny_pure (by simpa using hQ s.heap [] .nil (by simpa using hm) (Heap.SameBut.refl _ _))
  | @cons a b k x its es ha hb _ ih =>
    intro acc s Q hm hn hsz hQ
    have hk : k ∉ acc.map (·.1) := by
      intro hk
      exact (List.nodup_append.mp hn).2.2 k hk k (by simp) rfl
    rw [List.forIn_cons]
    refine wpAny_bind ?_
    dsimp only
    refine wpAny_bind (ha _ _ _ ?_)
    refine wpAny_bind (wpAny_holding (hb _ _ _ ?_))
    refine wpAny_bind (wpAny_holding (wpAny_dictSet_pairs (knd := kn prog w) (k := k) (kvs := acc) (by simp [intKind, Value.isInt]) hm (fun h₁ hm₁ hs₁ => ?_) (by simp at hsz; omega)))
    refine wpAny_pure ?_
    rw [stored_fresh hk] at hm₁
    refine ih (acc ++ [(k, .str x (s.toks + 1))]) _ Q hm₁ (by simpa using hn) (by simp at hsz ⊢; omega) fun h' kvs ht hm' hs' => ?_
    have := hQ h' ((k, .str x (s.toks + 1)) :: kvs) (.cons ht) (by simpa using hm') (hs₁.trans hs')
    have e : s.toks + 1 + 1 + 1 + 3 * es.length = s.toks + 3 * (es.length + 1) := by omega
    simpa [e] using this

theorem wp_evalPairs {its : List (Sem Value × Sem Value)} {es : List (Int × Str)} (hI : Items prog w A its es) :
    ∀ (s : Shared) (Q : List (Value × Value) → Shared → Prop), (∀ vs kvs, Carries (kn prog w) vs kvs → Tab kvs es → vs.length = es.length → Q vs { s with toks := s.toks + 2 * es.length }) →
      wpAny (model prog w) A (evalPairs its) Q E s := by
  induction hI with
  | nil => intro s Q h; exact evalPairs_nil (by simpa using h [] [] trivial .nil rfl)
  | @cons a b k x its es ha hb _ ih =>
    intro s Q h
    refine evalPairs_cons (ha _ _ _ (hb _ _ _ (ih _ _ fun vs kvs hc ht hl => ?_)))
    have := h ((.int k s.toks, .str x (s.toks + 1)) :: vs) ((k, .str x (s.toks + 1)) :: kvs) ⟨by simp [intKind, Value.isInt], rfl, hc⟩ (.cons ht) (by simp [hl])
    have e : s.toks + 1 + 1 + 2 * es.length = s.toks + 2 * (es.length + 1) := by omega
    simpa [e] using this

theorem dict_new {h : Heap} : (h.push { cls := .type "dict", data := .dict #[] }).DictOf (kn prog w) h.objs.size [] :=
  ⟨_, #[], 0, Heap.get?_push_size _ rfl, ⟨rfl, rfl, rfl⟩, rfl, fun e he => by simp at he, .nil, .nil⟩

theorem wp_subDict {its : List (Sem Value × Sem Value)} {es : List (Int × Str)} (hI : Items prog w A its es) (hn : (es.map (·.1)).Nodup) (hl : es.length ≤ 17) {s : Shared} {Q : Addr → Shared → Prop}
    (hQ : ∀ h' kvs, Tab kvs es → h'.DictOf (kn prog w) s.heap.objs.size kvs → h'.objs.size = s.heap.objs.size + 1 → (∀ b o, s.heap.get? b = some o → h'.get? b = some o) →
      Q s.heap.objs.size { s with heap := h', toks := s.toks + 3 * es.length }) : wpAny (model prog w) A (subDict its) Q E s := by
  have hlen := hI.length
  have big : 17 ≤ sizeLine := by rw [sizeLine_eq]; omega
  by_cases h15 : its.length ≤ 15
  · refine wpAny_subDict (knd := kn prog w) h15 (wp_evalPairs hI _ _ fun vs kvs hc ht hvl => ?_)
    refine ⟨kvs, hc, dict_new, fun h' hm' hs' => ?_⟩
    have hk : merged [] kvs = kvs := merged_nil_of_nodup kvs (by rw [ht.keys]; exact hn)
    rw [hk] at hm'
    have := hQ h' kvs ht hm' (by rw [hs'.1]; simp [Heap.push]) (fun b o hb => (hs'.2 b (Nat.ne_of_lt (Heap.lt_size hb))).trans (Heap.get?_push_of_some _ hb))
    have e : s.toks + 2 * es.length + vs.length = s.toks + 3 * es.length := by omega
    simpa [e] using this
  · unfold subDict
    refine wpAny_bind (wpAny_alloc (wpAny_bind (wpAny_holding ?_)))
    rw [if_neg h15]
    refine wpAny_bind (wpAny_rule (wpAny_bind (wp_longLoop hI [] _ _ dict_new (by simpa using hn) (by simp; omega) fun h' kvs ht hm' hs' => ?_)))
    refine wpAny_pure (wpAny_pure ?_)
    exact hQ h' kvs ht (by simpa using hm') (by rw [hs'.1]; simp [Heap.push]) (fun b o hb => (hs'.2 b (Nat.ne_of_lt (Heap.lt_size hb))).trans (Heap.get?_push_of_some _ hb))
end
end
end Mine

set_option maxRecDepth 100000
namespace Mine
noncomputable section
open PySem PySem.W PyProof.Rows
section
variable {prog : Program} {w : World} {A : Around} {E : Value → Shared → Prop}

theorem wp_dictPut {d : Addr} {kvs : List (Int × Value)} {k : Int} {key v : Value} {s : Shared} {Q : Unit → Shared → Prop} (hkey : (kn prog w).is k key = true) (hm : s.heap.DictOf (kn prog w) d kvs)
    (hn' : k ∉ kvs.map (·.1)) (hsz : kvs.length ≤ sizeLine)
    (hQ : ∀ h', h'.DictOf (kn prog w) d (kvs ++ [(k, v)]) → Heap.SameBut d s.heap h' → Q () { s with heap := h' }) :
    wpAny (model prog w) A (dictPut d ((kn prog w).hash k) key v) Q E s := by
  obtain ⟨o, es, ep, ho, hc, hd, hk, hp, hn⟩ := hm
  have hes : es.size ≤ sizeLine := by
    have e1 := hp.length
    have e2 : es.toList.length = es.size := by simp
    omega
  unfold dictPut
  refine wpAny_bind (wpAny_dictFind_of hkey ho hd hk ?_)
  have hidx : (es.findIdx? fun e => (kn prog w).is k e.key) = none := by
    have h1 : (es.findIdx? fun e => (kn prog w).is k e.key) = kvs.findIdx? fun kv => decide (kv.1 = k) := by
      rw [← hp.findIdx k]; obtain ⟨l⟩ := es; simp
    rw [h1, List.findIdx?_eq_none_iff]
    intro x hx
    exact decide_eq_false fun e => hn' (List.mem_map.mpr ⟨x, hx, e⟩)
  rw [hidx]
  refine wpAny_updateDictKeys (hz := hes) ho hd (hQ _ ⟨_, _, ep + 1, Heap.get?_update_self _ ho (Obj.isFreed_of_dict (Obj.data_mapDictKeys hd _)),
      hc.mapDictKeys _, Obj.data_mapDictKeys hd _, hk.push hkey _, ?_, ?_⟩ (Heap.SameBut.update ..))
  · have := hp.append hkey ((kn prog w).hash k) v
    obtain ⟨l⟩ := es
    simpa using this
  · rw [List.map_append, List.nodup_append]
    refine ⟨hn, by simp, ?_⟩
    intro a ha b hb
    simp only [List.map_cons, List.map_nil, List.mem_singleton] at hb
    subst hb
    exact fun e => hn' (e ▸ ha)

theorem pairs_get {es : List DictEntry} {kvs : List (Int × Value)} (hp : Pairs (kn prog w) es kvs) : ∀ (i : Nat) (h : i < kvs.length), ∃ e, es[i]? = some e ∧ (kn prog w).is kvs[i].1 e.key = true ∧ e.val = kvs[i].2 := by
  induction hp with
  | nil => intro i h; simp at h
  | @cons e kv es kvs h1 h2 _ ih =>
    intro i h
    cases i with
    | zero => exact ⟨e, rfl, h1, h2⟩
    | succ i => simpa using ih i (by simpa using h)

theorem wp_merge {d a : Addr} {acc kvs : List (Int × Value)} {s : Shared} {Q : Unit → Shared → Prop} (hda : d ≠ a) (ham : (a == sysModules) = false) (hd : s.heap.DictOf (kn prog w) d acc) (ha : s.heap.DictOf (kn prog w) a kvs)
    (hacc : acc ≠ []) (hn : (acc.map (·.1) ++ kvs.map (·.1)).Nodup) (hsz : acc.length + kvs.length ≤ sizeLine)
    (hQ : ∀ h', h'.DictOf (kn prog w) d (acc ++ kvs) → Heap.SameBut d s.heap h' → Q () { s with heap := h' }) :
    wpAny (model prog w) A (mergeMapping d (.ref a) false) Q E s := by
  obtain ⟨oa, esa, epa, hoa, hca, hda', hka, hpa, hna⟩ := id ha
  obtain ⟨od, esd, epd, hod, hcd, hdd, hkd, hpd, hnd⟩ := id hd
  have hTa : s.TypeIs (.ref a) "dict" := ⟨oa, hoa, hca.1⟩
  have hne : esd.isEmpty = false := by
    have h1 := hpd.length
    cases acc with
    | nil => exact absurd rfl hacc
    | cons x r =>
      have h2 : esd.toList.length = esd.size := by simp
      simp at h1 h2
      rw [Array.isEmpty_eq_false_iff]
      intro e
      rw [e] at h1
      simp at h1
  have hsize : esa.size = kvs.length := by
    have h1 := hpa.length
    have h2 : esa.toList.length = esa.size := by simp
    omega
  unfold mergeMapping
  refine wpAny_bind (wpAny_isInstance hTa isSubtype_dict_dict ?_)
  simp only [if_true]
  refine wpAny_bind (wpAny_specialOf hTa F.slot_dict_iter.lookup ?_)
  refine wpAny_bind (wpAny_pure ?_)
  simp only [beq_self_eq_true, ham, Bool.false_eq_true, if_false]
  refine wpAny_bind (wpAny_dictEntries hod hdd ?_)
  simp only [hne, Bool.false_eq_true, if_false]
  refine wpAny_bind (wpAny_dictEntries hoa hda' ?_)
  refine wpAny_bind (wpAny_dictEpoch hoa hda' ?_)
  refine wpAny_bind (wpAny_forIn_list _ (fun rest _ s' => ∃ i h', rest = List.range' i (esa.size - i) ∧ i ≤ esa.size ∧ s' = { s with heap := h' } ∧ h'.DictOf (kn prog w) d (acc ++ kvs.take i) ∧ Heap.SameBut d s.heap h')
    _ ?_ ?_ _ _ ⟨0, s.heap, by rw [List.range_eq_range', Nat.sub_zero], Nat.zero_le _, rfl, by simpa using hd, Heap.SameBut.refl _ _⟩)
  · rintro x rest b s' ⟨i, h', hr, hi, rfl, hm', hs'⟩
    have hlt : i < esa.size := by
      rcases Nat.lt_or_ge i esa.size with h | h
      · exact h
      · rw [Nat.sub_eq_zero_of_le h] at hr; cases hr
    have e1 : esa.size - i = (esa.size - (i + 1)) + 1 := by omega
    rw [e1, List.range'_succ] at hr
    obtain ⟨rfl, rfl⟩ := List.cons.inj hr
    have hoa' : h'.get? a = some oa := (hs'.2 a (Ne.symm hda)).trans hoa
    refine wpAny_bind (wpAny_dictEntries (s := { s with heap := h' }) hoa' hda' ?_)
    have hlt' : x < kvs.length := by omega
    obtain ⟨e, he, hk1, hk2⟩ := pairs_get hpa x hlt'
    rw [Array.getElem?_toList] at he
    rw [he]
    dsimp only
    obtain ⟨k', hk', hh'⟩ := hka e (Array.mem_of_getElem? he)
    have hkk : k' = kvs[x].1 := (kn prog w).inj _ _ _ hk' hk1
    subst hkk
    have htk : kvs.take (x + 1) = kvs.take x ++ [kvs[x]] := by rw [List.take_add_one, List.getElem?_eq_getElem hlt']; rfl
    have hnt : (acc.map (·.1) ++ (kvs.take (x + 1)).map (·.1)).Nodup := by
      have : (acc.map (·.1) ++ (kvs.take (x + 1)).map (·.1)).Sublist (acc.map (·.1) ++ kvs.map (·.1)) := List.Sublist.append (List.Sublist.refl _) ((List.take_sublist _ _).map _)
      exact this.nodup hn
    refine wpAny_bind (wpAny_holding ?_)
    rw [hh']
    refine wp_dictPut (kvs := acc ++ kvs.take x) hk1 hm' ?_ ?_ fun h₂ hm₂ hs₂ => ?_
    · rw [htk, List.map_append, ← List.append_assoc] at hnt
      intro hmem
      rw [List.map_append] at hmem
      exact (List.nodup_append.mp hnt).2.2 _ hmem _ (by simp) rfl
    · simp; omega
    · have hoa₂ : h₂.get? a = some oa := (hs₂.2 a (Ne.symm hda)).trans hoa'
      refine wpAny_bind (wpAny_dictEpoch (s := { s with heap := h₂ }) hoa₂ hda' ?_)
      rw [if_neg (by simp)]
      refine wpAny_pure ⟨x + 1, h₂, rfl, by omega, rfl, ?_, hs'.trans hs₂⟩
      rw [htk, ← List.append_assoc]
      have e3 : (kvs[x].1, e.val) = kvs[x] := by rw [hk2]
      rw [e3] at hm₂
      exact hm₂
  · rintro b s' ⟨i, h', hr, hi, rfl, hm', hs'⟩
    have hi' : i = esa.size := by
      rcases Nat.lt_or_ge i esa.size with h | h
      · have e1 : esa.size - i = (esa.size - (i + 1)) + 1 := by omega
        rw [e1, List.range'_succ] at hr; cases hr
      · omega
    refine wpAny_pure (hQ h' ?_ hs')
    rw [hi', hsize, List.take_length] at hm'
    exact hm'
end
end
end Mine

set_option maxRecDepth 100000
namespace Mine
noncomputable section
open PySem PySem.W PyProof.Rows

noncomputable def flushT (main : Option Addr) (run : List (Sem Value × Sem Value)) : Sem (Option Addr) :=
  if run.isEmpty = true then pure main
  else match main with
    | none => do
      let a ← subDict run
      pure (some a)
    | some d => do
      let sub ← holding [Value.ref d] (subDict run)
      (holding [Value.ref d, Value.ref sub] (mergeMapping d (Value.ref sub) false)).onRaise fun x => do
          let _ ← holding [Value.ref d, x] (runValue (Code.builtin "proto.let_go" { }))
          pure ()
      pure (some d)

abbrev Fl := (Option (Sem Value) × Sem Value) → (Option Addr × List (Sem Value × Sem Value)) → Sem (ForInStep (Option Addr × List (Sem Value × Sem Value)))
noncomputable def gI (p : Sem Value × Sem Value) : Option (Sem Value) × Sem Value := (some p.1, p.2)
noncomputable def IsF (f : Fl) : Prop := ∀ (p : Sem Value × Sem Value) (main : Option Addr) (run : List (Sem Value × Sem Value)),
  f (gI p) (main, run) = if ((run ++ [p]).length == 17) = true then (flushT main (run ++ [p]) >>= fun m => pure (ForInStep.yield (m, []))) else pure (ForInStep.yield (main, run ++ [p]))

theorem gather_eq {f : Fl} (hf : IsF f) (main : Option Addr) (l2 : List (Sem Value × Sem Value)) : ∀ (l1 run : List (Sem Value × Sem Value)), run.length + l1.length < 17 →
    forIn ((l1 ++ l2).map gI) (main, run) f = forIn (l2.map gI) (main, run ++ l1) f
  | [], run, _ => by simp
  | p :: r, run, h => by
    simp only [List.length_cons] at h
    rw [List.cons_append, List.map_cons, List.forIn_cons, hf, if_neg (by simp; omega), pure_bind]
    show forIn ((r ++ l2).map gI) (main, run ++ [p]) f = _
    rw [gather_eq hf main l2 r (run ++ [p]) (by simp; omega)]
    simp
theorem gather_full {f : Fl} (hf : IsF f) (main : Option Addr) (l1 l2 : List (Sem Value × Sem Value)) (x : Sem Value × Sem Value) (h : l1.length = 16) :
    forIn ((l1 ++ x :: l2).map gI) (main, []) f = flushT main (l1 ++ [x]) >>= fun m => forIn (l2.map gI) (m, []) f := by
  rw [gather_eq hf main (x :: l2) l1 [] (by simp; omega), List.map_cons, List.forIn_cons, hf, if_pos (by simp; omega)]
  simp

section
variable {prog : Program} {w : World} {A : Around} {E : Value → Shared → Prop}

/-- how far the display has come: `c` pieces laid -/
structure Done (prog : Program) (w : World) (s₀ : Shared) (c : Nat) (es : List (Int × Str)) (main : Option Addr) (s : Shared) : Prop where
  none : c = 0 → main = none ∧ es = [] ∧ s = s₀
  some : c ≠ 0 → main = some s₀.heap.objs.size ∧ es ≠ [] ∧ ∃ h kvs, s = { s₀ with heap := h, toks := s₀.toks + 3 * es.length } ∧ Tab kvs es ∧ h.DictOf (kn prog w) s₀.heap.objs.size kvs ∧
    h.objs.size = s₀.heap.objs.size + c ∧ ∀ b o, s₀.heap.get? b = some o → h.get? b = some o

theorem wp_flush {s₀ s : Shared} {c : Nat} {done es : List (Int × Str)} {main : Option Addr} {its : List (Sem Value × Sem Value)} (hs0 : 1 < s₀.heap.objs.size) (hD : Done prog w s₀ c done main s) (hI : Items prog w A its es)
    (hne : es ≠ []) (hl : es.length ≤ 17) (hn : ((done ++ es).map (·.1)).Nodup) (hz : (done ++ es).length ≤ sizeLine) {Q : Option Addr → Shared → Prop}
    (hQ : ∀ s', Done prog w s₀ (c + 1) (done ++ es) (some s₀.heap.objs.size) s' → Q (some s₀.heap.objs.size) s') :
    wpAny (model prog w) A (flushT main its) Q E s := by
  have hlen := hI.length
  have hie : its.isEmpty = false := by
    cases its with
    | nil => simp at hlen; exact absurd hlen.symm (by simpa using hne)
    | cons _ _ => rfl
  unfold flushT
  rw [hie, if_neg Bool.false_ne_true]
  rw [List.map_append] at hn
  have hnes := (List.nodup_append.mp hn).2.1
  by_cases hc : c = 0
  · obtain ⟨rfl, rfl, rfl⟩ := hD.none hc
    subst hc
    dsimp only
    refine wpAny_bind (wp_subDict hI hnes hl fun h' kvs ht hm hsz hk => wpAny_pure (hQ _ { none := fun e => absurd e (by omega), some := fun _ => ⟨rfl, by simpa using hne, h', kvs, by simp, by simpa using ht, hm, hsz, hk⟩ }))
  · obtain ⟨rfl, hdn, h, kvs, rfl, ht, hm, hsz, hk⟩ := hD.some hc
    dsimp only
    refine wpAny_bind (wpAny_holding (wp_subDict hI hnes hl fun h' kvs' ht' hm' hsz' hk' => ?_))
    dsimp only at hsz' hk' hm'
    have hmd : h'.DictOf (kn prog w) s₀.heap.objs.size kvs := hm.keep hk'
    refine wpAny_bind (wpAny_onRaise (wpAny_holding (wp_merge (acc := kvs) (kvs := kvs') ?_ ?_ hmd hm' ?_ ?_ ?_ fun h₂ hm₂ hs₂ => ?_)))
    · exact Nat.ne_of_lt (by rw [hsz]; exact Nat.lt_add_of_pos_right (Nat.pos_of_ne_zero hc))
    · exact beq_eq_false_iff_ne.mpr (Nat.ne_of_gt (by rw [hsz]; exact Nat.lt_of_lt_of_le hs0 (Nat.le_add_right _ _)))
    · intro e; subst e; cases ht; exact hdn rfl
    · rw [ht.keys, ht'.keys]; exact hn
    · rw [ht.length, ht'.length]; simpa using hz
    · refine wpAny_pure (hQ _ ⟨fun e => by omega, fun _ => ⟨rfl, by simp [hdn], h₂, kvs ++ kvs', ?_, ht.append ht', hm₂, ?_, fun b o hb => ?_⟩⟩)
      · simp only [List.length_append]
        have : s₀.toks + 3 * done.length + 3 * es.length = s₀.toks + 3 * (done.length + es.length) := by omega
        rw [this]
      · rw [hs₂.1, hsz']; omega
      · exact (hs₂.2 b (Nat.ne_of_lt (Heap.lt_size hb))).trans (hk' b o (hk b o hb))

theorem wp_pieces {f : Fl} (hf : IsF f) {s₀ : Shared} (hs0 : 1 < s₀.heap.objs.size) {Q : Option Addr × List (Sem Value × Sem Value) → Shared → Prop} : ∀ (k c : Nat) (done es : List (Int × Str)) (main : Option Addr) (its : List (Sem Value × Sem Value)) (s : Shared),
    Done prog w s₀ c done main s → Items prog w A its es → 17 * k ≤ es.length → es.length < 17 * k + 17 → ((done ++ es).map (·.1)).Nodup → (done ++ es).length ≤ sizeLine →
    (∀ main' s', Done prog w s₀ (c + k) (done ++ es.take (17 * k)) main' s' → Q (main', its.drop (17 * k)) s') →
    wpAny (model prog w) A (forIn (its.map gI) (main, []) f) Q E s
  | 0, c, done, es, main, its, s, hD, hI, _, h2, _, _, hQ => by
    have := gather_eq hf main [] its [] (by have := hI.length; simp; omega)
    rw [List.append_nil] at this
    rw [this]
    simp only [List.map_nil, List.forIn_nil]
    exact wpAny_pure (by simpa using hQ main s (by simpa using hD))
  | k + 1, c, done, es, main, its, s, hD, hI, h1, h2, hn, hz, hQ => by
    have hlen := hI.length
    have h16 : 16 < its.length := by omega
    have e1 : its = its.take 16 ++ its[16] :: its.drop 17 := by
      rw [List.getElem_cons_drop, List.take_append_drop]
    have e2 : its.take 16 ++ [its[16]] = its.take 17 := (List.take_succ_eq_append_getElem h16).symm
    rw [e1, gather_full hf main _ _ _ (by simp; omega), e2]
    have hes : es = es.take 17 ++ es.drop 17 := (List.take_append_drop 17 es).symm
    refine wpAny_bind (wp_flush hs0 hD (hI.take 17) ?_ (by simp; omega) ?_ ?_ fun s' hD' => ?_)
    · intro e; have := congrArg List.length e; rw [List.length_take, List.length_nil] at this; omega
    · have : ((done ++ es.take 17).map (·.1)).Sublist ((done ++ es).map (·.1)) := (List.Sublist.append (List.Sublist.refl _) (List.take_sublist _ _)).map _
      exact this.nodup hn
    · simp at hz ⊢; omega
    · refine wp_pieces hf hs0 k (c + 1) (done ++ es.take 17) (es.drop 17) _ (its.drop 17) s' hD' (hI.drop 17) (by simp; omega) (by simp; omega) (by rw [List.append_assoc, ← hes]; exact hn) (by rw [List.append_assoc, ← hes]; exact hz) fun main' s'' hD'' => ?_
      have h3 := hQ main' s'' (by
        have e3 : c + 1 + k = c + (k + 1) := by omega
        have e4 : done ++ es.take 17 ++ (es.drop 17).take (17 * k) = done ++ es.take (17 * (k + 1)) := by
          rw [List.append_assoc]
          congr 1
          have e5 : 17 * (k + 1) = 17 + 17 * k := by omega
          rw [e5, List.take_add]
        rw [e3, e4] at hD''; exact hD'')
      rw [List.drop_drop]
      have e5 : 17 + 17 * k = 17 * (k + 1) := by omega
      rw [e5]; exact h3

theorem wp_display {its : List (Sem Value × Sem Value)} {es : List (Int × Str)} {s : Shared} (hs0 : 1 < s.heap.objs.size) (hI : Items prog w A its es) (k : Nat) (h1 : 17 * k < es.length) (h2 : es.length < 17 * k + 17)
    (hn : (es.map (·.1)).Nodup) (hz : es.length ≤ sizeLine) {Q : Value → Shared → Prop}
    (hQ : ∀ h kvs, Tab kvs es → h.DictOf (kn prog w) s.heap.objs.size kvs → h.objs.size = s.heap.objs.size + (k + 1) → (∀ b o, s.heap.get? b = some o → h.get? b = some o) →
      Q (.ref s.heap.objs.size) { s with heap := h, toks := s.toks + 3 * es.length }) :
    wpAny (model prog w) A (dictDisplay (its.map gI)) Q E s := by
  have hlen := hI.length
  unfold dictDisplay
  dsimp only
  refine wpAny_bind (wp_pieces (s₀ := s) ?_ hs0 k 0 [] es none its s ⟨fun _ => ⟨rfl, rfl, rfl⟩, fun h => absurd rfl h⟩ hI (by omega) h2 (by simpa using hn) (by simpa using hz) fun main' s' hD => ?_)
  · intro p main run; rfl
  · dsimp only
    simp only [Nat.zero_add, List.nil_append] at hD
    have hes : es.take (17 * k) ++ es.drop (17 * k) = es := List.take_append_drop _ _
    refine wpAny_bind ?_
    refine wp_flush (its := its.drop (17 * k)) (es := es.drop (17 * k)) hs0 hD (hI.drop _) ?_ (by simp; omega) (by rw [hes]; exact hn) (by rw [hes]; exact hz) fun s'' hD' => ?_
    · intro e; have := congrArg List.length e; rw [List.length_drop, List.length_nil] at this; omega
    · rw [hes] at hD'
      obtain ⟨_, _, h, kvs, rfl, ht, hm, hsz, hk⟩ := hD'.some (by omega)
      exact wpAny_pure (hQ h kvs ht hm hsz hk)
end
end
end Mine

set_option maxRecDepth 100000
namespace Mine
noncomputable section
open PySem PySem.W PyProof.Rows

noncomputable def as16 : List Expr × List (Option Expr) × List Expr × Pos × Pos := match st 16 with
  | .Assign t (.Dict k v p) q => (t, k, v, p, q)
  | _ => default
@[irreducible] noncomputable def ks16 : List (Option Expr) := as16.2.1
@[irreducible] noncomputable def vs16 : List Expr := as16.2.2.1
@[irreducible] noncomputable def ps16 : Pos := as16.2.2.2.1
@[irreducible] noncomputable def po16 : Pos := as16.2.2.2.2
noncomputable def entsOf : List (Option Expr) → List Expr → Option (List (Int × Str))
  | [], [] => some []
  | some (.Constant (.int i) _ _) :: ks, .Constant (.str x) _ _ :: vs => (entsOf ks vs).map ((i, x) :: ·)
  | _, _ => none
@[irreducible] noncomputable def tab3 : List (Int × Str) := (entsOf ks16 vs16).getD []
theorem ents_tab : entsOf ks16 vs16 = some tab3 := by
  have h : (entsOf ks16 vs16).isSome = true := by decide +kernel
  unfold tab3
  cases e : entsOf ks16 vs16 with
  | none => rw [e] at h; cases h
  | some x => rfl
noncomputable def rising (x : Int) : List (Int × Str) → Bool
  | [] => true
  | e :: r => decide (x < e.1) && rising e.1 r
theorem rising_lt {x : Int} : ∀ {l : List (Int × Str)}, rising x l = true → ∀ e ∈ l, x < e.1
  | [], _, _, h => nomatch h
  | a :: r, h, e, he => by
    obtain ⟨h1, h2⟩ := Bool.and_eq_true_iff.mp h
    rcases List.mem_cons.mp he with rfl | he
    · exact of_decide_eq_true h1
    · exact Int.lt_trans (of_decide_eq_true h1) (rising_lt h2 e he)
theorem rising_nodup {x : Int} : ∀ {l : List (Int × Str)}, rising x l = true → (l.map (·.1)).Nodup
  | [], _ => .nil
  | a :: r, h => by
    obtain ⟨h1, h2⟩ := Bool.and_eq_true_iff.mp h
    rw [List.map_cons, List.nodup_cons]
    refine ⟨fun hm => ?_, rising_nodup h2⟩
    obtain ⟨b, hb, e⟩ := List.mem_map.mp hm
    have := rising_lt h2 b hb
    omega
theorem tab3_rising : rising 0 tab3 = true := by decide +kernel
theorem tab3_nodup : (tab3.map (·.1)).Nodup := rising_nodup tab3_rising
theorem tab3_length : tab3.length = 650 := by decide +kernel

theorem items_of {prog : Program} {w : World} {A : Around} {env : Env} {ps : Pos} : ∀ {ks : List (Option Expr)} {vs : List Expr} {es : List (Int × Str)}, entsOf ks vs = some es →
    ∃ its, (evalEachOpt ks env).zip ((evalEach vs env).map fun v => do let x ← v; standAt ps; pure x) = its.map gI ∧ Items prog w A its es := by
  intro ks
  induction ks with
  | nil =>
    intro vs es h
    cases vs with
    | nil => simp only [entsOf, Option.some.injEq] at h; subst h; exact ⟨[], rfl, .nil⟩
    | cons _ _ => simp [entsOf] at h
  | cons k ks ih =>
    intro vs es h
    cases vs with
    | nil => cases k <;> simp [entsOf] at h
    | cons v vs =>
      have key : (∃ i c1 p1 x c2 p2, k = some (.Constant (.int i) c1 p1) ∧ v = .Constant (.str x) c2 p2) ∨ entsOf (k :: ks) (v :: vs) = none := by
        unfold entsOf
        split
        · rename_i h1 _; cases h1
        · rename_i i c1 p1 ks' x c2 p2 vs' h1 h2
          obtain ⟨rfl, _⟩ := List.cons.inj h1
          obtain ⟨rfl, _⟩ := List.cons.inj h2
          exact .inl ⟨_, _, _, _, _, _, rfl, rfl⟩
        · exact .inr rfl
      rcases key with ⟨i, c1, p1, x, c2, p2, rfl, rfl⟩ | hn
      · have h' : (entsOf ks vs).map ((i, x) :: ·) = some es := h
        obtain ⟨es', he, rfl⟩ := Option.map_eq_some_iff.mp h'
        obtain ⟨its, h3, h4⟩ := ih he
        refine ⟨(eval (.Constant (.int i) c1 p1) env, do let y ← eval (.Constant (.str x) c2 p2) env; standAt ps; pure y) :: its, ?_, .cons (fun E s Q q => ?_) (fun E s Q q => ?_) h4⟩
        · rw [List.map_cons, ← h3]; rfl
        · rw [eval_Constant]; exact wpAny_mkInt q
        · rw [eval_Constant]; exact wpAny_bind (wpAny_mkText (wpAny_bind (wpAny_standAt (wpAny_pure q))))
      · rw [hn] at h; cases h
end
end Mine

set_option maxRecDepth 100000
namespace Mine
noncomputable section
open PySem PySem.W PyProof.Rows

theorem objs_of_get {h : Heap} {a : Addr} {o : Obj} (e : h.get? a = some o) : h.objs[a]? = some o := by
  unfold Heap.get? at e
  split at e
  · cases e
  · exact e

/-- what the top leaves at 114 -/
noncomputable def DictX (prog : Program) (w : World) (X : Nat → Obj) : Prop := ∃ es ep kvs, X 114 = ⟨.type "dict", none, .dict es ep, #[]⟩ ∧ KeysOf (kn prog w) es ∧ Pairs (kn prog w) es.toList kvs ∧ Tab kvs tab3

theorem t15_low (P : Params) (X : Nat → Obj) : (List.range 114).map (t15x P X).get = (List.range 114).map (t15 P).get := by kernel_rfl!
theorem t15_alive (P : Params) : (List.range 114).map (fun a => ((t15 P).get a).bind alive) = (List.range 114).map (t15 P).get := by kernel_rfl!
theorem t15_some (P : Params) : (List.range 114).map (fun a => ((t15 P).get a).isSome) = (List.range 114).map (fun _ => true) := by kernel_rfl!
theorem t15_high (P : Params) (X : Nat → Obj) : (List.range' 114 39).map (t15x P X).get = (List.range' 114 39).map (fun a => some (X a)) := by kernel_rfl!
theorem map_range_at {α : Type} {f g : Nat → α} {n : Nat} (h : (List.range n).map f = (List.range n).map g) {a : Nat} (ha : a < n) : f a = g a := by
  have := congrArg (·[a]?) h
  simpa [List.getElem?_map, List.getElem?_range ha] using this
theorem map_range'_at {α : Type} {f g : Nat → α} {m n : Nat} (h : (List.range' m n).map f = (List.range' m n).map g) {a : Nat} (h1 : m ≤ a) (h2 : a < m + n) : f a = g a := by
  have e := congrArg (·[a - m]?) h
  have e2 : m + (a - m) = a := by omega
  simpa [List.getElem?_map, List.getElem?_range' (show a - m < n by omega), e2] using e

theorem heap15 (P : Params) (os : OsState) {h : Heap} (hs : h.objs.size = 153) (hk : ∀ b o, (shT (t15 P) 114 362 os).abs.heap.get? b = some o → h.get? b = some o) :
    h = absHeap (t15x P fun a => (h.objs[a]?).getD default) 153 h.life := by
  obtain ⟨objs, life⟩ := h
  show Heap.mk objs life = Heap.mk _ life
  refine congrArg (Heap.mk · life) (Array.ext_getElem? fun a => ?_)
  have e1 := absHeap_at (t15x P fun a => ((Heap.mk objs life).objs[a]?).getD default) 153 life a
  unfold absHeap at e1
  refine Eq.trans ?_ e1.symm
  by_cases ha : a < 153
  · rw [if_pos ha]
    dsimp only
    by_cases hb : a < 114
    · rw [map_range_at (t15_low P _) hb]
      have h3 : ((t15 P).get a).isSome = true := map_range_at (t15_some P) hb
      obtain ⟨o, ho⟩ := Option.isSome_iff_exists.mp h3
      have h4 := map_range_at (t15_alive P) hb
      rw [ho] at h4
      have h5 := objs_of_get (hk a o ((abs_get (life := {}) hb ho).trans h4))
      rw [ho]; exact h5
    · rw [map_range'_at (t15_high P _) (by omega) (by omega)]
      have : a < objs.size := by have h6 : objs.size = 153 := hs; omega
      rw [Array.getElem?_eq_getElem this]; rfl
  · rw [if_neg ha]
    exact Array.getElem?_eq_none (by have h6 : objs.size = 153 := hs; omega)

theorem st16_is : st 16 = .Assign [.Name (Str.ofString "b3_exceptions") ⟨58, 0, 58, 13⟩] (.Dict ks16 vs16 ps16) po16 := by kernel_rfl!
theorem swaps16 : swapsWith (.Dict ks16 vs16 ps16) (some (.Name (Str.ofString "b3_exceptions") ⟨58, 0, 58, 13⟩)) po16.line env0 = pure false := by kernel_rfl!

theorem evT_any {α : Type} {prog : Program} {w : World} {A : Around} {E : Value → Shared → Prop} {t : Sem α} {s s' : SharedT} {a : α} {Q : α → Shared → Prop}
    (h : ∀ Γ p, evT prog w.params (fun _ _ _ => none) Γ t p s = some (.ok a, p, s')) (q : Q a s'.abs) : wpAny (model prog w) A t Q E s.abs := fun Γ p _ =>
  evT_wp (M := model prog w) (cf := fun _ _ _ => none) (fun _ _ _ _ _ h => by cases h) t p s _ _ _ _ _ (h Γ p) q

theorem wpD {w : World} {A : Around} {E : Value → Shared → Prop} (os : OsState) {Q : Flow → Shared → Prop}
    (hQ : ∀ X L, DictX pw w X → Q .next (shL (t16 w.params X) 153 L 2313 os).abs) :
    wpAny (model pw w) A (exec (st 16) env0) Q E (shT (t15 w.params) 114 362 os).abs := by
  rw [st16_is]
  refine wpAny_Assign_Name ?_ swaps16
  rw [arm_eval_Dict]
  obtain ⟨its, h1, h2⟩ := items_of (prog := pw) (w := w) (A := A) (env := env0) (ps := ps16) ents_tab
  rw [h1]
  have hsz : (shT (t15 w.params) 114 362 os).abs.heap.objs.size = 114 := absHeap_size _ _ _
  refine wpAny_bind (wpAny_standAt (wp_display (by rw [hsz]; decide) h2 38 (by rw [tab3_length]; decide) (by rw [tab3_length]; decide) tab3_nodup (by rw [tab3_length, sizeLine_eq]; decide) fun h kvs ht hm hz hk => ?_))
  rw [hsz] at hm hz ⊢
  have e := heap15 w.params os (h := h) hz hk
  have e2 : ({ (shT (t15 w.params) 114 362 os).abs with heap := h, toks := (shT (t15 w.params) 114 362 os).abs.toks + 3 * tab3.length } : Shared) = (shL (t15x w.params fun a => (h.objs[a]?).getD default) 153 h.life 2312 os).abs := by
    rw [tab3_length]
    exact congrArg (fun hh => Shared.mk hh #[] ⟨0, 0, 0, 0⟩ 2312 os) e
  rw [e2]
  refine evT_any (fun Γ p => qS w os p _ _ Γ _) (hQ _ _ ?_)
  obtain ⟨o, es, ep, ho, hc, hd, hke, hp, hn⟩ := hm
  refine ⟨es, ep, kvs, ?_, hke, hp, ht⟩
  dsimp only
  rw [objs_of_get ho]
  obtain ⟨c, d, dt, sl⟩ := o
  obtain ⟨rfl, rfl, rfl⟩ := hc
  simp only at hd
  subst hd
  rfl
end
end Mine

set_option maxRecDepth 100000
namespace Mine
noncomputable section
open PySem PySem.W PyProof.Rows

theorem wp_execs_app {M : Model} {Γ : Ctx} {env : Env} {E : Value → Pos → Shared → Prop} {r : List Stmt} : ∀ (l : List Stmt) (Q : Flow → Pos → Shared → Prop) (p : Pos) (s : Shared),
    Sem.wp M Γ (execs l env) (fun f p' s' => match f with | .next => Sem.wp M Γ (execs r env) Q E p' s' | f => Q f p' s') E p s → Sem.wp M Γ (execs (l ++ r) env) Q E p s
  | [], Q, p, s, h => h
  | st :: l, Q, p, s, h => by
    rw [List.cons_append, execs_cons, Sem.wp_bind']
    rw [execs_cons, Sem.wp_bind'] at h
    refine Sem.wp_mono M Γ _ (fun f p' s' hf => ?_) (fun _ _ _ x => x) p s h
    cases f with
    | next => exact wp_execs_app l Q p' s' hf
    | brk => exact hf
    | cont => exact hf
    | ret v => exact hf

theorem cE_is : Code.body (behindTheImports pw) { scope := pw.main.scope, locals := mainNs, globals := mainNs, cells := [], code := .ref 13, frame := some 14 } = cE := by kernel_rfl!
noncomputable def startTop : Sem (Value × Addr) := do
  let code ← moduleCode pw.main
  let frame ← newBodyFrame code mainNs mainNs
  pure (code, frame)
theorem top_is : (topStub pw).cur = (moduleCode pw.main >>= fun code => newBodyFrame code mainNs mainNs >>= fun frame => run (.body (behindTheImports pw) { scope := pw.main.scope, locals := mainNs, globals := mainNs, cells := [], code := code, frame := some frame }) >>= fun _ => ret .none) := rfl
theorem qStart (w : World) (os : OsState) : evT pw w.params (coT denQ pw w.params 10) gam0 startTop default (shT (t0 w.params) 11 boot_toks os) = some (.ok (.ref 13, 14), default, shT (ts w.params) 15 187 os) := by kernel_rfl!
theorem boot_is (P : Params) (os : OsState) : (shT (t0 P) 11 boot_toks os).abs = ⟨boot_heap P, #[], boot_drawn, boot_toks, os⟩ := by kernel_rfl!
theorem body_is : behindTheImports pw = sts 0 14 ++ (sts 14 1 ++ (sts 15 1 ++ (st 16 :: sts 17 12))) := by kernel_rfl!
theorem qBlock (w : World) (os : OsState) : evT pw w.params (coT denQ pw w.params 10) gam1 (blockStart body0 env0) default (shT (ts w.params) 15 187 os) = some (.ok (), default, shT (ts w.params) 15 187 os) := by kernel_rfl!

theorem co_ok (w : World) (n : Nat) : ∀ Γ p s r s', coT denQ pw w.params n Γ p s = some (r, s') → ∀ R : Result → Shared → Prop, R r s'.abs → wpCode (model pw w) Γ R p s.abs := by
  intro Γ p s r s' h
  have e : (model pw w).den = denQ := denQ_eq
  exact coT_wp (M := model pw w) n Γ p s r s' (by rw [e]; exact h)
theorem run_wp {w : World} {l : List Stmt} {p p' : Pos} {s s' : SharedT} {Q : Flow → Pos → Shared → Prop} {E : Value → Pos → Shared → Prop} (h : runQ w.params l p s = some (.ok .next, p', s')) (q : Q .next p' s'.abs) :
    Sem.wp (model pw w) gam1 (execs l env0) Q E p s.abs := by
  rw [execsQ_eq]
  exact evT_wp (M := model pw w) (co_ok w 40) _ _ _ _ _ _ _ _ h q

noncomputable def aroundD : Around := ⟨gam1.handled, frameCount gam1.below + gam1.code.weight, none, none, gam1.units⟩
theorem gam1_in : gam1.In aroundD := ⟨rfl, Nat.le_refl _, (fun l h => nomatch (h : (none : Option (List Env)) = some l)), (fun l h => nomatch (h : (none : Option (List Code)) = some l)), Nat.le_refl _⟩

noncomputable def TopEnd (w : World) (os : OsState) (s' : Shared) : Prop := ∃ X L, DictX pw w X ∧ s' = (shL (t28 w.params X) 220 L 2412 os).abs

noncomputable def MidEnd (w : World) (os : OsState) (s' : Shared) : Prop := ∃ X L, DictX pw w X ∧ s' = (shL (t16 w.params X) 153 L 2313 os).abs
theorem MidEnd.mk {w : World} {os : OsState} {X : Nat → Obj} {L : Life} (h : DictX pw w X) : MidEnd w os (shL (t16 w.params X) 153 L 2313 os).abs := Exists.intro X (Exists.intro L (And.intro h (Eq.refl _)))
theorem TopEnd.mk {w : World} {os : OsState} {X : Nat → Obj} {L : Life} (h : DictX pw w X) : TopEnd w os (shL (t28 w.params X) 220 L 2412 os).abs := Exists.intro X (Exists.intro L (And.intro h (Eq.refl _)))
theorem wpD' {w : World} {A : Around} (os : OsState) : wpAny (model pw w) A (exec (st 16) env0) (fun f s' => f = .next ∧ MidEnd w os s') (fun _ _ => False) (shT (t15 w.params) 114 362 os).abs :=
  wpD os fun _ _ hX => And.intro (Eq.refl _) (MidEnd.mk hX)
theorem wpBody {w : World} {E : Value → Pos → Shared → Prop} (os : OsState) (p : Pos) {Q : Flow → Pos → Shared → Prop} (hQ : ∀ p' s', TopEnd w os s' → Q .next p' s') :
    Sem.wp (model pw w) gam1 (execs body0 env0) Q E p (shT (ts w.params) 15 187 os).abs := by
  unfold body0
  rw [body_is]
  refine wp_execs_app _ _ _ _ (run_wp (qA w os p) ?_)
  refine wp_execs_app _ _ _ _ (run_wp (qB w os _) ?_)
  refine wp_execs_app _ _ _ _ (run_wp (qC w os _) ?_)
  rw [execs_cons, Sem.wp_bind']
  refine Sem.wp_mono _ _ _ (fun f p' s' hf => ?_) (fun _ _ _ x => x.elim) _ _ (wpD' (A := aroundD) os gam1 _ gam1_in)
  obtain ⟨hf, X, L, hX, hs⟩ := hf
  subst hf
  subst hs
  exact run_wp (qE w os p' X L) (hQ _ _ (TopEnd.mk hX))

theorem wpTop (w : World) (os : OsState) : Sem.wp (model pw w) gam0 (topStub pw).cur (fun fin _ s' => fin = .done (.ret .none) ∧ TopEnd w os s') (fun _ _ _ => False) default ⟨boot_heap w.params, #[], boot_drawn, boot_toks, os⟩ := by
  have h0 : ∀ Q : Value × Addr → Pos → Shared → Prop, Q (.ref 13, 14) default (shT (ts w.params) 15 187 os).abs → Sem.wp (model pw w) gam0 startTop Q (fun _ _ _ => False) default (shT (t0 w.params) 11 boot_toks os).abs :=
    fun Q q => evT_wp (M := model pw w) (co_ok w 10) _ _ _ _ _ _ _ _ (qStart w os) q
  unfold startTop at h0
  simp only [Sem.wp_bind', Sem.wp_pure'] at h0
  rw [top_is, ← boot_is]
  simp only [Sem.wp_bind']
  refine h0 (fun x p' s' => Sem.wp (model pw w) gam0 (run (.body (behindTheImports pw) { scope := pw.main.scope, locals := mainNs, globals := mainNs, cells := [], code := x.1, frame := some x.2 })) _ _ p' s') ?_
  dsimp only
  rw [cE_is]
  show wpCode (model pw w) gam1 _ default _
  rw [wpCode_iff_wp]
  show Sem.wp (model pw w) gam1 (((blockStart body0 env0).bind fun _ => ((execs body0 env0).onRaise (leaving env0)).bind fun f => (Sem.pure (PySem.Fin.done f) : Sem PySem.Fin))) _ _ _ _
  rw [Sem.wp_bind]
  refine evT_wp (M := model pw w) (co_ok w 10) _ _ _ _ _ _ _ _ (qBlock w os) ?_
  dsimp only
  rw [Sem.wp_bind, Sem.wp_onRaise]
  refine wpBody os _ fun p' s' h => ?_
  exact ⟨rfl, h⟩
end
end Mine

set_option maxRecDepth 100000
namespace Mine
noncomputable section
open PySem PySem.W PyProof.Rows

section
variable {den : Code → Sem PySem.Fin} {prog : Program} {w : World}

theorem runNI_calm : ∀ {n : Nat} {s : Shared} {t : Thread} {s' : Shared} {t' : Thread}, runNI den prog w n s t = .running s' t' →
    ∀ k, k < n → ∀ s₁ t₁, runNI den prog w k s t = .running s₁ t₁ → t₁.calm = true := by
  intro n
  induction n with
  | zero => intro s t s' t' _ k hk; exact absurd hk (Nat.not_lt_zero _)
  | succ n ih =>
    intro s t s' t' h k hk s₁ t₁ h₁
    simp only [runNI] at h
    cases hl : t.loud with
    | true => simp only [stepI_loud den prog w hl] at h; cases h
    | false =>
      simp only [stepI_quiet den prog w hl] at h
      have hcalm : t.calm = true := by
        rw [Thread.calm_eq, hl]
        cases hr : t.refused with
        | false => rfl
        | true =>
          obtain ⟨what, e⟩ := stepK_refused den prog w (s := s) hr
          simp only [e] at h; cases h
      cases hs : stepK den prog w s t with
      | halt o s₂ => simp only [hs] at h; cases h
      | go s₂ t₂ =>
        simp only [hs] at h
        cases k with
        | zero => injection h₁ with _ e; exact e ▸ hcalm
        | succ k =>
          simp only [runNI, stepI_quiet den prog w hl, hs] at h₁
          exact ih h k (Nat.lt_of_succ_lt_succ hk) s₁ t₁ h₁

theorem runN_next : ∀ {n : Nat} {s : Shared} {t : Thread} {s' : Shared} {t' : Thread}, runN den prog w n s t = .running s' t' →
    ∀ k, k < n → ∀ s₁ t₁, runN den prog w k s t = .running s₁ t₁ → ∀ o s₂, step den prog w s₁ t₁ ≠ .halt o s₂ := by
  intro n
  induction n with
  | zero => intro s t s' t' _ k hk; exact absurd hk (Nat.not_lt_zero _)
  | succ n ih =>
    intro s t s' t' h k hk s₁ t₁ h₁ o s₂ hh
    simp only [runN] at h
    cases hs : step den prog w s t with
    | halt o s₃ => simp only [hs] at h; cases h
    | go s₃ t₃ =>
      simp only [hs] at h
      cases k with
      | zero =>
        injection h₁ with e1 e2
        rw [← e1, ← e2, hs] at hh; cases hh
      | succ k =>
        simp only [runN, hs] at h₁
        exact ih h k (Nat.lt_of_succ_lt_succ hk) s₁ t₁ h₁ o s₂ hh
end

theorem sched_of_wp {prog : Program} {w : World} {c : Code} {t : Sem PySem.Fin} {Q : PySem.Fin → Pos → Shared → Prop} {p : Pos} {s : Shared} (hz : s.asleep)
    (h : Sem.wp (model prog w) (Ctx.of c []) t Q (fun _ _ _ => False) p s) :
    ∃ n s' σ p' a, schedN (denote table) prog w n (.single s ⟨t, c, p, []⟩) = .running (.single σ ⟨.pure a, c, p', []⟩) ∧ σ.forget = s'.forget ∧ Q a p' s' ∧ σ.heap.life = s.heap.life := by
  obtain ⟨s', p', leaf, ⟨n, hn⟩, hl⟩ := wp_comes (Ctx.fits_of c []) t Q (fun _ _ _ => False) p s h
  rcases hl with ⟨a, rfl, hQ⟩ | ⟨e, _, hF⟩
  · have hn' : runNI (denote table) prog w n s ⟨t, c, p, []⟩ = .running s' ⟨.pure a, c, p', []⟩ := hn
    obtain ⟨σ, tau, hr, hσ, htau⟩ := runNI_running_real hn'
    obtain ⟨cur, code, pos, stack⟩ := tau
    simp only [Thread.forget, Thread.mk.injEq, forgetAll] at htau
    obtain ⟨e2, e3, e4, e5⟩ := htau
    have hst : stack = [] := by cases stack with | nil => rfl | cons x xs => simp at e5
    subst hst e2 e3 e4
    refine ⟨n, s', σ, _, a, ?_, hσ, hQ, runN_life_running hr⟩
    rw [schedN_prefix (denote table) prog w n s _ hz ?_, hr]
    · rfl
    · intro k s₁ t₁ hk h₁
      refine ⟨?_, runN_next hr k hk s₁ t₁ h₁ _ _⟩
      obtain ⟨s₂, t₂, h₂⟩ := runNI_prefix (Nat.le_of_lt hk) hn'
      have hc := runNI_calm hn' k hk s₂ t₂ h₂
      obtain ⟨σ₂, tau₂, hr₂, _, htau₂⟩ := runNI_running_real h₂
      rw [hr₂] at h₁
      injection h₁ with _ e
      rw [← e, ← Thread.calm_forget, htau₂, Thread.calm_forget]
      exact hc
  · exact hF.elim
end
end Mine

set_option maxRecDepth 100000
namespace Mine
noncomputable section
open PySem PySem.W PyProof.Rows

noncomputable def qV : Program := { pw with main := { pw.main with body := [st 28] } }
noncomputable def looseV : List Str := [Str.ofString "lt", Str.ofString "eq", Str.ofString "add", Str.ofString "floordiv", Str.ofString "mul", Str.ofString "neg", Str.ofString "concat", Str.ofString "countOf", Str.ofString "setitem",
  Str.ofString "insort_left", Str.ofString "bisect_left", Str.ofString "b1_set", Str.ofString "in_table_b1", Str.ofString "b3_exceptions", Str.ofString "map_table_b3", Str.ofString "_law_typed", Str.ofString "_law_prepared",
  Str.ofString "_law_word", Str.ofString "_law_gathered", Str.ofString "_law_cut", Str.ofString "_law_brackets", Str.ofString "_law_ways", Str.ofString "_law_shuffles", Str.ofString "_law_measured"]
noncomputable def endT (P : Params) (X : Nat → Obj) (L : Life) (os : OsState) : Shared := (shL (t28 P X) 220 L 2412 os).abs
theorem mods_is : importedModules pw.main.body = [] := by kernel_rfl!
theorem lookA (P : Params) (X : Nat → Obj) (L : Life) (os : OsState) : staticsOk [] (boot_heap P) (endT P X L os).heap = true := by kernel_rfl!
theorem lookB (P : Params) (X : Nat → Obj) (L : Life) (os : OsState) : namesBound pw (endT P X L os).heap = true := by kernel_rfl!
theorem lookC (P : Params) (X : Nat → Obj) (L : Life) (os : OsState) : gensDone (endT P X L os) = true := by kernel_rfl!
theorem lookD (P : Params) (X : Nat → Obj) (L : Life) (os : OsState) : laidKept (boot_heap P) (endT P X L os).heap = true := by kernel_rfl!
theorem lookE (P : Params) (X : Nat → Obj) (L : Life) (os : OsState) : openSeen qV looseV [] (fun _ => true) true (endT P X L os) = openGood qV looseV := by
  rw [PySem.W.Fast.te4187177175401517315]; kernel_rfl!
theorem lookF (P : Params) (X : Nat → Obj) : (List.range 11).map (fun a => if a == 3 then none else (t28 P X).get a) = (List.range 11).map (fun a => if a == 3 then none else (boot_heap P).objs[a]?) := by kernel_rfl!
theorem chains_ok : chainsOk qV = true := by kernel_rfl!
end
end Mine

set_option maxRecDepth 100000
namespace Mine
noncomputable section
open PySem PySem.W PyProof.Rows

theorem opening_is : opening pw = plainProg pw.main.scope.names := by kernel_rfl!
theorem fence_is (s : Shared) : fenceModules? pw s = some s := by kernel_rfl!
noncomputable def s0 (P : Params) (os : OsState) : Shared := ⟨boot_heap P, #[], boot_drawn, boot_toks, os⟩

theorem opened (w : World) : (∃ s, AfterRun (opening pw) w s) ∧ ∀ s, AfterRun (opening pw) w s → s.asleep ∧ ∃ os, s = s0 w.params os := by
  have h := boot_open (p := pw) (N := 600) opening_is rfl fence_is w
  rw [← table_eq_tree] at h
  obtain ⟨s₀, h2, h3⟩ := Option.map_eq_some_iff.mp h
  obtain ⟨s, h4, h5⟩ := Option.bind_eq_some_iff.mp h2
  have A := AfterImport.of_importEnds h4
  refine ⟨⟨s, A⟩, fun s' hs' => ?_⟩
  obtain rfl : s' = s := AfterImport.unique hs' A
  rw [fence_is] at h5
  obtain rfl := Option.some.inj h5
  refine ⟨A.life, s'.os, ?_⟩
  obtain ⟨hp, gs, d, k, os⟩ := s'
  simp only [Prod.mk.injEq] at h3
  obtain ⟨rfl, rfl, rfl, rfl⟩ := h3
  rfl

theorem boot_size (P : Params) : (boot_heap P).objs.size = 11 := by kernel_rfl!
theorem boot_ns (P : Params) : (boot_heap P).isNs mainGlobals = true := by kernel_rfl!

theorem topRan (w : World) (os : OsState) (hz : (s0 w.params os).asleep) : ∃ X L, DictX pw w X ∧ TopRan pw w (s0 w.params os) (endT w.params X L os) ∧ (endT w.params X L os).asleep ∧
    (endT w.params X L os).heap.isNs mainGlobals = true ∧
    Ground qV looseV [] (fun _ _ => True) w (endT w.params X L os) ((endT w.params X L os).heap.nsMap mainGlobals) ((endT w.params X L os).heap.nsMap builtinsNs) (endT w.params X L os).heap := by
  obtain ⟨n, s', σ, p', a, hs, hf, ⟨rfl, X, L, hX, rfl⟩, hl⟩ := sched_of_wp hz (wpTop w os)
  have hg : (shL (t28 w.params X) 220 L 2412 os).abs.gens = #[] := rfl
  obtain rfl := Shared.eq_of_forget_eq hf hg
  refine ⟨X, L, hX, ?_⟩
  obtain ⟨G, g0, g1, g2, g3, g4, g5⟩ := ground_of_open (w := w) (XP := fun _ _ => True) (fun _ _ => trivial) chains_ok (lookE w.params X L os)
  have hgk : ∀ b o, (s0 w.params os).heap.get? b = some o → ¬ theTopsOwn (s0 w.params os).heap b → (endT w.params X L os).heap.get? b = some o := by
    intro b o hb hn
    have hlt : b < 11 := by have := Heap.lt_size hb; rw [show (s0 w.params os).heap.objs.size = 11 from boot_size _] at this; exact this
    have h3 : b ≠ 3 := fun e => hn (.inl e)
    have e := map_range_at (lookF w.params X) hlt
    have e3 : (b == 3) = false := beq_eq_false_iff_ne.mpr h3
    simp only [e3, Bool.false_eq_true, if_false] at e
    have ho := objs_of_get hb
    have ho' : (boot_heap w.params).objs[b]? = some o := ho
    rw [ho'] at e
    have hfr : o.isFreed = false := (Heap.get?_some_iff.mp hb).2
    have hal : alive o = some o := by
      obtain ⟨c, d, dt, sl⟩ := o
      cases dt <;> first | rfl | exact absurd hfr (by simp [Obj.isFreed])
    exact (abs_get (t := t28 w.params X) (n := 220) (life := L) (Nat.lt_trans hlt (by decide)) e).trans hal
  have hlife : (endT w.params X L os).heap.life = (s0 w.params os).heap.life := hl
  refine ⟨⟨⟨n, _, hs, rfl⟩, hlife, Shared.rest_eq rfl, hgk, ?_, ?_, g3, g4, g5, gens_of_done (lookC w.params X L os), names_of_bound (lookB w.params X L os), laid_of_kept (lookD w.params X L os)⟩, Shared.asleep_of_life hlife hz, g1, G⟩
  · rw [mods_is]; exact g2
  · rw [mods_is]; exact statics_of_ok (lookA w.params X L os)
end
end Mine

set_option maxRecDepth 100000
namespace Mine
noncomputable section
open PySem PySem.W PyProof.Rows
abbrev lw : OpenLaw := PySem.Challenge.rw_uc0026_01

/-- the objects of the top that the walk reads -/
noncomputable def KK (P : Params) : List (Addr × Obj) := [(3, g28 P), (15, o15 P), (17, o17 P), (18, o18 P), (20, o20 P), (21, o21 P), (22, o22 P), (24, o24 P), (25, o25 P), (27, o27 P), (28, o28 P), (29, o29 P), (31, o31 P), (32, o32 P), (34, o34 P), (35, o35 P), (36, o36 P), (38, o38 P), (39, o39 P), (41, o41 P), (42, o42 P), (43, o43 P), (45, o45 P), (46, o46 P), (48, o48 P), (49, o49 P), (50, o50 P), (52, o52 P), (53, o53 P), (55, o55 P), (56, o56 P), (57, o57 P), (59, o59 P), (60, o60 P), (62, o62 P), (63, o63 P), (64, o64 P), (66, o66 P), (67, o67 P), (69, o69 P), (70, o70 P), (71, o71 P), (73, o73 P), (74, o74 P), (76, o76 P), (77, o77 P), (78, o78 P), (79, o79 P), (80, o80 P), (82, o82 P), (83, o83 P), (85, o85 P), (86, o86 P), (87, o87 P), (88, o88 P), (89, o89 P), (91, o91 P), (92, o92 P), (94, o94 P), (95, o95 P), (100, o100 P), (103, o103 P), (105, o105 P), (107, o107 P), (109, o109 P), (110, o110 P), (112, o112 P), (113, o113 P), (153, o153 P), (155, o155 P), (156, o156 P), (158, o158 P), (159, o159 P), (160, o160 P), (162, o162 P), (163, o163 P), (165, o165 P), (166, o166 P), (167, o167 P), (169, o169 P), (170, o170 P), (172, o172 P), (173, o173 P), (174, o174 P), (176, o176 P), (177, o177 P), (179, o179 P), (180, o180 P), (181, o181 P), (183, o183 P), (184, o184 P), (186, o186 P), (187, o187 P), (188, o188 P), (191, o191 P), (192, o192 P), (193, o193 P), (196, o196 P), (197, o197 P), (198, o198 P), (201, o201 P), (202, o202 P), (203, o203 P), (206, o206 P), (207, o207 P), (208, o208 P), (210, o210 P), (211, o211 P), (213, o213 P), (214, o214 P), (215, o215 P), (218, o218 P), (219, o219 P)]
structure Facts (w : World) (h : Heap) : Prop where
  K : ∀ q ∈ KK w.params, h.get? q.1 = some q.2
  b3 : ∃ es ep kvs, h.get? 114 = some ⟨.type "dict", none, .dict es ep, #[]⟩ ∧ KeysOf (kn pw w) es ∧ Pairs (kn pw w) es.toList kvs ∧ Tab kvs tab3
  T : ∃ mean mg mb, Top qV (looseW qV looseV) mean mg mb h
  nb : NoneBooked h
theorem Facts.keeps {w : World} {h h' : Heap} (F : Facts w h) (k : ∀ b o, h.get? b = some o → h'.get? b = some o) : Facts w h' where
  K := fun q hq => k _ _ (F.K q hq)
  b3 := let ⟨es, ep, kvs, a, r⟩ := F.b3; ⟨es, ep, kvs, k _ _ a, r⟩
  T := let ⟨a, b, c, T⟩ := F.T; ⟨a, b, c, T.keeps k⟩
  nb := let ⟨m, n, e⟩ := F.nb; ⟨m, n.keeps k, e⟩
theorem end_stat (P : Params) (X : Nat → Obj) (L : Life) (os : OsState) : (endT P X L os).heap.isNs cStatics = true := by kernel_rfl!
theorem end_nb (P : Params) (X : Nat → Obj) (L : Life) (os : OsState) : (endT P X L os).heap.nsMap cStatics sharingNotToldKey = none := by kernel_rfl!
theorem lookK (P : Params) (X : Nat → Obj) (L : Life) : (KK P).map (fun q => (absHeap (t28 P X) 220 L).get? q.1) = (KK P).map (fun q => some q.2) := by kernel_rfl!
theorem look114 (P : Params) (X : Nat → Obj) : (t28 P X).get 114 = some (X 114) := by kernel_rfl!
theorem facts_end {w : World} {os : OsState} {X : Nat → Obj} {L : Life} (hX : DictX pw w X) (hT : ∃ mean mg mb, Top qV (looseW qV looseV) mean mg mb (endT w.params X L os).heap) : Facts w (endT w.params X L os).heap where
  K := fun q hq => by
    have h := lookK w.params X L
    obtain ⟨i, hi, rfl⟩ := List.getElem_of_mem hq
    have := congrArg (·[i]?) h
    have t : (absHeap (t28 w.params X) 220 L).get? (KK w.params)[i].fst = some (KK w.params)[i].snd := by simpa [List.getElem?_map, List.getElem?_eq_getElem hi] using this
    exact t
  b3 := by
    obtain ⟨es, ep, kvs, e, a, b, c⟩ := hX
    refine ⟨es, ep, kvs, ?_, a, b, c⟩
    have := abs_get (t := t28 w.params X) (n := 220) (life := L) (a := 114) (by decide) (look114 w.params X)
    exact this.trans (by rw [e]; rfl)
  T := hT
  nb := ⟨_, Heap.Ns.of_isNs (end_stat _ _ _ _), end_nb _ _ _ _⟩

noncomputable def lawA : Addr := 219
/-- what the walk has to show -/
noncomputable def Walk : Prop := ∀ (w : World) (s : Shared), s.gens = #[] → Facts w s.heap → ∀ (l : Addr) (vs : List Value) (ns : List Int), s.heap.IsList l vs.toArray → IntsAre vs ns → ns.length ≤ 63 → (PyData.list (ns.map PyData.int)).layable0 = true → 0 < s.toks →
  wpAny (model pw w) callerA (call (.ref lawA) [.ref l]) (fun v s' => v = .bool true ∧ (∀ b o, s.heap.get? b = some o → s'.heap.get? b = some o) ∧ s'.os = s.os ∧ s'.gens = #[]) (fun _ _ => False) s

theorem nsLaw (P : Params) (X : Nat → Obj) (L : Life) (os : OsState) : (endT P X L os).heap.nsMap mainGlobals lw.row.name = some (.ref lawA) := by kernel_rfl!
theorem post_true (args : List WData) : lw.row.claim.post args (.bool true) args = true := by kernel_rfl!

theorem args_of {w : World} {s₁ : Shared} {cl : Str → Option Addr} {args : List WData} {vals : List Value} {as : List Addr} (hpre : lw.row.claim.pre args = true) (hlay : WData.layableAll args = true)
   (hrd : ReadsAllW lw.row.records cl s₁.heap vals args as) (hwl : WellAll w.params s₁.heap vals args) (hlo : ∀ a ∈ as, (a == sysModules) = false) :
   ∃ l vs ns, vals = [.ref l] ∧ s₁.heap.IsList l vs.toArray ∧ IntsAre vs ns ∧ ns.length ≤ 63 ∧ (PyData.list (ns.map PyData.int)).layable0 = true := by
  wrow_args hpre hlay hrd hwl hlo
  exact ⟨_, _, _, rfl, by assumption, by assumption, by omega, by assumption⟩

theorem good_true {cl : Str → Option Addr} {mean : ExcName → Option Value} {args : List WData} {s₁ s' : Shared} (h1 : ∀ b o, s₁.heap.get? b = some o → s'.heap.get? b = some o) (h2 : s'.os = s₁.os) (h3 : s'.gens = #[]) :
    GoodW lw.row.claim cl mean args s₁ (.ok (.ret (.bool true))) s' :=
  ⟨.inl ⟨.bool true, .bool true, [], rfl, fun _ => rfl, .bool true, post_true args, fun _ => ⟨.nil, fun _ h => nomatch h⟩⟩, h1, h2, h3⟩
end
end Mine

set_option maxRecDepth 100000
namespace Mine
noncomputable section
open PySem PySem.W PyProof.Rows

theorem ok_frees : (frees lw.row.toRowW && lw.row.toRowW.within.isEmpty) = true := by kernel_rfl!
theorem ok_opens : opensWell pw = true := by kernel_rfl!
theorem ok_bare : pw.bare := ⟨rfl, rfl, rfl, rfl, rfl, by decide +kernel⟩
theorem def_law : (defOf qV lw.row.name).bind (fun x => if x.2.isEmpty then some (x.1.params, x.1.body, x.1.scope) else none) = pw.theDef lw.row.name := by kernel_rfl!
theorem def_some : ((defOf qV lw.row.name).map fun x => (x.1.params.kwonlyargs.isEmpty && x.1.params.kw_defaults.isEmpty && x.2.isEmpty)) = some true := by kernel_rfl!

theorem pin_law {w : World} {s : Shared} (hg : s.heap.isNs mainGlobals = true) (G : Ground qV looseV [] (fun _ _ => True) w s (s.heap.nsMap mainGlobals) (s.heap.nsMap builtinsNs) s.heap) : isTheDefsW pw s.heap lw.row.name := by
  have h1 := def_law
  have h2 := def_some
  cases hd : defOf qV lw.row.name with
  | none => rw [hd] at h2; cases h2
  | some x =>
    obtain ⟨d, kwd⟩ := x
    rw [hd] at h1 h2
    simp only [Option.map_some, Option.some.injEq, Bool.and_eq_true, List.isEmpty_iff] at h2
    obtain ⟨⟨k1, k2⟩, rfl⟩ := h2
    refine pinned_of_view hg G hd (d := d) (kwd := []) h1.symm ?_
    rw [k1, k2]; rfl

theorem openBy (W : Walk) : lw.row.toRowW.claim.HoldsOpenBy (callStub lw.row.name) [lw.row.name] lw.row.keeps false := by
  obtain ⟨f1, f2⟩ := Bool.and_eq_true_iff.mp ok_frees
  obtain ⟨hsame, hu, ha, hap, hm⟩ := frees_parts f1
  have hw : lw.row.toRowW.promised := by w_witness2
  refine ⟨⟨ok_bare, ok_opens, by show lw.row.toRowW.makers.map lw.row.toRowW.maker = []; rw [hm]; rfl⟩, hw.witness, fun w => ⟨(opened w).1, fun s₀ hs₀ => ?_⟩⟩
  obtain ⟨hz, os, rfl⟩ := (opened w).2 s₀ hs₀
  obtain ⟨X, L, hX, hT, hz₁, hg, G⟩ := topRan w os hz
  have F := facts_end (os := os) (L := L) hX ⟨_, _, _, G.T⟩
  refine ⟨s0 w.params os, fence_is _, rfl, endT w.params X L os, hT, ?_, (fun x hx => nomatch hx), (fun x hx => nomatch hx), ?_⟩
  · intro n hn
    obtain rfl : n = lw.row.name := by simpa using hn
    exact pin_law hg G
  refine ClaimW.callFrom_of_specN (c := lw.row.toRowW.claim) (tree := fun vs => do match ← nsGet mainNs lw.row.name with
      | some f => do ret (← PySem.call f vs)
      | none => unsupported "claim.caller:no-such-global") hz₁ (by show leftWithCleanup (#[] : Array GenState) = false; simp [leftWithCleanup]) fun args hpre hlay ord hord => ?_
  obtain ⟨⟨vs, s₁⟩, hlaid⟩ := Option.isSome_iff_exists.mp (layAllW_isSome (P := w.params) (ord := ord) G.has args lw.row.toRowW.args (endT w.params X L os) (pre_splitW hpre).1)
  have keeps := layAllW_keeps _ _ _ hlaid
  have hal := layAllW_rest _ _ _ hlaid
  obtain ⟨as, hrd, hin, hold⟩ := reads_layAllW hord _ _ _ hlaid hlay s₁.heap (fun _ _ e => e)
  have F₁ := F.keeps keeps
  have hwl := well_layAllW hord args (endT w.params X L os) _ hlaid s₁.heap fun _ _ e => e
  have hlo : ∀ a ∈ as, (a == sysModules) = false := fun a ha => beq_eq_false_iff_ne.mpr fun e => by
    have h1 := (hin.2.2 a ha).1
    have h2 : (endT w.params X L os).heap.objs.size = 220 := absHeap_size _ _ _
    rw [h2, e] at h1
    exact absurd h1 (by decide)
  obtain ⟨l, ws, ns, rfl, q1, q2, q3, q4⟩ := args_of hpre hlay hrd hwl hlo
  refine ⟨_, s₁, hlaid, ?_⟩
  have hns : s₁.heap.Ns mainGlobals ((endT w.params X L os).heap.nsMap mainGlobals) := (Heap.Ns.of_isNs hg).keeps keeps
  refine wpAny_bind (wpAny_nsGet hns ?_)
  rw [nsLaw]
  refine wpAny_bind (wpAny_mono (W w { s₁ with gens := #[] } rfl F₁ l ws ns q1 q2 q3 q4 (Nat.lt_of_lt_of_le (by decide : 0 < 2412) (layAllW_grows _ _ _ hlaid).toks)) (fun v s' h => ?_) fun _ _ h => h.elim)
  obtain ⟨rfl, k1, k2, k3⟩ := h
  refine wpAny_pure ⟨_, rfl, ?_⟩
  have hi := ident_freeW hu ha hap
  have hwi : lw.row.toRowW.claim.within = [] := List.isEmpty_iff.mp f2
  have z := (good_true (cl := classAt (endT w.params X L os).heap) (mean := ExcName.means (endT w.params X L os).heap) (args := args) k1 k2 k3).endsN (c := lw.row.toRowW.claim) hsame hwi hi hrd hold hal.2.2.1
  exact ⟨z.1, z.2.1, z.2.2, fun q => nomatch q⟩

theorem wsaid : lw.wellSaid = true := by decide +kernel
theorem holds_of_walk (W : Walk) : PySem.Challenge.rw_uc0026_01.Holds := by
  w_on
  refine holds_law wsaid fun said => ?_
  refine ⟨by assumption, ?hw, ?_⟩
  case hw => w_witness2
  exact openBy W
end
end Mine

set_option maxRecDepth 100000
namespace Mine
open PySem PySem.W PyProof.Rows

inductive D where
  | none
  | bool (b : Bool)
  | int (i : Int)
  | str (l : List Nat)
  | nstr (l : List Nat)
  | tks (ls : List (List Nat))
  | val (v : Value)
  | list (ds : List D)
  | tup (ds : List D)
  | range (a b : Int)
  | ils (ns : List Int)

/-- texts with tokens of their own: a token tells its text -/
structure TkOk (vs : List Value) : Prop where
  pos : ∀ v ∈ vs, ∃ x t, v = .str x t ∧ 0 < t
  one : ∀ x y t, Value.str x t ∈ vs → Value.str y t ∈ vs → x = y

/-- a tuple without a record of its own -/
noncomputable def PT (h : Heap) (a : Addr) (items : Array Value) : Prop := ∃ n, h.get? a = some { cls := .type "tuple", data := .seq items n }
theorem PT.isTuple {h : Heap} {a : Addr} {items : Array Value} (x : PT h a items) : h.IsTuple a items := let ⟨n, e⟩ := x; ⟨_, e, rfl, n, rfl⟩

mutual
/-- `v` bears `d` in `h`, none of its objects among `B` -/
inductive Has (B : List Addr) (h : Heap) : Value → D → Prop
  | none : Has B h .none .none
  | bool (b : Bool) : Has B h (.bool b) (.bool b)
  | int (i : Int) (t : Tok) : Has B h (.int i t) (.int i)
  | str (l : List Nat) (t : Tok) : Has B h (.str ⟨l.toArray⟩ t) (.str l)
  | nstr (l : List Nat) (t : Tok) : 0 < t → Has B h (.str ⟨l.toArray⟩ t) (.nstr l)
  | val (v : Value) : Has B h v (.val v)
  | tks {a : Addr} {vs : List Value} {ls : List (List Nat)} : a ∉ B → h.PlainList a vs.toArray → HasAll B h vs (ls.map .str) → TkOk vs → Has B h (.ref a) (.tks ls)
  | list {a : Addr} {vs : List Value} {ds : List D} : a ∉ B → h.PlainList a vs.toArray → HasAll B h vs ds → Has B h (.ref a) (.list ds)
  | tup {a : Addr} {vs : List Value} {ds : List D} : a ∉ B → PT h a vs.toArray → HasAll B h vs ds → Has B h (.ref a) (.tup ds)
  | range {r : Addr} {a b : Int} {t u v : Tok} : r ∉ B → IsRange h r a b 1 t u v → Has B h (.ref r) (.range a b)
  | ils {a : Addr} {vs : List Value} {ns : List Int} : a ∉ B → h.IsList a vs.toArray → IntsAre vs ns → Has B h (.ref a) (.ils ns)
inductive HasAll (B : List Addr) (h : Heap) : List Value → List D → Prop
  | nil : HasAll B h [] []
  | cons {v : Value} {vs : List Value} {d : D} {ds : List D} : Has B h v d → HasAll B h vs ds → HasAll B h (v :: vs) (d :: ds)
end

noncomputable def Le (h h' : Heap) : Prop := ∀ b o, h.get? b = some o → h'.get? b = some o
theorem Le.refl (h : Heap) : Le h h := fun _ _ e => e
theorem Le.trans {a b c : Heap} (x : Le a b) (y : Le b c) : Le a c := fun d o e => y d o (x d o e)
theorem Le.push (h : Heap) (o : Obj) : Le h (h.push o) := fun _ _ e => Heap.get?_push_of_some _ e

/-- what stands off `B` stays -/
noncomputable def Sp (B : List Addr) (h h' : Heap) : Prop := ∀ b o, b ∉ B → h.get? b = some o → h'.get? b = some o
theorem Sp.refl (B : List Addr) (h : Heap) : Sp B h h := fun _ _ _ e => e
theorem Sp.trans {B : List Addr} {a b c : Heap} (x : Sp B a b) (y : Sp B b c) : Sp B a c := fun d o n e => y d o n (x d o n e)
theorem Le.sp {B : List Addr} {a b : Heap} (x : Le a b) : Sp B a b := fun d o _ e => x d o e
theorem Sp.mono {B B' : List Addr} {a b : Heap} (x : Sp B a b) (s : ∀ c ∈ B, c ∈ B') : Sp B' a b := fun d o n e => x d o (fun m => n (s d m)) e
theorem sp_own {B : List Addr} {a : Addr} {h h' : Heap} (m : a ∈ B) (k : Heap.ExtBut a h h') : Sp B h h' := fun b o n e => k b o (fun c => n (c ▸ m)) e

theorem isList_sp {B : List Addr} {h h' : Heap} {a : Addr} {vs : Array Value} (k : Sp B h h') (n : a ∉ B) (x : h.PlainList a vs) : h'.PlainList a vs :=
  let ⟨o, e⟩ := x; ⟨o, k a _ n e⟩
theorem isTuple_sp {B : List Addr} {h h' : Heap} {a : Addr} {vs : Array Value} (k : Sp B h h') (n : a ∉ B) (x : PT h a vs) : PT h' a vs :=
  let ⟨o, e⟩ := x; ⟨o, k a _ n e⟩

mutual
theorem Has.to {B B' : List Addr} {h h' : Heap} (k : Sp B h h') (s : ∀ c o, c ∉ B → h.get? c = some o → c ∉ B') : ∀ {v : Value} {d : D}, Has B h v d → Has B' h' v d
  | _, _, .none => .none
  | _, _, .bool b => .bool b
  | _, _, .int i t => .int i t
  | _, _, .str x t => .str x t
  | _, _, .nstr x t p => .nstr x t p
  | _, _, .tks n x r q => .tks (let ⟨_, e⟩ := x; s _ _ n e) (isList_sp k n x) (HasAll.to k s r) q
  | _, _, .val v => .val v
  | _, _, .list n x r => .list (let ⟨_, e⟩ := x; s _ _ n e) (isList_sp k n x) (HasAll.to k s r)
  | _, _, .tup n x r => .tup (let ⟨_, e⟩ := x; s _ _ n e) (isTuple_sp k n x) (HasAll.to k s r)
  | _, _, .range n x => .range (s _ _ n x) (k _ _ n x)
  | _, _, .ils n x r => .ils (let ⟨_, e, _⟩ := x; s _ _ n e) (let ⟨o, e, c⟩ := x; ⟨o, k _ _ n e, c⟩) r
theorem HasAll.to {B B' : List Addr} {h h' : Heap} (k : Sp B h h') (s : ∀ c o, c ∉ B → h.get? c = some o → c ∉ B') : ∀ {vs : List Value} {ds : List D}, HasAll B h vs ds → HasAll B' h' vs ds
  | _, _, .nil => .nil
  | _, _, .cons a b => .cons (Has.to k s a) (HasAll.to k s b)
end
theorem Has.le {B : List Addr} {h h' : Heap} {v : Value} {d : D} (x : Has B h v d) (k : Le h h') : Has B h' v d := x.to k.sp fun _ _ n _ => n
theorem HasAll.le {B : List Addr} {h h' : Heap} {v : List Value} {d : List D} (x : HasAll B h v d) (k : Le h h') : HasAll B h' v d := x.to k.sp fun _ _ n _ => n
theorem Has.sp {B : List Addr} {h h' : Heap} {v : Value} {d : D} (x : Has B h v d) (k : Sp B h h') : Has B h' v d := x.to k fun _ _ n _ => n
theorem HasAll.sp {B : List Addr} {h h' : Heap} {v : List Value} {d : List D} (x : HasAll B h v d) (k : Sp B h h') : HasAll B h' v d := x.to k fun _ _ n _ => n
theorem Has.sub {B B' : List Addr} {h : Heap} {v : Value} {d : D} (x : Has B h v d) (s : ∀ c ∈ B', c ∈ B) : Has B' h v d := x.to (Sp.refl _ _) fun _ _ n _ m => n (s _ m)
theorem HasAll.sub {B B' : List Addr} {h : Heap} {v : List Value} {d : List D} (x : HasAll B h v d) (s : ∀ c ∈ B', c ∈ B) : HasAll B' h v d := x.to (Sp.refl _ _) fun _ _ n _ m => n (s _ m)
/-- an address not yet given out is none of its objects -/
theorem Has.add {B B' : List Addr} {h : Heap} {v : Value} {d : D} (x : Has B h v d) (s : ∀ c ∈ B', c ∈ B ∨ h.get? c = .none) : Has B' h v d :=
  x.to (Sp.refl _ _) fun c o n e m => (s c m).elim n fun f => by rw [e] at f; cases f
theorem HasAll.add {B B' : List Addr} {h : Heap} {v : List Value} {d : List D} (x : HasAll B h v d) (s : ∀ c ∈ B', c ∈ B ∨ h.get? c = .none) : HasAll B' h v d :=
  x.to (Sp.refl _ _) fun c o n e m => (s c m).elim n fun f => by rw [e] at f; cases f

section
variable {B : List Addr} {h : Heap} {v : Value} {d : D} {vs ws : List Value} {ds es : List D}
theorem HasAll.length (x : HasAll B h vs ds) : vs.length = ds.length := by
  induction vs generalizing ds with
  | nil => cases x; rfl
  | cons v vs ih => cases x with | cons _ r => rw [List.length_cons, List.length_cons, ih r]
theorem HasAll.append (x : HasAll B h vs ds) (k : HasAll B h ws es) : HasAll B h (vs ++ ws) (ds ++ es) := by
  induction vs generalizing ds with
  | nil => cases x; exact k
  | cons v vs ih => cases x with | cons a r => exact .cons a (ih r)
theorem HasAll.one (x : Has B h v d) : HasAll B h [v] [d] := .cons x .nil
theorem HasAll.get (x : HasAll B h vs ds) {k : Nat} {d : D} (hk : ds[k]? = some d) : ∃ v, vs[k]? = some v ∧ Has B h v d := by
  induction vs generalizing ds k with
  | nil => cases x; simp at hk
  | cons v vs ih =>
    cases x with
    | cons a r =>
      cases k with
      | zero => simp at hk; subst hk; exact ⟨v, rfl, a⟩
      | succ k => simpa using ih r (by simpa using hk)
theorem HasAll.at (x : HasAll B h vs ds) {k : Nat} {v : Value} {d : D} (hv : vs[k]? = some v) (hd : ds[k]? = some d) : Has B h v d := by
  obtain ⟨v', e, r⟩ := x.get hd
  rw [hv] at e; cases e; exact r
theorem HasAll.reverse (x : HasAll B h vs ds) : HasAll B h vs.reverse ds.reverse := by
  induction vs generalizing ds with
  | nil => cases x; exact .nil
  | cons v vs ih => cases x with | cons a r => rw [List.reverse_cons, List.reverse_cons]; exact (ih r).append (.one a)
theorem HasAll.take (x : HasAll B h vs ds) (n : Nat) : HasAll B h (vs.take n) (ds.take n) := by
  induction vs generalizing ds n with
  | nil => cases x; simp; exact .nil
  | cons v vs ih => cases x with | cons a r => cases n with | zero => exact .nil | succ n => exact .cons a (ih r n)
theorem HasAll.drop (x : HasAll B h vs ds) (n : Nat) : HasAll B h (vs.drop n) (ds.drop n) := by
  induction vs generalizing ds n with
  | nil => cases x; simp; exact .nil
  | cons v vs ih => cases x with | cons a r => cases n with | zero => exact .cons a r | succ n => exact ih r n
theorem Has.int_inv {i : Int} (x : Has B h v (.int i)) : ∃ t, v = .int i t := by cases x; exact ⟨_, rfl⟩
theorem Has.str_inv {y : List Nat} (x : Has B h v (.str y)) : ∃ t, v = .str ⟨y.toArray⟩ t := by cases x; exact ⟨_, rfl⟩
theorem Has.nstr_inv {y : List Nat} (x : Has B h v (.nstr y)) : ∃ t, v = .str ⟨y.toArray⟩ t ∧ 0 < t := by cases x with | nstr _ t p => exact ⟨t, rfl, p⟩
theorem Has.weak {y : List Nat} (x : Has B h v (.nstr y)) : Has B h v (.str y) := by obtain ⟨t, rfl, _⟩ := x.nstr_inv; exact .str _ _
theorem Has.untk {ls : List (List Nat)} (x : Has B h v (.tks ls)) : Has B h v (.list (ls.map .str)) := by cases x with | tks n e r _ => exact .list n e r
theorem Has.bool_inv {b : Bool} (x : Has B h v (.bool b)) : v = .bool b := by cases x; rfl
theorem Has.none_inv (x : Has B h v .none) : v = .none := by cases x; rfl
theorem Has.val_inv {u : Value} (x : Has B h v (.val u)) : v = u := by cases x; rfl
end

/-- the items that a loop over it takes -/
noncomputable def D.items : D → Option (List D)
  | .list ds => some ds
  | .tup ds => some ds
  | .str l => some (l.map fun c => .str [c])
  | .nstr l => some (l.map fun c => .str [c])
  | .tks ls => some (ls.map .str)
  | .range a b => some ((List.range (b - a).toNat).map fun i => .int (a + (i : Nat)))
  | _ => .none
noncomputable def D.small : D → Prop
  | .range a b => -(2 ^ 40) ≤ a ∧ a ≤ 2 ^ 40 ∧ -(2 ^ 40) ≤ b ∧ b ≤ 2 ^ 40
  | _ => True

theorem range_small {a b : Int} (h : D.small (.range a b)) : Builtin.Range.small a b 1 = true ∧ Builtin.Range.rangeSize a b 1 = (((b - a).toNat : Nat) : Int) := by
  obtain ⟨h1, h2, h3, h4⟩ := h
  have e : Builtin.Range.rangeSize a b 1 = (((b - a).toNat : Nat) : Int) := by
    unfold Builtin.Range.rangeSize
    simp
    omega
  refine ⟨?_, e⟩
  unfold Builtin.Range.small
  rw [e]
  simp [Builtin.Range.rangeFitsLong]
  omega

noncomputable def NotNm (o : Obj) : Prop := (∀ es ep, o.data ≠ .dict es ep) ∧ ∀ v, o.data ≠ .cell v
theorem notNm_seq {o : Obj} {a : Array Value} {n : Nat} (h : o.data = .seq a n) : NotNm o := ⟨fun _ _ e => (by rw [h] at e; cases e), fun _ e => (by rw [h] at e; cases e)⟩
theorem notNm_fields {o : Obj} {a : Array Value} (h : o.data = .fields a) : NotNm o := ⟨fun _ _ e => (by rw [h] at e; cases e), fun _ e => (by rw [h] at e; cases e)⟩
noncomputable def ownIts : List String := ["enumerate", "zip", "dict_itemiterator", "dict_reverseitemiterator", "odict_iterator", "itertools.zip_longest", "itertools.pairwise"]
/-- an iterator that keeps no tuple of its own -/
noncomputable def ItObj (h : Heap) (I : Addr) : Prop := ∃ o n f, h.get? I = some o ∧ o.cls = .type n ∧ o.data = .fields f ∧ ownIts.contains n = false
theorem let_owned {M : Model} {A : Around} {E : Value → Shared → Prop} {s : Shared} {t : Expr} {I : Addr} {v : Value} {Q : Unit → Shared → Prop} (x : ItObj s.heap I) (q : Q () s) : wpAny M A (letOwnedTupleGo t (.ref I) v) Q E s := by
  obtain ⟨o, n, f, ho, hc, hd, hn⟩ := x
  have body : wpAny M A (match (Value.ref I, v) with
    | (.ref r, .ref a) => do
      let o ← load r
      match o.cls, o.data with
      | .type n, .fields vs =>
        if ["enumerate", "zip", "dict_itemiterator", "dict_reverseitemiterator", "odict_iterator", "itertools.zip_longest", "itertools.pairwise"].contains n && vs[0]? == some (rawInt a) then
          rule "for.unpacks-the-owned-tuple"
          updateField r 0 .none
      | _, _ => pure ()
    | _ => pure () : Sem Unit) Q E s := by
    cases v with
    | ref a =>
      refine wpAny_bind (wpAny_load ho ?_)
      rw [hc, hd]
      show wpAny M A (if (ownIts.contains n && _) = true then _ else _) Q E s
      rw [hn, Bool.false_and, if_neg (by decide)]
      exact wpAny_pure q
    | _ => exact wpAny_pure q
  unfold letOwnedTupleGo
  cases t <;> first | exact wpAny_pure q | exact body
structure ItSt (prog : Program) (w : World) (B : List Addr) (h h₁ : Heap) (I : Addr) (ds : List D) (fp : List Addr) (P : Nat → Value → Prop) (St : Nat → Heap → Prop) : Prop where
  walks : ∀ A : Around, A.handled = none → Walks prog w A I fp [I] ds.length P St
  st : St 0 h₁
  le : Le h h₁
  big : h.objs.size ≤ I
  lt : I < h₁.objs.size
  far : ∀ b ∈ fp, b = I ∨ b ∉ B ∧ ∃ o, h.get? b = some o
  own : ∀ i h, St i h → ItObj h I
  nn : ∀ i h, St i h → ∀ b ∈ fp, ∀ o, h.get? b = some o → NotNm o
  item : ∀ i v d, P i v → ds[i]? = some d → ∀ h', Sp B h h' → Has B h' v d

theorem get_big {h : Heap} {I : Addr} (n : h.objs.size ≤ I) : h.get? I = none := by
  cases e : h.get? I with
  | none => rfl
  | some o => exact absurd (Heap.lt_size e) (Nat.not_lt.mpr n)
theorem ItSt.new {prog : Program} {w : World} {B : List Addr} {h h₁ : Heap} {I : Addr} {ds : List D} {fp : List Addr} {P : Nat → Value → Prop} {St : Nat → Heap → Prop} (x : ItSt prog w B h h₁ I ds fp P St) : h.get? I = none := get_big x.big
theorem fresh_none (h : Heap) : h.get? h.objs.size = none := by
  cases e : h.get? h.objs.size with
  | none => rfl
  | some o => exact absurd (Heap.lt_size e) (Nat.lt_irrefl _)

theorem wp_iter {w : World} {A : Around} {E : Value → Shared → Prop} {B : List Addr} {s : Shared} {v : Value} {d : D} {ds : List D} (hd : Has B s.heap v d) (hi : d.items = some ds) (hs : d.small) {Q : Value → Shared → Prop}
    (h : ∀ I h₁ fp P St, ItSt pw w B s.heap h₁ I ds fp P St → Q (.ref I) { s with heap := h₁ }) : wpAny (model pw w) A (pyIter v) Q E s := by
  have text : ∀ (x : List Nat) (t : Tok), D.items (.str x) = some ds → wpAny (model pw w) A (pyIter (.str ⟨x.toArray⟩ t)) Q E s := by
    intro x t hi
    cases hi
    have fin : ∀ (ty : String), ownIts.contains ty = false → (∀ A : Around, A.handled = none → Walks pw w A s.heap.objs.size [s.heap.objs.size] [s.heap.objs.size] x.toArray.size (SignAt ⟨x.toArray⟩) (fun i h => h.IsStrIter s.heap.objs.size ty ⟨x.toArray⟩ t i)) →
        Q (.ref s.heap.objs.size) { s with heap := s.heap.push { cls := .type ty, data := .fields #[.str ⟨x.toArray⟩ t, .int 0 0] } } := by
      intro ty hty W
      refine h _ _ [s.heap.objs.size] (SignAt ⟨x.toArray⟩) (fun i h => h.IsStrIter s.heap.objs.size ty ⟨x.toArray⟩ t i) ⟨fun A hA => ?_, ⟨_, Heap.get?_push_size _ rfl, rfl, rfl⟩, Le.push _ _, Nat.le_refl _, by rw [Heap.size_push]; exact Nat.lt_succ_self _, fun b hb => .inl (List.mem_singleton.mp hb), fun i h st => (let ⟨o, e, c, d⟩ := st; ⟨o, _, _, e, c, d, hty⟩), ?_, ?_⟩
      · have := W A hA
        simpa using this
      · rintro i h ⟨o, e, _, dd⟩ b hb o' e'
        rw [List.mem_singleton.mp hb, e] at e'; cases e'; exact notNm_fields dd
      · rintro i v d ⟨c, u, e, rfl⟩ hd h' _
        have e' : x[i]? = some c := by simpa using e
        simp only [List.getElem?_map, e', Option.map_some, Option.some.injEq] at hd
        subst hd
        exact .str [c] _
    cases ha : (⟨x.toArray⟩ : Str).cps.all (· < 128)
    · exact wpAny_pyIter_wide ha (fin _ (by decide) fun A hA => Walks.strWide hA _ _ t)
    · exact wpAny_pyIter_ascii ha (fin _ (by decide) fun A hA => Walks.strAscii hA _ _ t)
  have lists : ∀ (a : Addr) (vs : List Value) (ds' : List D), a ∉ B → s.heap.PlainList a vs.toArray → HasAll B s.heap vs ds' → ds' = ds → wpAny (model pw w) A (pyIter (.ref a)) Q E s := by
    intro a vs ds' n x r hi
    cases hi
    refine wpAny_pyIter_list x.isList ?_
    have hlt : a ≠ s.heap.objs.size := by obtain ⟨_, e⟩ := x; exact Nat.ne_of_lt (Heap.lt_size e)
    refine h _ _ [s.heap.objs.size, a] (fun i v => vs.toArray[i]? = some v) (fun i h => h.IsListIter s.heap.objs.size a i ∧ h.IsList a vs.toArray) ⟨fun A hA => ?_, ⟨⟨_, Heap.get?_push_size _ rfl, rfl, rfl⟩, x.isList.push _⟩, Le.push _ _, Nat.le_refl _, by rw [Heap.size_push]; exact Nat.lt_succ_self _, ?_, fun i h st => (let ⟨⟨o, e, c, d⟩, _⟩ := st; ⟨o, _, _, e, c, d, by decide⟩), ?_, ?_⟩
    · have := Walks.list (prog := pw) (w := w) hA s.heap.objs.size a hlt vs.toArray
      have e : vs.toArray.size = ds.length := by simpa using r.length
      rw [e] at this; exact this
    · intro b hb
      rcases List.mem_cons.mp hb with e | hb
      · exact .inl e
      · rw [List.mem_singleton.mp hb]
        obtain ⟨_, e⟩ := x
        exact .inr ⟨n, _, e⟩
    · rintro i h ⟨⟨o, e, _, dd⟩, ⟨o', e', _, _, dd'⟩⟩ b hb o₂ e₂
      rcases List.mem_cons.mp hb with rfl | hb
      · rw [e] at e₂; cases e₂; exact notNm_fields dd
      · rw [List.mem_singleton.mp hb, e'] at e₂; cases e₂; exact notNm_seq dd'
    · intro i v d hv hd h' k
      exact (r.at (by simpa using hv) hd).sp k
  cases hd with
  | none | bool | int | val | ils => cases hi
  | str x t => exact text x t hi
  | nstr x t p => exact text x t hi
  | list n x r => cases hi; exact lists _ _ _ n x r rfl
  | tks n x r q => cases hi; exact lists _ _ _ n x r rfl
  | @tup a vs ds' n x r =>
    cases hi
    refine wpAny_pyIter_tuple x.isTuple ?_
    have hlt : a ≠ s.heap.objs.size := by obtain ⟨_, e⟩ := x; exact Nat.ne_of_lt (Heap.lt_size e)
    refine h _ _ [s.heap.objs.size, a] (fun i v => vs.toArray[i]? = some v) (fun i h => h.IsTupleIter s.heap.objs.size a i ∧ h.IsTuple a vs.toArray) ⟨fun A hA => ?_, ⟨⟨_, Heap.get?_push_size _ rfl, rfl, rfl⟩, x.isTuple.at fun o e => Heap.get?_push_of_some _ e⟩, Le.push _ _, Nat.le_refl _, by rw [Heap.size_push]; exact Nat.lt_succ_self _, ?_, fun i h st => (let ⟨⟨o, e, c, d⟩, _⟩ := st; ⟨o, _, _, e, c, d, by decide⟩), ?_, ?_⟩
    · have := Walks.tuple (prog := pw) (w := w) hA s.heap.objs.size a hlt vs.toArray
      have e : vs.toArray.size = ds.length := by simpa using r.length
      rw [e] at this; exact this
    · intro b hb
      rcases List.mem_cons.mp hb with e | hb
      · exact .inl e
      · rw [List.mem_singleton.mp hb]
        obtain ⟨_, e⟩ := x
        exact .inr ⟨n, _, e⟩
    · rintro i h ⟨⟨o, e, _, dd⟩, ⟨o', e', _, _, dd'⟩⟩ b hb o₂ e₂
      rcases List.mem_cons.mp hb with rfl | hb
      · rw [e] at e₂; cases e₂; exact notNm_fields dd
      · rw [List.mem_singleton.mp hb, e'] at e₂; cases e₂; exact notNm_seq dd'
    · intro i v d hv hd h' k
      exact (r.at (by simpa using hv) hd).sp k
  | @range q a b t u v n x =>
    cases hi
    obtain ⟨h1, h2⟩ := range_small hs
    refine wpAny_pyIter_range x h1 ?_
    rw [h2]
    refine h _ _ [s.heap.objs.size] (fun i v => ∃ t, v = .int (a + (i : Int) * 1) t) (fun i h => IsRangeIter h s.heap.objs.size (a + ((i : Nat) : Int) * 1) ((((b - a).toNat : Nat) : Int) - ((i : Nat) : Int)) 1) ⟨fun A hA => ?_, ?_, Le.push _ _, Nat.le_refl _, by rw [Heap.size_push]; exact Nat.lt_succ_self _, fun b hb => .inl (List.mem_singleton.mp hb), fun i h st => ⟨_, _, _, st, rfl, rfl, by decide⟩, ?_, ?_⟩
    · have := Walks.range (prog := pw) (w := w) hA s.heap.objs.size a 1 (b - a).toNat
      rw [List.length_map, List.length_range]; exact this
    · show (s.heap.push _).get? _ = _
      have e1 : a + ((0 : Nat) : Int) * 1 = a := by simp
      have e2 : (((b - a).toNat : Nat) : Int) - ((0 : Nat) : Int) = ((b - a).toNat : Nat) := by simp
      rw [e1, e2]
      exact Heap.get?_push_size _ rfl
    · rintro i h e b hb o' e'
      rw [List.mem_singleton.mp hb] at e'
      have e2 := e.symm.trans e'; cases e2; exact notNm_fields rfl
    · rintro i v d ⟨t, rfl⟩ hd h' _
      rw [List.getElem?_map] at hd
      obtain ⟨j, hj, rfl⟩ := Option.map_eq_some_iff.mp hd
      obtain ⟨hlt, rfl⟩ := List.getElem?_eq_some_iff.mp hj
      rw [List.getElem_range, Int.mul_one]
      exact .int _ _
end Mine

set_option maxRecDepth 100000
namespace Mine
open PySem PySem.W PyProof.Rows

noncomputable def gEnts (P : Params) : Array DictEntry := match (g28 P).data with
  | .dict es _ => es
  | _ => #[]
noncomputable def glob (P : Params) (x : Str) : Option Value := nsFind (gEnts P) x
theorem g_strs (P : Params) : ((gEnts P).all fun e => match e.key with | .str _ _ => true | _ => false) = true := by kernel_rfl!
theorem g_data (P : Params) : (g28 P).data = .dict (gEnts P) 34 := by kernel_rfl!
theorem kk3 (P : Params) : (3, g28 P) ∈ KK P := List.mem_cons_self ..
theorem main_ns {w : World} {h : Heap} (F : Facts w h) : h.Ns mainGlobals (glob w.params) := by
  refine ⟨_, _, _, F.K _ (kk3 _), g_data _, fun e he => ?_, fun _ => rfl⟩
  have := Array.all_eq_true_iff_forall_mem.mp (g_strs w.params) e he
  cases hk : e.key <;> rw [hk] at this <;> first | exact ⟨_, _, rfl⟩ | cases this

structure EnvOk (env : Env) : Prop where
  kind : env.scope.kind = .function
  globals : env.globals = mainGlobals
  builtins : env.builtins = builtinsNs

abbrev Sg := List (Str × D)
/-- the names of `σ` stand in the frame and its cells -/
structure Vs (B : List Addr) (env : Env) (h : Heap) (σ : Sg) : Prop where
  ns : ∃ m, h.Ns env.locals m ∧ ∀ x d, (x, d) ∈ σ → env.kindOf x = some .local → ∃ v, m x = some v ∧ Has B h v d
  cell : ∀ x d, (x, d) ∈ σ → env.kindOf x ≠ some .local → (env.kindOf x = some .cell ∨ env.kindOf x = some .free) ∧ ∃ c v, env.cells.lookup x = some c ∧ h.IsCell c (some v) ∧ Has B h v d

theorem Vs.le {B : List Addr} {env : Env} {h h' : Heap} {σ : Sg} (x : Vs B env h σ) (k : Le h h') : Vs B env h' σ where
  ns := let ⟨m, a, b⟩ := x.ns; ⟨m, a.keeps k, fun y d e l => let ⟨v, p, q⟩ := b y d e l; ⟨v, p, q.le k⟩⟩
  cell := fun y d e l => let ⟨a, c, v, p, q, r⟩ := x.cell y d e l; ⟨a, c, v, p, q.keeps k, r.le k⟩
theorem Vs.add {B B' : List Addr} {env : Env} {h : Heap} {σ : Sg} (x : Vs B env h σ) (s : ∀ c ∈ B', c ∈ B ∨ h.get? c = none) : Vs B' env h σ where
  ns := let ⟨m, a, b⟩ := x.ns; ⟨m, a, fun y d e l => let ⟨v, p, q⟩ := b y d e l; ⟨v, p, q.add s⟩⟩
  cell := fun y d e l => let ⟨a, c, v, p, q, r⟩ := x.cell y d e l; ⟨a, c, v, p, q, r.add s⟩
theorem Vs.sub {B B' : List Addr} {env : Env} {h : Heap} {σ : Sg} (x : Vs B env h σ) (s : ∀ c ∈ B', c ∈ B) : Vs B' env h σ := x.add fun c m => .inl (s c m)
theorem Vs.less {B : List Addr} {env : Env} {h : Heap} {σ τ : Sg} (x : Vs B env h σ) (s : ∀ e ∈ τ, e ∈ σ) : Vs B env h τ where
  ns := let ⟨m, a, b⟩ := x.ns; ⟨m, a, fun y d e l => b y d (s _ e) l⟩
  cell := fun y d e l => x.cell y d (s _ e) l

/-- `s` with another heap and other tokens -/
abbrev stAt (s : Shared) (h : Heap) (tk : Nat) : Shared := { s with heap := h, toks := tk }
noncomputable def Room (k : Nat) (A : Around) : Prop := A.handled = none ∧ A.depth + k < 1000 ∧ A.units + 8 * k < 9900
theorem Room.mono {k k' : Nat} {A : Around} (r : Room k A) (h : k' ≤ k) : Room k' A := ⟨r.1, by have := r.2.1; omega, by have := r.2.2; omega⟩
theorem Room.in1 {k : Nat} {A : Around} (r : Room (k + 1) A) : Room k A.in1 := ⟨r.1, by have := r.2.1; simp; omega, by have := r.2.2; simp; omega⟩
theorem Room.deeper {k : Nat} {A : Around} {env : Env} (r : Room (k + 1) A) : Room k (A.deeper env) := ⟨r.1, by have := r.2.1; show A.depth + 1 + k < 1000; omega, by have := r.2.2; show A.units + 3 + 8 * k < 9900; omega⟩

noncomputable def Al (h : Heap) (b : Addr) : Prop := ∃ o, h.get? b = some o
theorem Al.le {h h' : Heap} {b : Addr} (x : Al h b) (k : Le h h') : Al h' b := let ⟨o, e⟩ := x; ⟨o, k b o e⟩
theorem Al.lt {h : Heap} {b : Addr} (x : Al h b) : b < h.objs.size := let ⟨_, e⟩ := x; Heap.lt_size e
theorem new_off {h : Heap} {B : List Addr} (x : ∀ b ∈ B, Al h b) : h.objs.size ∉ B := fun m => Nat.lt_irrefl _ (x _ m).lt

structure Pre (w : World) (k : Nat) (A : Around) (B : List Addr) (env : Env) (σ : Sg) (s : Shared) : Prop where
  room : Room k A
  facts : Facts w s.heap
  bd : ∀ b ∈ B, Al s.heap b
  ok : EnvOk env
  vs : Vs B env s.heap σ
  pos : 0 < s.toks

section
variable {w : World} {k : Nat} {A : Around} {B : List Addr} {env : Env} {σ : Sg} {s : Shared}
theorem Pre.up (x : Pre w k A B env σ s) {h' : Heap} {tk : Nat} (u : Le s.heap h') (g : s.toks ≤ tk) : Pre w k A B env σ (stAt s h' tk) :=
  ⟨x.room, x.facts.keeps u, fun b hb => (x.bd b hb).le u, x.ok, x.vs.le u, Nat.lt_of_lt_of_le x.pos g⟩
theorem Pre.mono (x : Pre w k A B env σ s) {k' : Nat} (h : k' ≤ k) : Pre w k' A B env σ s := ⟨x.room.mono h, x.facts, x.bd, x.ok, x.vs, x.pos⟩

/-- the tree ends with a value that bears `d`; what stood stands -/
noncomputable def Ev (w : World) (k : Nat) (env : Env) (σ : Sg) (t : Sem Value) (d : D) : Prop :=
  ∀ (A : Around) (B : List Addr) (s : Shared) (E : Value → Shared → Prop) (Q : Value → Shared → Prop), Pre w k A B env σ s →
    (∀ v h' tk, Le s.heap h' → s.toks ≤ tk → Has B h' v d → Q v (stAt s h' tk)) → wpAny (model pw w) A t Q E s
abbrev EvE (w : World) (k : Nat) (env : Env) (σ : Sg) (e : Expr) (d : D) : Prop := Ev w k env σ (eval e env) d
/-- a test -/
noncomputable def Ts (w : World) (k : Nat) (env : Env) (σ : Sg) (e : Expr) (b : Bool) : Prop :=
  ∀ (A : Around) (B : List Addr) (s : Shared) (E : Value → Shared → Prop) (Q : Bool → Shared → Prop), Pre w k A B env σ s →
    (∀ h' tk, Le s.heap h' → s.toks ≤ tk → Q b (stAt s h' tk)) → wpAny (model pw w) A (isTrue e env (eval e env)) Q E s

theorem Ev.mono {t : Sem Value} {d : D} {k' : Nat} (x : Ev w k env σ t d) (h : k ≤ k') : Ev w k' env σ t d := fun A B s E Q p q => x A B s E Q (p.mono h) q
theorem Ts.mono {e : Expr} {b : Bool} {k' : Nat} (x : Ts w k env σ e b) (h : k ≤ k') : Ts w k' env σ e b := fun A B s E Q p q => x A B s E Q (p.mono h) q

theorem ev_none {j p} : EvE w k env σ (.Constant .none j p) .none := fun _ _ _ _ _ _ q => wpAny_Constant_none (q _ _ _ (Le.refl _) (Nat.le_refl _) .none)
theorem ev_bool {b j p} : EvE w k env σ (.Constant (.bool b) j p) (.bool b) := fun _ _ _ _ _ _ q => wpAny_Constant_bool (q _ _ _ (Le.refl _) (Nat.le_refl _) (.bool b))
theorem ev_int {i j p} : EvE w k env σ (.Constant (.int i) j p) (.int i) := fun _ _ _ _ _ _ q => wpAny_Constant_int (q _ _ _ (Le.refl _) (Nat.le_succ _) (.int i _))
theorem ev_str {x : Str} {j p} {l : List Nat} (e : x = ⟨l.toArray⟩) : EvE w k env σ (.Constant (.str x) j p) (.str l) := fun _ _ _ _ _ _ q =>
  wpAny_Constant_str (q _ _ _ (Le.refl _) (Nat.le_succ _) (e ▸ .str l _))

theorem ev_var {x : Str} {p : Pos} {d : D} (h : (x, d) ∈ σ) (hd : (x == ("__debug__" : Str)) = false := by decide) (hc : (x == ("__classdict__" : Str)) = false := by decide) : EvE w k env σ (.Name x p) d := fun A B s E Q pr q => by
  refine wpAny_Name ?_ hd
  by_cases hl : env.kindOf x = some .local
  · obtain ⟨m, a, b⟩ := pr.vs.ns
    obtain ⟨v, e, r⟩ := b x d h hl
    exact wpAny_loadName_local pr.ok.kind hl a e (q _ _ _ (Le.refl _) (Nat.le_refl _) r)
  · obtain ⟨hk, c, v, e, i, r⟩ := pr.vs.cell x d h hl
    rcases hk with hk | hk
    · exact wpAny_loadName_cell pr.ok.kind hk e i (q _ _ _ (Le.refl _) (Nat.le_refl _) r)
    · exact wpAny_loadName_free pr.ok.kind hk e i (q _ _ _ (Le.refl _) (Nat.le_refl _) r) hc
theorem ev_glob {x : Str} {p : Pos} {v : Value} (hk : env.kindOf x = some .globalImplicit) (h : ∀ P, glob P x = some v) (hd : (x == ("__debug__" : Str)) = false := by decide) : EvE w k env σ (.Name x p) (.val v) := fun A B s E Q pr q => by
  refine Calls.Name_function_global pr.ok.kind hk (Calls.loadGlobal_global (mg := glob w.params) ?_ (h _) (q _ _ _ (Le.refl _) (Nat.le_refl _) (.val v))) hd
  rw [pr.ok.globals]; exact main_ns pr.facts
theorem ev_built {x : Str} {p : Pos} {v : Value} (hk : env.kindOf x = some .globalImplicit) (h : ∀ P, glob P x = none) (hb : bootBuiltins x = some v) (hn : x ≠ "__name__" := by decide) (hd : (x == ("__debug__" : Str)) = false := by decide) :
    EvE w k env σ (.Name x p) (.val v) := fun A B s E Q pr q => by
  obtain ⟨mean, mg, mb, T⟩ := pr.facts.T
  refine Calls.Name_function_global pr.ok.kind hk (Calls.loadGlobal_builtin (mg := glob w.params) (mb := mb) ?_ (h _) ?_ ((T.builtins x hn).trans hb) (q _ _ _ (Le.refl _) (Nat.le_refl _) (.val v))) hd
  · rw [pr.ok.globals]; exact main_ns pr.facts
  · rw [pr.ok.builtins]; exact T.b

/-- a binary operator on data -/
noncomputable def Op2 (w : World) (k : Nat) (f : Value → Value → Sem Value) (a b d : D) : Prop :=
  ∀ (A : Around) (B : List Addr) (s : Shared) (E : Value → Shared → Prop) (Q : Value → Shared → Prop) (u v : Value), Room k A → Facts w s.heap → (∀ b ∈ B, Al s.heap b) → Has B s.heap u a → Has B s.heap v b → 0 < s.toks →
    (∀ v h' tk, Le s.heap h' → s.toks ≤ tk → Has B h' v d → Q v (stAt s h' tk)) → wpAny (model pw w) A (f u v) Q E s

theorem ev_bin {l r : Expr} {op : Operator} {p : Pos} {a b d : D} (x : EvE w k env σ l a) (y : EvE w k env σ r b) (o : Op2 w k (binaryOp op) a b d) : EvE w k env σ (.BinOp l op r p) d := fun A B s E Q pr q => by
  refine wpAny_BinOp (x A B s E _ pr fun u h₁ tk₁ u₁ g₁ hu => y A B _ E _ (pr.up u₁ g₁) fun v h₂ tk₂ u₂ g₂ hv => ?_)
  exact o A B _ E Q u v pr.room (pr.facts.keeps (u₁.trans u₂)) (fun b hb => (pr.bd b hb).le (u₁.trans u₂)) (hu.le u₂) hv (Nat.lt_of_lt_of_le pr.pos (Nat.le_trans g₁ g₂)) fun z h₃ tk₃ u₃ g₃ hz => q z h₃ tk₃ ((u₁.trans u₂).trans u₃) (Nat.le_trans (Nat.le_trans g₁ g₂) g₃) hz
theorem ev_cmp {l r : Expr} {op : CmpOp} {p : Pos} {a b d : D} (x : EvE w k env σ l a) (y : EvE w k env σ r b) (o : Op2 w k (compareOp op) a b d) (hm : behindInMarks op r = false := by rfl) : EvE w k env σ (.Compare l [op] [r] p) d := fun A B s E Q pr q => by
  refine wpAny_Compare1 (x A B s E _ pr fun u h₁ tk₁ u₁ g₁ hu => y A B _ E _ (pr.up u₁ g₁) fun v h₂ tk₂ u₂ g₂ hv => ?_) (hm := by first | exact hm | assumption)
  exact o A B _ E Q u v pr.room (pr.facts.keeps (u₁.trans u₂)) (fun b hb => (pr.bd b hb).le (u₁.trans u₂)) (hu.le u₂) hv (Nat.lt_of_lt_of_le pr.pos (Nat.le_trans g₁ g₂)) fun z h₃ tk₃ u₃ g₃ hz => q z h₃ tk₃ ((u₁.trans u₂).trans u₃) (Nat.le_trans (Nat.le_trans g₁ g₂) g₃) hz
end
end Mine

set_option maxRecDepth 100000
namespace Mine
open PySem PySem.W PyProof.Rows

section
variable {w : World} {k : Nat} {A : Around} {B : List Addr} {env : Env} {σ : Sg} {s : Shared}

theorem op_add {a b : Int} : Op2 w k (binaryOp .Add) (.int a) (.int b) (.int (a + b)) := fun A B s E Q u v r F bd hu hv ps q => by
  obtain ⟨t, rfl⟩ := hu.int_inv; obtain ⟨t', rfl⟩ := hv.int_inv
  exact P.add_int (q _ _ _ (Le.refl _) (Nat.le_succ _) (.int _ _))
theorem op_sub {a b : Int} : Op2 w k (binaryOp .Sub) (.int a) (.int b) (.int (a - b)) := fun A B s E Q u v r F bd hu hv ps q => by
  obtain ⟨t, rfl⟩ := hu.int_inv; obtain ⟨t', rfl⟩ := hv.int_inv
  exact P.sub_int (q _ _ _ (Le.refl _) (Nat.le_succ _) (.int _ _))
theorem op_mul {a b : Int} (h : IntMulOk a b) : Op2 w k (binaryOp .Mult) (.int a) (.int b) (.int (a * b)) := fun A B s E Q u v r F bd hu hv ps q => by
  obtain ⟨t, rfl⟩ := hu.int_inv; obtain ⟨t', rfl⟩ := hv.int_inv
  exact P.mul_int (q _ _ _ (Le.refl _) (Nat.le_succ _) (.int _ _)) h
theorem op_fdiv {a b : Int} (h0 : b ≠ 0) (h : b.natAbs < 1073741824) : Op2 w k (binaryOp .FloorDiv) (.int a) (.int b) (.int (a.fdiv b)) := fun A B s E Q u v r F bd hu hv ps q => by
  obtain ⟨t, rfl⟩ := hu.int_inv; obtain ⟨t', rfl⟩ := hv.int_inv
  exact floordiv_int h0 (q _ _ _ (Le.refl _) (Nat.le_succ _) (.int _ _)) (Or.inl (PyProof.noPylong_small h))
theorem op_mod {a b : Int} (h0 : b ≠ 0) : Op2 w k (binaryOp .Mod) (.int a) (.int b) (.int (a.fmod b)) := fun A B s E Q u v r F bd hu hv ps q => by
  obtain ⟨t, rfl⟩ := hu.int_inv; obtain ⟨t', rfl⟩ := hv.int_inv
  exact mod_int_or r.1 (fun e => absurd e h0) (fun _ => q _ _ _ (Le.refl _) (Nat.le_succ _) (.int _ _))
theorem op_pow {a b : Int} (h0 : 0 ≤ b) (h : (Builtin.Int.intBits a : Int) * b ≤ 2 ^ 27) : Op2 w k (binaryOp .Pow) (.int a) (.int b) (.int (a ^ b.toNat)) := fun A B s E Q u v r F bd hu hv ps q => by
  obtain ⟨t, rfl⟩ := hu.int_inv; obtain ⟨t', rfl⟩ := hv.int_inv
  exact pow_int h0 h (q _ _ _ (Le.refl _) (Nat.le_succ _) (.int _ _))
theorem str_len (l : List Nat) : Str.length ⟨l.toArray⟩ = l.length := by simp [Str.length]
theorem str_app (x y : List Nat) : (⟨x.toArray⟩ : Str) ++ ⟨y.toArray⟩ = ⟨(x ++ y).toArray⟩ := by
  show Str.mk _ = _
  simp
theorem op_addS {x y : List Nat} (h : x.length + y.length ≤ 1000000) : Op2 w k (binaryOp .Add) (.str x) (.str y) (.str (x ++ y)) := fun A B s E Q u v r F bd hu hv ps q => by
  obtain ⟨t, rfl⟩ := hu.str_inv; obtain ⟨t', rfl⟩ := hv.str_inv
  refine P.add_str ?_
  rw [str_len, str_len]
  by_cases hx : x.length = 0
  · have : x = [] := List.eq_nil_of_length_eq_zero hx
    subst this
    rw [if_pos (by simp)]
    exact q _ s.heap s.toks (Le.refl _) (Nat.le_refl _) (.str _ _)
  · rw [if_neg (by simpa using hx)]
    by_cases hy : y.length = 0
    · have : y = [] := List.eq_nil_of_length_eq_zero hy
      subst this
      rw [if_pos (by simp)]
      exact q _ s.heap s.toks (Le.refl _) (Nat.le_refl _) (by simpa using Has.str (B := B) (h := s.heap) x t)
    · rw [if_neg (by simpa using hy), str_app]
      refine ⟨?_, q _ s.heap (s.toks + 1) (Le.refl _) (Nat.le_succ _) (.str _ _)⟩
      rw [str_len, List.length_append]
      exact Nat.le_trans h (by decide)
theorem cp_lt {a b : Int} : Op2 w k (compareOp .Lt) (.int a) (.int b) (.bool (decide (a < b))) := fun A B s E Q u v r F bd hu hv ps q => by
  obtain ⟨t, rfl⟩ := hu.int_inv; obtain ⟨t', rfl⟩ := hv.int_inv
  exact P.lt_int (q _ _ _ (Le.refl _) (Nat.le_refl _) (.bool _))
theorem cp_gt {a b : Int} : Op2 w k (compareOp .Gt) (.int a) (.int b) (.bool (decide (a > b))) := fun A B s E Q u v r F bd hu hv ps q => by
  obtain ⟨t, rfl⟩ := hu.int_inv; obtain ⟨t', rfl⟩ := hv.int_inv
  exact P.gt_int (q _ _ _ (Le.refl _) (Nat.le_refl _) (.bool _))
theorem cp_eq {a b : Int} : Op2 w k (compareOp .Eq) (.int a) (.int b) (.bool (a == b)) := fun A B s E Q u v r F bd hu hv ps q => by
  obtain ⟨t, rfl⟩ := hu.int_inv; obtain ⟨t', rfl⟩ := hv.int_inv
  exact P.eq_int (q _ _ _ (Le.refl _) (Nat.le_refl _) (.bool _))
theorem cp_ltS {x y : List Nat} : Op2 w k (compareOp .Lt) (.str x) (.str y) (.bool (decide (x < y))) := fun A B s E Q u v r F bd hu hv ps q => by
  obtain ⟨t, rfl⟩ := hu.str_inv; obtain ⟨t', rfl⟩ := hv.str_inv
  exact P.lt_str (q _ _ _ (Le.refl _) (Nat.le_refl _) (.bool _))
theorem cp_eqS {x y : List Nat} : Op2 w k (compareOp .Eq) (.str x) (.str y) (.bool (x == y)) := fun A B s E Q u v r F bd hu hv ps q => by
  obtain ⟨t, rfl⟩ := hu.str_inv; obtain ⟨t', rfl⟩ := hv.str_inv
  exact P.eq_str (q _ _ _ (Le.refl _) (Nat.le_refl _) (.bool _))
theorem cp_neS {x y : List Nat} : Op2 w k (compareOp .NotEq) (.str x) (.str y) (.bool (x != y)) := fun A B s E Q u v r F bd hu hv ps q => by
  obtain ⟨t, rfl⟩ := hu.str_inv; obtain ⟨t', rfl⟩ := hv.str_inv
  exact P.ne_str (q _ _ _ (Le.refl _) (Nat.le_refl _) (.bool _))
/-- is, is not, of a bool or None -/
theorem cp_isB {a b : Bool} : Op2 w k (compareOp .Is) (.bool a) (.bool b) (.bool (a == b)) := fun A B s E Q u v r F bd hu hv ps q => by
  obtain rfl := hu.bool_inv; obtain rfl := hv.bool_inv
  refine wpAny_is_plain rfl ?_
  have e : (Value.bool a == Value.bool b) = (a == b) := by cases a <;> cases b <;> decide
  rw [e]; exact q _ _ _ (Le.refl _) (Nat.le_refl _) (.bool _)
theorem cp_isNotB {a b : Bool} : Op2 w k (compareOp .IsNot) (.bool a) (.bool b) (.bool (a != b)) := fun A B s E Q u v r F bd hu hv ps q => by
  obtain rfl := hu.bool_inv; obtain rfl := hv.bool_inv
  refine wpAny_isNot_plain rfl ?_
  have e : (!(Value.bool a == Value.bool b)) = (a != b) := by cases a <;> cases b <;> decide
  rw [e]; exact q _ _ _ (Le.refl _) (Nat.le_refl _) (.bool _)
noncomputable def D.isNone : D → Bool
  | .none => true
  | _ => false
theorem has_none {h : Heap} {v : Value} {d : D} (x : Has B h v d) (n : ∀ u, d ≠ .val u) : (v == .none) = d.isNone := by
  cases x <;> first | rfl | (exact absurd rfl (n _))
theorem cp_isN {d : D} (n : ∀ u, d ≠ .val u) : Op2 w k (compareOp .Is) d .none (.bool d.isNone) := fun A B s E Q u v r F bd hu hv ps q => by
  obtain rfl := hv.none_inv
  refine is_none ?_
  rw [has_none hu n]; exact q _ _ _ (Le.refl _) (Nat.le_refl _) (.bool _)
theorem cp_isNotN {d : D} (n : ∀ u, d ≠ .val u) : Op2 w k (compareOp .IsNot) d .none (.bool !d.isNone) := fun A B s E Q u v r F bd hu hv ps q => by
  obtain rfl := hv.none_inv
  refine isNot_none ?_
  rw [has_none hu n]; exact q _ _ _ (Le.refl _) (Nat.le_refl _) (.bool _)

theorem ev_neg {e : Expr} {p : Pos} {a : Int} (x : EvE w k env σ e (.int a)) : EvE w k env σ (.UnaryOp .USub e p) (.int (-a)) := fun A B s E Q pr q =>
  UnaryOp_ (x A B s E _ pr fun v h' tk u g hv => by
    obtain ⟨t, rfl⟩ := hv.int_inv
    exact P.neg_int (q _ _ _ u (Nat.le_succ_of_le g) (.int _ _)))
theorem ts_plain {e : Expr} {b : Bool} (x : EvE w k env σ e (.bool b)) (he : isTrue e env (eval e env) = (do let v ← eval e env; standAt e.pos; holding [v] (truthy v)) := by rfl) : Ts w k env σ e b := fun A B s E Q pr q =>
  isTrue_plain (x A B s E _ pr fun v h' tk u g hv => by
    obtain rfl := hv.bool_inv
    exact wpAny_truthy_bool (q _ _ u g)) he
theorem ts_cmp {l r : Expr} {op : CmpOp} {p : Pos} {a b : D} {c : Bool} (x : EvE w k env σ l a) (y : EvE w k env σ r b) (o : Op2 w k (compareOp op) a b (.bool c)) (hm : behindInMarks op r = false := by rfl) : Ts w k env σ (.Compare l [op] [r] p) c := fun A B s E Q pr q => by
  refine wpAny_isTrue_Compare1 (x A B s E _ pr fun u h₁ tk₁ u₁ g₁ hu => y A B _ E _ (pr.up u₁ g₁) fun v h₂ tk₂ u₂ g₂ hv => ?_) (hm := by first | exact hm | assumption)
  refine o A B _ E _ u v pr.room (pr.facts.keeps (u₁.trans u₂)) (fun b hb => (pr.bd b hb).le (u₁.trans u₂)) (hu.le u₂) hv (Nat.lt_of_lt_of_le pr.pos (Nat.le_trans g₁ g₂)) fun z h₃ tk₃ u₃ g₃ hz => ?_
  obtain rfl := hz.bool_inv
  exact wpAny_truthy_bool (q h₃ tk₃ ((u₁.trans u₂).trans u₃) (Nat.le_trans (Nat.le_trans g₁ g₂) g₃))
theorem ts_not {e : Expr} {p : Pos} {b : Bool} (x : Ts w k env σ e b) : Ts w k env σ (.UnaryOp .Not e p) (!b) := fun A B s E Q pr q =>
  isTrue_not (x A B s E _ pr fun h' tk u g => q h' tk u g)
theorem ts_and {e f : Expr} {p : Pos} {b c : Bool} (x : Ts w k env σ e b) (y : b = true → Ts w k env σ f c) (hc : b = false → c = false) : Ts w k env σ (.BoolOp .And [e, f] p) c := fun A B s E Q pr q => by
  refine isTrue_and (x A B s E _ pr fun h' tk u g => ?_)
  cases b with
  | false => rw [hc rfl] at q; exact q h' tk u g
  | true =>
    refine isTrue_and (y rfl A B _ E _ (pr.up u g) fun h₂ tk₂ u₂ g₂ => ?_)
    cases c with
    | false => exact q h₂ tk₂ (u.trans u₂) (Nat.le_trans g g₂)
    | true => exact isTrue_and_nil (q h₂ tk₂ (u.trans u₂) (Nat.le_trans g g₂))
theorem ts_or {e f : Expr} {p : Pos} {b c : Bool} (x : Ts w k env σ e b) (y : b = false → Ts w k env σ f c) (hc : b = true → c = true) : Ts w k env σ (.BoolOp .Or [e, f] p) c := fun A B s E Q pr q => by
  refine isTrue_or (x A B s E _ pr fun h' tk u g => ?_)
  cases b with
  | true => rw [hc rfl] at q; exact q h' tk u g
  | false =>
    refine isTrue_or (y rfl A B _ E _ (pr.up u g) fun h₂ tk₂ u₂ g₂ => ?_)
    cases c with
    | true => exact q h₂ tk₂ (u.trans u₂) (Nat.le_trans g g₂)
    | false => exact isTrue_or_nil (q h₂ tk₂ (u.trans u₂) (Nat.le_trans g g₂))
theorem ev_ite {t a b : Expr} {p : Pos} {c : Bool} {d : D} (x : Ts w k env σ t c) (ya : c = true → EvE w k env σ a d) (yb : c = false → EvE w k env σ b d) : EvE w k env σ (.IfExp t a b p) d := fun A B s E Q pr q =>
  IfExp_ (x A B s E _ pr fun h' tk u g => by
    cases c with
    | true => exact ya rfl A B _ E _ (pr.up u g) fun v h₂ tk₂ u₂ g₂ hv => q v h₂ tk₂ (u.trans u₂) (Nat.le_trans g g₂) hv
    | false => exact yb rfl A B _ E _ (pr.up u g) fun v h₂ tk₂ u₂ g₂ hv => q v h₂ tk₂ (u.trans u₂) (Nat.le_trans g g₂) hv)
theorem ev_weak {t : Sem Value} {l : List Nat} (x : Ev w k env σ t (.nstr l)) : Ev w k env σ t (.str l) := fun A B s E Q pr q => x A B s E Q pr fun v h' tk u g hv => q v h' tk u g hv.weak
theorem ev_untk {t : Sem Value} {ls : List (List Nat)} (x : Ev w k env σ t (.tks ls)) : Ev w k env σ t (.list (ls.map .str)) := fun A B s E Q pr q => x A B s E Q pr fun v h' tk u g hv => q v h' tk u g hv.untk

/-- several expressions, each behind the last -/
inductive EvL (w : World) (k : Nat) (env : Env) (σ : Sg) : List Expr → List D → Prop
  | nil : EvL w k env σ [] []
  | cons {e : Expr} {es : List Expr} {d : D} {ds : List D} : EvE w k env σ e d → starEach (e :: es) env = (false, eval e env) :: starEach es env → EvL w k env σ es ds → EvL w k env σ (e :: es) (d :: ds)

theorem evL_run {es : List Expr} {ds : List D} {pos : Pos} (x : EvL w k env σ es ds) : ∀ (A : Around) (B : List Addr) (s : Shared) (E : Value → Shared → Prop) (Q : List Value → Shared → Prop), Pre w k A B env σ s →
    (∀ vs h' tk, Le s.heap h' → s.toks ≤ tk → HasAll B h' vs ds → Q vs (stAt s h' tk)) → wpAny (model pw w) A (spliced (backTo pos (starEach es env))) Q E s := by
  induction x with
  | nil => intro A B s E Q pr q; exact wpAny_items_nil (q _ _ _ (Le.refl _) (Nat.le_refl _) .nil)
  | cons x he _ ih =>
    intro A B s E Q pr q
    refine wpAny_items_cons (x A B s E _ pr fun v h₁ tk₁ u₁ g₁ hv => ih A B _ E _ (pr.up u₁ g₁) fun vs h₂ tk₂ u₂ g₂ hvs => ?_) (by first | exact he | assumption)
    exact q _ h₂ tk₂ (u₁.trans u₂) (Nat.le_trans g₁ g₂) (.cons (hv.le u₂) hvs)
theorem ev_list {es : List Expr} {ds : List D} {pos : Pos} (x : EvL w k env σ es ds) (hl : ds.length ≤ 1000000) : EvE w k env σ (.List es pos) (.list ds) := fun A B s E Q pr q => by
  refine wpAny_List (evL_run x A B s E _ pr fun vs h₁ tk₁ u₁ g₁ hv => ?_)
  refine ⟨?_, q _ _ _ (u₁.trans (Le.push _ _)) g₁ (.list (new_off fun b hb => (pr.bd b hb).le u₁) ⟨_, Heap.get?_push_size _ rfl⟩ (hv.le (Le.push _ _)))⟩
  rw [hv.length]; exact Nat.le_trans hl (by decide)
theorem ev_tuple {es : List Expr} {ds : List D} {n : Nat} {pos : Pos} (x : EvL w k env σ es ds) (hl : ds.length ≤ 1000000) : EvE w k env σ (.Tuple es n pos) (.tup ds) := fun A B s E Q pr q => by
  refine wpAny_Tuple (evL_run x A B s E _ pr fun vs h₁ tk₁ u₁ g₁ hv => ?_)
  refine ⟨?_, q _ _ _ (u₁.trans (Le.push _ _)) g₁ (.tup (new_off fun b hb => (pr.bd b hb).le u₁) ⟨_, Heap.get?_push_size _ rfl⟩ (hv.le (Le.push _ _)))⟩
  rw [hv.length]; exact Nat.le_trans hl (by decide)
end
end Mine

set_option maxRecDepth 100000
namespace Mine
open PySem PySem.W PyProof.Rows

section
variable {w : World} {k : Nat} {env : Env} {σ : Sg}

/-- what a call answers: `ds` by place, `us` under the names `ks` -/
noncomputable def Fn (w : World) (k : Nat) (f : Value) (ds : List D) (ks : List Str) (us : List D) (d : D) : Prop :=
  ∀ (A : Around) (B : List Addr) (s : Shared) (E Q : Value → Shared → Prop) (vs ws : List Value), Room k A → Facts w s.heap → (∀ b ∈ B, Al s.heap b) → HasAll B s.heap vs ds → HasAll B s.heap ws us → 0 < s.toks →
    (∀ v h' tk, Le s.heap h' → s.toks ≤ tk → Has B h' v d → Q v (stAt s h' tk)) → wpAny (model pw w) A (call f vs (ks.zip ws)) Q E s
theorem Fn.mono {f : Value} {ds us : List D} {ks : List Str} {d : D} {k' : Nat} (x : Fn w k f ds ks us d) (h : k ≤ k') : Fn w k' f ds ks us d := fun A B s E Q vs ws r => x A B s E Q vs ws (r.mono h)
/-- what may be called: its keeper is known -/
noncomputable def Kp (w : World) (f : Value) : Prop := ∀ h, Facts w h → ∃ q, (q = Keeper.frame ∨ q = Keeper.machine ∨ q = Keeper.boundFrame) ∧ Looks (model pw w) h (keeperOf f) q
theorem kp_fn {a : Addr} {o : Params → Obj} {fd : Params → FuncData} (hk : ∀ P, (a, o P) ∈ KK P) (hd : ∀ P, (o P).data = .func (fd P)) : Kp w (.ref a) := fun h F =>
  ⟨.frame, .inl rfl, (Looks.ld (part := none) (F.K _ (hk _))).andThen (by rw [hd]; exact .now)⟩
theorem kp_builtin {id : String} : Kp w (.builtin id) := fun _ _ => ⟨.machine, .inr (.inl rfl), .now⟩
theorem kp_type {T : String} : Kp w (.type T) := fun _ _ => ⟨.machine, .inr (.inl rfl), .now⟩

theorem evL_plain {es : List Expr} {ds : List D} {pos : Pos} (x : EvL w k env σ es ds) : (backTo pos (starEach es env)).any (·.1) = false := by
  induction x with
  | nil => rfl
  | cons _ he _ ih => rw [he]; show (false || (backTo pos (starEach _ env)).any (·.1)) = false; rw [ih]; rfl

theorem callW {A : Around} {B : List Addr} {s : Shared} {E Q : Value → Shared → Prop} {f : Value} {e : Expr} {rest : List Expr} {kws : List Keyword} {ds : List D} {pos : Pos} (pr : Pre w k A B env σ s) (kp : Kp w f) (x : EvL w k env σ (e :: rest) ds)
    (hkw : (backToKw pos (keywordEach kws env)).all (·.1.isSome) = true) (hkn : (backToKw pos (keywordEach kws env)).any (·.1.isNone) = false)
    (h : ∀ vs h' tk, Le s.heap h' → s.toks ≤ tk → HasAll B h' vs ds → wpAny (model pw w) A (evalAll ((backToKw pos (keywordEach kws env)).map (·.2))) (fun ws s₂ => Facts w s₂.heap ∧ wpAny (model pw w) A (call f vs (((backToKw pos (keywordEach kws env)).filterMap (·.1)).zip ws)) Q E s₂) E (stAt s h' tk)) :
    wpAny (model pw w) A (callWith pos f [] (backTo pos (starEach (e :: rest) env)) (backToKw pos (keywordEach kws env))) Q E s := by
  have hp := evL_plain (pos := pos) x
  refine callWith_of (P := Facts w) (by rw [hp, hkn]; rfl) kp ?_
  have he : starEach (e :: rest) env = (false, eval e env) :: starEach rest env := by cases x with | cons _ he _ => exact he
  exact evalArgs_kw2 hkw (evL_run x A B s E _ pr fun vs h' tk u g hv => h vs h' tk u g hv) he

theorem ev_call {func e : Expr} {rest : List Expr} {pos : Pos} {f : Value} {ds : List D} {d : D} (hf : EvE w k env σ func (.val f)) (kp : Kp w f) (x : EvL w k env σ (e :: rest) ds) (fn : Fn w k f ds [] [] d)
    (hc : eval (.Call func (e :: rest) [] pos) env = (do callWith pos (← eval func env) [] (backTo pos (starEach (e :: rest) env)) (backToKw pos (keywordEach [] env))) := by rfl) : EvE w k env σ (.Call func (e :: rest) [] pos) d := fun A B s E Q pr q => by
  rw [hc]
  refine wpAny_bind (hf A B s E _ pr fun v h₁ tk₁ u₁ g₁ hv => ?_)
  obtain rfl := hv.val_inv
  refine callW (pr.up u₁ g₁) kp x rfl rfl fun vs h₂ tk₂ u₂ g₂ hvs => kwAll_nil ⟨pr.facts.keeps (u₁.trans u₂), ?_⟩
  refine fn A B _ E Q vs [] pr.room (pr.facts.keeps (u₁.trans u₂)) (fun b hb => (pr.bd b hb).le (u₁.trans u₂)) hvs .nil (Nat.lt_of_lt_of_le pr.pos (Nat.le_trans g₁ g₂)) fun z h₃ tk₃ u₃ g₃ hz => ?_
  exact q z h₃ tk₃ ((u₁.trans u₂).trans u₃) (Nat.le_trans (Nat.le_trans g₁ g₂) g₃) hz
theorem ev_callk {func e val : Expr} {rest : List Expr} {pos kp' : Pos} {f : Value} {kn : Str} {ds : List D} {d u : D} (hf : EvE w k env σ func (.val f)) (kp : Kp w f) (x : EvL w k env σ (e :: rest) ds) (y : EvE w k env σ val u) (fn : Fn w k f ds [kn] [u] d)
    (hc : eval (.Call func (e :: rest) [⟨some kn, val, kp'⟩] pos) env = (do callWith pos (← eval func env) [] (backTo pos (starEach (e :: rest) env)) (backToKw pos (keywordEach [⟨some kn, val, kp'⟩] env))) := by rfl) :
    EvE w k env σ (.Call func (e :: rest) [⟨some kn, val, kp'⟩] pos) d := fun A B s E Q pr q => by
  rw [hc]
  refine wpAny_bind (hf A B s E _ pr fun v h₁ tk₁ u₁ g₁ hv => ?_)
  obtain rfl := hv.val_inv
  refine callW (pr.up u₁ g₁) kp x rfl rfl fun vs h₂ tk₂ u₂ g₂ hvs => ?_
  refine kwAll_cons (y A B _ E _ ((pr.up u₁ g₁).up u₂ g₂) fun z h₃ tk₃ u₃ g₃ hz => kwAll_nil ⟨pr.facts.keeps ((u₁.trans u₂).trans u₃), ?_⟩)
  refine fn A B _ E Q vs [z] pr.room (pr.facts.keeps ((u₁.trans u₂).trans u₃)) (fun b hb => (pr.bd b hb).le ((u₁.trans u₂).trans u₃)) (hvs.le u₃) (.one hz) (Nat.lt_of_lt_of_le pr.pos (Nat.le_trans (Nat.le_trans g₁ g₂) g₃)) fun y h₄ tk₄ u₄ g₄ hy => ?_
  exact q y h₄ tk₄ (((u₁.trans u₂).trans u₃).trans u₄) (Nat.le_trans (Nat.le_trans (Nat.le_trans g₁ g₂) g₃) g₄) hy
end
end Mine

set_option maxRecDepth 100000
namespace Mine
open PySem PySem.W PyProof.Rows

section
variable {w : World} {k : Nat}

theorem fn_lenS {l : List Nat} (h : l.length < 2 ^ 63) : Fn w k (.builtin "len") [.str l] [] [] (.int l.length) := fun A B s E Q vs ws r F bd hv hw ps q => by
  cases hv with | cons a hv => cases hv; cases hw; obtain ⟨t, rfl⟩ := a.str_inv
                               refine P.len_str (by rw [str_len]; omega) ?_
                               rw [str_len]
                               exact q _ _ _ (Le.refl _) (Nat.le_succ_of_le (Nat.le_succ _)) (.int _ _)
theorem fn_len {ds : List D} (h : ds.length < 2 ^ 63) : Fn w k (.builtin "len") [.list ds] [] [] (.int ds.length) := fun A B s E Q vs ws r F bd hv hw ps q => by
  cases hv with
  | cons a hv =>
    cases hv; cases hw
    cases a with
    | @list a vs _ n x y =>
      have e := y.length
      refine Calls.call_len_list x.isList (by rw [List.size_toArray, e]; omega) ?_
      rw [List.size_toArray, e]
      exact q _ _ _ (Le.refl _) (Nat.le_succ_of_le (Nat.le_succ _)) (.int _ _)
theorem fn_lenT {ls : List (List Nat)} (h : ls.length < 2 ^ 63) : Fn w k (.builtin "len") [.tks ls] [] [] (.int ls.length) := fun A B s E Q vs ws r F bd hv hw ps q => by
  cases hv with
  | cons a hv =>
    cases hv; cases hw
    have := fn_len (w := w) (k := k) (ds := ls.map D.str) (by simpa using h) A B s E Q _ [] r F bd (.one a.untk) .nil ps (by simpa using q)
    exact this
theorem fn_ord {c : Nat} : Fn w k (.builtin "ord") [.str [c]] [] [] (.int c) := fun A B s E Q vs ws r F bd hv hw ps q => by
  cases hv with | cons a hv => cases hv; cases hw; obtain ⟨t, rfl⟩ := a.str_inv
                               exact P.ord_of_char (q _ _ _ (Le.refl _) (Nat.le_succ _) (.int _ _))
theorem fn_chr {c : Int} (h0 : 0 ≤ c) (h1 : c ≤ 0x10FFFF) : Fn w k (.builtin "chr") [.int c] [] [] (.str [c.toNat]) := fun A B s E Q vs ws r F bd hv hw ps q => by
  cases hv with | cons a hv => cases hv; cases hw; obtain ⟨t, rfl⟩ := a.int_inv
                               exact P.chr_of_int (by simp; omega) (q _ _ _ (Le.refl _) (Nat.le_succ _) (.str [_] _))
theorem fn_max2 {a b : Int} : Fn w k (.builtin "max") [.int a, .int b] [] [] (.int (max a b)) := fun A B s E Q vs ws r F bd hv hw ps q => by
  cases hv with | cons x hv => cases hv with | cons y hv =>
    cases hv; cases hw; obtain ⟨t, rfl⟩ := x.int_inv; obtain ⟨t', rfl⟩ := y.int_inv
    refine wpAny_with_toks (Nat.le_refl s.toks) (max_two_ints r.1 fun h' tk u g => ?_)
    have := q (.int (max a b) (if b > a then t' else t)) h' tk u g (.int _ _)
    by_cases hc : b > a
    · rw [if_pos hc] at this ⊢; rwa [Int.max_eq_right (Int.le_of_lt hc)] at this
    · rw [if_neg hc] at this ⊢; rwa [Int.max_eq_left (Int.not_lt.mp hc)] at this
theorem fn_min2 {a b : Int} : Fn w k (.builtin "min") [.int a, .int b] [] [] (.int (min a b)) := fun A B s E Q vs ws r F bd hv hw ps q => by
  cases hv with | cons x hv => cases hv with | cons y hv =>
    cases hv; cases hw; obtain ⟨t, rfl⟩ := x.int_inv; obtain ⟨t', rfl⟩ := y.int_inv
    refine wpAny_with_toks (Nat.le_refl s.toks) (min_two_ints r.1 fun h' tk u g => ?_)
    have := q (.int (min a b) (if b < a then t' else t)) h' tk u g (.int _ _)
    by_cases hc : b < a
    · rw [if_pos hc] at this ⊢; rwa [Int.min_eq_right (Int.le_of_lt hc)] at this
    · rw [if_neg hc] at this ⊢; rwa [Int.min_eq_left (Int.not_lt.mp hc)] at this
theorem fn_range1 {a : Int} : Fn w k (.type "range") [.int a] [] [] (.range 0 a) := fun A B s E Q vs ws r F bd hv hw ps q => by
  cases hv with | cons x hv =>
    cases hv; cases hw; obtain ⟨t, rfl⟩ := x.int_inv
    exact call_range_1 (q _ _ _ (Le.push _ _) (Nat.le_succ_of_le (Nat.le_succ _)) (.range (new_off bd) (IsRange.new ..)))
theorem fn_range2 {a b : Int} : Fn w k (.type "range") [.int a, .int b] [] [] (.range a b) := fun A B s E Q vs ws r F bd hv hw ps q => by
  cases hv with | cons x hv => cases hv with | cons y hv =>
    cases hv; cases hw; obtain ⟨t, rfl⟩ := x.int_inv; obtain ⟨t', rfl⟩ := y.int_inv
    exact call_range_2 (q _ _ _ (Le.push _ _) (Nat.le_succ _) (.range (new_off bd) (IsRange.new ..)))
theorem fn_isInt {a : Int} : Fn w k (.builtin "isinstance") [.int a, .val (.type "int")] [] [] (.bool true) := fun A B s E Q vs ws r F bd hv hw ps q => by
  cases hv with | cons x hv => cases hv with | cons y hv =>
    cases hv; cases hw; obtain ⟨t, rfl⟩ := x.int_inv; obtain rfl := y.val_inv
    exact IsiPair.int_int (q _ _ _ (Le.refl _) (Nat.le_refl _) (.bool _))

theorem ints_of {B : List Addr} {h : Heap} : ∀ {vs : List Value} {ns : List Int}, HasAll B h vs (ns.map D.int) → ∀ i v, vs[i]? = some v → ∃ t, v = Value.int (ns.getD i 0) t
  | [], [], _, i, v, e => by simp at e
  | v :: vs, n :: ns, .cons a r, 0, v', e => by
      obtain ⟨t, rfl⟩ := a.int_inv
      simp at e; subst e; exact ⟨t, by simp⟩
  | v :: vs, n :: ns, .cons a r, i + 1, v', e => by
      have := ints_of r i v' (by simpa using e)
      simpa using this
theorem preSum_list (ns : List Int) : ∀ j, j ≤ ns.length → preSum (fun i => ns.getD i 0) j = (ns.take j).sum
  | 0, _ => by simp [preSum]
  | j + 1, h => by
      have e : ns[j]? = some ns[j] := by simp
      rw [preSum, preSum_list ns j (by omega), List.take_add_one, List.getD_eq_getElem?_getD, e, List.sum_append, Option.getD_some, Option.toList_some, List.sum_cons, List.sum_nil, Int.add_zero]
theorem fn_sum {ns : List Int} : Fn w k (.builtin "sum") [.list (ns.map D.int)] [] [] (.int ns.sum) := fun A B s E Q vs ws r F bd hv hw ps q => by
  cases hv with
  | cons a hv =>
    cases hv; cases hw
    cases a with
    | @list a vs _ n x y =>
      refine call_sum_walkAnyS (wpAny_pyIter_list x.isList ?_)
      have hlt : a ≠ s.heap.objs.size := by obtain ⟨_, e⟩ := x; exact Nat.ne_of_lt (Heap.lt_size e)
      have hl : vs.length = ns.length := by simpa using y.length
      refine ⟨_, [s.heap.objs.size, a], _, _, _, _, _, fun i => ns.getD i 0, rfl, (Walks.list (prog := pw) (w := w) (A := A.in1) r.1 s.heap.objs.size a hlt vs.toArray).toS, ⟨⟨_, Heap.get?_push_size _ rfl, rfl, rfl⟩, x.isList.push _⟩, ?_, fun i v hv => ints_of y i v (by simpa using hv), fun s' t' hm => ?_⟩
      · intro b hb
        rw [Heap.size_push]
        rcases List.mem_cons.mp hb with e | hb
        · subst e; exact Nat.lt_succ_self _
        · rw [List.mem_singleton.mp hb]; obtain ⟨_, e⟩ := x; exact Nat.lt_succ_of_lt (Heap.lt_size e)
      · have e : s' = { s with heap := s'.heap, toks := s'.toks } := by
          have h1 := hm.gens; have h2 := hm.drawn; have h3 := hm.os
          cases s'; simp_all
        have hs : preSum (fun i => ns.getD i 0) vs.toArray.size = ns.sum := by
          rw [List.size_toArray, hl, preSum_list ns _ (Nat.le_refl _), List.take_length]
        rw [hs, e]
        refine q _ _ _ (fun b o e => hm.heap b o ?_ (Heap.get?_push_of_some _ e)) hm.toks (.int _ _)
        rw [List.mem_singleton]; exact Nat.ne_of_lt (Heap.lt_size e)

theorem argBest_max (ns : List Int) : ∀ n, n < ns.length → argBest (fun i j => decide (ns.getD i 0 > ns.getD j 0)) n < ns.length ∧ ns.getD (argBest (fun i j => decide (ns.getD i 0 > ns.getD j 0)) n) 0 = (ns.take (n + 1)).tail.foldl max (ns.getD 0 0)
  | 0, h => by
      refine ⟨h, ?_⟩
      cases ns with
      | nil => simp at h
      | cons a r => simp [argBest]
  | n + 1, h => by
      obtain ⟨h1, h2⟩ := argBest_max ns n (by omega)
      have e : (ns.take (n + 1 + 1)).tail = (ns.take (n + 1)).tail ++ [ns.getD (n + 1) 0] := by
        cases ns with
        | nil => simp at h
        | cons a r =>
          have h' : n < r.length := by simpa using h
          rw [List.take_succ_cons, List.take_succ_cons, List.tail_cons, List.tail_cons, List.take_add_one, List.getElem?_eq_getElem h']
          simp [List.getElem?_eq_getElem h']
      rw [argBest, e, List.foldl_append, ← h2]
      simp only [List.foldl_cons, List.foldl_nil]
      split
      · rename_i hc
        refine ⟨h, ?_⟩
        have := of_decide_eq_true hc
        omega
      · rename_i hc
        refine ⟨h1, ?_⟩
        have : ¬ (ns.getD (n + 1) 0 > ns.getD (argBest (fun i j => decide (ns.getD i 0 > ns.getD j 0)) n) 0) := fun c => hc (decide_eq_true c)
        omega
theorem fn_max {n : Int} {ns : List Int} : Fn w k (.builtin "max") [.list ((n :: ns).map D.int)] [] [] (.int (ns.foldl max n)) := fun A B s E Q vs ws r F bd hv hw ps q => by
  cases hv with
  | cons a hv =>
    cases hv; cases hw
    cases a with
    | @list a vs _ off x y =>
      refine call_max_walkS (wpAny_pyIter_list x.isList ?_)
      have hlt : a ≠ s.heap.objs.size := by obtain ⟨_, e⟩ := x; exact Nat.ne_of_lt (Heap.lt_size e)
      have hl : vs.length = ns.length + 1 := by simpa using y.length
      have hval : ∀ i v, vs.toArray[i]? = some v → ∃ t, v = Value.int ((n :: ns).getD i 0) t := fun i v hv => ints_of y i v (by simpa using hv)
      have hsz : vs.toArray.size = ns.length + 1 := by simpa using hl
      refine ⟨_, [s.heap.objs.size, a], _, _, _, _, _, _, rfl, (Walks.list (prog := pw) (w := w) (A := A.in1) r.1 s.heap.objs.size a hlt vs.toArray).toS, ⟨⟨_, Heap.get?_push_size _ rfl, rfl, rfl⟩, x.isList.push _⟩, ?_, by rw [hsz]; exact Nat.succ_pos _, CmpOf.ints_gt _ hval, fun v s' hP hm => ?_⟩
      · intro b hb
        rw [Heap.size_push]
        rcases List.mem_cons.mp hb with e | hb
        · subst e; exact Nat.lt_succ_self _
        · rw [List.mem_singleton.mp hb]; obtain ⟨_, e⟩ := x; exact Nat.lt_succ_of_lt (Heap.lt_size e)
      · have e : s' = { s with heap := s'.heap, toks := s'.toks } := by
          have h1 := hm.gens; have h2 := hm.drawn; have h3 := hm.os
          cases s'; simp_all
        obtain ⟨t, rfl⟩ := hval _ _ hP
        rw [hsz]
        have hb := (argBest_max (n :: ns) ns.length (by simp)).2
        have : (List.take (ns.length + 1) (n :: ns)).tail = ns := by simp
        rw [this] at hb
        rw [Nat.add_sub_cancel]
        rw [e, hb]
        refine q _ _ _ (fun b o e => hm.heap b o ?_ (Heap.get?_push_of_some _ e)) hm.toks (.int _ _)
        rw [List.mem_singleton]; exact Nat.ne_of_lt (Heap.lt_size e)

theorem hasAll_of {B : List Addr} {h : Heap} : ∀ {vs : List Value} {ds : List D}, vs.length = ds.length → (∀ (i : Nat) (v : Value), vs[i]? = some v → ∃ d, ds[i]? = some d ∧ Has B h v d) → HasAll B h vs ds
  | [], [], _, _ => .nil
  | v :: vs, d :: ds, hl, hi => by
      obtain ⟨d', e, r⟩ := hi 0 v rfl
      simp at e; subst e
      exact .cons r (hasAll_of (by simpa using hl) fun i u hu => by simpa using hi (i + 1) u (by simpa using hu))
theorem fn_listRange {a b : Int} (h : D.small (.range a b)) (hn : (b - a).toNat ≤ 2 ^ 24) : Fn w k (.type "list") [.range a b] [] [] (.list ((List.range (b - a).toNat).map fun i => .int (a + (i : Nat)))) := fun A B s E Q vs ws r F bd hv hw ps q => by
  cases hv with
  | cons x hv =>
    cases hv; cases hw
    cases x with
    | range off hr =>
      obtain ⟨h1, h2⟩ := range_small h
      refine wpAny_with_toks (Nat.le_refl s.toks) (call_list_range r.1 hr h1 h2 hn fun h' tk acc' c' hk hS hI g => ?_)
      obtain ⟨l, rfl⟩ : ∃ l : List Value, acc' = l.toArray := ⟨acc'.toList, by simp⟩
      refine q _ _ _ hk g (.list (new_off bd) ⟨_, hS⟩ ?_)
      have hl := hI.1
      have := hI.2
      simp only [List.size_toArray] at hl
      exact hasAll_of (by simpa using hl) fun i v hv => by
        obtain ⟨t, rfl⟩ := this i v (by simpa using hv)
        have hi : i < (b - a).toNat := by
          have := (List.getElem?_eq_some_iff.mp hv).1
          omega
        refine ⟨.int (a + (i : Nat)), by simp [List.getElem?_range hi], ?_⟩
        rw [Int.mul_one]; exact .int _ _
end
end Mine

set_option maxRecDepth 100000
namespace Mine
open PySem PySem.W PyProof.Rows

section
variable {w : World} {k : Nat} {env : Env} {σ : Sg}

/-- a thing to take items of, its type -/
noncomputable def D.seqT : D → Option (String × String)
  | .str _ => some ("str", "str.__getitem__")
  | .nstr _ => some ("str", "str.__getitem__")
  | .list _ => some ("list", "list.__getitem__")
  | .tks _ => some ("list", "list.__getitem__")
  | .tup _ => some ("tuple", "tuple.__getitem__")
  | _ => .none
theorem seqT_look {d : D} {T id : String} (h : d.seqT = some (T, id)) : typeLookup (.type T) "__getitem__" = pure (some (.builtin id)) := by
  cases d <;> cases h
  · exact F.slot_str_getitem.lookup
  · exact F.slot_str_getitem.lookup
  · exact list_getitem_lookup
  · exact list_getitem_lookup
  · exact F.slot_tuple_getitem.lookup
theorem seqT_is {B : List Addr} {s : Shared} {v : Value} {d : D} {T id : String} (hv : Has B s.heap v d) (h : d.seqT = some (T, id)) : s.TypeIs v T := by
  cases hv with
  | none | bool | int | val | range | ils => cases h
  | str => cases h; exact typeIs_str _ _ _
  | nstr => cases h; exact typeIs_str _ _ _
  | list n x r => cases h; exact x.isList.typeIs
  | tks n x r => cases h; exact x.isList.typeIs
  | tup n x r => cases h; obtain ⟨_, e⟩ := x; exact ⟨_, e, rfl⟩

theorem subTail {A : Around} {B : List Addr} {s : Shared} {E Q : Value → Shared → Prop} {value slice : Expr} {o i : Value} {d : D} {T id : String} (hv : Has B s.heap o d) (ht : d.seqT = some (T, id)) (h : wpAny (model pw w) A (getItem o i) Q E s)
    (hs : subscripted slice false o i = operate [o, i] (getItem o i) ∨ subscripted slice false o i = operate [i, o] (getItem o i)) : wpAny (model pw w) A (subscriptTail value slice o i) Q E s := by
  have hT := seqT_is hv ht
  unfold subscriptTail
  refine wpAny_bind ?_
  rw [getitemInPython_of_ne hT.not_modules]
  refine wpAny_bind (wpAny_specialOf hT (seqT_look ht) ?_)
  have fin : wpAny (model pw w) A (subscripted slice false o i) (fun r s₃ => wpAny (model pw w) A (letTemporaryGo value o r >>= fun _ => pure r) Q E s₃) E s := by
    have c : wpAny (model pw w) A (getItem o i) (fun r s₃ => wpAny (model pw w) A (letTemporaryGo value o r >>= fun _ => pure r) Q E s₃) E s :=
      wpAny_mono h (fun r s₃ h₃ => wpAny_bind (wpAny_letTemporaryGo (wpAny_pure h₃))) fun _ _ x => x
    rcases hs with hs | hs <;> rw [hs] <;> exact wpAny_operating c
  first
    | exact wpAny_pure (wpAny_bind fin)
    | exact wpAny_bind (wpAny_pure (wpAny_bind fin))
    | exact wpAny_bind fin

theorem ev_sub {value slice : Expr} {pos : Pos} {a i d : D} {T id : String} (x : EvE w k env σ value a) (y : EvE w k env σ slice i) (o : Op2 w k getItem a i d) (ht : a.seqT = some (T, id) := by rfl)
    (hs : ∀ o i, subscripted slice false o i = operate [o, i] (getItem o i) := by intro _ _; rfl) : EvE w k env σ (.Subscript value slice pos) d := fun A B s E Q pr q => by
  refine Subscript_ (x A B s E _ pr fun u h₁ tk₁ u₁ g₁ hu => y A B _ E _ (pr.up u₁ g₁) fun v h₂ tk₂ u₂ g₂ hv => ?_)
  refine subTail (hu.le u₂) ht ?_ (.inl (hs _ _))
  exact o A B _ E Q u v pr.room (pr.facts.keeps (u₁.trans u₂)) (fun b hb => (pr.bd b hb).le (u₁.trans u₂)) (hu.le u₂) hv (Nat.lt_of_lt_of_le pr.pos (Nat.le_trans g₁ g₂)) fun z h₃ tk₃ u₃ g₃ hz => q z h₃ tk₃ ((u₁.trans u₂).trans u₃) (Nat.le_trans (Nat.le_trans g₁ g₂) g₃) hz

theorem gi_str {l : List Nat} {i : Int} {c : Nat} (hr : (decide (i < -(2 ^ 63 : Int)) || decide (i ≥ 2 ^ 63)) = false) (hc : (seqIndex? i l.length).bind (l[·]?) = some c) : Op2 w k getItem (.str l) (.int i) (.nstr [c]) := fun A B s E Q u v r F bd hu hv ps q => by
  obtain ⟨t, rfl⟩ := hu.str_inv; obtain ⟨t', rfl⟩ := hv.int_inv
  exact P.getItem_str hr (by rw [str_len]; simpa using hc) (q _ _ _ (Le.refl _) (Nat.le_succ _) (.nstr [c] _ ps))
theorem gi_nstr {l : List Nat} {i : Int} {c : Nat} (hr : (decide (i < -(2 ^ 63 : Int)) || decide (i ≥ 2 ^ 63)) = false) (hc : (seqIndex? i l.length).bind (l[·]?) = some c) : Op2 w k getItem (.nstr l) (.int i) (.nstr [c]) := fun A B s E Q u v r F bd hu hv ps q =>
  gi_str hr hc A B s E Q u v r F bd hu.weak hv ps q
theorem seqIndex_cases {i : Int} {n j : Nat} (h : seqIndex? i n = some j) : j < n ∧ ((0 ≤ i ∧ i = j) ∨ (i < 0 ∧ -(n : Int) ≤ i ∧ i + n = j)) := by
  have e : seqIndex? i n = if (0 ≤ (if i < 0 then i + n else i) && (if i < 0 then i + (n : Int) else i) < n) = true then some (if i < 0 then i + n else i).toNat else none := rfl
  rw [e] at h
  by_cases hc : (0 ≤ (if i < 0 then i + n else i) && (if i < 0 then i + (n : Int) else i) < n) = true
  · rw [if_pos hc] at h
    cases h
    simp only [Bool.and_eq_true, decide_eq_true_eq] at hc
    by_cases h0 : i < 0
    · rw [if_pos h0] at hc ⊢
      exact ⟨by omega, .inr ⟨h0, by omega, by omega⟩⟩
    · rw [if_neg h0] at hc ⊢
      exact ⟨by omega, .inl ⟨by omega, by omega⟩⟩
  · rw [if_neg hc] at h; cases h
theorem gi_at {A : Around} {s : Shared} {E Q : Value → Shared → Prop} {a : Addr} {vs : List Value} {i : Int} {t' : Tok} {j : Nat} {v : Value} (x : s.heap.PlainList a vs.toArray) (hr : -(2 ^ 63) ≤ i ∧ i < 2 ^ 63) (hj : seqIndex? i vs.length = some j)
    (e : vs[j]? = some v) (q : Q v s) : wpAny (model pw w) A (getItem (.ref a) (.int i t')) Q E s := by
  obtain ⟨hjn, ⟨h0, h1⟩ | ⟨h0, h1, h2⟩⟩ := seqIndex_cases hj
  · refine wpAny_getItem_list x.isList h0 hr.2 (x := v) ?_ q
    have : i.toNat = j := by omega
    rw [this]; simpa using e
  · refine wpAny_getItem_list_neg x.isList h0 (by rw [List.size_toArray]; exact h1) hr.1 (x := v) ?_ q
    rw [List.size_toArray, h2]; simpa using e
theorem gi_list {ds : List D} {i : Int} {j : Nat} {d : D} (hr : -(2 ^ 63) ≤ i ∧ i < 2 ^ 63) (hj : seqIndex? i ds.length = some j) (hd : ds[j]? = some d) : Op2 w k getItem (.list ds) (.int i) d := fun A B s E Q u v r F bd hu hv ps q => by
  obtain ⟨t', rfl⟩ := hv.int_inv
  cases hu with
  | @list a vs _ n x y =>
    obtain ⟨v, e, hv⟩ := y.get hd
    exact gi_at x hr (by rw [y.length]; exact hj) e (q _ _ _ (Le.refl _) (Nat.le_refl _) hv)
theorem gi_tup {ds : List D} {i : Int} {j : Nat} {d : D} (hr : -(2 ^ 63) ≤ i ∧ i < 2 ^ 63) (hj : seqIndex? i ds.length = some j) (hd : ds[j]? = some d) : Op2 w k getItem (.tup ds) (.int i) d := fun A B s E Q u v r F bd hu hv ps q => by
  obtain ⟨t', rfl⟩ := hv.int_inv
  cases hu with
  | @tup a vs _ n x y =>
    obtain ⟨v, e, hv⟩ := y.get hd
    exact PyProof.Rows.getItem_tuple x.isTuple hr.1 hr.2 (by rw [List.size_toArray, y.length]; exact hj) (by simpa using e) (q _ _ _ (Le.refl _) (Nat.le_refl _) hv)
theorem gi_tks {ls : List (List Nat)} {i : Int} {j : Nat} {l : List Nat} (hr : -(2 ^ 63) ≤ i ∧ i < 2 ^ 63) (hj : seqIndex? i ls.length = some j) (hd : ls[j]? = some l) : Op2 w k getItem (.tks ls) (.int i) (.nstr l) := fun A B s E Q u v r F bd hu hv ps q => by
  obtain ⟨t', rfl⟩ := hv.int_inv
  cases hu with
  | @tks a vs _ n x y z =>
    obtain ⟨v, e, hv⟩ := y.get (k := j) (d := .str l) (by simp [hd])
    obtain ⟨x', t, rfl, ht⟩ := z.pos v (List.mem_of_getElem? e)
    refine gi_at x hr (by rw [y.length, List.length_map]; exact hj) e (q _ _ _ (Le.refl _) (Nat.le_refl _) ?_)
    obtain ⟨t2, e2⟩ := hv.str_inv
    cases e2
    exact .nstr _ _ ht

/-- a piece by two bounds -/
noncomputable def piece {α : Type} (xs : List α) (lo hi : Option Int) : List α := (xs.drop (lo.elim 0 (clipAt xs.length))).take (hi.elim xs.length (clipAt xs.length) - lo.elim 0 (clipAt xs.length))
theorem piece_to {α : Type} (xs : List α) (b : Nat) : piece xs none (some (b : Int)) = xs.take b := by
  unfold piece
  simp only [Option.elim, clipAt_nat, List.drop_zero, Nat.sub_zero]
  rcases Nat.le_total b xs.length with h | h
  · rw [Nat.min_eq_left h]
  · rw [Nat.min_eq_right h, List.take_of_length_le (Nat.le_refl _), List.take_of_length_le h]
theorem piece_from {α : Type} (xs : List α) (a : Nat) : piece xs (some (a : Int)) none = xs.drop a := by
  unfold piece
  simp only [Option.elim, clipAt_nat]
  rcases Nat.le_total a xs.length with h | h
  · rw [Nat.min_eq_left h, List.take_of_length_le (by simp)]
  · rw [Nat.min_eq_right h, List.drop_of_length_le (Nat.le_refl _), List.drop_of_length_le h]; simp
theorem piece_run {α : Type} (xs : List α) (a b : Nat) : piece xs (some (a : Int)) (some (b : Int)) = (xs.take b).drop a := by
  unfold piece
  simp only [Option.elim, clipAt_nat]
  rw [List.drop_take]
  rcases Nat.le_total a xs.length with h | h
  · rw [Nat.min_eq_left h]
    rcases Nat.le_total b xs.length with h' | h'
    · rw [Nat.min_eq_left h']
    · rw [Nat.min_eq_right h', List.take_of_length_le (by simp), List.take_of_length_le (by simp; omega)]
  · rw [Nat.min_eq_right h, List.drop_of_length_le (Nat.le_refl _), List.drop_of_length_le h]; simp
theorem picked {x : List Nat} {l u : Option (Int × Tok)} : (Builtin.Str.strSliceIndices (l.map (·.1)) (u.map (·.1)) 1 x.length).length = (piece x (l.map (·.1)) (u.map (·.1))).length ∧
    (Builtin.Str.strSliceIndices (l.map (·.1)) (u.map (·.1)) 1 x.length).filterMap (x[·]?) = piece x (l.map (·.1)) (u.map (·.1)) := by
  have e : ∀ l' u' : Option Int, Builtin.Str.strSliceIndices l' u' 1 x.length = (List.range (u'.elim x.length (clipAt x.length) - l'.elim 0 (clipAt x.length))).map (l'.elim 0 (clipAt x.length) + ·) := by
    intro l' u'
    rw [← sliceRange_one]
    cases l' <;> cases u' <;> simp [Builtin.Str.strSliceIndices, clipAt_cast]
  rw [e]
  have p := pick_run x.toArray ((l.map (·.1)).elim 0 (clipAt x.length)) ((u.map (·.1)).elim x.length (clipAt x.length) - (l.map (·.1)).elim 0 (clipAt x.length))
  have p' : List.filterMap (x[·]?) ((List.range ((u.map (·.1)).elim x.length (clipAt x.length) - (l.map (·.1)).elim 0 (clipAt x.length))).map ((l.map (·.1)).elim 0 (clipAt x.length) + ·)) = piece x (l.map (·.1)) (u.map (·.1)) := by unfold piece; simpa using p
  refine ⟨?_, p'⟩
  have hb : ∀ i, clipAt x.length i ≤ x.length := fun i => by have := clipAt_cast x.length i; omega
  unfold piece
  have h2 : (u.map (·.1)).elim x.length (clipAt x.length) ≤ x.length := by cases u with | none => exact Nat.le_refl _ | some p => exact hb _
  rw [List.length_map, List.length_range, List.length_take, List.length_drop]
  omega

theorem piece_sub {α : Type} (xs : List α) (lo hi : Option Int) : (piece xs lo hi).Sublist xs := (List.take_sublist _ _).trans (List.drop_sublist _ _)
theorem piece_whole {α : Type} {xs : List α} {lo hi : Option Int} (h : (piece xs lo hi).length = xs.length) : piece xs lo hi = xs := (piece_sub xs lo hi).eq_of_length h

/-- a bound of a slice -/
inductive EvP (w : World) (k : Nat) (env : Env) (σ : Sg) : Option Expr → Option Int → Prop
  | none : EvP w k env σ none none
  | some {e : Expr} {i : Int} : EvE w k env σ e (.int i) → EvP w k env σ (some e) (some i)
theorem evP_run {e : Option Expr} {i : Option Int} (x : EvP w k env σ e i) (A : Around) (B : List Addr) (s : Shared) (E Q : Value → Shared → Prop) (pr : Pre w k A B env σ s)
    (q : ∀ p h' tk, Le s.heap h' → s.toks ≤ tk → p.map (·.1) = i → Q (partValue p) (stAt s h' tk)) : wpAny (model pw w) A (evalPart e env) Q E s := by
  cases x with
  | none => exact wpAny_pure (q none _ _ (Le.refl _) (Nat.le_refl _) rfl)
  | some x => exact x A B s E _ pr fun v h' tk u g hv => by obtain ⟨t, rfl⟩ := hv.int_inv; exact q (some (_, t)) h' tk u g rfl

theorem ev_slAny {value : Expr} {lower upper : Option Expr} {lo hi : Option Int} {p pos : Pos} {a d : D} {l : List Nat} (x : EvE w k env σ value a) (yl : EvP w k env σ lower lo) (yu : EvP w k env σ upper hi)
    (ha : ∀ B h v, Has B h v a → ∃ t, v = .str ⟨l.toArray⟩ t ∧ ((piece l lo hi).length = l.length → ∀ B' h', Has B' h' v d)) (hf : ∀ t B h, 0 < t → Has B h (.str ⟨(piece l lo hi).toArray⟩ t) d) (hl : l.length ≤ 1000000)
    (ht : ∀ o r, letTemporaryGo value o r = pure () := by intro _ _; rfl) : EvE w k env σ (.Subscript value (.Slice lower upper none p) pos) d := fun A B s E Q pr q => by
  refine wpAny_Subscript_str_slice (x A B s E _ pr fun u h₁ tk₁ u₁ g₁ hu => evP_run yl A B _ E _ (pr.up u₁ g₁) fun pl h₂ tk₂ u₂ g₂ hpl => evP_run yu A B _ E _ ((pr.up u₁ g₁).up u₂ g₂) fun pu h₃ tk₃ u₃ g₃ hpu => ?_) ht
  obtain ⟨t, rfl, hw⟩ := ha _ _ _ hu
  refine ⟨_, _, pl, pu, rfl, rfl, rfl, ?_⟩
  have hk := picked (x := l) (l := pl) (u := pu)
  rw [hpl, hpu] at hk
  have le : Le s.heap (h₃.push { cls := .type "slice", data := .fields #[partValue pl, partValue pu, .none] }) := ((u₁.trans u₂).trans u₃).trans (Le.push _ _)
  unfold sliceMade slicePicked
  rw [str_len, hpl, hpu]
  simp only [Option.map_none, Option.getD_none, hk.1]
  by_cases hc : (piece l lo hi).length = l.length
  · rw [if_pos (by simp [hc])]
    exact q _ _ tk₃ le (Nat.le_trans (Nat.le_trans g₁ g₂) g₃) (hw hc _ _)
  · rw [if_neg (by simp [hc])]
    have e : (⟨(List.filterMap (fun x => l.toArray[x]?) (Builtin.Str.strSliceIndices lo hi 1 l.length)).toArray⟩ : Str) = ⟨(piece l lo hi).toArray⟩ := by
      rw [← hk.2]; simp
    rw [e]
    refine ⟨?_, ?_⟩
    · rw [str_len]
      have := (piece_sub l lo hi).length_le
      exact Nat.le_trans this (Nat.le_trans hl (by decide))
    · exact q _ _ (tk₃ + 1) le (Nat.le_succ_of_le (Nat.le_trans (Nat.le_trans g₁ g₂) g₃)) (hf _ _ _ (Nat.lt_of_lt_of_le pr.pos (Nat.le_trans (Nat.le_trans g₁ g₂) g₃)))
theorem ev_slS {value : Expr} {lower upper : Option Expr} {lo hi : Option Int} {p pos : Pos} {l : List Nat} (x : EvE w k env σ value (.str l)) (yl : EvP w k env σ lower lo) (yu : EvP w k env σ upper hi) (hl : l.length ≤ 1000000)
    (ht : ∀ o r, letTemporaryGo value o r = pure () := by intro _ _; rfl) : EvE w k env σ (.Subscript value (.Slice lower upper none p) pos) (.str (piece l lo hi)) :=
  ev_slAny x yl yu (fun B h v hv => by obtain ⟨t, rfl⟩ := hv.str_inv; exact ⟨t, rfl, fun e B' h' => by rw [piece_whole e]; exact .str _ _⟩) (fun t B h _ => .str _ _) hl ht
theorem ev_slN {value : Expr} {lower upper : Option Expr} {lo hi : Option Int} {p pos : Pos} {l : List Nat} (x : EvE w k env σ value (.nstr l)) (yl : EvP w k env σ lower lo) (yu : EvP w k env σ upper hi) (hl : l.length ≤ 1000000)
    (ht : ∀ o r, letTemporaryGo value o r = pure () := by intro _ _; rfl) : EvE w k env σ (.Subscript value (.Slice lower upper none p) pos) (.nstr (piece l lo hi)) :=
  ev_slAny x yl yu (fun B h v hv => by obtain ⟨t, rfl, ht⟩ := hv.nstr_inv; exact ⟨t, rfl, fun e B' h' => by rw [piece_whole e]; exact .nstr _ _ ht⟩) (fun t B h ht => .nstr _ _ ht) hl ht
theorem ev_slC {value : Expr} {lower upper : Option Expr} {lo hi : Option Int} {p pos : Pos} {l : List Nat} (x : EvE w k env σ value (.str l)) (yl : EvP w k env σ lower lo) (yu : EvP w k env σ upper hi) (hl : l.length ≤ 1000000) (hc : (piece l lo hi).length ≠ l.length)
    (ht : ∀ o r, letTemporaryGo value o r = pure () := by intro _ _; rfl) : EvE w k env σ (.Subscript value (.Slice lower upper none p) pos) (.nstr (piece l lo hi)) :=
  ev_slAny x yl yu (fun B h v hv => by obtain ⟨t, rfl⟩ := hv.str_inv; exact ⟨t, rfl, fun e => absurd e hc⟩) (fun t B h ht => .nstr _ _ ht) hl ht

/-- which places a slice picks -/
noncomputable def pickL {α : Type} (xs : List α) (lo hi st : Option Int) : List α := (sliceRange (sliceBounds lo hi st xs.length).1 (sliceBounds lo hi st xs.length).2.1 (sliceBounds lo hi st xs.length).2.2).filterMap (xs[·]?)
theorem HasAll.pick {B : List Addr} {h : Heap} {vs : List Value} {ds : List D} (x : HasAll B h vs ds) : ∀ is : List Nat, HasAll B h (is.filterMap (vs[·]?)) (is.filterMap (ds[·]?))
  | [] => .nil
  | i :: is => by
      rw [List.filterMap_cons, List.filterMap_cons]
      cases hd : ds[i]? with
      | none =>
        have : vs[i]? = none := by rw [List.getElem?_eq_none_iff] at hd ⊢; rw [x.length]; exact hd
        rw [this]; exact HasAll.pick x is
      | some d =>
        obtain ⟨v, e, hv⟩ := x.get hd
        rw [e]; exact .cons hv (HasAll.pick x is)
theorem pickL_map {α β : Type} (f : α → β) (xs : List α) (lo hi st : Option Int) : pickL (xs.map f) lo hi st = (pickL xs lo hi st).map f := by
  unfold pickL
  rw [List.length_map, List.map_filterMap]
  congr 1
  funext i
  simp
theorem pickL_plain {α : Type} (xs : List α) (lo hi : Option Int) : pickL xs lo hi none = piece xs lo hi := by
  unfold pickL piece
  rw [sliceBounds_plain]
  simp only [sliceRange_one]
  have := pick_run xs.toArray (lo.elim 0 (clipAt xs.length)) (hi.elim xs.length (clipAt xs.length) - lo.elim 0 (clipAt xs.length))
  simpa using this
theorem slicePick_L (vs : List Value) (lo hi st : Option Int) : slicePick vs.toArray lo hi st = (pickL vs lo hi st).toArray := by
  unfold slicePick pickL
  simp

theorem part_is {p : Option (Int × Tok)} : IsPart (partValue p) (p.map (·.1)) := by
  cases p with
  | none => exact .none
  | some q => exact .int _ _

theorem ev_slL {value : Expr} {lower upper st : Option Expr} {lo hi step : Option Int} {p pos : Pos} {ds : List D} (x : EvE w k env σ value (.list ds)) (yl : EvP w k env σ lower lo) (yu : EvP w k env σ upper hi) (ys : EvP w k env σ st step) (h0 : step ≠ some 0) (hl : ds.length ≤ 1000000) :
    EvE w k env σ (.Subscript value (.Slice lower upper st p) pos) (.list (pickL ds lo hi step)) := fun A B s E Q pr q => by
  refine Subscript_ (x A B s E _ pr fun u h₁ tk₁ u₁ g₁ hu => wpAny_Slice (evP_run yl A B _ E _ (pr.up u₁ g₁) fun pl h₂ tk₂ u₂ g₂ hpl => evP_run yu A B _ E _ ((pr.up u₁ g₁).up u₂ g₂) fun pu h₃ tk₃ u₃ g₃ hpu =>
    evP_run ys A B _ E _ (((pr.up u₁ g₁).up u₂ g₂).up u₃ g₃) fun ps h₄ tk₄ u₄ g₄ hps => ?_))
  have lx := (((u₁.trans u₂).trans u₃).trans u₄)
  have hu' : Has B (h₄.push { cls := .type "slice", data := .fields #[partValue pl, partValue pu, partValue ps] }) u (.list ds) := (hu.le ((u₂.trans u₃).trans u₄)).le (Le.push _ _)
  have hT := hu'
  cases hu' with
  | @list a vs _ n xx y =>
    refine subTail (s := stAt s (h₄.push _) tk₄) hT rfl ?_ (by cases st; exact .inr rfl; exact .inl rfl)
    refine wpAny_getItem_list_slice xx.isList (Heap.IsSliceOf.new ..) (hpl ▸ part_is) (hpu ▸ part_is) (hps ▸ part_is) h0 ?_ (by rw [List.size_toArray, y.length]; exact Nat.le_trans hl (by decide))
    rw [slicePick_L]
    refine q _ _ tk₄ ((lx.trans (Le.push _ _)).trans (Le.push _ _)) (Nat.le_trans (Nat.le_trans (Nat.le_trans g₁ g₂) g₃) g₄) (.list (new_off fun b hb => ((pr.bd b hb).le lx).le (Le.push _ _)) ⟨_, Heap.get?_push_size _ rfl⟩ ?_)
    have := (y.pick (sliceRange (sliceBounds lo hi step vs.length).1 (sliceBounds lo hi step vs.length).2.1 (sliceBounds lo hi step vs.length).2.2)).le (Le.push _ { cls := .type "list", data := .seq (pickL vs lo hi step).toArray })
    unfold pickL
    rw [← y.length]
    exact this
end
end Mine

set_option maxRecDepth 100000
namespace Mine
open PySem PySem.W PyProof.Rows

mutual
/-- the plain data of a thing -/
noncomputable def D.py : D → Option PyData
  | .int i => some (.int i)
  | .str l => some (.str ⟨l.toArray⟩)
  | .nstr l => some (.str ⟨l.toArray⟩)
  | .tks ls => some (.list (ls.map fun l => .str ⟨l.toArray⟩))
  | .list ds => (D.pys ds).map .list
  | .tup ds => (D.pys ds).map .tuple
  | _ => Option.none
noncomputable def D.pys : List D → Option (List PyData)
  | [] => some []
  | d :: ds => match D.py d, D.pys ds with
    | some a, some b => some (a :: b)
    | _, _ => Option.none
end
theorem pys_str : ∀ ls : List (List Nat), D.pys (ls.map .str) = some (ls.map fun l => .str ⟨l.toArray⟩)
  | [] => rfl
  | l :: ls => by rw [List.map_cons, D.pys, pys_str ls]; rfl
mutual
theorem Has.reads {B : List Addr} {h : Heap} : ∀ {v : Value} {d : D} {p : PyData}, Has B h v d → d.py = some p → ∃ as, Reads h v p as
  | _, _, _, .none, e => by cases e
  | _, _, _, .bool _, e => by cases e
  | _, _, _, .val _, e => by cases e
  | _, _, _, .range .., e => by cases e
  | _, _, _, .ils .., e => by cases e
  | _, _, _, .int i t, e => by cases e; exact ⟨_, .int _ _⟩
  | _, _, _, .str i t, e => by cases e; exact ⟨_, .str _ _⟩
  | _, _, _, .nstr i t _, e => by cases e; exact ⟨_, .str _ _⟩
  | _, _, _, .tks n x r q, e => by
      cases e
      obtain ⟨as, ra⟩ := HasAll.reads r (pys_str _)
      obtain ⟨n, ho⟩ := x
      exact ⟨_, .list ho rfl rfl (by simpa using ra)⟩
  | _, _, _, .list n x r, e => by
      rw [D.py] at e
      obtain ⟨ps, he, rfl⟩ := Option.map_eq_some_iff.mp e
      obtain ⟨as, ra⟩ := HasAll.reads r he
      obtain ⟨n, ho⟩ := x
      exact ⟨_, .list ho rfl rfl (by simpa using ra)⟩
  | _, _, _, .tup n x r, e => by
      rw [D.py] at e
      obtain ⟨ps, he, rfl⟩ := Option.map_eq_some_iff.mp e
      obtain ⟨as, ra⟩ := HasAll.reads r he
      obtain ⟨n, ho⟩ := x
      exact ⟨_, .tuple ho rfl rfl (by simpa using ra)⟩
theorem HasAll.reads {B : List Addr} {h : Heap} : ∀ {vs : List Value} {ds : List D} {ps : List PyData}, HasAll B h vs ds → D.pys ds = some ps → ∃ as, ReadsAll h vs ps as
  | _, _, _, .nil, e => by cases e; exact ⟨_, .nil⟩
  | _, d :: ds, _, .cons a r, e => by
      rw [D.pys] at e
      cases h1 : D.py d with
      | none => rw [h1] at e; cases e
      | some p =>
        cases h2 : D.pys ds with
        | none => rw [h1, h2] at e; cases e
        | some ps =>
          rw [h1, h2] at e; cases e
          obtain ⟨x, rx⟩ := Has.reads a h1
          obtain ⟨y, ry⟩ := HasAll.reads r h2
          exact ⟨_, .cons rx ry⟩
end

mutual
theorem eqv_self : ∀ {d : D} {p : PyData}, d.py = some p → PyData.eqv p p = true
  | .none, _, e => by cases e
  | .bool _, _, e => by cases e
  | .val _, _, e => by cases e
  | .range .., _, e => by cases e
  | .ils _, _, e => by cases e
  | .int i, _, e => by cases e; simp [PyData.eqv]
  | .str i, _, e => by cases e; simp [PyData.eqv]
  | .nstr i, _, e => by cases e; simp [PyData.eqv]
  | .tks ls, _, e => by cases e; rw [PyData.eqv]; exact eqvs_str ls
  | .list ds, _, e => by
      rw [D.py] at e
      obtain ⟨ps, he, rfl⟩ := Option.map_eq_some_iff.mp e
      rw [PyData.eqv]; exact eqvs_self he
  | .tup ds, _, e => by
      rw [D.py] at e
      obtain ⟨ps, he, rfl⟩ := Option.map_eq_some_iff.mp e
      rw [PyData.eqv]; exact eqvs_self he
theorem eqvs_str : ∀ ls : List (List Nat), PyData.eqvAll (ls.map fun l => .str ⟨l.toArray⟩) (ls.map fun l => .str ⟨l.toArray⟩) = true
  | [] => by simp [PyData.eqvAll]
  | l :: ls => by rw [List.map_cons, PyData.eqvAll, eqvs_str ls]; simp [PyData.eqv]
theorem eqvs_self : ∀ {ds : List D} {ps : List PyData}, D.pys ds = some ps → PyData.eqvAll ps ps = true
  | [], _, e => by cases e; simp [PyData.eqvAll]
  | d :: ds, _, e => by
      rw [D.pys] at e
      cases h1 : D.py d with
      | none => rw [h1] at e; cases e
      | some p =>
        cases h2 : D.pys ds with
        | none => rw [h1, h2] at e; cases e
        | some ps =>
          rw [h1, h2] at e; cases e
          rw [PyData.eqvAll, eqv_self h1, eqvs_self h2]; rfl
end

section
variable {w : World} {k : Nat} {env : Env} {σ : Sg}
theorem room64 {A : Around} (r : Room k A) (hk : 8 ≤ k) : A.units + 64 < cLine := by
  have := r.2.2
  show A.units + 64 < 9900
  omega
theorem cp_eqD {a b : D} {p q : PyData} {c : Bool} (hk : 8 ≤ k) (ha : a.py = some p) (hb : b.py = some q) (sp : SeqAt.shaped p = true) (sq : SeqAt.shaped q = true) (e : PyData.eqv p q = c) : Op2 w k (compareOp .Eq) a b (.bool c) := fun A B s E Q u v r F bd hu hv ps hq => by
  obtain ⟨_, ru⟩ := hu.reads ha
  obtain ⟨_, rv⟩ := hv.reads hb
  exact eq_dataH ru rv sp sq (room64 r hk) (by rw [e]; exact hq _ _ _ (Le.refl _) (Nat.le_refl _) (.bool _))
theorem cp_neD {a b : D} {p q : PyData} {c : Bool} (hk : 8 ≤ k) (ha : a.py = some p) (hb : b.py = some q) (sp : SeqAt.shaped p = true) (sq : SeqAt.shaped q = true) (e : PyData.eqv p q = c) : Op2 w k (compareOp .NotEq) a b (.bool !c) := fun A B s E Q u v r F bd hu hv ps hq => by
  obtain ⟨_, ru⟩ := hu.reads ha
  obtain ⟨_, rv⟩ := hv.reads hb
  exact ne_dataH ru rv sp sq (room64 r hk) (by rw [e]; exact hq _ _ _ (Le.refl _) (Nat.le_refl _) (.bool _))

theorem op_addL {a b : List D} (h : a.length + b.length ≤ 1000000) : Op2 w k (binaryOp .Add) (.list a) (.list b) (.list (a ++ b)) := fun A B s E Q u v r F bd hu hv ps q => by
  cases hu with
  | @list x xs _ n hx ha =>
    cases hv with
    | @list y ys _ m hy hb =>
      obtain ⟨cx, ex⟩ := hx
      obtain ⟨cy, ey⟩ := hy
      refine P.add_list ex ey ?_ (by rw [List.size_toArray, List.size_toArray, ha.length, hb.length]; exact Nat.le_trans h (by decide))
      rw [List.append_toArray]
      exact q _ _ s.toks (Le.push _ _) (Nat.le_refl _) (.list (new_off bd) ⟨_, Heap.get?_push_size _ rfl⟩ ((ha.append hb).le (Le.push _ _)))

/-- `a == b == c`, all of them so -/
theorem ev_eq3 {a b c : Expr} {p : Pos} {x y z : D} (ha : EvE w k env σ a x) (hb : EvE w k env σ b y) (hc : EvE w k env σ c z) (o1 : Op2 w k (compareOp .Eq) x y (.bool true)) (o2 : Op2 w k (compareOp .Eq) y z (.bool true)) (hm : lastMarks [.Eq, .Eq] [b, c] = false := by with_unfolding_all rfl) : EvE w k env σ (.Compare a [.Eq, .Eq] [b, c] p) (.bool true) := fun A B s E Q pr q => by
  refine Compare_chain (hm := hm) (ha A B s E _ pr fun u h₁ tk₁ u₁ g₁ hu => ?_)
  refine chain_link (hb A B _ E _ (pr.up u₁ g₁) fun v h₂ tk₂ u₂ g₂ hv => ?_)
  have p2 := (pr.up u₁ g₁).up u₂ g₂
  refine o1 A B _ E _ u v pr.room p2.facts p2.bd (hu.le u₂) hv p2.pos fun z h₃ tk₃ u₃ g₃ hz => ?_
  obtain rfl := hz.bool_inv
  refine wpAny_truthy_bool ?_
  show wpAny _ _ _ _ _ _
  have p3 := p2.up u₃ g₃
  refine chain_last (hc A B _ E _ p3 fun w h₄ tk₄ u₄ g₄ hw => ?_)
  have p4 := p3.up u₄ g₄
  refine o2 A B _ E _ v w pr.room p4.facts p4.bd ((hv.le u₃).le u₄) hw p4.pos fun z h₅ tk₅ u₅ g₅ hz => ?_
  exact q z h₅ tk₅ ((((u₁.trans u₂).trans u₃).trans u₄).trans u₅) (Nat.le_trans (Nat.le_trans (Nat.le_trans (Nat.le_trans g₁ g₂) g₃) g₄) g₅) hz
end
end Mine

set_option maxRecDepth 100000
set_option linter.unusedVariables false
namespace Mine
open PySem PySem.W PyProof.Rows

/-- where `x` may be stored -/
noncomputable def Wr (env : Env) (B : List Addr) (s₀ : Shared) (x : Str) : Prop := env.kindOf x = some .local ∨ env.kindOf x = some .cell ∧ ∃ c, env.cells.lookup x = some c ∧ c ∈ B ∧ s₀.heap.objs.size ≤ c

/-- a frame, entered at `s₀`; the names `N` may be stored -/
structure Frm (w : World) (k : Nat) (A : Around) (B : List Addr) (env : Env) (N : List Str) (s₀ : Shared) : Prop where
  room : Room k A
  ok : EnvOk env
  facts : Facts w s₀.heap
  locB : env.locals ∈ B
  locF : s₀.heap.objs.size ≤ env.locals
  apart : ∀ x y c, N.contains x = true → env.kindOf x = some .cell → env.cells.lookup x = some c → env.cells.lookup y = some c → y = x
  wr : ∀ x, N.contains x = true → Wr env B s₀ x
  pos : 0 < s₀.toks

/-- the frame at the heap `h` -/
structure St (B : List Addr) (env : Env) (σ : Sg) (s₀ : Shared) (h : Heap) (tk : Nat) : Prop where
  vs : Vs B env h σ
  keep : Le s₀.heap h
  g : s₀.toks ≤ tk
  bd : ∀ b ∈ B, Al h b
  cells : ∀ x c, env.cells.lookup x = some c → ∃ v, h.IsCell c v

/-- all but dicts and cells stays -/
noncomputable def Kd (h h' : Heap) : Prop := ∀ b o, NotNm o → h.get? b = some o → h'.get? b = some o
theorem Kd.refl (h : Heap) : Kd h h := fun _ _ _ e => e
theorem Kd.trans {a b c : Heap} (x : Kd a b) (y : Kd b c) : Kd a c := fun d o n e => y d o n (x d o n e)
theorem Le.kd {a b : Heap} (x : Le a b) : Kd a b := fun d o _ e => x d o e

section
variable {w : World} {k : Nat} {A : Around} {B : List Addr} {env : Env} {N : List Str} {σ : Sg} {s₀ : Shared} {h : Heap} {tk : Nat} {E : Value → Shared → Prop}

theorem St.pre (F : Frm w k A B env N s₀) (S : St B env σ s₀ h tk) : Pre w k A B env σ (stAt s₀ h tk) := ⟨F.room, F.facts.keeps S.keep, S.bd, F.ok, S.vs, Nat.lt_of_lt_of_le F.pos S.g⟩
theorem St.up (S : St B env σ s₀ h tk) {h' : Heap} {tk' : Nat} (u : Le h h') (g : tk ≤ tk') : St B env σ s₀ h' tk' :=
  ⟨S.vs.le u, S.keep.trans u, Nat.le_trans S.g g, fun b hb => (S.bd b hb).le u, fun x c e => let ⟨v, z⟩ := S.cells x c e; ⟨v, z.keeps u⟩⟩
theorem St.less {τ : Sg} (S : St B env σ s₀ h tk) (s : ∀ e ∈ τ, e ∈ σ) : St B env τ s₀ h tk := ⟨S.vs.less s, S.keep, S.g, S.bd, S.cells⟩

theorem ne_of_all {x : Str} {ρ : Sg} (hx : (ρ.all fun e => e.1 != x) = true) {y : Str} {d : D} (m : (y, d) ∈ ρ) : y ≠ x := by
  have := List.all_eq_true.mp hx _ m
  simpa using this

theorem st_storeX {x : Str} {v : Value} {d : D} {ρ : Sg} {Q : Unit → Shared → Prop} (F : Frm w k A B env N s₀) (S : St B env σ s₀ h tk) (hv : Has B h v d) (hN : N.contains x = true) (hρ : ∀ e ∈ ρ, e ∈ σ) (hx : (ρ.all fun e => e.1 != x) = true)
    (q : ∀ h' tk', St B env ((x, d) :: ρ) s₀ h' tk' → Sp B h h' → Kd h h' → tk ≤ tk' → (∀ b o, b ≠ env.locals → (∀ y c, env.cells.lookup y = some c → b ≠ c) → h.get? b = some o → h'.get? b = some o) → Q () (stAt s₀ h' tk')) : wpAny (model pw w) A (storeName env x v) Q E (stAt s₀ h tk) := by
  obtain ⟨m, hn, hm⟩ := S.vs.ns
  have lt0 : ∀ b o, s₀.heap.get? b = some o → b < s₀.heap.objs.size := fun b o e => Heap.lt_size e
  rcases F.wr x hN with hl | ⟨hl, c, hc, hcB, hcF⟩
  · refine wpAny_storeName_local hl hn (fun h' hn' hs' => ?_) (by rw [F.ok.kind]; rfl)
    have eb := hs'.extBut
    have sp : Sp B h h' := sp_own F.locB eb
    have nc : ∀ c v, h.IsCell c v → c ≠ env.locals := by
      rintro c v ⟨o, e, dd⟩ rfl
      obtain ⟨o', es, ep, e', dd', _⟩ := hn
      rw [e] at e'; cases e'; rw [dd] at dd'; cases dd'
    refine q h' (tk + 1) ⟨⟨⟨_, hn', fun y d' m' l => ?_⟩, fun y d' m' l => ?_⟩, fun b o e => eb b o (Nat.ne_of_lt (Nat.lt_of_lt_of_le (lt0 b o e) F.locF)) (S.keep b o e), Nat.le_succ_of_le S.g, fun b hb => ?_, fun y c e => ?_⟩ sp (fun b o n e => ?_) (Nat.le_succ _) (fun b o n _ e => eb b o n e)
    · rcases List.mem_cons.mp m' with e | m'
      · cases e; exact ⟨v, if_pos rfl, hv.sp sp⟩
      · obtain ⟨v', e', r⟩ := hm y d' (hρ _ m') l
        exact ⟨v', (if_neg (ne_of_all hx m')).trans e', r.sp sp⟩
    · rcases List.mem_cons.mp m' with e | m'
      · cases e; exact absurd hl l
      · obtain ⟨a, c, v', p1, p2, r⟩ := S.vs.cell y d' (hρ _ m') l
        exact ⟨a, c, v', p1, p2.sameBut hs' (nc _ _ p2), r.sp sp⟩
    · by_cases hb' : b = env.locals
      · subst hb'; obtain ⟨o, _, _, e, _⟩ := hn'; exact ⟨o, e⟩
      · obtain ⟨o, e⟩ := S.bd b hb; exact ⟨o, eb b o hb' e⟩
    · obtain ⟨v', z⟩ := S.cells y c e
      exact ⟨v', z.sameBut hs' (nc _ _ z)⟩
    · refine eb b o ?_ e
      rintro rfl
      obtain ⟨o', es, ep, e', dd', _⟩ := hn
      rw [e] at e'; cases e'; exact n.1 _ _ dd'
  · obtain ⟨v₀, hcell⟩ := S.cells x c hc
    refine wpAny_storeName_cell F.ok.kind hl hc hcell fun h' hc' hs' => ?_
    have eb := hs'.extBut
    have sp : Sp B h h' := sp_own hcB eb
    have nl : env.locals ≠ c := by
      rintro rfl
      obtain ⟨o, e, dd⟩ := hcell
      obtain ⟨o', es, ep, e', dd', _⟩ := hn
      rw [e] at e'; cases e'; rw [dd] at dd'; cases dd'
    have hnx : env.kindOf x ≠ some .local := by rw [hl]; decide
    have cc : ∀ y c', env.cells.lookup y = some c' → y ≠ x → c' ≠ c := fun y c' hk' hne e => hne (F.apart x y c hN hl hc (e ▸ hk'))
    refine q h' tk ⟨⟨⟨m, hn.sameBut hs' nl, fun y d' m' l => ?_⟩, fun y d' m' l => ?_⟩, fun b o e => eb b o (Nat.ne_of_lt (Nat.lt_of_lt_of_le (lt0 b o e) hcF)) (S.keep b o e), S.g, fun b hb => ?_, fun y c' e => ?_⟩ sp (fun b o n e => ?_) (Nat.le_refl _) (fun b o _ n e => eb b o (n x c hc) e)
    · rcases List.mem_cons.mp m' with e | m'
      · cases e; exact absurd l hnx
      · obtain ⟨v', e', r⟩ := hm y d' (hρ _ m') l
        exact ⟨v', e', r.sp sp⟩
    · rcases List.mem_cons.mp m' with e | m'
      · cases e; exact ⟨.inl hl, c, v, hc, hc', hv.sp sp⟩
      · obtain ⟨a, c', v', p1, p2, r⟩ := S.vs.cell y d' (hρ _ m') l
        exact ⟨a, c', v', p1, p2.sameBut hs' (cc _ _ p1 (ne_of_all hx m')), r.sp sp⟩
    · by_cases hb' : b = c
      · subst hb'; obtain ⟨o, e, _⟩ := hc'; exact ⟨o, e⟩
      · obtain ⟨o, e⟩ := S.bd b hb; exact ⟨o, eb b o hb' e⟩
    · by_cases hy : y = x
      · subst hy; rw [hc] at e; cases e; exact ⟨_, hc'⟩
      · obtain ⟨v', z⟩ := S.cells y c' e
        exact ⟨v', z.sameBut hs' (cc _ _ e hy)⟩
    · refine eb b o ?_ e
      rintro rfl
      obtain ⟨o', e', dd'⟩ := hcell
      rw [e] at e'; cases e'; exact n.2 _ dd'

theorem st_store {x : Str} {v : Value} {d : D} {ρ : Sg} {Q : Unit → Shared → Prop} (F : Frm w k A B env N s₀) (S : St B env σ s₀ h tk) (hv : Has B h v d) (hN : N.contains x = true) (hρ : ∀ e ∈ ρ, e ∈ σ) (hx : (ρ.all fun e => e.1 != x) = true)
    (q : ∀ h' tk', St B env ((x, d) :: ρ) s₀ h' tk' → Sp B h h' → Kd h h' → tk ≤ tk' → Q () (stAt s₀ h' tk')) : wpAny (model pw w) A (storeName env x v) Q E (stAt s₀ h tk) :=
  st_storeX F S hv hN hρ hx fun h' tk' a b c d _ => q h' tk' a b c d

/-- a target takes a thing -/
noncomputable def Asg (env : Env) (N : List Str) (t : Expr) (d : D) (σ τ : Sg) : Prop :=
  ∀ (w : World) (k : Nat) (A : Around) (B : List Addr) (s₀ : Shared) (h : Heap) (tk : Nat) (v : Value) (E : Value → Shared → Prop) (Q : Unit → Shared → Prop), Frm w k A B env N s₀ → St B env σ s₀ h tk → Has B h v d →
    (∀ h' tk', St B env τ s₀ h' tk' → Sp B h h' → Kd h h' → tk ≤ tk' → Q () (stAt s₀ h' tk')) → wpAny (model pw w) A (assign t env v) Q E (stAt s₀ h tk)
theorem asg_name {x : Str} {p : Pos} {d : D} {ρ : Sg} (hN : N.contains x = true) (hρ : ∀ e ∈ ρ, e ∈ σ) (hx : (ρ.all fun e => e.1 != x) = true) : Asg env N (.Name x p) d σ ((x, d) :: ρ) := fun w k A B s₀ h tk v E Q F S hv q =>
  wpAny_assign_Name (st_store F S hv hN hρ hx q)

theorem ext_new {h h' : Heap} (x : Heap.ExtBut h.objs.size h h') : Le h h' := fun b o e => x b o (Nat.ne_of_lt (Heap.lt_size e)) e
theorem hasAll_two {B : List Addr} {h : Heap} {vs : List Value} {a b : D} (x : HasAll B h vs [a, b]) : ∃ u v, vs = [u, v] ∧ Has B h u a ∧ Has B h v b := by
  cases x with
  | cons p x => cases x with
    | cons q x => cases x with
      | nil => exact ⟨_, _, rfl, p, q⟩
theorem unpack2 {A : Around} {B : List Addr} {s : Shared} {v : Value} {a b : D} {d : D} (hh : A.handled = none) (hd : d = .tup [a, b] ∨ d = .list [a, b]) (hv : Has B s.heap v d) {Q : List Value → Shared → Prop}
    (q : ∀ x y h', Le s.heap h' → Has B h' x a → Has B h' y b → Q [x, y] (stAt s h' s.toks)) : wpAny (model pw w) A (unpackItems v 2 none) Q E s := by
  rcases hd with rfl | rfl
  · cases hv with
    | @tup t vs _ n x y =>
      obtain ⟨u, v, rfl, p, p'⟩ := hasAll_two y
      have c := wpAny_unpackItems_tuple (prog := pw) (w := w) (E := E) (Q := Q) hh x.isTuple fun h' he => q u v h' (ext_new he) (p.le (ext_new he)) (p'.le (ext_new he))
      exact c
  · cases hv with
    | @list t vs _ n x y =>
      obtain ⟨u, v, rfl, p, p'⟩ := hasAll_two y
      have c := kun_itemsOf (prog := pw) (w := w) (E := E) (Q := Q) hh x.isList fun h' he => q u v h' (ext_new he) (p.le (ext_new he)) (p'.le (ext_new he))
      exact c
theorem asg_pair {x y : Str} {px py p : Pos} {n : Nat} {d a b : D} {ρ : Sg} (hd : d = .tup [a, b] ∨ d = .list [a, b]) (hNx : N.contains x = true) (hNy : N.contains y = true) (hρ : ∀ e ∈ ρ, e ∈ σ) (hx : (ρ.all fun e => e.1 != x) = true) (hy : (((x, a) :: ρ).all fun e => e.1 != y) = true) :
    Asg env N (.Tuple [.Name x px, .Name y py] n p) d σ ((y, b) :: (x, a) :: ρ) := fun w k A B s₀ h tk v E Q F S hv q => by
  rw [assign_Tuple]
  refine wpAny_bind (wpAny_standAt ?_)
  unfold unpack
  refine wpAny_bind (wpAny_holding (unpack2 F.room.1 hd hv fun u u' h₁ l₁ hu hu' => ?_))
  show wpAny _ A (assignInOrder [assign (.Name x px) env, assign (.Name y py) env] [u, u']) _ _ (stAt s₀ h₁ tk)
  refine assignInOrder_cons (wpAny_assign_Name (st_store F (S.up l₁ (Nat.le_refl _)) hu hNx hρ hx fun h₂ tk₂ S₂ sp₂ kd₂ g₂ => ?_))
  refine assignInOrder_cons (wpAny_assign_Name (st_store F S₂ (hu'.sp sp₂) hNy (fun e m => m) hy fun h₃ tk₃ S₃ sp₃ kd₃ g₃ => assignInOrder_nil ?_))
  exact q h₃ tk₃ S₃ ((l₁.sp.trans sp₂).trans sp₃) ((l₁.kd.trans kd₂).trans kd₃) (Nat.le_trans g₂ g₃)

/-- some of the names -/
noncomputable def pick (σ : Sg) (is : List Nat) : Sg := is.filterMap fun i => σ[i]?
theorem pick_sub {is : List Nat} : ∀ e ∈ pick σ is, e ∈ σ := fun e m => by
  obtain ⟨i, _, h⟩ := List.mem_filterMap.mp m
  exact List.mem_of_getElem? h
theorem mem_at {x : Str} {d : D} (i : Nat) (h : σ[i]? = some (x, d)) : (x, d) ∈ σ := List.mem_of_getElem? h
/-- statements, run from a frame -/
abbrev Run (w : World) (A : Around) (env : Env) (ss : List Stmt) (Q : Flow → Shared → Prop) (E : Value → Shared → Prop) (s : Shared) : Prop := wpAny (model pw w) A (execs ss env) Q E s

theorem run_nil {Q : Flow → Shared → Prop} {s : Shared} (q : Q .next s) : Run w A env [] Q E s := wpAny_execs_nil q
theorem run_assign {x : Str} {px p : Pos} {e : Expr} {rest : List Stmt} {d : D} {ρ : Sg} {Q : Flow → Shared → Prop} (F : Frm w k A B env N s₀) (S : St B env σ s₀ h tk) (ev : EvE w k env σ e d) (hρ : ∀ e ∈ ρ, e ∈ σ) (hx : (ρ.all fun e => e.1 != x) = true) (hN : N.contains x = true)
    (hs : swapsWith e (some (.Name x px)) p.line env = pure false)
    (q : ∀ h' tk', St B env ((x, d) :: ρ) s₀ h' tk' → Sp B h h' → Kd h h' → tk ≤ tk' → Run w A env rest Q E (stAt s₀ h' tk')) : Run w A env (.Assign [.Name x px] e p :: rest) Q E (stAt s₀ h tk) := by
  refine wpAny_execs_cons (wpAny_Assign_Name (ev A B _ E _ (S.pre F) fun v h₁ tk₁ u₁ g₁ hv => ?_) hs)
  exact st_store (s₀ := s₀) F (S.up u₁ g₁) hv hN hρ hx fun h₂ tk₂ S₂ sp kd g => q h₂ tk₂ S₂ (u₁.sp.trans sp) (u₁.kd.trans kd) (Nat.le_trans g₁ g)
theorem run_assignT {es : List Expr} {n : Nat} {pt p : Pos} {e : Expr} {rest : List Stmt} {d : D} {τ : Sg} {Q : Flow → Shared → Prop} (F : Frm w k A B env N s₀) (S : St B env σ s₀ h tk) (ev : EvE w k env σ e d) (as : Asg env N (.Tuple es n pt) d σ τ)
    (hs : swapsWithSole [.Tuple es n pt] e p.line env = pure false) (hw : swappedStores [.Tuple es n pt] e env = pure none)
    (q : ∀ h' tk', St B env τ s₀ h' tk' → Sp B h h' → Kd h h' → tk ≤ tk' → Run w A env rest Q E (stAt s₀ h' tk')) : Run w A env (.Assign [.Tuple es n pt] e p :: rest) Q E (stAt s₀ h tk) := by
  refine wpAny_execs_cons (Assign_Tuple (hs := hs) (hw := hw) (ev A B _ E _ (S.pre F) fun v h₁ tk₁ u₁ g₁ hv => ?_))
  exact as w k A B s₀ h₁ tk₁ v E _ F (S.up u₁ g₁) hv fun h₂ tk₂ S₂ sp kd g => q h₂ tk₂ S₂ (u₁.sp.trans sp) (u₁.kd.trans kd) (Nat.le_trans g₁ g)
/-- two stores, the last one first -/
theorem run_assignS {x y : Str} {px py : Pos} {n : Nat} {pt p : Pos} {e : Expr} {rest : List Stmt} {a b : D} {ρ : Sg} {Q : Flow → Shared → Prop} (F : Frm w k A B env N s₀) (S : St B env σ s₀ h tk) (ev : EvE w k env σ e (.tup [a, b]))
    (hNx : N.contains x = true) (hNy : N.contains y = true) (hρ : ∀ e ∈ ρ, e ∈ σ) (hy : (ρ.all fun e => e.1 != y) = true) (hx : (((y, b) :: ρ).all fun e => e.1 != x) = true)
    (hs : swapsWithSole [.Tuple [.Name x px, .Name y py] n pt] e p.line env = pure false) (hw : swappedStores [.Tuple [.Name x px, .Name y py] n pt] e env = pure (some [x, y]))
    (q : ∀ h' tk', St B env ((x, a) :: (y, b) :: ρ) s₀ h' tk' → Sp B h h' → Kd h h' → tk ≤ tk' → Run w A env rest Q E (stAt s₀ h' tk')) : Run w A env (.Assign [.Tuple [.Name x px, .Name y py] n pt] e p :: rest) Q E (stAt s₀ h tk) := by
  refine wpAny_execs_cons (Assign_Tuple_swapped (hs := hs) (hw := hw) (ev A B _ E _ (S.pre F) fun v h₁ tk₁ u₁ g₁ hv => ?_))
  have S₁ := S.up u₁ g₁
  refine unpack2 F.room.1 (.inl rfl) hv fun u u' h₂ l₂ hu hu' => ?_
  have S₂ := S₁.up l₂ (Nat.le_refl _)
  show wpAny _ A (assignInOrder [bindName env y, bindName env x] [u', u]) _ _ (stAt s₀ h₂ tk₁)
  refine assignInOrder_cons (wpAny_bindName (st_store F S₂ hu' hNy hρ hy fun h₃ tk₃ S₃ sp₃ kd₃ g₃ => ?_))
  refine assignInOrder_cons (wpAny_bindName (st_store F S₃ (hu.sp sp₃) hNx (fun e m => m) hx fun h₄ tk₄ S₄ sp₄ kd₄ g₄ => assignInOrder_nil ?_))
  exact q h₄ tk₄ S₄ (((u₁.trans l₂).sp.trans sp₃).trans sp₄) (((u₁.trans l₂).kd.trans kd₃).trans kd₄) (Nat.le_trans (Nat.le_trans g₁ g₃) g₄)
theorem op_iadd {a b : Int} : Op2 w k (inplaceOp .Add) (.int a) (.int b) (.int (a + b)) := fun A B s E Q u v r F bd hu hv ps q => by
  obtain ⟨t, rfl⟩ := hu.int_inv; obtain ⟨t', rfl⟩ := hv.int_inv
  exact P.iadd_int (q _ _ _ (Le.refl _) (Nat.le_succ _) (.int _ _))
theorem run_aug {x : Str} {px p : Pos} {e : Expr} {op : Operator} {rest : List Stmt} {a b d : D} {ρ : Sg} {Q : Flow → Shared → Prop} (F : Frm w k A B env N s₀) (S : St B env σ s₀ h tk) (ha : (x, a) ∈ σ) (ev : EvE w k env σ e b) (o : Op2 w k (inplaceOp op) a b d)
    (hρ : ∀ e ∈ ρ, e ∈ σ) (hx : (ρ.all fun e => e.1 != x) = true) (hN : N.contains x = true) (hd : (x == ("__classdict__" : Str)) = false)
    (q : ∀ h' tk', St B env ((x, d) :: ρ) s₀ h' tk' → Sp B h h' → Kd h h' → tk ≤ tk' → Run w A env rest Q E (stAt s₀ h' tk')) : Run w A env (.AugAssign (.Name x px) op e p :: rest) Q E (stAt s₀ h tk) := by
  refine wpAny_execs_cons (wpAny_AugAssign_Name ?_)
  have main : ∀ u, Has B h u a → wpAny (model pw w) A (eval e env) (fun v s₂ => wpAny (model pw w) A (inplaceOp op u v) (fun r s₃ => wpAny (model pw w) A (storeName env x r) (fun _ s' => Run w A env rest Q E s') E s₃) E s₂) E (stAt s₀ h tk) := by
    intro u hu
    refine ev A B _ E _ (S.pre F) fun v h₁ tk₁ u₁ g₁ hv => ?_
    have S₁ := S.up u₁ g₁
    have pr := S₁.pre F
    refine o A B (stAt s₀ h₁ tk₁) E _ u v F.room pr.facts pr.bd (hu.le u₁) hv pr.pos fun z h₂ tk₂ u₂ g₂ hz => ?_
    exact st_store (s₀ := s₀) F (S₁.up u₂ g₂) hz hN hρ hx fun h₃ tk₃ S₃ sp kd g => q h₃ tk₃ S₃ ((u₁.trans u₂).sp.trans sp) ((u₁.trans u₂).kd.trans kd) (Nat.le_trans (Nat.le_trans g₁ g₂) g)
  by_cases hl : env.kindOf x = some .local
  · obtain ⟨m, hm, b'⟩ := S.vs.ns
    obtain ⟨v, e, r⟩ := b' x a ha hl
    exact wpAny_loadName_local F.ok.kind hl hm e (main v r)
  · obtain ⟨hk, c, v, e, i, r⟩ := S.vs.cell x a ha hl
    rcases hk with hk | hk
    · exact wpAny_loadName_cell F.ok.kind hk e i (main v r)
    · exact wpAny_loadName_free F.ok.kind hk e i (main v r) hd
theorem run_ret {e : Expr} {p : Pos} {rest : List Stmt} {d : D} {Q : Flow → Shared → Prop} (F : Frm w k A B env N s₀) (S : St B env σ s₀ h tk) (ev : EvE w k env σ e d)
    (q : ∀ v h' tk', Le s₀.heap h' → s₀.toks ≤ tk' → Has B h' v d → Q (.ret v) (stAt s₀ h' tk')) : Run w A env (.Return (some e) p :: rest) Q E (stAt s₀ h tk) :=
  wpAny_execs_cons (wpAny_Return_some (ev A B _ E _ (S.pre F) fun v h₁ tk₁ u₁ g₁ hv => q v h₁ tk₁ (S.keep.trans u₁) (Nat.le_trans S.g g₁) hv))
theorem run_if {t : Expr} {b e : List Stmt} {p : Pos} {rest : List Stmt} {c : Bool} {Q : Flow → Shared → Prop} (F : Frm w k A B env N s₀) (S : St B env σ s₀ h tk) (ts : Ts w k env σ t c)
    (q : ∀ h' tk', St B env σ s₀ h' tk' → Le h h' → tk ≤ tk' → Run w A env (if c then b else e) (fun f s' => match f with | .next => Run w A env rest Q E s' | f => Q f s') E (stAt s₀ h' tk')) : Run w A env (.If t b e p :: rest) Q E (stAt s₀ h tk) := by
  refine wpAny_execs_cons (wpAny_If (ts A B _ E _ (S.pre F) fun h₁ tk₁ u₁ g₁ => ?_))
  have := q h₁ tk₁ (S.up u₁ g₁) u₁ g₁
  cases c <;> exact this
theorem run_expr {e : Expr} {p : Pos} {rest : List Stmt} {d : D} {Q : Flow → Shared → Prop} (F : Frm w k A B env N s₀) (S : St B env σ s₀ h tk) (ev : EvE w k env σ e d)
    (q : ∀ h' tk', St B env σ s₀ h' tk' → Le h h' → tk ≤ tk' → Run w A env rest Q E (stAt s₀ h' tk')) (hi : interactive env = false) (hs : swapsWith e none p.line env = pure false) : Run w A env (.Expr e p :: rest) Q E (stAt s₀ h tk) :=
  wpAny_execs_cons (wpAny_Expr_any (ev A B _ E _ (S.pre F) fun v h₁ tk₁ u₁ g₁ hv => q h₁ tk₁ (S.up u₁ g₁) u₁ g₁) hi hs)
end
end Mine

set_option maxRecDepth 100000
set_option linter.unusedVariables false
namespace Mine
open PySem PySem.W PyProof.Rows

section
variable {w : World} {k : Nat} {A : Around} {B : List Addr} {env : Env} {N : List Str} {σ : Sg} {s₀ : Shared} {h : Heap} {tk : Nat} {E : Value → Shared → Prop}

theorem bindL_not {kd : Str → Option NameKind} {x : Str} : ∀ {r : List (Str × Value)} {m : Str → Option Value}, (∀ p ∈ r, p.1 ≠ x) → bindL kd r m x = m x
  | [], m, _ => rfl
  | (n, v) :: r, m, h => by
      rw [bindL, bindL_not fun p hp => h p (.tail _ hp)]
      have : x ≠ n := fun e => h (n, v) (.head _) e.symm
      split
      · simp [this]
      · rfl
theorem bindC_not {kd : Str → Option NameKind} {x : Str} : ∀ {r : List (Str × Value)} {m : Str → Option Value}, (∀ p ∈ r, p.1 ≠ x) → bindC kd r m x = m x
  | [], m, _ => rfl
  | (n, v) :: r, m, h => by
      rw [bindC, bindC_not fun p hp => h p (.tail _ hp)]
      have : x ≠ n := fun e => h (n, v) (.head _) e.symm
      split
      · rfl
      · simp [this]
theorem bindL_at {kd : Str → Option NameKind} {x : Str} {v : Value} (hk : kd x = some .local) : ∀ {r : List (Str × Value)} {m : Str → Option Value}, (r.map (·.1)).Nodup → (x, v) ∈ r → bindL kd r m x = some v
  | (n, u) :: r, m, nd, hm => by
      rw [List.map_cons, List.nodup_cons] at nd
      rw [bindL]
      rcases List.mem_cons.mp hm with e | hm
      · cases e
        rw [bindL_not, if_pos hk]
        · simp
        · intro p hp e; exact nd.1 (List.mem_map.mpr ⟨p, hp, e⟩)
      · exact bindL_at hk nd.2 hm
theorem bindC_at {kd : Str → Option NameKind} {x : Str} {v : Value} (hk : kd x ≠ some .local) : ∀ {r : List (Str × Value)} {m : Str → Option Value}, (r.map (·.1)).Nodup → (x, v) ∈ r → bindC kd r m x = some v
  | (n, u) :: r, m, nd, hm => by
      rw [List.map_cons, List.nodup_cons] at nd
      rw [bindC]
      rcases List.mem_cons.mp hm with e | hm
      · cases e
        rw [bindC_not, if_neg hk]
        · simp
        · intro p hp e; exact nd.1 (List.mem_map.mpr ⟨p, hp, e⟩)
      · exact bindC_at hk nd.2 hm
theorem zip_mem {B : List Addr} {h : Heap} {x : Str} {d : D} : ∀ {ns : List Str} {vs : List Value} {ds : List D}, HasAll B h vs ds → (x, d) ∈ ns.zip ds → ∃ v, (x, v) ∈ ns.zip vs ∧ Has B h v d
  | [], _, _, _, m => by simp at m
  | n :: ns, _, _, .nil, m => by simp at m
  | n :: ns, v :: vs, d' :: ds, .cons a r, m => by
      rw [List.zip_cons_cons] at m ⊢
      rcases List.mem_cons.mp m with e | m
      · cases e; exact ⟨v, .head _, a⟩
      · obtain ⟨v', m', r'⟩ := zip_mem r m
        exact ⟨v', .tail _ m', r'⟩

/-- the function at `a`, its text statement `i` -/
structure FnAt' (P : Params) (a : Addr) (i : Nat) (df kf : Value) (fd : FuncData) : Prop where
  mem : ∃ o, (a, o) ∈ KK P ∧ o.data = .func fd
  body : fd.body = .stmts (fnBody i)
  scope : fd.scope = fnScope i
  clo : fd.closure = []
  glob : fd.globals = mainGlobals
  blt : fd.builtins = builtinsNs
  df : fd.defaults = df
  kf : fd.kwdefaults = kf
  par : fd.params = fnArgs i
  code : ∃ c o vs t, fd.code = .ref c ∧ (c, o) ∈ KK P ∧ o.data = .fields vs ∧ vs[1]? = some (.str fd.qualname t)

noncomputable def mkfd (i : Nat) (qn : Str) (df kf md cd : Value) : FuncData := ⟨fnName i, qn, fnArgs i, .stmts (fnBody i), fnScope i, 3, [], df, kf, .none, md, none, cd, .none, 0⟩
structure FnAt (P : Params) (a : Addr) (i : Nat) (qn : Str) (df kf md : Value) (c : Addr) : Prop where
  mem : ∃ o, (a, o) ∈ KK P ∧ o.data = .func (mkfd i qn df kf md (.ref c))
  code : ∃ o vs t, (c, o) ∈ KK P ∧ o.data = .fields vs ∧ vs[1]? = some (.str qn t)
theorem FnAt.to {P : Params} {a : Addr} {i : Nat} {qn : Str} {df kf md : Value} {c : Addr} (x : FnAt P a i qn df kf md c) : FnAt' P a i df kf (mkfd i qn df kf md (.ref c)) :=
  ⟨x.mem, rfl, rfl, rfl, rfl, rfl, rfl, rfl, rfl, let ⟨o, vs, t, r⟩ := x.code; ⟨c, o, vs, t, rfl, r⟩⟩
theorem FnAt.kp {a : Addr} {i : Nat} {qn : Str} {df kf md : Value} {c : Addr} (x : ∀ P, FnAt P a i qn df kf md c) : Kp w (.ref a) := fun h F =>
  let ⟨o, m, d⟩ := (x w.params).mem
  ⟨.frame, .inl rfl, (Looks.ld (part := none) (F.K _ m)).andThen (by rw [d]; exact .now)⟩

/-- the text of statement `i`, from `σ`, gives `d`; what stood stands -/
noncomputable def Bd (w : World) (k : Nat) (i : Nat) (N : List Str) (σ : Sg) (d : D) : Prop :=
  ∀ (A : Around) (B : List Addr) (env : Env) (s₀ : Shared) (h : Heap) (tk : Nat) (E : Value → Shared → Prop) (Q : Flow → Shared → Prop), env.scope = fnScope i → Frm w k A B env N s₀ → St B env σ s₀ h tk →
    (∀ f h' tk', Le s₀.heap h' → s₀.toks ≤ tk' → Has B h' (match f with | .ret v => v | _ => .none) d → Q f (stAt s₀ h' tk')) → Run w A env (fnBody i) Q E (stAt s₀ h tk)

/-- a call, entered -/
theorem fn_enter {a : Addr} {i : Nat} {df kf : Value} {fd : FuncData} {vs : List Value} {kws : List (Str × Value)} {ns : List Str} {us : List Value} {s : Shared} {Q : Value → Shared → Prop}
    (X : FnAt' w.params a i df kf fd) (r : Room (k + 1) A) (F : Facts w s.heap) (bd : ∀ b ∈ B, Al s.heap b) (ps : 0 < s.toks)
    (hb : BindsTo s fd ⟨vs, kws⟩ (ns.zip us)) (hn : ns.Nodup) (hl : us.length = ns.length)
    (hk : ns.all (fun x => (fnScope i).names.lookup x == some .local || ((fnScope i).names.lookup x == some .cell && N.contains x)) = true)
    (hN : ∀ L, N.all (fun x => (fnScope i).names.lookup x == some .local || ((fnScope i).names.lookup x == some .cell && ((cellsFrom L (fnScope i).names []).lookup x).isSome)) = true)
    (hs : (fnScope i).isCoroutine = false ∧ (fnScope i).isGenerator = false ∧ (fnScope i).kind = .function)
    (q : ∀ (env : Env) (B' : List Addr) (h' : Heap) (tk : Nat), env.scope = fnScope i → (∀ b ∈ B, b ∈ B') → Frm w k (A.deeper env) B' env N s → (∀ ds, HasAll B s.heap us ds → St B' env (ns.zip ds) s h' tk) →
      Run w (A.deeper env) env (fnBody i) (fun f s' => Q (match f with | .ret v => v | _ => .none) s') (fun e s' => wpAny (model pw w) (A.deeper env) (leaving env e) (fun _ s'' => E e s'') (fun e' s'' => E e' s'') s') (stAt s h' tk)) :
    wpAny (model pw w) A (call (.ref a) vs kws) Q E s := by
  obtain ⟨o, hm, hd⟩ := X.mem
  obtain ⟨c, oc, cvs, ct, hc1, hc2, hc3, hc4⟩ := X.code
  obtain ⟨mean, mg, mb, T⟩ := F.T
  refine wpAny_call (codeAny_call_function (by have := r.2.1; show A.depth < 1000; omega) (F.K _ hm) hd (by rw [X.scope]; exact hs.1) (by rw [X.scope]; exact hs.2.1) X.body ⟨c, oc, cvs, ct, hc1, F.K _ hc2, hc3, hc4⟩ ?_)
  refine hb _ _ _ _ ?_
  rw [X.clo]
  have hk' : ∀ x ∈ ns, (fnScope i).names.lookup x = some .local ∨ ((fnScope i).names.lookup x = some .cell ∧ N.contains x = true) := fun x hx => by
    have := List.all_eq_true.mp hk x hx
    simpa using this
  have hN' : ∀ L x, N.contains x = true → (fnScope i).names.lookup x = some .local ∨ ((fnScope i).names.lookup x = some .cell ∧ ((cellsFrom L (fnScope i).names []).lookup x).isSome = true) := fun L x hx => by
    have := List.all_eq_true.mp (hN L) x (by simpa using hx)
    simpa using this
  refine wpAny_with_toks (Nat.le_refl s.toks) (wpAny_newFunctionEnv_cells (by rw [X.scope]; exact hs.2.2) ?_ fun env he s' x g => ?_)
  · intro p hp
    have hx : p.1 ∈ ns := (List.of_mem_zip hp).1
    rw [X.scope]
    rcases hk' _ hx with h1 | ⟨h1, h2⟩
    · exact .inl h1
    · rcases hN' (s.heap.objs.size + 1) _ h2 with h3 | h3
      · exact .inl h3
      · exact .inr h3
  have e1 : env.scope = fnScope i := by rw [he]; exact X.scope
  have e2 : env.locals = s.heap.objs.size := by rw [he]; rfl
  have e3 : env.cells = cellsFrom (s.heap.objs.size + 1) (fnScope i).names [] := by rw [he, ← X.scope]; rfl
  have kd : ∀ y, env.kindOf y = (fnScope i).names.lookup y := fun y => by rw [← e1]; rfl
  have fr : ∀ n, s.heap.objs.size ≤ n → s.heap.get? n = none := fun n hn => by
    cases e : s.heap.get? n with
    | none => rfl
    | some o => exact absurd (Heap.lt_size e) (Nat.not_lt.mpr hn)
  obtain ⟨h', tk, es⟩ := x.toInCall.same
  have keep := x.toInCall.keep
  have nsx := x.toInCall.ns
  have cellx := x.cell
  rw [es] at keep nsx cellx g
  have above := x.above
  rw [es]
  have nolim : h'.NoLimit := T.nolimit.keeps keep
  refine ⟨nolim, codeAny_func ?_⟩
  have cl : ∀ y c, env.cells.lookup y = some c → c ∈ (env.locals :: (env.cells.filterMap (fun p => env.cells.lookup p.1) ++ B)) ∧ s.heap.objs.size ≤ c := fun y c e =>
    ⟨.tail _ (List.mem_append.mpr (.inl (List.mem_filterMap.mpr ⟨(y, c), mem_of_lookup e, e⟩))), Nat.le_of_lt (e2 ▸ above y c (mem_of_lookup e))⟩
  refine q env (env.locals :: (env.cells.filterMap (fun p => env.cells.lookup p.1) ++ B)) h' tk e1 (fun b hb => .tail _ (List.mem_append.mpr (.inr hb))) ?_ ?_
  · refine ⟨r.deeper, ⟨by rw [e1]; exact hs.2.2, by rw [he]; exact X.glob, by rw [he]; exact X.blt⟩, F, .head _, by rw [e2]; exact Nat.le_refl _, (fun x' y c _ _ h1 h2 => name_of_addr x.apart (mem_of_lookup h2) (mem_of_lookup h1)), fun y hy => ?_, ps⟩
    rcases hN' (s.heap.objs.size + 1) y hy with h3 | ⟨h3, h4⟩
    · exact .inl ((kd y).trans h3)
    · obtain ⟨c, hc⟩ := Option.isSome_iff_exists.mp h4
      rw [← e3] at hc
      exact .inr ⟨(kd y).trans h3, c, hc, cl y c hc⟩
  · intro ds hu
    have hu' : HasAll (env.locals :: (env.cells.filterMap (fun p => env.cells.lookup p.1) ++ B)) h' us ds := by
      refine (hu.add fun c m => ?_).le keep
      rcases List.mem_cons.mp m with e | m
      · exact .inr (by rw [e, e2]; exact fresh_none _)
      · rcases List.mem_append.mp m with m | m
        · obtain ⟨⟨n, c'⟩, hm', hc'⟩ := List.mem_filterMap.mp m
          exact .inr (fr _ (Nat.le_of_lt (e2 ▸ above n c (mem_of_lookup hc'))))
        · exact .inl m
    have nd : ((ns.zip us).map (·.1)).Nodup := by rw [List.map_fst_zip (by omega)]; exact hn
    refine ⟨⟨⟨_, nsx, fun y d m l => ?_⟩, fun y d m l => ?_⟩, keep, g, fun b hb => ?_, fun y c e => ⟨_, cellx y c e⟩⟩
    · obtain ⟨v, mv, hv⟩ := zip_mem hu' m
      exact ⟨v, bindL_at l nd mv, hv⟩
    · obtain ⟨v, mv, hv⟩ := zip_mem hu' m
      rcases hk' y (List.of_mem_zip m).1 with h1 | ⟨h1, h2⟩
      · exact absurd ((kd y).trans h1) l
      · rcases hN' (s.heap.objs.size + 1) y h2 with h3 | ⟨h3, h4⟩
        · exact absurd ((kd y).trans h3) l
        · obtain ⟨c, hc⟩ := Option.isSome_iff_exists.mp h4
          rw [← e3] at hc
          refine ⟨.inl ((kd y).trans h3), c, v, hc, ?_, hv⟩
          have := cellx y c hc
          rwa [bindC_at l nd mv] at this
    · rcases List.mem_cons.mp hb with e | m
      · rw [e]; obtain ⟨o, _, _, eo, _⟩ := nsx; exact ⟨o, eo⟩
      · rcases List.mem_append.mp m with m | m
        · obtain ⟨⟨n, c'⟩, hm', hc'⟩ := List.mem_filterMap.mp m
          obtain ⟨o, e, _⟩ := cellx n b hc'
          exact ⟨o, e⟩
        · exact (bd b m).le keep

theorem hasAll_one {B : List Addr} {h : Heap} {vs : List Value} {a : D} (x : HasAll B h vs [a]) : ∃ u, vs = [u] ∧ Has B h u a := by
  cases x with
  | cons p x => cases x with
    | nil => exact ⟨_, rfl, p⟩
theorem Vs.both {h : Heap} {σ τ : Sg} (x : Vs B env h σ) (y : Vs B env h τ) : Vs B env h (σ ++ τ) where
  ns := by
    obtain ⟨m, hm, a⟩ := x.ns
    obtain ⟨m', hm', b⟩ := y.ns
    refine ⟨m, hm, fun z d e l => ?_⟩
    rcases List.mem_append.mp e with e | e
    · exact a z d e l
    · obtain ⟨v, e', r⟩ := b z d e l
      refine ⟨v, ?_, r⟩
      obtain ⟨o, es, ep, p1, p2, _, p3⟩ := hm
      obtain ⟨o', es', ep', q1, q2, _, q3⟩ := hm'
      rw [p1] at q1; cases q1
      rw [p2] at q2; cases q2
      rw [← p3, q3]; exact e'
  cell := fun z d e l => (List.mem_append.mp e).elim (fun e => x.cell z d e l) (fun e => y.cell z d e l)
theorem St.both {h : Heap} {σ τ : Sg} {s₀ : Shared} {tk : Nat} (x : St B env σ s₀ h tk) (y : St B env τ s₀ h tk) : St B env (σ ++ τ) s₀ h tk := ⟨x.vs.both y.vs, x.keep, x.g, x.bd, x.cells⟩
/-- a text that answers, called -/
theorem fn_of {a : Addr} {i : Nat} {df kf : Value} {fd : Params → FuncData} {ns : List Str} {ds : List D} {d : D} (X : ∀ P, FnAt' P a i df kf (fd P)) (b : Bd w k i N (ns.zip ds) d) (hb : ∀ P (vs : List Value), vs.length = ns.length → bindArgs (fd P) ⟨vs, []⟩ = pure (ns.zip vs)) (hn : ns.Nodup) (hl : ds.length = ns.length)
    (hk : ns.all (fun x => (fnScope i).names.lookup x == some .local || ((fnScope i).names.lookup x == some .cell && N.contains x)) = true)
    (hN : ∀ L, N.all (fun x => (fnScope i).names.lookup x == some .local || ((fnScope i).names.lookup x == some .cell && ((cellsFrom L (fnScope i).names []).lookup x).isSome)) = true)
    (hs : (fnScope i).isCoroutine = false ∧ (fnScope i).isGenerator = false ∧ (fnScope i).kind = .function) : Fn w (k + 1) (.ref a) ds [] [] d := fun A B s E Q vs ws r F bd hv hw ps q => by
  cases hw
  have hlv : vs.length = ns.length := hv.length.trans hl
  refine fn_enter (X w.params) r F bd ps (.of_eq (hb _ vs hlv)) hn hlv hk hN hs fun env B' h' tk he sub F' S => ?_
  exact b _ B' env s h' tk _ _ he F' (S _ hv) fun f h₂ tk₂ u g hd => q _ h₂ tk₂ u g (hd.sub sub)
end
end Mine

set_option maxRecDepth 100000
namespace Mine
open PySem PySem.W PyProof.Rows
theorem fx_lt (P : Params) : FnAt P 21 1 (Str.ofString "lt") .none .none (.str (Str.ofString "cpy313.operator") 187) 20 := ⟨⟨o21 P, List.mem_of_getElem? (i := 5) rfl, rfl⟩, ⟨o20 P, _, _, List.mem_of_getElem? (i := 4) rfl, rfl, rfl⟩⟩
theorem fx_eq (P : Params) : FnAt P 28 2 (Str.ofString "eq") .none .none (.str (Str.ofString "cpy313.operator") 187) 27 := ⟨⟨o28 P, List.mem_of_getElem? (i := 10) rfl, rfl⟩, ⟨o27 P, _, _, List.mem_of_getElem? (i := 9) rfl, rfl, rfl⟩⟩
theorem fx_add (P : Params) : FnAt P 35 3 (Str.ofString "add") .none .none (.str (Str.ofString "cpy313.operator") 187) 34 := ⟨⟨o35 P, List.mem_of_getElem? (i := 15) rfl, rfl⟩, ⟨o34 P, _, _, List.mem_of_getElem? (i := 14) rfl, rfl, rfl⟩⟩
theorem fx_floordiv (P : Params) : FnAt P 42 4 (Str.ofString "floordiv") .none .none (.str (Str.ofString "cpy313.operator") 187) 41 := ⟨⟨o42 P, List.mem_of_getElem? (i := 20) rfl, rfl⟩, ⟨o41 P, _, _, List.mem_of_getElem? (i := 19) rfl, rfl, rfl⟩⟩
theorem fx_mul (P : Params) : FnAt P 49 5 (Str.ofString "mul") .none .none (.str (Str.ofString "cpy313.operator") 187) 48 := ⟨⟨o49 P, List.mem_of_getElem? (i := 25) rfl, rfl⟩, ⟨o48 P, _, _, List.mem_of_getElem? (i := 24) rfl, rfl, rfl⟩⟩
theorem fx_neg (P : Params) : FnAt P 56 6 (Str.ofString "neg") .none .none (.str (Str.ofString "cpy313.operator") 187) 55 := ⟨⟨o56 P, List.mem_of_getElem? (i := 30) rfl, rfl⟩, ⟨o55 P, _, _, List.mem_of_getElem? (i := 29) rfl, rfl, rfl⟩⟩
theorem fx_concat (P : Params) : FnAt P 63 7 (Str.ofString "concat") .none .none (.str (Str.ofString "cpy313.operator") 187) 62 := ⟨⟨o63 P, List.mem_of_getElem? (i := 35) rfl, rfl⟩, ⟨o62 P, _, _, List.mem_of_getElem? (i := 34) rfl, rfl, rfl⟩⟩
theorem fx_countOf (P : Params) : FnAt P 70 8 (Str.ofString "countOf") .none .none (.str (Str.ofString "cpy313.operator") 187) 69 := ⟨⟨o70 P, List.mem_of_getElem? (i := 40) rfl, rfl⟩, ⟨o69 P, _, _, List.mem_of_getElem? (i := 39) rfl, rfl, rfl⟩⟩
theorem fx_setitem (P : Params) : FnAt P 77 9 (Str.ofString "setitem") .none .none (.str (Str.ofString "cpy313.operator") 187) 76 := ⟨⟨o77 P, List.mem_of_getElem? (i := 45) rfl, rfl⟩, ⟨o76 P, _, _, List.mem_of_getElem? (i := 44) rfl, rfl, rfl⟩⟩
theorem fx_insort_left (P : Params) : FnAt P 86 11 (Str.ofString "insort_left") (.ref 78) (.ref 79) (.str (Str.ofString "cpy313.bisect") 264) 85 := ⟨⟨o86 P, List.mem_of_getElem? (i := 52) rfl, rfl⟩, ⟨o85 P, _, _, List.mem_of_getElem? (i := 51) rfl, rfl, rfl⟩⟩
theorem fx_bisect_left (P : Params) : FnAt P 95 12 (Str.ofString "bisect_left") (.ref 87) (.ref 88) (.str (Str.ofString "cpy313.bisect") 264) 94 := ⟨⟨o95 P, List.mem_of_getElem? (i := 59) rfl, rfl⟩, ⟨o94 P, _, _, List.mem_of_getElem? (i := 58) rfl, rfl, rfl⟩⟩
theorem fx_in_table_b1 (P : Params) : FnAt P 113 15 (Str.ofString "in_table_b1") .none .none (.str (Str.ofString "cpy313.stringprep") 293) 112 := ⟨⟨o113 P, List.mem_of_getElem? (i := 67) rfl, rfl⟩, ⟨o112 P, _, _, List.mem_of_getElem? (i := 66) rfl, rfl, rfl⟩⟩
theorem fx_map_table_b3 (P : Params) : FnAt P 159 17 (Str.ofString "map_table_b3") .none .none (.str (Str.ofString "cpy313.stringprep") 293) 158 := ⟨⟨o159 P, List.mem_of_getElem? (i := 72) rfl, rfl⟩, ⟨o158 P, _, _, List.mem_of_getElem? (i := 71) rfl, rfl, rfl⟩⟩
theorem fx_law_typed (P : Params) : FnAt P 166 19 (Str.ofString "_law_typed") .none .none (.str (Str.ofString "law_uc0026_01") 2321) 165 := ⟨⟨o166 P, List.mem_of_getElem? (i := 77) rfl, rfl⟩, ⟨o165 P, _, _, List.mem_of_getElem? (i := 76) rfl, rfl, rfl⟩⟩
theorem fx_law_prepared (P : Params) : FnAt P 173 20 (Str.ofString "_law_prepared") .none .none (.str (Str.ofString "law_uc0026_01") 2321) 172 := ⟨⟨o173 P, List.mem_of_getElem? (i := 82) rfl, rfl⟩, ⟨o172 P, _, _, List.mem_of_getElem? (i := 81) rfl, rfl, rfl⟩⟩
theorem fx_law_word (P : Params) : FnAt P 180 21 (Str.ofString "_law_word") .none .none (.str (Str.ofString "law_uc0026_01") 2321) 179 := ⟨⟨o180 P, List.mem_of_getElem? (i := 87) rfl, rfl⟩, ⟨o179 P, _, _, List.mem_of_getElem? (i := 86) rfl, rfl, rfl⟩⟩
theorem fx_law_gathered (P : Params) : FnAt P 187 22 (Str.ofString "_law_gathered") .none .none (.str (Str.ofString "law_uc0026_01") 2321) 186 := ⟨⟨o187 P, List.mem_of_getElem? (i := 92) rfl, rfl⟩, ⟨o186 P, _, _, List.mem_of_getElem? (i := 91) rfl, rfl, rfl⟩⟩
theorem fx_law_cut (P : Params) : FnAt P 192 23 (Str.ofString "_law_cut") .none .none (.str (Str.ofString "law_uc0026_01") 2321) 191 := ⟨⟨o192 P, List.mem_of_getElem? (i := 95) rfl, rfl⟩, ⟨o191 P, _, _, List.mem_of_getElem? (i := 94) rfl, rfl, rfl⟩⟩
theorem fx_law_brackets (P : Params) : FnAt P 197 24 (Str.ofString "_law_brackets") .none .none (.str (Str.ofString "law_uc0026_01") 2321) 196 := ⟨⟨o197 P, List.mem_of_getElem? (i := 98) rfl, rfl⟩, ⟨o196 P, _, _, List.mem_of_getElem? (i := 97) rfl, rfl, rfl⟩⟩
theorem fx_law_ways (P : Params) : FnAt P 202 25 (Str.ofString "_law_ways") .none .none (.str (Str.ofString "law_uc0026_01") 2321) 201 := ⟨⟨o202 P, List.mem_of_getElem? (i := 101) rfl, rfl⟩, ⟨o201 P, _, _, List.mem_of_getElem? (i := 100) rfl, rfl, rfl⟩⟩
theorem fx_law_shuffles (P : Params) : FnAt P 207 26 (Str.ofString "_law_shuffles") .none .none (.str (Str.ofString "law_uc0026_01") 2321) 206 := ⟨⟨o207 P, List.mem_of_getElem? (i := 104) rfl, rfl⟩, ⟨o206 P, _, _, List.mem_of_getElem? (i := 103) rfl, rfl, rfl⟩⟩
theorem fx_law_measured (P : Params) : FnAt P 214 27 (Str.ofString "_law_measured") .none .none (.str (Str.ofString "law_uc0026_01") 2321) 213 := ⟨⟨o214 P, List.mem_of_getElem? (i := 109) rfl, rfl⟩, ⟨o213 P, _, _, List.mem_of_getElem? (i := 108) rfl, rfl, rfl⟩⟩
theorem fx_law (P : Params) : FnAt P 219 28 (Str.ofString "law") .none .none (.str (Str.ofString "law_uc0026_01") 2321) 218 := ⟨⟨o219 P, List.mem_of_getElem? (i := 112) rfl, rfl⟩, ⟨o218 P, _, _, List.mem_of_getElem? (i := 111) rfl, rfl, rfl⟩⟩
end Mine

set_option maxRecDepth 100000
set_option linter.unusedVariables false
namespace Mine
open PySem PySem.W PyProof.Rows

/-- all but dicts, cells and `O` stays -/
noncomputable def Ko (O : List Addr) (h h' : Heap) : Prop := ∀ b o, b ∉ O → NotNm o → h.get? b = some o → h'.get? b = some o
theorem Kd.ko {h h' : Heap} {O : List Addr} (x : Kd h h') : Ko O h h' := fun b o _ n e => x b o n e
theorem Ko.kd {h h' : Heap} (x : Ko [] h h') : Kd h h' := fun b o n e => x b o List.not_mem_nil n e
theorem Ko.trans {O : List Addr} {a b c : Heap} (x : Ko O a b) (y : Ko O b c) : Ko O a c := fun d o m n e => y d o m n (x d o m n e)
theorem Ko.refl (O : List Addr) (h : Heap) : Ko O h h := fun _ _ _ _ e => e

section
variable {w : World} {k : Nat} {A : Around} {B : List Addr} {env : Env} {N : List Str} {σ : Sg} {s₀ : Shared} {h : Heap} {tk : Nat} {E : Value → Shared → Prop}

theorem Frm.add (F : Frm w k A B env N s₀) (I : Addr) : Frm w k A (I :: B) env N s₀ :=
  ⟨F.room, F.ok, F.facts, .tail _ F.locB, F.locF, F.apart, fun x hx => (F.wr x hx).imp id fun ⟨a, c, b, d, e⟩ => ⟨a, c, b, .tail _ d, e⟩, F.pos⟩

/-- an object off the names turns -/
theorem St.but (S : St B env σ s₀ h tk) {I : Addr} {h' : Heap} {tk' : Nat} (hI : I ∈ B) (x : Heap.ExtBut I h h') (n1 : I ≠ env.locals) (n2 : ∀ y c, env.cells.lookup y = some c → I ≠ c) (n3 : s₀.heap.objs.size ≤ I) (n4 : Al h' I) (g : tk ≤ tk') : St B env σ s₀ h' tk' := by
  have sp : Sp B h h' := sp_own hI x
  have ce : ∀ {c : Addr} {v : Option Value}, h.IsCell c v → I ≠ c → h'.IsCell c v := fun ⟨o, e, d⟩ n => ⟨o, x _ o (Ne.symm n) e, d⟩
  refine ⟨⟨?_, fun y d m l => ?_⟩, fun b o e => x b o (Nat.ne_of_lt (Nat.lt_of_lt_of_le (Heap.lt_size e) n3)) (S.keep b o e), Nat.le_trans S.g g, fun b hb => ?_, fun y c e => ?_⟩
  · obtain ⟨m, hm, hv⟩ := S.vs.ns
    refine ⟨m, hm.at' fun o e => x _ o (Ne.symm n1) e, fun y d e l => ?_⟩
    obtain ⟨v, p, r⟩ := hv y d e l
    exact ⟨v, p, r.sp sp⟩
  · obtain ⟨a, c, v, p, r, t⟩ := S.vs.cell y d m l
    exact ⟨a, c, v, p, ce r (n2 _ _ p), t.sp sp⟩
  · by_cases hb' : b = I
    · rw [hb']; exact n4
    · obtain ⟨o, e⟩ := S.bd b hb; exact ⟨o, x b o hb' e⟩
  · obtain ⟨v, z⟩ := S.cells y c e
    exact ⟨v, ce z (n2 _ _ e)⟩
theorem St.addI (S : St B env σ s₀ h tk) {I : Addr} {h' : Heap} (u : Le h h') (n : h.get? I = none) (a : Al h' I) : St (I :: B) env σ s₀ h' tk := by
  have S' := S.up u (Nat.le_refl tk)
  refine ⟨?_, S'.keep, S'.g, fun b hb => ?_, S'.cells⟩
  · refine Vs.le (S.vs.add fun c m => ?_) u
    rcases List.mem_cons.mp m with e | m
    · rw [e]; exact .inr n
    · exact .inl m
  · rcases List.mem_cons.mp hb with e | m
    · rw [e]; exact a
    · exact S'.bd b m
theorem St.drop {I : Addr} (S : St (I :: B) env σ s₀ h tk) {h' : Heap} {tk' : Nat} (x : Heap.ExtBut I h h') (nb : ∀ b ∈ B, b ≠ I) (n1 : I ≠ env.locals) (n2 : ∀ y c, env.cells.lookup y = some c → I ≠ c) (n3 : s₀.heap.objs.size ≤ I) (g : tk ≤ tk') : St B env σ s₀ h' tk' := by
  have sp : Sp (I :: B) h h' := sp_own (.head _) x
  have sb : ∀ c ∈ B, c ∈ I :: B := fun c m => .tail _ m
  have ce : ∀ {c : Addr} {v : Option Value}, h.IsCell c v → I ≠ c → h'.IsCell c v := fun ⟨o, e, d⟩ n => ⟨o, x _ o (Ne.symm n) e, d⟩
  refine ⟨⟨?_, fun y d m l => ?_⟩, fun b o e => x b o (Nat.ne_of_lt (Nat.lt_of_lt_of_le (Heap.lt_size e) n3)) (S.keep b o e), Nat.le_trans S.g g, fun b hb => ?_, fun y c e => ?_⟩
  · obtain ⟨m, hm, hv⟩ := S.vs.ns
    refine ⟨m, hm.at' fun o e => x _ o (Ne.symm n1) e, fun y d e l => ?_⟩
    obtain ⟨v, p, r⟩ := hv y d e l
    exact ⟨v, p, (r.sp sp).sub sb⟩
  · obtain ⟨a, c, v, p, r, t⟩ := S.vs.cell y d m l
    exact ⟨a, c, v, p, ce r (n2 _ _ p), (t.sp sp).sub sb⟩
  · obtain ⟨o, e⟩ := S.bd b (.tail _ hb); exact ⟨o, x b o (nb b hb) e⟩
  · obtain ⟨v, z⟩ := S.cells y c e
    exact ⟨v, ce z (n2 _ _ e)⟩
theorem St.sub {B' : List Addr} (S : St B' env σ s₀ h tk) (s : ∀ b ∈ B, b ∈ B') : St B env σ s₀ h tk := ⟨S.vs.sub s, S.keep, S.g, fun b hb => S.bd b (s b hb), S.cells⟩

theorem loopL {R : Result → Shared → Prop} {target : Expr} {it : Value} {body : List Stmt} {s : Shared} (I : Nat → Shared → Prop)
    (turn : ∀ n s, I n s → wpAny (model pw w) A (pyNext it) (fun r s₁ => match r with
      | none => R (.ok .next) s₁
      | some v => wpAny (model pw w) A (letOwnedTupleGo target it v) (fun _ s₀ => wpAny (model pw w) A (assign target env v) (fun _ s₂ => wpAny (model pw w) A (execs body env) (fun f s₃ => match f with
          | .next | .cont => ∃ m, m < n ∧ I m s₃
          | .brk => R (.ok .next) s₃
          | .ret v => R (.ok (.ret v)) s₃) (notedBy (model pw w) A env fun e s' => R (.error e) s') s₂) (notedBy (model pw w) A env fun e s' => R (.error e) s') s₀) (notedBy (model pw w) A env fun e s' => R (.error e) s') s₁) (notedBy (model pw w) A env fun e s' => R (.error e) s') s)
    (n : Nat) (h : I n s) : codeAny (model pw w) A (.forLoop target it body [] env) R s := by
  refine codeAny_loop' rfl I (fun n s hI => ?_) n h
  show wpAny _ _ ((forTurn target it body [] env).onRaise (fun x => do noteFrame x env; theTreesLotGoes x)) _ _ s
  refine wpAny_noted ?_
  simp only [forTurn]
  refine wpAny_bind (wpAny_standAt (wpAny_bind (wpAny_onRaise (wpAny_mono (turn n s hI) (fun r s₁ h₁ => ?_) fun _ _ h' => wpAny_standAt h'))))
  cases r with
  | none => exact wpAny_pure (.inr ⟨rfl, codeAny_block (wpAny_execs_nil h₁)⟩)
  | some v =>
    refine wpAny_bind (wpAny_mono h₁ (fun _ s₀ h₀ => ?_) fun _ _ h' => h')
    refine wpAny_bind (wpAny_mono h₀ (fun _ s₂ h₂ => wpAny_bind (wpAny_mono h₂ (fun f s₃ h₃ => ?_) fun _ _ h' => h')) fun _ _ h' => h')
    cases f with
    | next => exact wpAny_pure (.inl ⟨rfl, h₃⟩)
    | cont => exact wpAny_pure (.inl ⟨rfl, h₃⟩)
    | brk => exact wpAny_pure h₃
    | ret v => exact wpAny_pure h₃

theorem al_ne {a b : Addr} {h : Heap} (x : Al h a) (n : h.get? b = none) : a ≠ b := fun e => by obtain ⟨o, y⟩ := x; rw [e, n] at y; cases y

theorem run_forX {t iter : Expr} {body rest : List Stmt} {p : Pos} {d : D} {ds : List D} {σI τI : Nat → Sg} {Q : Flow → Shared → Prop} {X : Heap → Addr → Nat → Heap → Prop} (F : Frm w k A B env N s₀) (S : St B env σ s₀ h tk) (ev : EvE w k env σ iter d) (hi : d.items = some ds) (hs : d.small)
    (h0 : ∀ e ∈ σI 0, e ∈ σ) (start : ∀ hL I h', Le h hL → Le hL h' → hL.get? I = none → X hL I 0 h')
    (keep : ∀ hL I i h h', X hL I i h → Sp (I :: B) h h' → (∀ b o, b ≠ I → NotNm o → h.get? b = some o → h'.get? b = some o) → X hL I i h')
    (as : ∀ i di, ds[i]? = some di → Asg env N t di (σI i) (τI i))
    (turn : ∀ i di hL I h₁ tk₁ E', ds[i]? = some di → Le h hL → hL.get? I = none → Frm w k A (I :: B) env N s₀ → St (I :: B) env (τI i) s₀ h₁ tk₁ → X hL I i h₁ → (∃ o, h₁.get? I = some o ∧ NotNm o) →
      Run w A env body (fun f s' => match f with
        | .next => ∃ h₂ tk₂, s' = stAt s₀ h₂ tk₂ ∧ St (I :: B) env (σI (i + 1)) s₀ h₂ tk₂ ∧ X hL I (i + 1) h₂ ∧ Sp (I :: B) h₁ h₂ ∧ (∀ b o, (b = I ∨ (b ∉ B ∧ Al hL b)) → NotNm o → h₁.get? b = some o → h₂.get? b = some o)
        | .ret v => Q (.ret v) s'
        | _ => False) E' (stAt s₀ h₁ tk₁))
    (q : ∀ hL I h' tk', Le h hL → hL.get? I = none → St B env (σI ds.length) s₀ h' tk' → X hL I ds.length h' → Sp B h h' → Run w A env rest Q E (stAt s₀ h' tk'))
    (hf : ∀ x, foldedSetIterable iter env x = pure x := by intro _; rfl) : Run w A env (.For t iter body [] p :: rest) Q E (stAt s₀ h tk) := by
  refine wpAny_execs_cons (wpAny_For (ev A B _ E _ (S.pre F) fun v h₁ tk₁ u₁ g₁ hv => ?_) hf)
  refine wp_iter (s := stAt s₀ h₁ tk₁) hv hi hs fun I h₂ fp P Stt IT => ?_
  have S₁ : St B env (σI 0) s₀ h₁ tk₁ := (S.up u₁ g₁).less h0
  have alI : Al h₂ I := by obtain ⟨o, _, _, e, _⟩ := IT.own 0 h₂ IT.st; exact ⟨o, e⟩
  have S₂ : St (I :: B) env (σI 0) s₀ h₂ tk₁ := S₁.addI IT.le IT.new alI
  have F' := F.add I
  have bI : ∀ b ∈ B, b ≠ I := fun b hb => al_ne (S₁.bd b hb) IT.new
  have nl : I ≠ env.locals := (bI _ F.locB).symm
  have nc : ∀ y c, env.cells.lookup y = some c → I ≠ c := fun y c e => by
    obtain ⟨v, o, z, _⟩ := S₁.cells y c e
    exact (al_ne ⟨o, z⟩ IT.new).symm
  have n0 : s₀.heap.objs.size ≤ I := Nat.le_trans F.locF (Nat.le_trans (Nat.le_of_lt (S₁.bd _ F.locB).lt) IT.big)
  have at₂ : ∀ b o, h.get? b = some o → h₂.get? b = some o ∧ b ≠ I := fun b o e => ⟨IT.le b o (u₁ b o e), al_ne ⟨o, u₁ b o e⟩ IT.new⟩
  have W := IT.walks A F.room.1
  refine loopL (I := fun n s => ∃ j h tk, n = ds.length - j ∧ j ≤ ds.length ∧ s = stAt s₀ h tk ∧ St (I :: B) env (σI j) s₀ h tk ∧ Stt j h ∧ X h₁ I j h ∧ Sp (I :: B) h₂ h) ?_ ds.length ⟨0, h₂, tk₁, rfl, Nat.zero_le _, rfl, S₂, IT.st, start h₁ I h₂ u₁ IT.le IT.new, Sp.refl _ _⟩
  rintro n s ⟨j, h₃, tk₃, hn, hj, rfl, S₃, st₃, hX₃, sp₃⟩
  by_cases hlt : j < ds.length
  · refine wpAny_with_toks (Nat.le_refl tk₃) (W.item j _ _ _ hlt st₃ fun v h₄ tk₄ hP st₄ k₄ g₄ => ?_)
    have eb₄ : Heap.ExtBut I h₃ h₄ := fun b o n e => k₄ b o (fun m => n (List.mem_singleton.mp m)) e
    have al₄ : Al h₄ I := by obtain ⟨o, _, _, e, _⟩ := IT.own _ _ st₄; exact ⟨o, e⟩
    have S₄ := S₃.but (.head _) eb₄ nl nc n0 al₄ g₄
    have sp₄ : Sp (I :: B) h₃ h₄ := sp_own (.head _) eb₄
    refine let_owned (IT.own _ _ st₄) ?_
    have hd : ds[j]? = some ds[j] := List.getElem?_eq_getElem hlt
    have hv : Has (I :: B) h₄ v ds[j] := by
      have a1 := IT.item j v _ hP hd h₁ (Sp.refl _ _)
      have a2 : Has (I :: B) h₁ v ds[j] := a1.add fun c m => by
        rcases List.mem_cons.mp m with e | m
        · rw [e]; exact .inr IT.new
        · exact .inl m
      exact a2.sp ((IT.le.sp.trans sp₃).trans sp₄)
    refine as j _ hd w k A (I :: B) s₀ h₄ tk₄ v _ _ F' S₄ hv fun h₅ tk₅ S₅ sp₅ kd₅ g₅ => ?_
    have hX₅ := keep _ _ _ _ _ hX₃ (sp₄.trans sp₅) fun b o nb nm e => kd₅ b o nm (eb₄ b o nb e)
    have nm₅ : ∃ o, h₅.get? I = some o ∧ NotNm o := by
      obtain ⟨o, n, f, e, c, d, _⟩ := IT.own _ _ st₄
      exact ⟨o, kd₅ _ o (notNm_fields d) e, notNm_fields d⟩
    refine wpAny_mono (turn j _ h₁ I h₅ tk₅ _ hd u₁ IT.new F' S₅ hX₅ nm₅) (fun f s' hf => ?_) fun _ _ x => x
    cases f with
    | next =>
      obtain ⟨h₆, tk₆, rfl, S₆, hX₆, sp₆, kb₆⟩ := hf
      refine ⟨ds.length - (j + 1), by omega, j + 1, h₆, tk₆, rfl, hlt, rfl, S₆, ?_, hX₆, ((sp₃.trans sp₄).trans sp₅).trans sp₆⟩
      refine W.frame _ h₄ h₆ st₄ fun b hb o e => ?_
      have nm := IT.nn _ _ st₄ b hb o e
      refine kb₆ b o ?_ nm (kd₅ b o nm e)
      rcases IT.far b hb with e | ⟨nB, al⟩
      · exact .inl e
      · exact .inr ⟨nB, al⟩
    | ret v => exact hf
    | brk => exact hf.elim
    | cont => exact hf.elim
  · have ej : j = ds.length := Nat.le_antisymm hj (Nat.le_of_not_lt hlt)
    subst ej
    refine wpAny_with_toks (Nat.le_refl tk₃) (W.done _ _ _ st₃ fun h₄ tk₄ k₄ g₄ => ?_)
    have eb₄ : Heap.ExtBut I h₃ h₄ := fun b o n e => k₄ b o (fun m => n (List.mem_singleton.mp m)) e
    have sp₄ : Sp (I :: B) h₃ h₄ := sp_own (.head _) eb₄
    have S₄ : St B env (σI ds.length) s₀ h₄ tk₄ := S₃.drop eb₄ bI nl nc n0 g₄
    have hX₄ := keep _ _ _ _ _ hX₃ sp₄ fun b o nb nm e => eb₄ b o nb e
    refine q h₁ I h₄ tk₄ u₁ IT.new S₄ hX₄ fun b o nb e => ?_
    obtain ⟨e2, n2⟩ := at₂ b o e
    exact eb₄ b o n2 (sp₃ b o (fun m => (List.mem_cons.mp m).elim n2 nb) e2)

theorem run_for {t iter : Expr} {body rest : List Stmt} {p : Pos} {d : D} {ds : List D} {σI τI : Nat → Sg} {Q : Flow → Shared → Prop} (F : Frm w k A B env N s₀) (S : St B env σ s₀ h tk) (ev : EvE w k env σ iter d) (hi : d.items = some ds) (hs : d.small)
    (h0 : ∀ e ∈ σI 0, e ∈ σ) (as : ∀ i di, ds[i]? = some di → Asg env N t di (σI i) (τI i))
    (turn : ∀ i di B' h₁ tk₁ E', ds[i]? = some di → (∀ b ∈ B, b ∈ B') → Frm w k A B' env N s₀ → St B' env (τI i) s₀ h₁ tk₁ →
      Run w A env body (fun f s' => match f with
        | .next => ∃ h₂ tk₂, s' = stAt s₀ h₂ tk₂ ∧ St B' env (σI (i + 1)) s₀ h₂ tk₂ ∧ Sp B' h₁ h₂ ∧ Kd h₁ h₂
        | .ret v => Q (.ret v) s'
        | _ => False) E' (stAt s₀ h₁ tk₁))
    (q : ∀ h' tk', St B env (σI ds.length) s₀ h' tk' → Sp B h h' → Run w A env rest Q E (stAt s₀ h' tk'))
    (hf : ∀ x, foldedSetIterable iter env x = pure x := by intro _; rfl) : Run w A env (.For t iter body [] p :: rest) Q E (stAt s₀ h tk) := by
  refine run_forX (X := fun _ _ _ _ => True) F S ev hi hs h0 (fun _ _ _ _ _ _ => trivial) (fun _ _ _ _ _ _ _ _ => trivial) as (fun i di hL I h₁ tk₁ E' hd _ _ F' S' _ _ => ?_) (fun _ _ h' tk' _ _ S' _ sp => q h' tk' S' sp) hf
  refine wpAny_mono (turn i di (I :: B) h₁ tk₁ E' hd (fun b m => .tail _ m) F' S') (fun f s' hf => ?_) fun _ _ x => x
  cases f with
  | next => obtain ⟨h₂, tk₂, e, S₂, sp, kd⟩ := hf; exact ⟨h₂, tk₂, e, S₂, trivial, sp, fun b o _ nm e => kd b o nm e⟩
  | ret v => exact hf
  | brk => exact hf
  | cont => exact hf

theorem run_whileX {α : Type} {test : Expr} {body rest : List Stmt} {p : Pos} {J : α → Sg} {c : α → Bool} {m : α → Nat} {P : α → Prop} {X : α → Heap → Prop} {Q : Flow → Shared → Prop} {O : List Addr} (F : Frm w k A B env N s₀) (S : St B env σ s₀ h tk) (a₀ : α) (hP : P a₀)
    (h0 : ∀ e ∈ J a₀, e ∈ σ) (hX : X a₀ h) (ts : ∀ a, P a → Ts w k env (J a) test (c a)) (kx : ∀ a h h', X a h → Le h h' → X a h')
    (turn : ∀ a h₁ tk₁ E', P a → c a = true → St B env (J a) s₀ h₁ tk₁ → X a h₁ →
      Run w A env body (fun f s' => match f with
        | .next => ∃ b h₂ tk₂, m b < m a ∧ P b ∧ s' = stAt s₀ h₂ tk₂ ∧ St B env (J b) s₀ h₂ tk₂ ∧ X b h₂ ∧ Sp B h₁ h₂ ∧ Ko O h₁ h₂
        | .ret v => Q (.ret v) s'
        | _ => False) E' (stAt s₀ h₁ tk₁))
    (q : ∀ a h' tk', P a → c a = false → St B env (J a) s₀ h' tk' → X a h' → Sp B h h' → Ko O h h' → Run w A env rest Q E (stAt s₀ h' tk')) : Run w A env (.While test body [] p :: rest) Q E (stAt s₀ h tk) := by
  refine wpAny_execs_cons (wpAny_While ?_)
  refine codeAny_whileLoop (I := fun n s => ∃ a h' tk', n = m a ∧ P a ∧ s = stAt s₀ h' tk' ∧ St B env (J a) s₀ h' tk' ∧ X a h' ∧ Sp B h h' ∧ Ko O h h') ?_ (m a₀) ⟨a₀, h, tk, rfl, hP, rfl, S.less h0, hX, Sp.refl _ _, Ko.refl _ _⟩
  rintro n s ⟨a, h₁, tk₁, rfl, hPa, rfl, S₁, hX₁, sp₁, ko₁⟩
  refine ts a hPa A B (stAt s₀ h₁ tk₁) _ _ (S₁.pre F) fun h₂ tk₂ u₂ g₂ => ?_
  have S₂ := S₁.up u₂ g₂
  cases hc : c a with
  | true =>
    rw [if_pos rfl]
    refine wpAny_mono (turn a h₂ tk₂ _ hPa hc S₂ (kx _ _ _ hX₁ u₂)) (fun f s' hf => ?_) fun _ _ x => x
    cases f with
    | next =>
      obtain ⟨b, h₃, tk₃, lt, hPb, e, S₃, hX₃, sp₃, ko₃⟩ := hf
      exact ⟨m b, lt, b, h₃, tk₃, rfl, hPb, e, S₃, hX₃, (sp₁.trans u₂.sp).trans sp₃, (ko₁.trans u₂.kd.ko).trans ko₃⟩
    | ret v => exact hf
    | brk => exact hf.elim
    | cont => exact hf.elim
  | false =>
    rw [if_neg (by decide)]
    exact wpAny_execs_nil (q a h₂ tk₂ hPa hc S₂ (kx _ _ _ hX₁ u₂) (sp₁.trans u₂.sp) (ko₁.trans u₂.kd.ko))
end
end Mine

set_option maxRecDepth 100000
set_option linter.unusedVariables false
namespace Mine
open PySem PySem.W PyProof.Rows

section
variable {w : World} {k : Nat} {A : Around} {B : List Addr} {env : Env} {N : List Str} {σ : Sg} {s₀ : Shared} {h : Heap} {tk : Nat} {E : Value → Shared → Prop} {s : Shared} {R : Result → Shared → Prop}

theorem compTurn_last (elt : Expr) (gens : List Comprehension) (scope : Scope) (pos : Pos) (d : Nat) (it acc : Value) (env : Env) (t iter : Expr) (ifs : List Expr) (hg : gens[d]? = some ⟨t, iter, ifs, 0⟩) (hg' : gens[d + 1]? = none) :
    compTurn (.ListComp elt gens scope pos) d it acc env = (do
      standAt iter.pos
      match ← pyNext it with
      | none => pure (.done .next)
      | some v =>
        letOwnedTupleGo t it v
        assign t env v
        let mut ok := true
        for c in ifs do
          if ok then ok ← isTrue c env (eval c env)
        if ok then
          (do let _ ← call (.builtin "list.append") [acc, ← eval elt env])
        again (.compLoop (.ListComp elt gens scope pos) d it acc env)) := by
  unfold compTurn
  simp only [hg, hg']
  rfl
theorem compTurn_more (elt : Expr) (gens : List Comprehension) (scope : Scope) (pos : Pos) (d : Nat) (it acc : Value) (env : Env) (t iter t' iter' : Expr) (ifs ifs' : List Expr) (hg : gens[d]? = some ⟨t, iter, ifs, 0⟩) (hg' : gens[d + 1]? = some ⟨t', iter', ifs', 0⟩) :
    compTurn (.ListComp elt gens scope pos) d it acc env = (do
      standAt iter.pos
      match ← pyNext it with
      | none => pure (.done .next)
      | some v =>
        letOwnedTupleGo t it v
        assign t env v
        let mut ok := true
        for c in ifs do
          if ok then ok ← isTrue c env (eval c env)
        if ok then
          let x ← eval iter' env
          standAt iter'.pos
          let x ← foldedSetIterable iter' env x
          let l ← holding [x] (pyIter x)
          let _ ← runOwn (.compStart (.ListComp elt gens scope pos) (d + 1) l acc env) env
        again (.compLoop (.ListComp elt gens scope pos) d it acc env)) := by
  unfold compTurn
  simp only [hg, hg']
  rfl

/-- the tests of a clause -/
noncomputable def Tests (w : World) (k : Nat) (env : Env) (σ : Sg) : List Expr → Bool → Prop
  | [], b => b = true
  | [c], b => Ts w k env σ c b
  | _, _ => False
theorem tests_run {ifs : List Expr} {b : Bool} {Q : Bool → Shared → Prop} (x : Tests w k env σ ifs b) (pr : Pre w k A B env σ s) (q : ∀ h' tk, Le s.heap h' → s.toks ≤ tk → Q b (stAt s h' tk)) :
    wpAny (model pw w) A (forIn ifs true fun c r => if r = true then do let ok ← isTrue c env (eval c env); pure (ForInStep.yield ok) else pure (ForInStep.yield r)) Q E s := by
  match ifs, x with
  | [], x => cases x; exact wpAny_tests_nil (q _ _ (Le.refl _) (Nat.le_refl _))
  | [c], x => exact wpAny_tests_one (x A B s E _ pr q)

theorem compL {elt : Expr} {gens : List Comprehension} {scope : Scope} {pos : Pos} {d : Nat} {it acc : Value} {t iter : Expr} {ifs : List Expr} (hg : gens[d]? = some ⟨t, iter, ifs, 0⟩) (I : Nat → Shared → Prop)
    (turn : ∀ n s E, I n s → wpAny (model pw w) A (pyNext it) (fun r s₁ => match r with
      | none => R (.ok .next) s₁
      | some v => wpAny (model pw w) A (letOwnedTupleGo t it v) (fun _ s₂ => wpAny (model pw w) A (assign t env v) (fun _ s₃ =>
          wpAny (model pw w) A (forIn ifs true fun c r => if r = true then do let ok ← isTrue c env (eval c env); pure (ForInStep.yield ok) else pure (ForInStep.yield r)) (fun ok s₄ => if ok then
            (match gens[d + 1]? with
              | none => wpAny (model pw w) A (eval elt env) (fun x s₅ => wpAny (model pw w) A (call (.builtin "list.append") [acc, x]) (fun _ s₆ => ∃ m, m < n ∧ I m s₆) E s₅) E s₄
              | some ⟨t', iter', ifs', _⟩ => wpAny (model pw w) A (eval iter' env) (fun x s₅ => wpAny (model pw w) A (pyIter x) (fun l s₆ => codeAny (model pw w) A (.compStart (.ListComp elt gens scope pos) (d + 1) l acc env) (fun r s₇ => match r with
                  | .ok _ => ∃ m, m < n ∧ I m s₇
                  | .error e => cameBackBy (model pw w) A env E e s₇) s₆) E s₅) E s₄)
            else ∃ m, m < n ∧ I m s₄) E s₃) E s₂) E s₁) E s)
    (hmore : ∀ g, gens[d + 1]? = some g → g.is_async = 0 ∧ ∀ x, foldedSetIterable g.iter env x = pure x)
    (n : Nat) (hI : I n s) : codeAny (model pw w) A (.compLoop (.ListComp elt gens scope pos) d it acc env) R s := by
  refine codeAny_loop rfl I (fun n s hI => ?_) n hI
  show wpAny _ A ((compTurn (.ListComp elt gens scope pos) d it acc env).onRaise (fun x => do noteFrame x env; theTreesLotGoes x)) _ _ s
  refine wpAny_noted ?_
  have T := turn n s (notedBy (model pw w) A env fun e s' => R (.error e) s') hI
  cases hg' : gens[d + 1]? with
  | none =>
    rw [compTurn_last (hg := hg) (hg' := hg')]
    refine wpAny_bind (wpAny_standAt (wpAny_bind (wpAny_mono T (fun r s₁ h₁ => ?_) fun _ _ x => x)))
    cases r with
    | none => exact wpAny_pure h₁
    | some v =>
      refine wpAny_bind (wpAny_mono h₁ (fun _ s₂ h₂ => wpAny_bind (wpAny_mono h₂ (fun _ s₃ h₃ => wpAny_bind (wpAny_mono h₃ (fun ok s₄ h₄ => ?_) fun _ _ x => x)) fun _ _ x => x)) fun _ _ x => x)
      cases ok with
      | false => exact wpAny_pure ⟨rfl, h₄⟩
      | true =>
        rw [hg'] at h₄
        exact wpAny_bind (wpAny_bind (wpAny_mono h₄ (fun x s₅ h₅ => wpAny_bind (wpAny_mono h₅ (fun _ s₆ h₆ => wpAny_pure (wpAny_pure ⟨rfl, h₆⟩)) fun _ _ x => x)) fun _ _ x => x))
  | some g =>
    obtain ⟨h0, hf⟩ := hmore g hg'
    obtain ⟨t', iter', ifs', a⟩ := g
    cases h0
    rw [compTurn_more (hg := hg) (hg' := hg')]
    refine wpAny_bind (wpAny_standAt (wpAny_bind (wpAny_mono T (fun r s₁ h₁ => ?_) fun _ _ x => x)))
    cases r with
    | none => exact wpAny_pure h₁
    | some v =>
      refine wpAny_bind (wpAny_mono h₁ (fun _ s₂ h₂ => wpAny_bind (wpAny_mono h₂ (fun _ s₃ h₃ => wpAny_bind (wpAny_mono h₃ (fun ok s₄ h₄ => ?_) fun _ _ x => x)) fun _ _ x => x)) fun _ _ x => x)
      cases ok with
      | false => exact wpAny_pure ⟨rfl, h₄⟩
      | true =>
        rw [hg'] at h₄
        refine wpAny_bind (wpAny_mono h₄ (fun x s₅ h₅ => wpAny_bind (wpAny_standAt (wpAny_bind (wpAny_of_eq (hf x) (wpAny_bind (wpAny_holding (wpAny_mono h₅ (fun l s₆ h₆ => ?_) fun _ _ x => x)))))) ) fun _ _ x => x)
        refine wpAny_bind (wpAny_runOwn (h := none) (codeAny_mono h₆ fun r s₇ h₇ => ?_))
        cases r with
        | ok f => exact wpAny_pure ⟨rfl, h₇⟩
        | error e => exact h₇

/-- a clause begins -/
theorem compS {elt : Expr} {gens : List Comprehension} {scope : Scope} {pos : Pos} {d : Nat} {it acc : Value} {t iter : Expr} {ifs : List Expr} (hg : gens[d]? = some ⟨t, iter, ifs, 0⟩)
    (h0 : codeAny (model pw w) A (.compLoop (.ListComp elt gens scope pos) d it acc env) R s)
    (h : ∀ E, wpAny (model pw w) A (pyIter it) (fun it' s' => codeAny (model pw w) A (.compLoop (.ListComp elt gens scope pos) d it' acc env) R s') E s) :
    codeAny (model pw w) A (.compStart (.ListComp elt gens scope pos) d it acc env) R s := by
  refine codeAny_of_tree ?_
  show wpAny _ _ ((compStart (.ListComp elt gens scope pos) d it acc env).onRaise (fun x => do noteFrame x env; standAt theWindowsPlace)) _ _ s
  refine wpAny_notedAt ?_
  unfold compStart
  simp only [clausesOf, hg]
  show wpAny _ _ (ask >>= _) _ _ s
  refine wpAny_bind (wpAny_askSetting (wpAny_ite ?_))
  split
  · first
      | exact wpAny_bind (wpAny_pure (wpAny_pure (And.intro rfl h0)))
      | exact wpAny_pure (And.intro rfl h0)
  · first
      | exact wpAny_bind (wpAny_rule (wpAny_bind (wpAny_standAt (wpAny_bind (wpAny_mono (h _) (fun it' s' h' => wpAny_pure (And.intro rfl h')) fun _ _ x => x)))))
      | (refine wpAny_bind (wpAny_rule ?_); show wpAny _ _ (standAt iter.pos >>= _) _ _ s; exact wpAny_bind (wpAny_standAt (wpAny_bind (wpAny_mono (h _) (fun it' s' h' => wpAny_pure (And.intro rfl h')) fun _ _ x => x))))
end
end Mine

set_option maxRecDepth 100000
set_option linter.unusedVariables false
namespace Mine
open PySem PySem.W PyProof.Rows

/-- turns over `ds`, each by `em` -/
noncomputable def Turns (w : World) (k : Nat) (env : Env) (N : List Str) (em : Sg → List D → Prop) (g : Comprehension) (σ : Sg) (ds os : List D) : Prop :=
  ∃ outs : List (List D), outs.length = ds.length ∧ os = outs.flatten ∧ ∀ i di, ds[i]? = some di → ∃ τ b, Asg env N g.target di σ τ ∧ (∀ e ∈ σ, e ∈ τ) ∧ Tests w k env τ g.ifs b ∧ (b = true → em τ (outs.getD i [])) ∧ (b = false → outs.getD i [] = [])
/-- what the clauses give out -/
noncomputable def Emit (w : World) (k : Nat) (env : Env) (N : List Str) (elt : Expr) : List Comprehension → Sg → List D → Prop
  | [], σ, os => ∃ d, os = [d] ∧ EvE w k env σ elt d
  | g :: gs, σ, os => ∃ d ds, EvE w k env σ g.iter d ∧ d.items = some ds ∧ d.small ∧ Turns w k env N (Emit w k env N elt gs) g σ ds os

section
variable {w : World} {k : Nat} {A : Around} {env : Env} {N : List Str} {s₀ : Shared} {RR : Result → Shared → Prop}

theorem drop_at {α : Type} {l : List α} {d : Nat} {g : α} {gs : List α} (h : l.drop d = g :: gs) : l[d]? = some g ∧ l.drop (d + 1) = gs := by
  have h1 : (l.drop d)[0]? = some g := by rw [h]; rfl
  rw [List.getElem?_drop] at h1
  refine ⟨by simpa using h1, ?_⟩
  have : (l.drop d).drop 1 = gs := by rw [h]; rfl
  rw [List.drop_drop] at this
  exact this

/-- what is behind the tests -/
noncomputable def InnerW (w : World) (A : Around) (env : Env) (elt : Expr) (gens : List Comprehension) (scope : Scope) (pos : Pos) (d : Nat) (acc : Value) (Q : Shared → Prop) (E : Value → Shared → Prop) (s : Shared) : Prop :=
  match gens[d + 1]? with
  | none => wpAny (model pw w) A (eval elt env) (fun x s₅ => wpAny (model pw w) A (call (.builtin "list.append") [acc, x]) (fun _ s₆ => Q s₆) E s₅) E s
  | some ⟨t', iter', ifs', _⟩ => wpAny (model pw w) A (eval iter' env) (fun x s₅ => wpAny (model pw w) A (pyIter x) (fun l s₆ => codeAny (model pw w) A (.compStart (.ListComp elt gens scope pos) (d + 1) l acc env) (fun r s₇ => match r with
                  | .ok _ => Q s₇
                  | .error e => cameBackBy (model pw w) A env E e s₇) s₆) E s₅) E s

theorem it_ne_ns {B : List Addr} {σ : Sg} {h : Heap} {tk : Nat} {I : Addr} (S : St B env σ s₀ h tk) (x : ∃ o, h.get? I = some o ∧ NotNm o) : I ≠ env.locals ∧ ∀ y c, env.cells.lookup y = some c → I ≠ c := by
  obtain ⟨o, e, nm⟩ := x
  constructor
  · rintro rfl
    obtain ⟨m, ⟨o', es, ep, e', dd, _⟩, _⟩ := S.vs.ns
    rw [e] at e'; cases e'; exact nm.1 _ _ dd
  · rintro y c hc rfl
    obtain ⟨v, o', e', dd⟩ := S.cells y I hc
    rw [e] at e'; cases e'; exact nm.2 _ dd
theorem itObj_nm {h : Heap} {I : Addr} (x : ItObj h I) : ∃ o, h.get? I = some o ∧ NotNm o := let ⟨o, n, f, e, c, d, _⟩ := x; ⟨o, e, notNm_fields d⟩
theorem plain_nm {h : Heap} {a : Addr} {vs : Array Value} (x : h.PlainList a vs) : ∃ o, h.get? a = some o ∧ NotNm o := let ⟨n, e⟩ := x; ⟨_, e, notNm_seq rfl⟩

theorem flatten_take {α : Type} (outs : List (List α)) (j : Nat) (h : j < outs.length) : (outs.take (j + 1)).flatten = (outs.take j).flatten ++ outs.getD j [] := by
  rw [List.take_add_one, List.flatten_append, List.getElem?_eq_getElem h, List.getD_eq_getElem?_getD, List.getElem?_eq_getElem h]
  simp

theorem turns_step {elt : Expr} {gens : List Comprehension} {scope : Scope} {pos : Pos} {Rr : Addr} {g : Comprehension} {depth : Nat} {B Bi : List Addr} {σ : Sg} {h h₁ h₂ : Heap} {tk : Nat} {I : Addr} {ds : List D} {fp : List Addr} {P : Nat → Value → Prop} {Stt : Nat → Heap → Prop}
    {os done : List D} {vs : List Value} {RR : Result → Shared → Prop} {em : Sg → List D → Prop} (hgen : gens[depth]? = some g) (g0 : g.is_async = 0) (F : Frm w k A (I :: B) env N s₀) (IT : ItSt pw w Bi h₁ h₂ I ds fp P Stt) (hB : ∀ c ∈ I :: B, c ∈ Bi ∨ h₁.get? c = none) (bI : ∀ b ∈ B, b ≠ I) (hR : Rr ∈ B)
    (nI : s₀.heap.objs.size ≤ I) (nR : s₀.heap.objs.size ≤ Rr) (T : Turns w k env N em g σ ds os) (S : St (I :: B) env σ s₀ h tk) (st : Stt 0 h) (sp0 : Sp (I :: B) h₁ h) (acc : h.PlainList Rr vs.toArray) (hv : HasAll (I :: B) h vs done) (len : done.length + os.length ≤ 1000000)
    (hmore : ∀ g, gens[depth + 1]? = some g → g.is_async = 0 ∧ ∀ x, foldedSetIterable g.iter env x = pure x)
    (hin : ∀ τ out h₅ tk₅ vs' done' Q E, em τ out → St (I :: B) env τ s₀ h₅ tk₅ → h₅.PlainList Rr vs'.toArray → HasAll (I :: B) h₅ vs' done' → done'.length + out.length ≤ 1000000 →
      (∀ h₆ tk₆ vs'', St (I :: B) env τ s₀ h₆ tk₆ → h₆.PlainList Rr vs''.toArray → HasAll (I :: B) h₆ vs'' (done' ++ out) → Sp (I :: B) h₅ h₆ → Ko [Rr] h₅ h₆ → tk₅ ≤ tk₆ → Q (stAt s₀ h₆ tk₆)) →
      InnerW w A env elt gens scope pos depth (.ref Rr) Q E (stAt s₀ h₅ tk₅))
    (q : ∀ h' tk' vs', St B env σ s₀ h' tk' → h'.PlainList Rr vs'.toArray → HasAll B h' vs' (done ++ os) → Sp (I :: B) h h' → Ko [I, Rr] h h' → tk ≤ tk' → RR (.ok .next) (stAt s₀ h' tk')) :
    codeAny (model pw w) A (.compLoop (.ListComp elt gens scope pos) depth (.ref I) (.ref Rr) env) RR (stAt s₀ h tk) := by
  obtain ⟨outs, hlen, hos, hturn⟩ := T
  obtain ⟨t, iter, ifs, ia⟩ := g
  cases g0
  have W := IT.walks A F.room.1
  have slen : ∀ j, j ≤ ds.length → ((outs.take j).flatten).length ≤ os.length := fun j _ => by
    rw [hos]
    have : outs = outs.take j ++ outs.drop j := (List.take_append_drop j outs).symm
    conv => rhs; rw [this]
    rw [List.flatten_append, List.length_append]
    omega
  have hne : Rr ≠ I := bI Rr hR
  have fpR : ∀ b ∈ fp, b ≠ Rr := fun b hb => by
    rcases IT.far b hb with e | ⟨nB, al⟩
    · rw [e]; exact hne.symm
    · rcases hB Rr (.tail _ hR) with m | n
      · exact fun e => nB (e ▸ m)
      · exact al_ne al n
  refine compL hgen (I := fun n s => ∃ j h' tk' vs', n = ds.length - j ∧ j ≤ ds.length ∧ s = stAt s₀ h' tk' ∧ St (I :: B) env σ s₀ h' tk' ∧ Stt j h' ∧ h'.PlainList Rr vs'.toArray ∧ HasAll (I :: B) h' vs' (done ++ (outs.take j).flatten) ∧ Sp (I :: B) h h' ∧ Ko [I, Rr] h h' ∧ tk ≤ tk') ?_ hmore ds.length ⟨0, h, tk, vs, rfl, Nat.zero_le _, rfl, S, st, acc, by simpa using hv, Sp.refl _ _, Ko.refl _ _, Nat.le_refl _⟩
  rintro n s E' ⟨j, h₃, tk₃, vs₃, hn, hj, rfl, S₃, st₃, acc₃, hv₃, sp₃, ko₃, g₃⟩
  have n3 := it_ne_ns S₃ (itObj_nm (IT.own _ _ st₃))
  by_cases hlt : j < ds.length
  · refine wpAny_with_toks (Nat.le_refl tk₃) (W.item j _ _ _ hlt st₃ fun v h₄ tk₄ hP st₄ k₄ g₄ => ?_)
    have eb₄ : Heap.ExtBut I h₃ h₄ := fun b o n e => k₄ b o (fun m => n (List.mem_singleton.mp m)) e
    have al₄ : Al h₄ I := by obtain ⟨o, _, _, e, _⟩ := IT.own _ _ st₄; exact ⟨o, e⟩
    have S₄ := S₃.but (.head _) eb₄ n3.1 n3.2 nI al₄ g₄
    have sp₄ : Sp (I :: B) h₃ h₄ := sp_own (.head _) eb₄
    have acc₄ := acc₃.extBut eb₄ hne
    refine let_owned (IT.own _ _ st₄) ?_
    have hd : ds[j]? = some ds[j] := List.getElem?_eq_getElem hlt
    have hvv : Has (I :: B) h₄ v ds[j] := ((IT.item j v _ hP hd h₁ (Sp.refl _ _)).add hB).sp ((sp0.trans sp₃).trans sp₄)
    obtain ⟨τ, b, as, sub, ts, hb1, hb0⟩ := hturn j _ hd
    refine as w k A (I :: B) s₀ h₄ tk₄ v _ _ F S₄ hvv fun h₅ tk₅ S₅ sp₅ kd₅ g₅ => ?_
    refine tests_run (s := stAt s₀ h₅ tk₅) ts (S₅.pre F) fun h₆ tk₆ u₆ g₆ => ?_
    have S₆ := S₅.up u₆ g₆
    have acc₆ : h₆.PlainList Rr vs₃.toArray := by
      obtain ⟨n, e⟩ := acc₄
      exact ⟨n, u₆ _ _ (kd₅ _ _ (notNm_seq rfl) e)⟩
    have sp₆ : Sp (I :: B) h₃ h₆ := (sp₄.trans sp₅).trans u₆.sp
    have hv₆ := hv₃.sp sp₆
    have st₆ : Stt (j + 1) h₆ := W.frame _ h₄ h₆ st₄ fun b hb o e => u₆ _ _ (kd₅ b o (IT.nn _ _ st₄ b hb o e) e)
    have ko₆ : Ko [I, Rr] h h₆ := fun b o nb nm e => u₆ _ _ (kd₅ b o nm (eb₄ b o (fun e => nb (e ▸ .head _)) (ko₃ b o nb nm e)))
    have fl := flatten_take outs j (by omega)
    cases b with
    | false =>
      rw [if_neg (by decide)]
      refine ⟨ds.length - (j + 1), by omega, j + 1, h₆, tk₆, vs₃, rfl, hlt, rfl, S₆.less sub, st₆, acc₆, ?_, sp₃.trans sp₆, ko₆, Nat.le_trans g₃ (Nat.le_trans g₄ (Nat.le_trans g₅ g₆))⟩
      rw [fl, hb0 rfl, List.append_nil]; exact hv₆
    | true =>
      rw [if_pos rfl]
      have l1 : (done ++ (outs.take j).flatten).length + (outs.getD j []).length ≤ 1000000 := by
        have := slen (j + 1) hlt
        rw [fl, List.length_append] at this
        rw [List.length_append]; omega
      refine hin τ _ h₆ tk₆ vs₃ _ (fun s₆ => ∃ m, m < n ∧ ∃ j h' tk' vs', m = ds.length - j ∧ j ≤ ds.length ∧ s₆ = stAt s₀ h' tk' ∧ St (I :: B) env σ s₀ h' tk' ∧ Stt j h' ∧ h'.PlainList Rr vs'.toArray ∧ HasAll (I :: B) h' vs' (done ++ (outs.take j).flatten) ∧ Sp (I :: B) h h' ∧ Ko [I, Rr] h h' ∧ tk ≤ tk') E' (hb1 rfl) S₆ acc₆ hv₆ l1 fun h₇ tk₇ vs₇ S₇ acc₇ hv₇ sp₇ ko₇ g₇ => ?_
      refine ⟨ds.length - (j + 1), by omega, j + 1, h₇, tk₇, vs₇, rfl, hlt, rfl, S₇.less sub, ?_, acc₇, ?_, (sp₃.trans sp₆).trans sp₇, ?_, Nat.le_trans g₃ (Nat.le_trans g₄ (Nat.le_trans g₅ (Nat.le_trans g₆ g₇)))⟩
      · exact W.frame _ h₆ h₇ st₆ fun b hb o e => ko₇ b o (fun m => fpR b hb (List.mem_singleton.mp m)) (IT.nn _ _ st₆ b hb o e) e
      · rw [fl, ← List.append_assoc]; exact hv₇
      · exact fun b o nb nm e => ko₇ b o (fun m => nb (.tail _ m)) nm (ko₆ b o nb nm e)
  · have ej : j = ds.length := Nat.le_antisymm hj (Nat.le_of_not_lt hlt)
    subst ej
    refine wpAny_with_toks (Nat.le_refl tk₃) (W.done _ _ _ st₃ fun h₄ tk₄ k₄ g₄ => ?_)
    have eb₄ : Heap.ExtBut I h₃ h₄ := fun b o n e => k₄ b o (fun m => n (List.mem_singleton.mp m)) e
    have sp₄ : Sp (I :: B) h₃ h₄ := sp_own (.head _) eb₄
    have e4 : outs.take ds.length = outs := List.take_of_length_le (by omega)
    rw [e4, ← hos] at hv₃
    refine q h₄ tk₄ vs₃ (S₃.drop eb₄ bI n3.1 n3.2 nI g₄) (acc₃.extBut eb₄ hne) ((hv₃.sp sp₄).sub fun b m => .tail _ m) (sp₃.trans sp₄) (fun b o nb nm e => eb₄ b o (fun e => nb (e ▸ .head _)) (ko₃ b o nb nm e)) (Nat.le_trans g₃ g₄)

theorem turns_run {elt : Expr} {gens : List Comprehension} {scope : Scope} {pos : Pos} {Rr : Addr} (hgens : ∀ g ∈ gens, g.is_async = 0 ∧ ∀ x, foldedSetIterable g.iter env x = pure x) : ∀ (gs : List Comprehension) (g : Comprehension) (depth : Nat) (B Bi : List Addr) (σ : Sg) (h h₁ h₂ : Heap) (tk : Nat) (I : Addr) (ds : List D) (fp : List Addr) (P : Nat → Value → Prop) (Stt : Nat → Heap → Prop)
    (os done : List D) (vs : List Value) (RR : Result → Shared → Prop), gens.drop depth = g :: gs → Frm w k A (I :: B) env N s₀ → ItSt pw w Bi h₁ h₂ I ds fp P Stt → (∀ c ∈ I :: B, c ∈ Bi ∨ h₁.get? c = none) → (∀ b ∈ B, b ≠ I) → Rr ∈ B →
    s₀.heap.objs.size ≤ I → s₀.heap.objs.size ≤ Rr → Turns w k env N (Emit w k env N elt gs) g σ ds os → St (I :: B) env σ s₀ h tk → Stt 0 h → Sp (I :: B) h₁ h → h.PlainList Rr vs.toArray → HasAll (I :: B) h vs done → done.length + os.length ≤ 1000000 →
    (∀ h' tk' vs', St B env σ s₀ h' tk' → h'.PlainList Rr vs'.toArray → HasAll B h' vs' (done ++ os) → Sp (I :: B) h h' → Ko [I, Rr] h h' → tk ≤ tk' → RR (.ok .next) (stAt s₀ h' tk')) →
    codeAny (model pw w) A (.compLoop (.ListComp elt gens scope pos) depth (.ref I) (.ref Rr) env) RR (stAt s₀ h tk) := by
  intro gs
  induction gs with
  | nil =>
    intro g depth B Bi σ h h₁ h₂ tk I ds fp P Stt os done vs RR hd F IT hB bI hR nI nR T S st sp0 acc hv len q
    obtain ⟨hg, hd'⟩ := drop_at hd
    have hno : gens[depth + 1]? = none := by
      have := List.drop_eq_nil_iff.mp hd'
      exact List.getElem?_eq_none_iff.mpr this
    refine turns_step hg (hgens g (List.mem_of_getElem? hg)).1 F IT hB bI hR nI nR T S st sp0 acc hv len (fun g e => by rw [hno] at e; cases e) ?_ q
    rintro τ out h₅ tk₅ vs' done' Q E ⟨d, rfl, ev⟩ S₅ acc₅ hv₅ l5 qq
    unfold InnerW
    rw [hno]
    refine ev A (I :: B) (stAt s₀ h₅ tk₅) E _ (S₅.pre F) fun v h₆ tk₆ u₆ g₆ hv₆ => ?_
    have S₆ := S₅.up u₆ g₆
    have acc₆ := acc₅.at fun o e => u₆ _ o e
    have nm := it_ne_ns S₆ (plain_nm acc₆)
    refine wpAny_list_append_plain acc₆ (fun h₇ acc₇ sb₇ => ?_) (by rw [List.size_toArray, hv₅.length]; exact Nat.le_trans (by omega) (show 1000000 ≤ sizeLine by decide))
    have eb₇ := sb₇.extBut
    have sp₇ : Sp (I :: B) h₆ h₇ := sp_own (.tail _ hR) eb₇
    have S₇ := S₆.but (.tail _ hR) eb₇ nm.1 nm.2 nR (by obtain ⟨n, e⟩ := acc₇; exact ⟨_, e⟩) (Nat.le_refl _)
    refine qq h₇ tk₆ (vs' ++ [v]) S₇ (by simpa using acc₇) (((hv₅.le u₆).sp sp₇).append (.one (hv₆.sp sp₇))) (u₆.sp.trans sp₇) (fun b o nb nm e => eb₇ b o (fun e => nb (e ▸ .head _)) (u₆ b o e)) g₆
  | cons g' gs ih =>
    intro g depth B Bi σ h h₁ h₂ tk I ds fp P Stt os done vs RR hd F IT hB bI hR nI nR T S st sp0 acc hv len q
    obtain ⟨hg, hd'⟩ := drop_at hd
    obtain ⟨hg', _⟩ := drop_at hd'
    have hT := T
    refine turns_step hg (hgens g (List.mem_of_getElem? hg)).1 F IT hB bI hR nI nR T S st sp0 acc hv len (fun g e => hgens g (List.mem_of_getElem? e)) ?_ q
    have ga := (hgens g' (List.mem_of_getElem? hg')).1
    rintro τ out h₅ tk₅ vs' done' Q E ⟨d, ds', ev, hi, hs, T'⟩ S₅ acc₅ hv₅ l5 qq
    unfold InnerW
    rw [hg']
    obtain ⟨t', iter', ifs', a'⟩ := g'
    refine ev A (I :: B) (stAt s₀ h₅ tk₅) E _ (S₅.pre F) fun v h₆ tk₆ u₆ g₆ hv₆ => ?_
    refine wp_iter (s := stAt s₀ h₆ tk₆) hv₆ hi hs fun I' h₇ fp' P' Stt' IT' => ?_
    have S₆ := S₅.up u₆ g₆
    have alI : Al h₇ I' := by obtain ⟨o, _, _, e, _⟩ := IT'.own 0 h₇ IT'.st; exact ⟨o, e⟩
    have S₇ : St (I' :: I :: B) env τ s₀ h₇ tk₆ := S₆.addI IT'.le IT'.new alI
    have bI' : ∀ b ∈ I :: B, b ≠ I' := fun b hb => al_ne (S₆.bd b hb) IT'.new
    have run : codeAny (model pw w) A (.compLoop (.ListComp elt gens scope pos) (depth + 1) (.ref I') (.ref Rr) env) (fun r s₇ => match r with
                  | .ok _ => Q s₇
                  | .error e => cameBackBy (model pw w) A env E e s₇) (stAt s₀ h₇ tk₆) := by
      have hB' : ∀ c ∈ I' :: I :: B, c ∈ I :: B ∨ h₆.get? c = none := fun c m => by
        rcases List.mem_cons.mp m with e | m
        · rw [e]; exact .inr IT'.new
        · exact .inl m
      refine ih ⟨t', iter', ifs', a'⟩ (depth + 1) (I :: B) (I :: B) τ h₇ h₆ h₇ tk₆ I' ds' fp' P' Stt' out done' vs' _ hd' (F.add I') IT' hB' bI' (.tail _ hR)
        (Nat.le_trans F.locF (Nat.le_trans (Nat.le_of_lt (S₆.bd _ F.locB).lt) IT'.big)) nR T' S₇ IT'.st IT'.le.sp (acc₅.at fun o e => IT'.le _ o (u₆ _ o e)) (((hv₅.le u₆).add hB').le IT'.le) l5 fun h₈ tk₈ vs₈ S₈ acc₈ hv₈ sp₈ ko₈ g₈ => ?_
      have at₇ : ∀ b o, h₅.get? b = some o → h₇.get? b = some o ∧ b ≠ I' := fun b o e => ⟨IT'.le b o (u₆ b o e), al_ne ⟨o, u₆ b o e⟩ IT'.new⟩
      refine qq h₈ tk₈ vs₈ S₈ acc₈ hv₈ (fun b o nb e => ?_) (fun b o nb nm e => ?_) (Nat.le_trans g₆ g₈)
      · obtain ⟨e7, n7⟩ := at₇ b o e
        exact sp₈ b o (fun m => (List.mem_cons.mp m).elim n7 nb) e7
      · obtain ⟨e7, n7⟩ := at₇ b o e
        exact ko₈ b o (fun m => (List.mem_cons.mp m).elim n7 nb) nm e7
    cases ga
    exact compS hg' run fun E' => (IT'.walks A F.room.1).self 0 _ _ _ IT'.st run
end
end Mine

set_option maxRecDepth 100000
set_option linter.unusedVariables false
namespace Mine
open PySem PySem.W PyProof.Rows

noncomputable def closL (cells : List (Str × Addr)) : List (Str × NameKind) → List (Str × Addr) → List (Str × Addr)
  | [], acc => acc
  | (n, kd) :: r, acc => if kd == .free then closL cells r ((n, (cells.lookup n).getD 0) :: acc) else closL cells r acc

theorem closure_go {env : Env} (f : Str × NameKind → List (Str × Addr) → Sem (ForInStep (List (Str × Addr)))) (hf : ∀ name kind cs, f (name, kind) cs = if kind == .free then (do let c ← cellOf env name; pure (.yield ((name, c) :: cs))) else pure (.yield cs)) :
    ∀ (names : List (Str × NameKind)) (acc : List (Str × Addr)), (∀ n, (n, .free) ∈ names → ∃ c, env.cells.lookup n = some c) → forIn names acc f = pure (closL env.cells names acc)
  | [], acc, _ => by rw [List.forIn_nil]; rfl
  | (n, kd) :: r, acc, h => by
      rw [List.forIn_cons, hf, closL]
      have hr := fun acc => closure_go f hf r acc fun n m => h n (.tail _ m)
      by_cases hk : (kd == .free) = true
      · rw [if_pos hk, if_pos hk]
        have : kd = .free := by cases kd <;> first | rfl | cases hk
        subst this
        obtain ⟨c, hc⟩ := h n (.head _)
        have e : cellOf env n = pure c := by unfold cellOf; rw [hc]
        rw [e, hc]
        exact hr _
      · rw [if_neg hk, if_neg hk]
        exact hr _
theorem closure_pure {scope : Scope} {env : Env} (h : ∀ n, (n, .free) ∈ scope.names → ∃ c, env.cells.lookup n = some c) : closureFor scope env = pure (closL env.cells scope.names []) := by
  simp only [closureFor]
  rw [closure_go (env := env) _ (fun name kind cs => by cases kind <;> rfl) scope.names [] h]
  rfl

theorem closL_mem {cells : List (Str × Addr)} : ∀ {names : List (Str × NameKind)} {acc : List (Str × Addr)} {n : Str} {c : Addr}, (n, c) ∈ closL cells names acc → (n, c) ∈ acc ∨ ((n, .free) ∈ names ∧ c = (cells.lookup n).getD 0)
  | [], acc, n, c, h => .inl h
  | (m, kd) :: r, acc, n, c, h => by
      rw [closL] at h
      split at h
      · rename_i hk
        have : kd = .free := by cases kd <;> first | rfl | cases hk
        subst this
        rcases closL_mem h with h | ⟨h, e⟩
        · rcases List.mem_cons.mp h with e | h
          · cases e; exact .inr ⟨.head _, rfl⟩
          · exact .inl h
        · exact .inr ⟨.tail _ h, e⟩
      · rcases closL_mem h with h | ⟨h, e⟩
        · exact .inl h
        · exact .inr ⟨.tail _ h, e⟩
theorem closL_acc {cells : List (Str × Addr)} : ∀ {names : List (Str × NameKind)} {acc : List (Str × Addr)} {p : Str × Addr}, p ∈ acc → p ∈ closL cells names acc
  | [], acc, p, h => h
  | (m, kd) :: r, acc, p, h => by
      rw [closL]
      split
      · exact closL_acc (.tail _ h)
      · exact closL_acc h
theorem closL_has {cells : List (Str × Addr)} : ∀ {names : List (Str × NameKind)} {acc : List (Str × Addr)} {n : Str}, (n, .free) ∈ names → (n, (cells.lookup n).getD 0) ∈ closL cells names acc
  | (m, kd) :: r, acc, n, h => by
      rw [closL]
      rcases List.mem_cons.mp h with e | h
      · cases e
        rw [if_pos (by decide)]
        exact closL_acc (.head _)
      · split
        · exact closL_has h
        · exact closL_has h
theorem lookup_of_mem {l : List (Str × Addr)} {n : Str} {c : Addr} (h : (n, c) ∈ l) : ∃ c', l.lookup n = some c' := by
  cases e : l.lookup n with
  | some c' => exact ⟨c', rfl⟩
  | none =>
    have := List.lookup_eq_none_iff.mp e (n, c) h
    simp at this
theorem closL_look {cells : List (Str × Addr)} {names : List (Str × NameKind)} {n : Str} {c : Addr} (hc : cells.lookup n = some c) (h : (n, .free) ∈ names) : (closL cells names []).lookup n = some c := by
  obtain ⟨c', e⟩ := lookup_of_mem (closL_has (cells := cells) (acc := []) h)
  rw [e]
  rcases closL_mem (mem_of_lookup e) with m | ⟨_, e'⟩
  · cases m
  · rw [e', hc]; rfl

theorem cellsFrom_mem : ∀ {names : List (Str × NameKind)} {lo : Nat} {acc : List (Str × Addr)} {n : Str} {c : Addr}, (n, c) ∈ cellsFrom lo names acc → (n, c) ∈ acc ∨ (lo ≤ c ∧ (n, .cell) ∈ names)
  | [], lo, acc, n, c, h => .inl h
  | (m, kd) :: r, lo, acc, n, c, h => by
      rw [cellsFrom] at h
      split at h
      · rename_i hk
        have : kd = .cell := by cases kd <;> first | rfl | cases hk
        subst this
        rcases cellsFrom_mem h with h | ⟨h, e⟩
        · rcases List.mem_cons.mp h with e | h
          · cases e; exact .inr ⟨Nat.le_refl _, .head _⟩
          · exact .inl h
        · exact .inr ⟨Nat.le_of_succ_le h, .tail _ e⟩
      · rcases cellsFrom_mem h with h | ⟨h, e⟩
        · exact .inl h
        · exact .inr ⟨h, .tail _ e⟩
theorem cellsFrom_new {names : List (Str × NameKind)} : ∀ {h : Heap} {lo : Nat} {acc : List (Str × Addr)} {n : Str} {c : Addr}, lo ≤ h.objs.size → (∀ p ∈ acc, lo ≤ p.2 → h.IsCell p.2 none) → (n, c) ∈ cellsFrom h.objs.size names acc → lo ≤ c → (pushCells h names).IsCell c none := by
  induction names with
  | nil => intro h lo acc n c hlo ha hm hc; exact ha _ hm hc
  | cons p r ih =>
    obtain ⟨m, kd⟩ := p
    intro h lo acc n c hlo ha hm hc
    rw [cellsFrom] at hm
    rw [pushCells]
    split at hm
    · rename_i hk
      rw [if_pos hk]
      have e : (h.push { cls := .type "cell", data := .cell none }).objs.size = h.objs.size + 1 := Heap.size_push ..
      rw [← e] at hm
      refine ih (lo := lo) (by rw [e]; omega) (fun p hp hlp => ?_) hm hc
      rcases List.mem_cons.mp hp with e' | hp
      · rw [e']; exact ⟨_, Heap.get?_push_size _ rfl, rfl⟩
      · exact (ha p hp hlp).keeps fun b o e => Heap.get?_push_of_some _ e
    · rename_i hk
      rw [if_neg hk]
      exact ih hlo ha hm hc
theorem cellsFrom_one : ∀ {names : List (Str × NameKind)} {lo b : Nat} {acc : List (Str × Addr)} {n n' : Str} {c : Addr}, (∀ p ∈ acc, p.2 < lo) → (∀ n n' c, (n, c) ∈ acc → (n', c) ∈ acc → b ≤ c → n = n') → b ≤ c → (n, c) ∈ cellsFrom lo names acc → (n', c) ∈ cellsFrom lo names acc → n = n'
  | [], lo, b, acc, n, n', c, ha, hu, hc, h, h' => hu _ _ _ h h' hc
  | (m, kd) :: r, lo, b, acc, n, n', c, ha, hu, hc, h, h' => by
      rw [cellsFrom] at h h'
      split at h
      · rename_i hk
        rw [if_pos hk] at h'
        refine cellsFrom_one (fun p hp => ?_) (fun n n' c h h' hc => ?_) hc h h'
        · rcases List.mem_cons.mp hp with e | hp
          · rw [e]; exact Nat.lt_succ_self _
          · exact Nat.lt_succ_of_lt (ha p hp)
        · rcases List.mem_cons.mp h with e | h <;> rcases List.mem_cons.mp h' with e' | h'
          · cases e; cases e'; rfl
          · cases e; exact absurd (ha _ h') (Nat.lt_irrefl _)
          · cases e'; exact absurd (ha _ h) (Nat.lt_irrefl _)
          · exact hu _ _ _ h h' hc
      · rename_i hk
        rw [if_neg hk] at h'
        exact cellsFrom_one ha hu hc h h'
theorem cellsFrom_look {x : Str} : ∀ {names : List (Str × NameKind)} {lo : Nat} {acc : List (Str × Addr)}, (x, NameKind.cell) ∉ names → (cellsFrom lo names acc).lookup x = acc.lookup x
  | [], lo, acc, h => rfl
  | (m, kd) :: r, lo, acc, h => by
      rw [cellsFrom]
      have hr : (x, NameKind.cell) ∉ r := fun m => h (.tail _ m)
      split
      · rename_i hk
        have : kd = .cell := by cases kd <;> first | rfl | cases hk
        subst this
        rw [cellsFrom_look hr, List.lookup_cons]
        have : (x == m) = false := by
          rw [beq_eq_false_iff_ne]
          rintro rfl
          exact h (.head _)
        rw [this]
      · exact cellsFrom_look hr
end Mine

set_option maxRecDepth 100000
set_option linter.unusedVariables false
namespace Mine
open PySem PySem.W PyProof.Rows

/-- a comprehension's names stand well: `N` its own, `σc` what it takes from `σ` -/
structure CompOk (out : List (Str × NameKind)) (σ σc : Sg) (sc : Scope) (N : List Str) : Prop where
  kind : sc.kind = .function
  loc : (sc.names.all fun p => p.2 != .local || sc.names.lookup p.1 == some .local) = true
  free : (sc.names.all fun p => p.2 != .free || ((σ.map (·.1)).contains p.1 && out.lookup p.1 != some .local)) = true
  tg : (N.all fun x => sc.names.lookup x == some .local || (sc.names.lookup x == some .cell && !sc.names.contains (x, .free))) = true
  cap : (σc.all fun e => sc.names.lookup e.1 == some .free && !sc.names.contains (e.1, .cell)) = true
  sub : ∀ e ∈ σc, e ∈ σ

theorem relabel_look {env : Env} {x : Str} {f : NameKind → NameKind → Prop} (hf : ∀ (n : Str) (kd : NameKind), f kd (if (kd == NameKind.free && env.scope.kind == .function && env.kindOf n == some .cell) then NameKind.cell else kd)) : ∀ {names : List (Str × NameKind)} {kd : NameKind}, names.lookup x = some kd →
    ∃ kd', (names.map fun (n, k) => if (k == NameKind.free && env.scope.kind == .function && env.kindOf n == some .cell) then (n, NameKind.cell) else (n, k)).lookup x = some kd' ∧ f kd kd'
  | [], kd, h => by simp at h
  | (n, k) :: r, kd, h => by
      rw [List.lookup_cons] at h
      rw [List.map_cons]
      have e : (if (k == NameKind.free && env.scope.kind == .function && env.kindOf n == some .cell) then (n, NameKind.cell) else (n, k)) = (n, if (k == NameKind.free && env.scope.kind == .function && env.kindOf n == some .cell) then NameKind.cell else k) := by split <;> rfl
      show ∃ kd', List.lookup x ((if (k == NameKind.free && env.scope.kind == .function && env.kindOf n == some .cell) then (n, NameKind.cell) else (n, k)) :: _) = some kd' ∧ _
      rw [e, List.lookup_cons]
      cases hx : x == n with
      | true => rw [hx] at h; cases h; exact ⟨_, rfl, hf n _⟩
      | false => rw [hx] at h; exact relabel_look hf h
theorem relabel_same {env : Env} {x : Str} {names : List (Str × NameKind)} {kd : NameKind} (hn : kd ≠ .free) (h : names.lookup x = some kd) :
    (names.map fun (n, k) => if (k == NameKind.free && env.scope.kind == .function && env.kindOf n == some .cell) then (n, NameKind.cell) else (n, k)).lookup x = some kd := by
  obtain ⟨kd', e, f⟩ := relabel_look (env := env) (f := fun a b => a ≠ .free → b = a) (fun (n : Str) (kd : NameKind) hn => by
    have : (kd == NameKind.free) = false := by cases kd <;> first | rfl | exact absurd rfl hn
    simp [this]) h
  rw [e, f hn]
theorem relabel_free {env : Env} {x : Str} {names : List (Str × NameKind)} (h : names.lookup x = some .free) :
    (names.map fun (n, k) => if (k == NameKind.free && env.scope.kind == .function && env.kindOf n == some .cell) then (n, NameKind.cell) else (n, k)).lookup x = some .cell ∨
    (names.map fun (n, k) => if (k == NameKind.free && env.scope.kind == .function && env.kindOf n == some .cell) then (n, NameKind.cell) else (n, k)).lookup x = some .free := by
  obtain ⟨kd', e, f⟩ := relabel_look (env := env) (f := fun a b => a = .free → b = .cell ∨ b = .free) (fun n kd hn => by
    subst hn
    split
    · exact .inl rfl
    · exact .inr rfl) h
  rw [e]
  rcases f rfl with rfl | rfl
  · exact .inl rfl
  · exact .inr rfl

section
variable {w : World} {k : Nat} {A : Around} {B : List Addr} {env : Env} {N : List Str} {σ σc : Sg} {s : Shared} {E : Value → Shared → Prop} {h : Heap}

theorem pushCells_size : ∀ (names : List (Str × NameKind)) (h : Heap), h.objs.size ≤ (pushCells h names).objs.size
  | [], h => Nat.le_refl _
  | (_, kd) :: r, h => by
      rw [pushCells]
      split
      · refine Nat.le_trans ?_ (pushCells_size r _)
        rw [Heap.size_push]; exact Nat.le_succ _
      · exact pushCells_size r h

/-- the frame of a comprehension -/
theorem compEnv {sc : Scope} {cl : List (Str × Addr)} {Q : Env → Shared → Prop} {h : Heap} {tk : Nat}
    (q : Q { scope := sc, locals := h.objs.size, globals := env.globals, cells := cellsFrom (h.objs.size + 1) sc.names cl, qual := env.qual, func := none, code := env.code, frame := env.frame, builtins := env.builtins }
      (stAt s (pushCells (h.push { cls := .type "dict", data := .dict #[] }) sc.names) tk)) :
    wpAny (model pw w) A (newFunctionEnv sc env.globals cl [] env.qual none .none (some env)) Q E (stAt s h tk) := by
  simp only [newFunctionEnv, Option.isSome_some, if_true]
  refine wpAny_bind (wpAny_alloc ?_)
  refine wpAny_bind (wpAny_layCells _ (fun name kind cells => by cases hkc : kind == NameKind.cell <;> simp) _ _ _ _ ?_)
  simp only [List.forIn_nil]
  refine wpAny_bind (wpAny_pure (wpAny_pure ?_))
  have e : (h.push { cls := .type "dict", data := .dict #[] }).objs.size = h.objs.size + 1 := Heap.size_push ..
  show Q { scope := sc, locals := h.objs.size, globals := env.globals, cells := cellsFrom (h.push { cls := .type "dict", data := .dict #[] }).objs.size sc.names cl, qual := env.qual, func := none, code := env.code, frame := env.frame, builtins := env.builtins } _
  rw [e]
  exact q

theorem mem_cell {names : List (Str × NameKind)} {x : Str} : ∀ {lo : Nat} {acc : List (Str × Addr)}, (x, NameKind.cell) ∈ names → ∃ c, (x, c) ∈ cellsFrom lo names acc := by
  have acc_in : ∀ {names : List (Str × NameKind)} {lo : Nat} {acc : List (Str × Addr)} {p : Str × Addr}, p ∈ acc → p ∈ cellsFrom lo names acc := by
    intro names
    induction names with
    | nil => intro lo acc p h; exact h
    | cons q r ih =>
      obtain ⟨m, kd⟩ := q
      intro lo acc p h
      rw [cellsFrom]
      split
      · exact ih (.tail _ h)
      · exact ih h
  induction names with
  | nil => intro lo acc h; cases h
  | cons q r ih =>
    obtain ⟨m, kd⟩ := q
    intro lo acc h
    rw [cellsFrom]
    rcases List.mem_cons.mp h with e | h
    · cases e
      rw [if_pos (by decide)]
      exact ⟨_, acc_in (.head _)⟩
    · split
      · exact ih h
      · exact ih h

theorem mem_of_look {x : Str} {kd : NameKind} : ∀ {names : List (Str × NameKind)}, names.lookup x = some kd → (x, kd) ∈ names
  | (n, k) :: r, h => by
      rw [List.lookup_cons] at h
      cases hb : x == n with
      | true => rw [hb] at h; cases h; rw [beq_iff_eq.mp hb]; exact .head _
      | false => rw [hb] at h; exact .tail _ (mem_of_look h)
theorem comp_core {elt : Expr} {g : Comprehension} {gs : List Comprehension} {sc : Scope} {pos p : Pos} {d : D} {ds os : List D} {use : Option (Value → Sem Unit)} {Q : Value → Shared → Prop} (pr : Pre w k A B env σ s) (ck : CompOk env.scope.names σ σc sc N) (ev : EvE w k env σ g.iter d) (hi : d.items = some ds) (hs : d.small)
    (hgens : ∀ g' ∈ g :: gs, g'.is_async = 0 ∧ ∀ (env : Env) x, foldedSetIterable g'.iter env x = pure x) (T : ∀ cenv, EnvOk cenv → cenv.scope = relabel sc env → Turns w k cenv N (Emit w k cenv N elt gs) g σc ds os) (len : os.length ≤ 1000000)
    (q : ∀ Rr C h' tk' vs, (∀ b, Al s.heap b → b < Rr ∧ b < C) → Rr ≠ C → (∃ m, h'.Ns C m) → Le s.heap h' → s.toks ≤ tk' → h'.PlainList Rr vs.toArray → HasAll (C :: Rr :: B) h' vs os → compPost (model pw w) A E use Q (.ref Rr) C (.ok .next) (stAt s h' tk')) :
    wpAny (model pw w) A (comprehension (.ListComp elt (g :: gs) sc pos) sc env p (newList []) false (eval g.iter env) use) Q E s := by
  have free : ∀ n, (n, NameKind.free) ∈ sc.names → ∃ d, (n, d) ∈ σ ∧ env.kindOf n ≠ some .local := fun n m => by
    have := List.all_eq_true.mp ck.free _ m
    simp only [bne_self_eq_false, Bool.false_or, Bool.and_eq_true] at this
    obtain ⟨h1, h2⟩ := this
    have h1 := List.contains_iff_mem.mp h1
    obtain ⟨⟨y, d⟩, m', rfl⟩ := List.mem_map.mp h1
    refine ⟨d, m', ?_⟩
    intro e
    have e' : env.scope.names.lookup y = some .local := e
    rw [e'] at h2
    simp at h2
  have freeC : ∀ n, (n, NameKind.free) ∈ sc.names → ∃ c v, env.cells.lookup n = some c ∧ s.heap.IsCell c (some v) := fun n m => by
    obtain ⟨d, m', hk⟩ := free n m
    obtain ⟨_, c, v, e, i, _⟩ := pr.vs.cell n d m' hk
    exact ⟨c, v, e, i⟩
  refine wpAny_comprehension_free (cl := closL env.cells sc.names []) rfl (fun x => (hgens g (.head _)).2 env x) (closure_pure fun n m => by obtain ⟨c, _, e, _⟩ := freeC n m; exact ⟨c, e⟩) ck.kind (fun x m hl => by
    have := List.all_eq_true.mp ck.loc _ m
    simpa [hl] using this) ?_
  refine ev A B s _ _ pr fun v h₁ tk₁ u₁ g₁ hv => ?_
  refine wp_iter (s := stAt s h₁ tk₁) hv hi hs fun I h₂ fp P Stt IT => ?_
  refine wpAny_newObj_type ?_
  refine compEnv (s := s) (h := h₂.push { cls := .type "list", data := .seq ([] : List Value).toArray }) (tk := tk₁) ?_
  generalize hH : h₂.push { cls := .type "list", data := .seq ([] : List Value).toArray } = h₃
  have s23 : h₃.objs.size = h₂.objs.size + 1 := by rw [← hH, Heap.size_push]
  have up23 : Le h₂ h₃ := by rw [← hH]; exact Le.push _ _
  have up34 : Le h₃ (pushCells (h₃.push { cls := .type "dict", data := .dict #[] }) sc.names) := fun b o e => pushCells_keeps _ _ b o (Heap.get?_push_of_some _ e)
  have acc₃ : h₃.PlainList h₂.objs.size ([] : List Value).toArray := by rw [← hH]; exact ⟨_, Heap.get?_push_size _ rfl⟩
  have hIlt : @LT.lt Nat _ I h₂.objs.size := IT.lt
  have hbig : @LE.le Nat _ h₁.objs.size I := IT.big
  have z12 : @LE.le Nat _ h₁.objs.size h₂.objs.size := Nat.le_trans hbig (Nat.le_of_lt hIlt)
  have z13 : @LE.le Nat _ h₁.objs.size h₃.objs.size := by rw [s23]; exact Nat.le_succ_of_le z12
  have none1 : ∀ c, h₂.objs.size ≤ c → h₁.get? c = none := fun c hc => get_big (Nat.le_trans (Nat.le_of_lt (Nat.lt_of_le_of_lt hbig hIlt)) hc)
  let cl := closL env.cells sc.names []
  let cells := cellsFrom (h₃.objs.size + 1) sc.names cl
  let own : List Addr := (cells.filter fun p => decide (h₃.objs.size + 1 ≤ p.2)).map (·.2)
  let B₀ : List Addr := h₂.objs.size :: h₃.objs.size :: (own ++ B)
  let cenv : Env := { scope := relabel sc env, locals := h₃.objs.size, globals := env.globals, cells := cells, qual := env.qual, func := none, code := env.code, frame := env.frame, builtins := env.builtins }
  have hcl : ∀ n c, (n, c) ∈ cl → (n, NameKind.free) ∈ sc.names ∧ env.cells.lookup n = some c ∧ ∃ v, s.heap.IsCell c (some v) := fun n c m => by
    rcases closL_mem m with m | ⟨m, e⟩
    · cases m
    · obtain ⟨c', v, e', i⟩ := freeC n m
      rw [e'] at e
      subst e
      exact ⟨m, e', v, i⟩
  have cl_lt : ∀ q ∈ cl, q.2 < h₃.objs.size + 1 := fun ⟨n, c⟩ m => by
    obtain ⟨_, _, v, i⟩ := hcl n c m
    have : h₃.IsCell c (some v) := i.keeps fun b o e => up23 b o (IT.le b o (u₁ b o e))
    exact Nat.lt_succ_of_lt this.lt
  have kdc : ∀ y, cenv.kindOf y = (relabel sc env).names.lookup y := fun _ => rfl
  have ownB : ∀ n c, (n, c) ∈ cells → h₃.objs.size + 1 ≤ c → c ∈ B₀ := fun n c m hc =>
    .tail _ (.tail _ (List.mem_append.mpr (.inl (List.mem_map.mpr ⟨(n, c), List.mem_filter.mpr ⟨m, by simpa using hc⟩, rfl⟩))))
  have ownI : ∀ c ∈ own, h₃.objs.size + 1 ≤ c ∧ ∃ n, (n, c) ∈ cells := fun c m => by
    obtain ⟨⟨n, c'⟩, m', rfl⟩ := List.mem_map.mp m
    have := (List.mem_filter.mp m')
    exact ⟨by simpa using this.2, n, this.1⟩
  have inB₀ : ∀ b ∈ B₀, b = h₂.objs.size ∨ b = h₃.objs.size ∨ (b ∈ own) ∨ b ∈ B := fun b m => by
    rcases List.mem_cons.mp m with e | m
    · exact .inl e
    · rcases List.mem_cons.mp m with e | m
      · exact .inr (.inl e)
      · exact .inr (.inr (List.mem_append.mp m))
  have none1' : ∀ c ∈ I :: B₀, c ∈ B ∨ h₁.get? c = none := fun c m => by
    rcases List.mem_cons.mp m with e | m
    · rw [e]; exact .inr IT.new
    · rcases inB₀ c m with e | e | m | m
      · rw [e]; exact .inr (none1 _ (Nat.le_refl _))
      · rw [e]; exact .inr (none1 _ (by rw [s23]; exact Nat.le_succ _))
      · exact .inr (none1 _ (Nat.le_trans (by rw [s23]; exact Nat.le_succ_of_le (Nat.le_succ _)) (ownI c m).1))
      · exact .inl m
  have bI : ∀ b ∈ B₀, b ≠ I := fun b m => by
    rcases inB₀ b m with e | e | m | m
    · rw [e]; exact Nat.ne_of_gt hIlt
    · rw [e, s23]; exact Nat.ne_of_gt (Nat.lt_succ_of_lt hIlt)
    · exact fun e => by
        have h1 := (ownI b m).1
        rw [e, s23] at h1
        exact absurd (Nat.lt_trans hIlt (Nat.lt_of_lt_of_le (Nat.lt_succ_of_lt (Nat.lt_succ_self _)) h1)) (Nat.lt_irrefl _)
    · exact al_ne ((pr.bd b m).le u₁) IT.new
  have up14 : Le h₁ (pushCells (h₃.push { cls := .type "dict", data := .dict #[] }) sc.names) := (IT.le.trans up23).trans up34
  have p3 : (h₃.push { cls := .type "dict", data := .dict #[] }).objs.size = h₃.objs.size + 1 := Heap.size_push ..
  generalize hH4 : pushCells (h₃.push { cls := .type "dict", data := .dict #[] }) sc.names = h₄ at up34 up14 ⊢
  have cellAt : ∀ n c, (n, c) ∈ cells → ∃ v, h₄.IsCell c v := fun n c m => by
    by_cases hc : h₃.objs.size + 1 ≤ c
    · refine ⟨none, ?_⟩
      rw [← hH4]
      refine cellsFrom_new (lo := h₃.objs.size + 1) (by rw [p3]; exact Nat.le_refl _) (fun q m' hq => ?_) (by rw [p3]; exact m) hc
      exact absurd (cl_lt q m') (Nat.not_lt.mpr hq)
    · rcases cellsFrom_mem m with m | ⟨h', _⟩
      · obtain ⟨_, _, v, i⟩ := hcl n c m
        exact ⟨_, i.keeps fun b o e => up14 b o (u₁ b o e)⟩
      · exact absurd h' hc
  have nsL : h₄.Ns h₃.objs.size fun _ => none := by
    rw [← hH4]
    exact (Heap.Ns.new h₃ (.type "dict")).keeps (pushCells_keeps _ _)
  have Fc : Frm w k A (I :: B₀) cenv N (stAt s h₁ tk₁) := by
    refine ⟨pr.room, ⟨ck.kind, pr.ok.globals, pr.ok.builtins⟩, pr.facts.keeps u₁, .tail _ (.tail _ (.head _)), z13, ?_, ?_, Nat.lt_of_lt_of_le pr.pos g₁⟩
    · intro x y c hx hk hc hc'
      have tg := List.all_eq_true.mp ck.tg x (by simpa using hx)
      simp only [Bool.or_eq_true, beq_iff_eq, Bool.and_eq_true, Bool.not_eq_true'] at tg
      rcases tg with tg | ⟨tg, nf⟩
      · rw [kdc] at hk
        have := relabel_same (env := env) (by decide) tg
        have : (relabel sc env).names.lookup x = some .local := this
        rw [this] at hk; cases hk
      · have nf : (x, NameKind.free) ∉ sc.names := fun m => by
          rw [List.contains_iff_mem.mpr m] at nf; cases nf
        have m1 := mem_of_lookup hc
        have m2 := mem_of_lookup hc'
        rcases cellsFrom_mem m1 with m | ⟨hlo, _⟩
        · exact absurd (hcl x c m).1 nf
        · exact cellsFrom_one cl_lt (fun n n' c m _ hb => absurd (cl_lt _ m) (Nat.not_lt.mpr hb)) hlo m2 m1
    · intro x hx
      have tg := List.all_eq_true.mp ck.tg x (by simpa using hx)
      simp only [Bool.or_eq_true, beq_iff_eq, Bool.and_eq_true, Bool.not_eq_true'] at tg
      rcases tg with tg | ⟨tg, nf⟩
      · exact .inl (relabel_same (env := env) (by decide) tg)
      · have nf : (x, NameKind.free) ∉ sc.names := fun m => by
          rw [List.contains_iff_mem.mpr m] at nf; cases nf
        obtain ⟨c', m⟩ := mem_cell (lo := h₃.objs.size + 1) (acc := cl) (mem_of_look tg)
        obtain ⟨c, hc⟩ := lookup_of_mem m
        have m1 := mem_of_lookup hc
        rcases cellsFrom_mem m1 with m | ⟨hlo, _⟩
        · exact absurd (hcl x c m).1 nf
        · exact .inr ⟨relabel_same (env := env) (by decide) tg, c, hc, .tail _ (ownB x c m1 hlo), Nat.le_trans z13 (Nat.le_of_succ_le hlo)⟩
  have Sc : St (I :: B₀) cenv σc (stAt s h₁ tk₁) h₄ tk₁ := by
    have capI : ∀ x d, (x, d) ∈ σc → sc.names.lookup x = some .free ∧ (x, NameKind.cell) ∉ sc.names := fun x d m => by
      have := List.all_eq_true.mp ck.cap _ m
      simp only [Bool.and_eq_true, beq_iff_eq, Bool.not_eq_true'] at this
      exact ⟨this.1, fun m => by rw [List.contains_iff_mem.mpr m] at this; cases this.2⟩
    refine ⟨⟨⟨_, nsL, fun x d m l => ?_⟩, fun x d m l => ?_⟩, up14, Nat.le_refl _, fun b m => ?_, fun x c e => cellAt x c (mem_of_lookup e)⟩
    · obtain ⟨h1, _⟩ := capI x d m
      rw [kdc] at l
      rcases relabel_free (env := env) h1 with e | e
      · have e : (relabel sc env).names.lookup x = some .cell := e
        rw [e] at l; cases l
      · have e : (relabel sc env).names.lookup x = some .free := e
        rw [e] at l; cases l
    · obtain ⟨h1, h2⟩ := capI x d m
      have fx := mem_of_look h1
      obtain ⟨_, _, hk⟩ := free x fx
      obtain ⟨_, c, v, e, i, r⟩ := pr.vs.cell x d (ck.sub _ m) hk
      refine ⟨relabel_free (env := env) h1, c, v, ?_, i.keeps fun b o e => up14 b o (u₁ b o e), ?_⟩
      · show cells.lookup x = some c
        rw [cellsFrom_look h2]
        exact closL_look e fx
      · exact ((r.le u₁).add none1').le up14
    · rcases List.mem_cons.mp m with e | m
      · rw [e]; obtain ⟨o, _, _, e', _⟩ := IT.own 0 h₂ IT.st
        exact ⟨o, up34 _ _ (up23 _ _ e')⟩
      · rcases inB₀ b m with e | e | m | m
        · rw [e]; obtain ⟨n, e'⟩ := acc₃; exact ⟨_, up34 _ _ e'⟩
        · rw [e]; obtain ⟨o, _, _, e', _⟩ := nsL; exact ⟨o, e'⟩
        · obtain ⟨_, n, mc⟩ := ownI b m
          obtain ⟨v, o, e', _⟩ := cellAt n b mc
          exact ⟨o, e'⟩
        · exact ((pr.bd b m).le u₁).le up14
  obtain ⟨t, iter, ifs, ia⟩ := g
  obtain ⟨rfl, -⟩ := hgens _ (.head _)
  have run : codeAny (model pw w) A (.compLoop (.ListComp elt (⟨t, iter, ifs, 0⟩ :: gs) sc pos) 0 (.ref I) (.ref h₂.objs.size) cenv) (compPost (model pw w) A E use Q (.ref h₂.objs.size) h₃.objs.size) (stAt (stAt s h₁ tk₁) h₄ tk₁) := by
    refine turns_run (s₀ := stAt s h₁ tk₁) (fun g' m => ⟨(hgens g' m).1, (hgens g' m).2 cenv⟩) gs _ 0 B₀ B σc h₄ h₁ h₂ tk₁ I ds fp P Stt os [] [] _ rfl Fc IT none1' bI (.head _) hbig z12 (T cenv Fc.ok rfl) Sc
      ((IT.walks A pr.room.1).frame 0 h₂ h₄ IT.st fun b _ o e => up34 _ _ (up23 _ _ e)) up14.sp (acc₃.at fun o e => up34 _ _ e) .nil (by simpa using len) fun h' tk' vs' S' acc' hv' sp' ko' g' => ?_
    obtain ⟨m', hm', _⟩ := S'.vs.ns
    have hv'' : HasAll B₀ h' vs' os := by simpa using hv'
    exact q h₂.objs.size h₃.objs.size h' tk' vs' (fun b al => ⟨Nat.lt_of_lt_of_le (al.le u₁).lt z12, Nat.lt_of_lt_of_le (al.le u₁).lt z13⟩) (by rw [s23]; exact Nat.ne_of_lt (Nat.lt_succ_self _)) ⟨m', hm'⟩ (u₁.trans S'.keep) (Nat.le_trans g₁ S'.g) acc' (hv''.sub fun b m => by
      rcases List.mem_cons.mp m with e | m
      · rw [e]; exact .tail _ (.head _)
      · rcases List.mem_cons.mp m with e | m
        · rw [e]; exact .head _
        · exact .tail _ (.tail _ (List.mem_append.mpr (.inr m))))
  exact compS rfl run fun E' => (IT.walks A pr.room.1).self 0 _ _ _ ((IT.walks A pr.room.1).frame 0 h₂ h₄ IT.st fun b _ o e => up34 _ _ (up23 _ _ e)) run

theorem Has.drop_new {C : Addr} {v : Value} {d : D} {h h' : Heap} (x : Has (C :: B) h v d) (e : Heap.ExtBut C h h') : Has (C :: B) h' v d := x.sp (sp_own (.head _) e)

/-- a comprehension -/
theorem ev_comp {elt : Expr} {g : Comprehension} {gs : List Comprehension} {sc : Scope} {pos : Pos} {d : D} {ds os : List D} (σc : Sg) (N : List Str) (ck : CompOk env.scope.names σ σc sc N) (ev : EvE w k env σ g.iter d) (hi : d.items = some ds) (hs : d.small)
    (hgens : ∀ g' ∈ g :: gs, g'.is_async = 0 ∧ ∀ (env : Env) x, foldedSetIterable g'.iter env x = pure x) (T : ∀ cenv, EnvOk cenv → cenv.scope = relabel sc env → Turns w k cenv N (Emit w k cenv N elt gs) g σc ds os) (len : os.length ≤ 1000000) :
    EvE w k env σ (.ListComp elt (g :: gs) sc pos) (.list os) := fun A B s E Q pr q => by
  have ha : firstAsync (g :: gs) = false := by
    obtain ⟨t, iter, ifs, ia⟩ := g
    obtain ⟨rfl, -⟩ := hgens _ (.head _)
    rfl
  have hf : firstIter (g :: gs) env = eval g.iter env := by cases g; rfl
  rw [eval_ListComp, ha, hf]
  refine comp_core pr ck ev hi hs hgens T len fun Rr C h' tk' vs fresh hne hns le gk acc hv => ?_
  obtain ⟨m, hm⟩ := hns
  refine ⟨m, hm, fun h'' sb => ?_⟩
  have eb := sb.extBut
  have nC : s.heap.get? C = none := by
    cases e : s.heap.get? C with
    | none => rfl
    | some o => exact absurd (fresh C ⟨o, e⟩).2 (Nat.lt_irrefl _)
  refine q (.ref Rr) h'' tk' (fun b o e => eb b o (fun c => by rw [c, nC] at e; cases e) (le b o e)) gk (.list (fun m => Nat.lt_irrefl _ (fresh Rr (pr.bd _ m)).1) (acc.extBut eb hne) ?_)
  exact (hv.sp (sp_own (.head _) eb)).sub fun b m => .tail _ (.tail _ m)

/-- a comprehension stored at once -/
theorem run_assignC {x : Str} {px p : Pos} {rest : List Stmt} {elt : Expr} {g : Comprehension} {gs : List Comprehension} {sc : Scope} {pos : Pos} {d : D} {ds os : List D} {ρ : Sg} {s₀ : Shared} {tk : Nat} {NF : List Str} {Q : Flow → Shared → Prop} (F : Frm w k A B env NF s₀) (S : St B env σ s₀ h tk)
    (σc : Sg) (N : List Str) (ck : CompOk env.scope.names σ σc sc N) (ev : EvE w k env σ g.iter d) (hi : d.items = some ds) (hs : d.small)
    (hgens : ∀ g' ∈ g :: gs, g'.is_async = 0 ∧ ∀ (env : Env) x, foldedSetIterable g'.iter env x = pure x) (T : ∀ cenv, EnvOk cenv → cenv.scope = relabel sc env → Turns w k cenv N (Emit w k cenv N elt gs) g σc ds os) (len : os.length ≤ 1000000)
    (hρ : ∀ e ∈ ρ, e ∈ σ) (hx : (ρ.all fun e => e.1 != x) = true) (hN : NF.contains x = true) (hsw : swapsWith (.ListComp elt (g :: gs) sc pos) (some (.Name x px)) p.line env = pure true)
    (q : ∀ h' tk', St B env ((x, .list os) :: ρ) s₀ h' tk' → Sp B h h' → Kd h h' → tk ≤ tk' → Run w A env rest Q E (stAt s₀ h' tk')) : Run w A env (.Assign [.Name x px] (.ListComp elt (g :: gs) sc pos) p :: rest) Q E (stAt s₀ h tk) := by
  have ha : firstAsync (g :: gs) = false := by
    obtain ⟨t, iter, ifs, ia⟩ := g
    obtain ⟨rfl, -⟩ := hgens _ (.head _)
    rfl
  have hf : firstIter (g :: gs) env = eval g.iter env := by cases g; rfl
  refine wpAny_execs_cons ?_
  rw [exec_Assign_Name_used _ _ _ _ hsw]
  refine wpAny_bind (wpAny_standAt (wpAny_bind ?_))
  show wpAny _ A (do let _ ← comprehension (.ListComp elt (g :: gs) sc pos) sc env _ (newList []) (firstAsync (g :: gs)) (firstIter (g :: gs) env) (some (assign (.Name x px) env))) _ _ _
  rw [ha, hf]
  have pr := S.pre F
  refine wpAny_bind (wpAny_mono (comp_core (Q := fun _ s' => Run w A env rest Q E s') pr ck ev hi hs hgens T len fun Rr C h' tk' vs fresh hne hns le gk acc hv => ?_) (fun _ s' hq => wpAny_pure (wpAny_pure hq)) fun _ _ e => e)
  obtain ⟨m, hm⟩ := hns
  have nC : h.get? C = none := by
    cases e : h.get? C with
    | none => rfl
    | some o => exact absurd (fresh C ⟨o, e⟩).2 (Nat.lt_irrefl _)
  have alC : Al h' C := by obtain ⟨o, _, _, e, _⟩ := hm; exact ⟨o, e⟩
  have S₁ : St (C :: B) env σ s₀ h' tk' := (S.addI le nC alC).up (Le.refl _) gk
  have bC : ∀ b ∈ B, b ≠ C := fun b hb => al_ne (S.bd b hb) nC
  have nB : Rr ∉ C :: B := fun m => (List.mem_cons.mp m).elim hne fun m => Nat.lt_irrefl _ (fresh Rr (S.bd _ m)).1
  have hv' : Has (C :: B) h' (.ref Rr) (.list os) := .list nB acc (hv.sub fun b m => (List.mem_cons.mp m).elim (fun e => e ▸ .head _) fun m => .tail _ (.tail _ m))
  show wpAny _ A (assign (.Name x px) env (.ref Rr)) _ _ _
  refine wpAny_assign_Name (st_storeX (s₀ := s₀) (F.add C) S₁ hv' hN hρ hx fun h₂ tk₂ S₂ sp₂ kd₂ g₂ kn₂ => ?_)
  have clC : C ≠ env.locals := (bC _ F.locB).symm
  have ccC : ∀ y c, env.cells.lookup y = some c → C ≠ c := fun y c e => by
    obtain ⟨v, o, z, _⟩ := S.cells y c e
    exact (al_ne ⟨o, z⟩ nC).symm
  have n3 : s₀.heap.objs.size ≤ C := Nat.le_trans F.locF (Nat.le_of_lt (fresh _ (S.bd _ F.locB)).2)
  refine ⟨m, hm.at' fun o e => kn₂ C o clC ccC e, fun h₃ sb => ?_⟩
  have eb := sb.extBut
  have at1 : ∀ b o, h.get? b = some o → h'.get? b = some o ∧ b ≠ C := fun b o e => ⟨le b o e, al_ne ⟨o, e⟩ nC⟩
  refine q h₃ tk₂ (S₂.drop eb bC clC ccC n3 (Nat.le_refl _)) (fun b o nb e => ?_) (fun b o nm e => ?_) (Nat.le_trans gk g₂)
  · obtain ⟨e1, n1⟩ := at1 b o e
    exact eb b o n1 (sp₂ b o (fun m => (List.mem_cons.mp m).elim n1 nb) e1)
  · obtain ⟨e1, n1⟩ := at1 b o e
    exact eb b o n1 (kd₂ b o nm e1)
end
end Mine

set_option maxRecDepth 100000
set_option linter.unusedVariables false
namespace Mine
open PySem PySem.W PyProof.Rows Builtin Builtin.ObjectAttr PySem.Calls
theorem ty_gi : typeOf (.builtin "str.__getitem__") = pure (.type "wrapper_descriptor") := by kernel_rfl
theorem slot_wd_get : Slot "wrapper_descriptor" "__get__" "wrapper_descriptor.__get__" :=
  .of (owner := "wrapper_descriptor") (n := "__get__") (by rw [typeLookup_type, builtinLookup_eq_fast]; kernel_rfl) (by decide +kernel) (by decide +kernel) (by decide +kernel)
    (by first | exact .inl (by decide +kernel) | exact .inr (by decide +kernel)) (by rw [isSubtype_type]; kernel_rfl)
theorem wd_set : typeLookup (.type "wrapper_descriptor") "__set__" = pure none := by rw [typeLookup_type, builtinLookup_eq_fast]; kernel_rfl
theorem wd_del : typeLookup (.type "wrapper_descriptor") "__delete__" = pure none := by rw [typeLookup_type, builtinLookup_eq_fast]; kernel_rfl
theorem entry_wd_get : entryFor table "wrapper_descriptor.__get__" = some Builtin.«wrapper_descriptor.__get__» := entryFor_of_tree (by kernel_rfl)
theorem args_wd_get (a b c : Value) : argsOk "wrapper_descriptor.__get__" ⟨[a, b, c], []⟩ := by unfold argsOk; kernel_rfl
theorem owner_gi : (".".intercalate ("str.__getitem__".cutAt '.').dropLast) = "str" := by decide +kernel
theorem sub_gi : isSubtype (.type "str") (.type (".".intercalate ("str.__getitem__".cutAt '.').dropLast)) = pure true := by
  rw [owner_gi, isSubtype_type]; kernel_rfl
section
variable {w : World} {k : Nat} {A : Around} {E : Value → Shared → Prop} {h : Heap} {g : Array GenState} {d : Drawn} {t : Nat} {os : OsState} {x : Str} {u : Tok}
theorem gi_get {R : Result → Shared → Prop} (hq : R (.ok (.ret (.ref h.objs.size))) ⟨h.push { cls := .type "method-wrapper", data := .fields #[.builtin "str.__getitem__", .str x u] }, g, d, t, os⟩) :
    codeAny (model pw w) A (.call (.builtin "wrapper_descriptor.__get__") ⟨[.builtin "str.__getitem__", .str x u, .type "str"], []⟩) R ⟨h, g, d, t, os⟩ := by
  have hT : (⟨h, g, d, t, os⟩ : Shared).TypeIs (.str x u) "str" := rfl
  have hT5 : (⟨h, g, d, t, os⟩ : Shared).TypeIs (.builtin "str.__getitem__") "wrapper_descriptor" := ty_gi
  have f8 := sub_gi
  refine codeAny_call_builtin slot_wd_get.plain entry_wd_get (slot_wd_get.check _ _ _ _ _ _ _ _ hT5 (args_wd_get _ _ _) ?_)
  unfold Builtin.«wrapper_descriptor.__get__»
  repeat (any_goals (first | assumption | wp_step))
theorem gi_entry {tk : Tok} {Q : PySem.Fin → Shared → Prop} (hq : Q (.done (.ret (.ref h.objs.size))) ⟨h.push { cls := .type "method-wrapper", data := .fields #[.builtin "str.__getitem__", .str x u] }, g, d, t, os⟩) :
    wpAny (model pw w) A (Builtin.«object.__getattribute__» ⟨[.str x u, .str "__getitem__" tk], []⟩) Q E ⟨h, g, d, t, os⟩ := by
  have hT : (⟨h, g, d, t, os⟩ : Shared).TypeIs (.str x u) "str" := rfl
  have hT5 : (⟨h, g, d, t, os⟩ : Shared).TypeIs (.builtin "str.__getitem__") "wrapper_descriptor" := ty_gi
  have f4 := F.slot_str_getitem.lookup
  have f5 := ty_gi
  have f6 := slot_wd_get.lookup
  have f7 := wd_set
  have f9 := wd_del
  repeat (any_goals (first | assumption | wp_step))
  refine gi_get ?_
  repeat (any_goals (first | assumption | wp_step))
theorem gi_call {tk : Tok} {R : Result → Shared → Prop} (hq : R (.ok (.ret (.ref h.objs.size))) ⟨h.push { cls := .type "method-wrapper", data := .fields #[.builtin "str.__getitem__", .str x u] }, g, d, t, os⟩) :
    codeAny (model pw w) A (.call (.builtin "object.__getattribute__") ⟨[.str x u, .str "__getitem__" tk], []⟩) R ⟨h, g, d, t, os⟩ :=
  codeAny_call_builtin F.slot_str_getattribute.plain F.entry_object_getattribute (F.slot_str_getattribute.check _ _ _ _ _ _ _ _ (show (⟨h, g, d, t, os⟩ : Shared).TypeIs (.str x u) "str" from rfl) (F.args_object_getattribute_2 _ _) (gi_entry hq))
theorem gi_by {tk : Tok} {Q : Value → Shared → Prop} (hq : Q (.ref h.objs.size) ⟨h.push { cls := .type "method-wrapper", data := .fields #[.builtin "str.__getitem__", .str x u] }, g, d, t, os⟩) : wpAny (model pw w) A (getAttrBy (.str x u) (.str "__getitem__" tk) false) Q E ⟨h, g, d, t, os⟩ := by
  have hT : (⟨h, g, d, t, os⟩ : Shared).TypeIs (.str x u) "str" := rfl
  have f2 := F.slot_str_getattribute.lookup
  have f3 := F.slot_str_getattribute.bind (.str x u)
  repeat (any_goals (first | assumption | wp_step))
  refine gi_call ?_
  repeat (any_goals (first | assumption | wp_step))

theorem kind_hasattr : builtinKind "hasattr" = none := by decide +kernel
theorem plain_hasattr : plainId "hasattr" = true := by decide +kernel
theorem entry_hasattr : entryFor table "hasattr" = some Builtin.«hasattr» := entryFor_of_tree (by kernel_rfl)
theorem args_hasattr (a b : Value) : argsOk "hasattr" ⟨[a, b], []⟩ := by unfold argsOk; kernel_rfl
set_option maxHeartbeats 2000000 in
theorem hasattr_str {tk : Tok} {Q : Value → Shared → Prop} (hq : Q (.bool true) ⟨h.push { cls := .type "method-wrapper", data := .fields #[.builtin "str.__getitem__", .str x u] }, g, d, t, os⟩) : wpAny (model pw w) A (call (.builtin "hasattr") [.str x u, .str "__getitem__" tk]) Q E ⟨h, g, d, t, os⟩ := by
  have hT : (⟨h, g, d, t, os⟩ : Shared).TypeIs (.str x u) "str" := rfl
  have f2 := F.slot_str_getattribute.lookup
  have f3 := F.slot_str_getattribute.bind (.str x u)
  have f4 := F.slot_str_getitem.lookup
  refine Calls.call_function_entry kind_hasattr plain_hasattr entry_hasattr (args_hasattr _ _) ?_
  unfold Builtin.«hasattr»
  refine wpAny_bind (wpAny_of_eq (a := [.str x u, .str "__getitem__" tk]) (by first | rfl | kernel_rfl) ?_)
  dsimp only
  refine wpAny_bind (wpAny_of_eq (a := ()) (by first | rfl | kernel_rfl) ?_)
  have e1 : (Value.str x u == Value.builtin "__main__.__loader__#opaque") = false := rfl
  have ty : typeOf (.str x u) = pure (.type "str") := rfl
  have as : asStr? (.str "__getitem__" tk) = pure (some (Str.ofString "__getitem__")) := by first | rfl | kernel_rfl
  have e2 : (withoutEnding? "str.__getitem__" "#data").isSome = false := by decide +kernel
  rw [e1]
  simp only [Bool.false_eq_true, if_false]
  refine wpAny_bind (wpAny_of_eq ty ?_)
  dsimp only
  refine wpAny_bind (wpAny_of_eq as ?_)
  dsimp only
  refine wpAny_bind (wpAny_of_eq f4 ?_)
  dsimp only
  refine wpAny_bind (wpAny_of_eq f2 ?_)
  rw [e2]
  simp only [Bool.false_and, Bool.false_eq_true, if_false]
  refine wpAny_bind (wpAny_of_eq (a := 0) (by first | rfl | kernel_rfl) ?_)
  rw [show ((0 : Nat) == 1) = false from rfl]
  simp only [Bool.false_eq_true, if_false]
  unfold getAttrBy?
  refine wpAny_bind (wpAny_bind (wpAny_attempt (gi_by ?_)))
  dsimp only
  refine wpAny_pure ?_
  dsimp only [Option.isNone]
  simp only [Bool.false_and, Bool.false_eq_true, if_false]
  exact wpAny_pure ⟨_, rfl, hq⟩
theorem fn_hasattr {l : List Nat} : Fn w k (.builtin "hasattr") [.str l, .str [95, 95, 103, 101, 116, 105, 116, 101, 109, 95, 95]] [] [] (.bool true) := fun A B s E Q vs ws r F bd hv hw ps q => by
  obtain ⟨a, b, rfl, ha, hb⟩ := hasAll_two hv
  cases hw
  obtain ⟨t, rfl⟩ := ha.str_inv
  obtain ⟨t', rfl⟩ := hb.str_inv
  obtain ⟨h, g, d, tk, os⟩ := s
  exact hasattr_str (tk := t') (q _ _ tk (Le.push _ _) (Nat.le_refl _) (.bool _))
end
end Mine

set_option maxRecDepth 100000
set_option linter.unusedVariables false
namespace Mine
open PySem PySem.W PyProof.Rows
section
variable {w : World} {k : Nat}

theorem bd_lt {x y : List Nat} : Bd w k 1 [] [("a", .str x), ("b", .str y)] (.bool (decide (x < y))) := by
  intro A B env s₀ h tk E Q hsc F S q
  generalize hb : fnBody 1 = b
  with_unfolding_all conv at hb => lhs; whnf
  subst hb
  exact run_ret F S (ev_cmp (ev_var (mem_at 0 rfl)) (ev_var (mem_at 1 rfl)) cp_ltS) fun v h' tk' u g hv => q _ h' tk' u g hv
theorem fn_lt {x y : List Nat} : Fn w (k + 1) (.ref 21) [.str x, .str y] [] [] (.bool (decide (x < y))) :=
  fn_of (N := []) (ns := ["a", "b"]) (fun P => (fx_lt P).to) bd_lt (fun P vs e => by match vs, e with | [u, v], _ => kernel_rfl!) (by decide) rfl (by kernel_rfl!) (fun L => by kernel_rfl!) ⟨by kernel_rfl!, by kernel_rfl!, by kernel_rfl!⟩

theorem bd_eq {x y : List Nat} : Bd w k 2 [] [("a", .str x), ("b", .str y)] (.bool (x == y)) := by
  intro A B env s₀ h tk E Q hsc F S q
  generalize hb : fnBody 2 = b
  with_unfolding_all conv at hb => lhs; whnf
  subst hb
  exact run_ret F S (ev_cmp (ev_var (mem_at 0 rfl)) (ev_var (mem_at 1 rfl)) cp_eqS) fun v h' tk' u g hv => q _ h' tk' u g hv
theorem fn_eq {x y : List Nat} : Fn w (k + 1) (.ref 28) [.str x, .str y] [] [] (.bool (x == y)) :=
  fn_of (N := []) (ns := ["a", "b"]) (fun P => (fx_eq P).to) bd_eq (fun P vs e => by match vs, e with | [u, v], _ => kernel_rfl!) (by decide) rfl (by kernel_rfl!) (fun L => by kernel_rfl!) ⟨by kernel_rfl!, by kernel_rfl!, by kernel_rfl!⟩

theorem bd_add {x y : Int} : Bd w k 3 [] [("a", .int x), ("b", .int y)] (.int (x + y)) := by
  intro A B env s₀ h tk E Q hsc F S q
  generalize hb : fnBody 3 = b
  with_unfolding_all conv at hb => lhs; whnf
  subst hb
  exact run_ret F S (ev_bin (ev_var (mem_at 0 rfl)) (ev_var (mem_at 1 rfl)) op_add) fun v h' tk' u g hv => q _ h' tk' u g hv
theorem fn_add {x y : Int} : Fn w (k + 1) (.ref 35) [.int x, .int y] [] [] (.int (x + y)) :=
  fn_of (N := []) (ns := ["a", "b"]) (fun P => (fx_add P).to) bd_add (fun P vs e => by match vs, e with | [u, v], _ => kernel_rfl!) (by decide) rfl (by kernel_rfl!) (fun L => by kernel_rfl!) ⟨by kernel_rfl!, by kernel_rfl!, by kernel_rfl!⟩

theorem bd_floordiv {x y : Int} (h0 : y ≠ 0) (hy : y.natAbs < 1073741824) : Bd w k 4 [] [("a", .int x), ("b", .int y)] (.int (x.fdiv y)) := by
  intro A B env s₀ h tk E Q hsc F S q
  generalize hb : fnBody 4 = b
  with_unfolding_all conv at hb => lhs; whnf
  subst hb
  exact run_ret F S (ev_bin (ev_var (mem_at 0 rfl)) (ev_var (mem_at 1 rfl)) (op_fdiv h0 hy)) fun v h' tk' u g hv => q _ h' tk' u g hv
theorem fn_floordiv {x y : Int} (h0 : y ≠ 0) (hy : y.natAbs < 1073741824) : Fn w (k + 1) (.ref 42) [.int x, .int y] [] [] (.int (x.fdiv y)) :=
  fn_of (N := []) (ns := ["a", "b"]) (fun P => (fx_floordiv P).to) (bd_floordiv h0 hy) (fun P vs e => by match vs, e with | [u, v], _ => kernel_rfl!) (by decide) rfl (by kernel_rfl!) (fun L => by kernel_rfl!) ⟨by kernel_rfl!, by kernel_rfl!, by kernel_rfl!⟩

theorem bd_mul {x y : Int} (h : IntMulOk x y) : Bd w k 5 [] [("a", .int x), ("b", .int y)] (.int (x * y)) := by
  intro A B env s₀ h tk E Q hsc F S q
  generalize hb : fnBody 5 = b
  with_unfolding_all conv at hb => lhs; whnf
  subst hb
  exact run_ret F S (ev_bin (ev_var (mem_at 0 rfl)) (ev_var (mem_at 1 rfl)) (op_mul (by assumption))) fun v h' tk' u g hv => q _ h' tk' u g hv
theorem fn_mul {x y : Int} (h : IntMulOk x y) : Fn w (k + 1) (.ref 49) [.int x, .int y] [] [] (.int (x * y)) :=
  fn_of (N := []) (ns := ["a", "b"]) (fun P => (fx_mul P).to) (bd_mul h) (fun P vs e => by match vs, e with | [u, v], _ => kernel_rfl!) (by decide) rfl (by kernel_rfl!) (fun L => by kernel_rfl!) ⟨by kernel_rfl!, by kernel_rfl!, by kernel_rfl!⟩

theorem bd_neg {x : Int} : Bd w k 6 [] [("a", .int x)] (.int (-x)) := by
  intro A B env s₀ h tk E Q hsc F S q
  generalize hb : fnBody 6 = b
  with_unfolding_all conv at hb => lhs; whnf
  subst hb
  exact run_ret F S (ev_neg (ev_var (mem_at 0 rfl))) fun v h' tk' u g hv => q _ h' tk' u g hv
theorem fn_neg {x : Int} : Fn w (k + 1) (.ref 56) [.int x] [] [] (.int (-x)) :=
  fn_of (N := []) (ns := ["a"]) (fun P => (fx_neg P).to) bd_neg (fun P vs e => by match vs, e with | [u], _ => kernel_rfl!) (by decide) rfl (by kernel_rfl!) (fun L => by kernel_rfl!) ⟨by kernel_rfl!, by kernel_rfl!, by kernel_rfl!⟩

theorem bd_word {d e : D} : Bd w k 21 [] [("entry", .list [d, e])] d := by
  intro A B env s₀ h tk E Q hsc F S q
  generalize hb : fnBody 21 = b
  with_unfolding_all conv at hb => lhs; whnf
  subst hb
  exact run_ret F S (ev_sub (ev_var (mem_at 0 rfl)) ev_int (gi_list (j := 0) ⟨by decide, by decide⟩ rfl rfl)) fun v h' tk' u g hv => q _ h' tk' u g hv
end
end Mine

set_option maxRecDepth 100000
set_option linter.unusedVariables false
namespace Mine
open PySem PySem.W PyProof.Rows
section
variable {w : World} {k : Nat}

theorem kd_glob {env : Env} {i : Nat} {x : Str} (hsc : env.scope = fnScope i) (h : (fnScope i).names.lookup x = some .globalImplicit) : env.kindOf x = some .globalImplicit := by
  show env.scope.names.lookup x = _
  rw [hsc]; exact h

theorem bd_concat {x y : List Nat} (hl : x.length + y.length ≤ 1000000) : Bd w k 7 [] [("a", .str x), ("b", .str y)] (.str (x ++ y)) := by
  intro A B env s₀ h tk E Q hsc F S q
  generalize hb : fnBody 7 = b
  with_unfolding_all conv at hb => lhs; whnf
  subst hb
  refine run_if F S (ts_not (ts_plain (ev_call (ev_built (kd_glob hsc (by kernel_rfl!)) (fun P => by kernel_rfl!) (by kernel_rfl!)) kp_builtin (.cons (ev_var (mem_at 0 rfl)) rfl (.cons (ev_str (by kernel_rfl!)) rfl .nil)) fn_hasattr))) fun h₁ tk₁ S₁ u₁ g₁ => ?_
  refine run_nil ?_
  exact run_ret F S₁ (ev_bin (ev_var (mem_at 0 rfl)) (ev_var (mem_at 1 rfl)) (op_addS hl)) fun v h' tk' u g hv => q _ h' tk' u g hv
theorem fn_concat {x y : List Nat} (hl : x.length + y.length ≤ 1000000) : Fn w (k + 1) (.ref 63) [.str x, .str y] [] [] (.str (x ++ y)) :=
  fn_of (N := []) (ns := ["a", "b"]) (fun P => (fx_concat P).to) (bd_concat hl) (fun P vs e => by match vs, e with | [u, v], _ => kernel_rfl!) (by decide) rfl (by kernel_rfl!) (fun L => by kernel_rfl!) ⟨by kernel_rfl!, by kernel_rfl!, by kernel_rfl!⟩
end
end Mine

set_option maxRecDepth 100000
set_option linter.unusedVariables false
namespace Mine
open PySem PySem.W PyProof.Rows
abbrev bisN : List Str := ["a", "x", "lo", "hi", "key"]
theorem bt1 (P : Params) (S : Setting) (a x y : Value) (c md : Value) : peek (KK P) S (bindArgs (mkfd 12 "bisect_left" (.ref 87) (.ref 88) md c) ⟨[a, x], List.zip ["key"] [y]⟩) = some (bisN.zip [a, x, .int 0 279, .none, y]) := by kernel_rfl!
theorem bt2 (P : Params) (S : Setting) (a x : Value) (c md : Value) : peek (KK P) S (bindArgs (mkfd 12 "bisect_left" (.ref 87) (.ref 88) md c) ⟨[a, x], List.zip [] []⟩) = some (bisN.zip [a, x, .int 0 279, .none, .none]) := by kernel_rfl!
theorem bt3 (P : Params) (S : Setting) (a x l : Value) (c md : Value) : peek (KK P) S (bindArgs (mkfd 12 "bisect_left" (.ref 87) (.ref 88) md c) ⟨[a, x, l], List.zip [] []⟩) = some (bisN.zip [a, x, l, .none, .none]) := by kernel_rfl!
theorem bt4 (P : Params) (S : Setting) (a x l m : Value) (c md : Value) : peek (KK P) S (bindArgs (mkfd 12 "bisect_left" (.ref 87) (.ref 88) md c) ⟨[a, x, l, m], List.zip [] []⟩) = some (bisN.zip [a, x, l, m, .none]) := by kernel_rfl!
theorem bt5 (P : Params) (S : Setting) (a x l m y : Value) (c md : Value) : peek (KK P) S (bindArgs (mkfd 12 "bisect_left" (.ref 87) (.ref 88) md c) ⟨[a, x, l, m], List.zip ["key"] [y]⟩) = some (bisN.zip [a, x, l, m, y]) := by kernel_rfl!
end Mine

set_option maxRecDepth 100000
set_option linter.unusedVariables false
namespace Mine
open PySem PySem.W PyProof.Rows

noncomputable def bisF (ks : List (List Nat)) (x : List Nat) : Nat → Nat → Nat → Nat
  | 0, lo, _ => lo
  | n + 1, lo, hi => if lo < hi then (if ks.getD ((lo + hi) / 2) [] < x then bisF ks x n ((lo + hi) / 2 + 1) hi else bisF ks x n lo ((lo + hi) / 2)) else lo
/-- where `x` goes among `ks`, from `lo` to `hi` -/
noncomputable def bis (ks : List (List Nat)) (x : List Nat) (lo hi : Nat) : Nat := bisF ks x ks.length lo hi
theorem bisF_more {ks : List (List Nat)} {x : List Nat} : ∀ (n m lo hi : Nat), hi - lo ≤ n → n ≤ m → bisF ks x n lo hi = bisF ks x m lo hi
  | 0, 0, lo, hi, _, _ => rfl
  | 0, m + 1, lo, hi, h, _ => by rw [bisF, bisF, if_neg (by omega)]
  | n + 1, m + 1, lo, hi, h, h' => by
      rw [bisF, bisF]
      split
      · rw [bisF_more n m ((lo + hi) / 2 + 1) hi (by omega) (by omega), bisF_more n m lo ((lo + hi) / 2) (by omega) (by omega)]
      · rfl
theorem bis_step {ks : List (List Nat)} {x : List Nat} {lo hi : Nat} (h : lo < hi) (hh : hi ≤ ks.length) : bis ks x lo hi = if ks.getD ((lo + hi) / 2) [] < x then bis ks x ((lo + hi) / 2 + 1) hi else bis ks x lo ((lo + hi) / 2) := by
  unfold bis
  rw [bisF_more (ks.length) (ks.length + 1) lo hi (by omega) (Nat.le_succ _), bisF, if_pos h]
theorem bis_end {ks : List (List Nat)} {x : List Nat} {lo hi : Nat} (h : ¬ lo < hi) : bis ks x lo hi = lo := by
  unfold bis
  cases ks.length with
  | zero => rfl
  | succ n => rw [bisF, if_neg h]
theorem bis_le {ks : List (List Nat)} {x : List Nat} : ∀ (n lo hi : Nat), lo ≤ bisF ks x n lo hi ∧ (lo ≤ hi → bisF ks x n lo hi ≤ hi)
  | 0, lo, hi => ⟨Nat.le_refl _, fun h => h⟩
  | n + 1, lo, hi => by
      rw [bisF]
      split
      · split
        · have := bis_le (ks := ks) (x := x) n ((lo + hi) / 2 + 1) hi
          exact ⟨by omega, fun _ => this.2 (by omega)⟩
        · have := bis_le (ks := ks) (x := x) n lo ((lo + hi) / 2)
          exact ⟨this.1, fun _ => by have := this.2 (by omega); omega⟩
      · exact ⟨Nat.le_refl _, fun h => h⟩

/-- an entry: a word and its number -/
noncomputable def ent (p : List Nat × Int) : D := .list [.str p.1, .int p.2]

section
variable {w : World} {k : Nat} {env : Env} {σ : Sg}
theorem Ev.cast {t : Sem Value} {d d' : D} (x : Ev w k env σ t d) (e : d = d') : Ev w k env σ t d' := e ▸ x
theorem Ts.cast {e : Expr} {b b' : Bool} (x : Ts w k env σ e b) (h : b = b') : Ts w k env σ e b' := h ▸ x
theorem cp_isNv {a : Addr} : Op2 w k (compareOp .Is) (.val (.ref a)) .none (.bool false) := fun A B s E Q u v r F bd hu hv ps q => by
  obtain rfl := hv.none_inv
  obtain rfl := hu.val_inv
  exact is_none (q _ _ _ (Le.refl _) (Nat.le_refl _) (.bool _))
theorem fn_word {d e : D} : Fn w (k + 1) (.ref 180) [.list [d, e]] [] [] d :=
  fn_of (N := []) (ns := ["entry"]) (fun P => (fx_law_word P).to) bd_word (fun P vs e => by match vs, e with | [u], _ => kernel_rfl!) (by decide) rfl (by kernel_rfl!) (fun L => by kernel_rfl!) ⟨by kernel_rfl!, by kernel_rfl!, by kernel_rfl!⟩
theorem kp_word : Kp w (.ref 180) := FnAt.kp fx_law_word

abbrev hiD : Option Nat → D
  | some n => .int n
  | none => .none

theorem mid_cast (lo hi : Nat) : ((lo : Int) + (hi : Int)).fdiv 2 = (((lo + hi) / 2 : Nat) : Int) := by
  rw [← Int.natCast_add, Int.fdiv_eq_ediv_of_nonneg _ (by decide)]
  rfl

theorem name_rest {A : Around} {E : Value → Shared → Prop} {s : Shared} {Q : Flow → Shared → Prop} {st : Stmt} {rest : List Stmt} (f : ∀ r, r = rest → Run w A env (st :: r) Q E s) : Run w A env (st :: rest) Q E s := f rest rfl
theorem seqIndex_nat {i n : Nat} (h : i < n) : seqIndex? (i : Int) n = some i := by
  have e : seqIndex? (i : Int) n = if (0 ≤ (if (i : Int) < 0 then (i : Int) + n else i) && (if (i : Int) < 0 then (i : Int) + (n : Int) else i) < n) = true then some (if (i : Int) < 0 then (i : Int) + n else i).toNat else none := rfl
  have h0 : ¬ ((i : Int) < 0) := by omega
  simp only [h0, if_false] at e
  rw [e, if_pos (by simp; omega)]
  simp
theorem St.pick {B : List Addr} {s₀ : Shared} {h : Heap} {tk : Nat} (S : St B env σ s₀ h tk) (is : List Nat) : St B env (Mine.pick σ is) s₀ h tk := S.less pick_sub
theorem bd_bisk {ps : List (List Nat × Int)} {x : List Nat} {lo : Nat} {hi : Option Nat} (hh : ∀ n, hi = some n → n ≤ ps.length) (hlen : ps.length < 2 ^ 40) :
    Bd w (k + 1) 12 ["a", "x", "lo", "hi", "key", "mid"] (bisN.zip [.list (ps.map ent), .str x, .int lo, hiD hi, .val (.ref 180)]) (.int (bis (ps.map (·.1)) x lo (hi.getD ps.length) : Nat)) := by
  intro A B env s₀ h tk E Q hsc F S q
  generalize hb : fnBody 12 = b
  with_unfolding_all conv at hb => lhs; whnf
  subst hb
  have h0 : decide ((lo : Int) < 0) = false := by rw [decide_eq_false_iff_not]; omega
  refine run_if F S ((ts_cmp (ev_var (mem_at 2 rfl)) ev_int cp_lt).cast h0) fun h₁ tk₁ S₁ u₁ g₁ => run_nil ?_
  let J : Nat × Nat → Sg := fun a => [("a", .list (ps.map ent)), ("x", .str x), ("lo", .int a.1), ("hi", .int a.2), ("key", .val (.ref 180))]
  refine name_rest fun rest hr => ?_
  have tail : ∀ n h' tk', n ≤ ps.length → hi.getD ps.length = n → St B env (J (lo, n)) s₀ h' tk' → Run w A env rest Q E (stAt s₀ h' tk') := by
    intro n h' tk' hn he S'
    subst hr
    refine run_if F S' (ts_cmp (ev_var (mem_at 4 rfl)) ev_none cp_isNv) fun h₃ tk₃ S₃ u₃ g₃ => ?_
    have hks : (ps.map (·.1)).length = ps.length := List.length_map ..
    refine run_whileX (J := J) (c := fun a => decide (a.1 < a.2)) (m := fun a => a.2 - a.1) (P := fun a => a.2 ≤ ps.length ∧ bis (ps.map (·.1)) x a.1 a.2 = bis (ps.map (·.1)) x lo n) (X := fun _ _ => True) (O := []) F S₃ (lo, n) ⟨hn, rfl⟩ (fun e m => m) trivial
      (fun a _ => (ts_cmp (ev_var (mem_at 2 rfl)) (ev_var (mem_at 3 rfl)) cp_lt).cast (by simp)) (fun _ _ _ _ _ => trivial) ?_ ?_
    · rintro ⟨l, r⟩ h₄ tk₄ E' ⟨hr, hbis⟩ hc S₄ -
      have hlt : l < r := by simpa using hc
      have hmid : (l + r) / 2 < ps.length := by omega
      refine run_assign (ρ := J (l, r)) F S₄ ((ev_bin (ev_bin (ev_var (mem_at 2 rfl)) (ev_var (mem_at 3 rfl)) op_add) ev_int (op_fdiv (by decide) (by decide))).cast (congrArg D.int (mid_cast l r))) (fun e m => m) (by kernel_rfl!) (by kernel_rfl!) rfl fun h₅ tk₅ S₅ sp₅ kd₅ g₅ => ?_
      have hp : (ps.map ent)[(l + r) / 2]? = some (.list [.str ps[(l + r) / 2].1, .int ps[(l + r) / 2].2]) := by
        rw [List.getElem?_map, List.getElem?_eq_getElem hmid]; rfl
      have hk : (ps.map (·.1)).getD ((l + r) / 2) [] = ps[(l + r) / 2].1 := by
        rw [List.getD_eq_getElem?_getD, List.getElem?_map, List.getElem?_eq_getElem hmid]; rfl
      have st := bis_step (ks := ps.map (·.1)) (x := x) hlt (by rw [hks]; exact hr)
      rw [hk] at st
      refine run_if F S₅ (ts_cmp (ev_call (ev_var (mem_at 5 rfl)) kp_word (.cons (ev_sub (ev_var (mem_at 1 rfl)) (ev_var (mem_at 0 rfl)) (gi_list (j := (l + r) / 2) ⟨by omega, by omega⟩ (seqIndex_nat (by rw [List.length_map]; exact hmid)) hp)) rfl .nil) fn_word) (ev_var (mem_at 2 rfl)) cp_ltS) fun h₆ tk₆ S₆ u₆ g₆ => ?_
      by_cases hcmp : ps[(l + r) / 2].1 < x
      · rw [decide_eq_true hcmp]
        rw [if_pos hcmp] at st
        refine run_assign (ρ := pick (("mid", .int ((l + r) / 2 : Nat)) :: J (l, r)) [0, 1, 2, 4, 5]) F S₆ ((ev_bin (ev_var (mem_at 0 rfl)) ev_int op_add).cast (d' := .int ((l + r) / 2 + 1 : Nat)) rfl) pick_sub (by kernel_rfl!) (by kernel_rfl!) rfl fun h₇ tk₇ S₇ sp₇ kd₇ g₇ => run_nil (run_nil ?_)
        exact ⟨((l + r) / 2 + 1, r), h₇, tk₇, by show r - ((l + r) / 2 + 1) < r - l; omega, ⟨hr, by rw [← hbis, st]⟩, rfl, S₇.pick [2, 3, 0, 4, 5], trivial, (sp₅.trans u₆.sp).trans sp₇, ((kd₅.trans u₆.kd).trans kd₇).ko⟩
      · rw [decide_eq_false hcmp]
        rw [if_neg hcmp] at st
        refine run_assign (ρ := pick (("mid", .int ((l + r) / 2 : Nat)) :: J (l, r)) [1, 2, 3, 5]) F S₆ (ev_var (mem_at 0 rfl)) pick_sub (by kernel_rfl!) (by kernel_rfl!) rfl fun h₇ tk₇ S₇ sp₇ kd₇ g₇ => run_nil (run_nil ?_)
        exact ⟨(l, (l + r) / 2), h₇, tk₇, by show (l + r) / 2 - l < r - l; omega, ⟨by show (l + r) / 2 ≤ _; omega, by rw [← hbis, st]⟩, rfl, S₇.pick [1, 2, 3, 0, 4], trivial, (sp₅.trans u₆.sp).trans sp₇, ((kd₅.trans u₆.kd).trans kd₇).ko⟩
    · rintro ⟨l, r⟩ h₄ tk₄ ⟨hr, hbis⟩ hc S₄ - sp₄ ko₄
      have hlt : ¬ l < r := by simpa using hc
      refine run_nil ?_
      refine run_ret F S₄ (ev_var (mem_at 2 rfl)) fun v h' tk' u g hv => q _ h' tk' u g ?_
      rw [he, ← hbis, bis_end hlt]
      exact hv
  refine run_if (c := (hiD hi).isNone) F S₁ (ts_cmp (ev_var (mem_at 3 rfl)) ev_none (cp_isN (by cases hi <;> intro u e <;> cases e))) fun h₂ tk₂ S₂ u₂ g₂ => ?_
  cases hi with
  | some n => exact run_nil (tail n h₂ tk₂ (hh n rfl) rfl S₂)
  | none =>
    refine run_assign (ρ := pick (bisN.zip [.list (ps.map ent), .str x, .int lo, hiD none, .val (.ref 180)]) [0, 1, 2, 4]) F S₂ (ev_call (ev_built (kd_glob hsc (by kernel_rfl!)) (fun P => by kernel_rfl!) (by kernel_rfl!)) kp_builtin (.cons (ev_var (mem_at 0 rfl)) rfl .nil) (fn_len (by rw [List.length_map]; omega)))
      pick_sub (by kernel_rfl!) (by kernel_rfl!) rfl fun h₃ tk₃ S₃ sp₃ kd₃ g₃ => run_nil (tail ps.length h₃ tk₃ (Nat.le_refl _) rfl ?_)
    have S₄ : St B env [("a", .list (ps.map ent)), ("x", .str x), ("lo", .int lo), ("hi", .int (ps.map ent).length), ("key", .val (.ref 180))] s₀ h₃ tk₃ := S₃.pick [1, 2, 3, 0, 4]
    rw [List.length_map] at S₄
    exact S₄
theorem bd_bis {ks : List (List Nat)} {x : List Nat} {lo : Nat} {hi : Option Nat} (hh : ∀ n, hi = some n → n ≤ ks.length) (hlen : ks.length < 2 ^ 40) :
    Bd w k 12 ["a", "x", "lo", "hi", "key", "mid"] (bisN.zip [.list (ks.map D.str), .str x, .int lo, hiD hi, .none]) (.int (bis ks x lo (hi.getD ks.length) : Nat)) := by
  intro A B env s₀ h tk E Q hsc F S q
  generalize hb : fnBody 12 = b
  with_unfolding_all conv at hb => lhs; whnf
  subst hb
  have h0 : decide ((lo : Int) < 0) = false := by rw [decide_eq_false_iff_not]; omega
  refine run_if F S ((ts_cmp (ev_var (mem_at 2 rfl)) ev_int cp_lt).cast h0) fun h₁ tk₁ S₁ u₁ g₁ => run_nil ?_
  let J : Nat × Nat → Sg := fun a => [("a", .list (ks.map D.str)), ("x", .str x), ("lo", .int a.1), ("hi", .int a.2), ("key", .none)]
  refine name_rest fun rest hr => ?_
  have tail : ∀ n h' tk', n ≤ ks.length → hi.getD ks.length = n → St B env (J (lo, n)) s₀ h' tk' → Run w A env rest Q E (stAt s₀ h' tk') := by
    intro n h' tk' hn he S'
    subst hr
    refine run_if F S' (ts_cmp (ev_var (mem_at 4 rfl)) ev_none (cp_isN (by intro u e; cases e))) fun h₃ tk₃ S₃ u₃ g₃ => ?_
    have hks : ks.length = ks.length := rfl
    refine run_whileX (J := J) (c := fun a => decide (a.1 < a.2)) (m := fun a => a.2 - a.1) (P := fun a => a.2 ≤ ks.length ∧ bis ks x a.1 a.2 = bis ks x lo n) (X := fun _ _ => True) (O := []) F S₃ (lo, n) ⟨hn, rfl⟩ (fun e m => m) trivial
      (fun a _ => (ts_cmp (ev_var (mem_at 2 rfl)) (ev_var (mem_at 3 rfl)) cp_lt).cast (by simp)) (fun _ _ _ _ _ => trivial) ?_ ?_
    · rintro ⟨l, r⟩ h₄ tk₄ E' ⟨hr, hbis⟩ hc S₄ -
      have hlt : l < r := by simpa using hc
      have hmid : (l + r) / 2 < ks.length := by omega
      refine run_assign (ρ := J (l, r)) F S₄ ((ev_bin (ev_bin (ev_var (mem_at 2 rfl)) (ev_var (mem_at 3 rfl)) op_add) ev_int (op_fdiv (by decide) (by decide))).cast (congrArg D.int (mid_cast l r))) (fun e m => m) (by kernel_rfl!) (by kernel_rfl!) rfl fun h₅ tk₅ S₅ sp₅ kd₅ g₅ => ?_
      have hp : (ks.map D.str)[(l + r) / 2]? = some (.str ks[(l + r) / 2]) := by
        rw [List.getElem?_map, List.getElem?_eq_getElem hmid]; rfl
      have hk : ks.getD ((l + r) / 2) [] = ks[(l + r) / 2] := by
        rw [List.getD_eq_getElem?_getD, List.getElem?_eq_getElem hmid]; rfl
      have st := bis_step (ks := ks) (x := x) hlt (by rw [hks]; exact hr)
      rw [hk] at st
      refine run_if F S₅ (ts_cmp (ev_sub (ev_var (mem_at 1 rfl)) (ev_var (mem_at 0 rfl)) (gi_list (j := (l + r) / 2) ⟨by omega, by omega⟩ (seqIndex_nat (by rw [List.length_map]; exact hmid)) hp)) (ev_var (mem_at 2 rfl)) cp_ltS) fun h₆ tk₆ S₆ u₆ g₆ => ?_
      by_cases hcmp : ks[(l + r) / 2] < x
      · rw [decide_eq_true hcmp]
        rw [if_pos hcmp] at st
        refine run_assign (ρ := pick (("mid", .int ((l + r) / 2 : Nat)) :: J (l, r)) [0, 1, 2, 4, 5]) F S₆ ((ev_bin (ev_var (mem_at 0 rfl)) ev_int op_add).cast (d' := .int ((l + r) / 2 + 1 : Nat)) rfl) pick_sub (by kernel_rfl!) (by kernel_rfl!) rfl fun h₇ tk₇ S₇ sp₇ kd₇ g₇ => run_nil (run_nil ?_)
        exact ⟨((l + r) / 2 + 1, r), h₇, tk₇, by show r - ((l + r) / 2 + 1) < r - l; omega, ⟨hr, by rw [← hbis, st]⟩, rfl, S₇.pick [2, 3, 0, 4, 5], trivial, (sp₅.trans u₆.sp).trans sp₇, ((kd₅.trans u₆.kd).trans kd₇).ko⟩
      · rw [decide_eq_false hcmp]
        rw [if_neg hcmp] at st
        refine run_assign (ρ := pick (("mid", .int ((l + r) / 2 : Nat)) :: J (l, r)) [1, 2, 3, 5]) F S₆ (ev_var (mem_at 0 rfl)) pick_sub (by kernel_rfl!) (by kernel_rfl!) rfl fun h₇ tk₇ S₇ sp₇ kd₇ g₇ => run_nil (run_nil ?_)
        exact ⟨(l, (l + r) / 2), h₇, tk₇, by show (l + r) / 2 - l < r - l; omega, ⟨by show (l + r) / 2 ≤ _; omega, by rw [← hbis, st]⟩, rfl, S₇.pick [1, 2, 3, 0, 4], trivial, (sp₅.trans u₆.sp).trans sp₇, ((kd₅.trans u₆.kd).trans kd₇).ko⟩
    · rintro ⟨l, r⟩ h₄ tk₄ ⟨hr, hbis⟩ hc S₄ - sp₄ ko₄
      have hlt : ¬ l < r := by simpa using hc
      refine run_nil ?_
      refine run_ret F S₄ (ev_var (mem_at 2 rfl)) fun v h' tk' u g hv => q _ h' tk' u g ?_
      rw [he, ← hbis, bis_end hlt]
      exact hv
  refine run_if (c := (hiD hi).isNone) F S₁ (ts_cmp (ev_var (mem_at 3 rfl)) ev_none (cp_isN (by cases hi <;> intro u e <;> cases e))) fun h₂ tk₂ S₂ u₂ g₂ => ?_
  cases hi with
  | some n => exact run_nil (tail n h₂ tk₂ (hh n rfl) rfl S₂)
  | none =>
    refine run_assign (ρ := pick (bisN.zip [.list (ks.map D.str), .str x, .int lo, hiD none, .none]) [0, 1, 2, 4]) F S₂ (ev_call (ev_built (kd_glob hsc (by kernel_rfl!)) (fun P => by kernel_rfl!) (by kernel_rfl!)) kp_builtin (.cons (ev_var (mem_at 0 rfl)) rfl .nil) (fn_len (by rw [List.length_map]; omega)))
      pick_sub (by kernel_rfl!) (by kernel_rfl!) rfl fun h₃ tk₃ S₃ sp₃ kd₃ g₃ => run_nil (tail ks.length h₃ tk₃ (Nat.le_refl _) rfl ?_)
    have S₄ : St B env [("a", .list (ks.map D.str)), ("x", .str x), ("lo", .int lo), ("hi", .int (ks.map D.str).length), ("key", .none)] s₀ h₃ tk₃ := S₃.pick [1, 2, 3, 0, 4]
    rw [List.length_map] at S₄
    exact S₄
end
end Mine

set_option maxRecDepth 100000
set_option linter.unusedVariables false
namespace Mine
open PySem PySem.W PyProof.Rows
section
variable {w : World} {k : Nat} {N : List Str}
theorem mem_of_look_addr {a : Addr} {o : Obj} : ∀ {l : List (Addr × Obj)}, l.lookup a = some o → (a, o) ∈ l
  | (n, k) :: r, h => by
      rw [List.lookup_cons] at h
      cases hb : a == n with
      | true => rw [hb] at h; cases h; rw [beq_iff_eq.mp hb]; exact .head _
      | false => rw [hb] at h; exact .tail _ (mem_of_look_addr h)
theorem facts_in {h : Heap} (F : Facts w h) : Frag.In (KK w.params) h := fun a o e => F.K _ (mem_of_look_addr e)
theorem bindsTo_peek {s : Shared} {fd : FuncData} {args : Args} {binds : List (Str × Value)} (F : Facts w s.heap) (h : ∀ S, peek (KK w.params) S (bindArgs fd args) = some binds) : BindsTo s fd args binds :=
  fun M A E Q q Γ p _ => wp_of_peek (M := M) (facts_in F) q _ (h _)

theorem fn_ofK {a : Addr} {i : Nat} {df kf : Value} {fd : Params → FuncData} {ns ks : List Str} {ds kds full : List D} {d : D} (X : ∀ P, FnAt' P a i df kf (fd P)) (b : Bd w k i N (ns.zip full) d)
    (hb : ∀ P B h vs ws, HasAll B h vs ds → HasAll B h ws kds → ∃ us, (∀ S, peek (KK P) S (bindArgs (fd P) ⟨vs, ks.zip ws⟩) = some (ns.zip us)) ∧ us.length = ns.length ∧ HasAll B h us full) (hn : ns.Nodup)
    (hk : ns.all (fun x => (fnScope i).names.lookup x == some .local || ((fnScope i).names.lookup x == some .cell && N.contains x)) = true)
    (hN : ∀ L, N.all (fun x => (fnScope i).names.lookup x == some .local || ((fnScope i).names.lookup x == some .cell && ((cellsFrom L (fnScope i).names []).lookup x).isSome)) = true)
    (hs : (fnScope i).isCoroutine = false ∧ (fnScope i).isGenerator = false ∧ (fnScope i).kind = .function) : Fn w (k + 1) (.ref a) ds ks kds d := fun A B s E Q vs ws r F bd hv hw ps q => by
  obtain ⟨us, hp, hlu, hu⟩ := hb w.params B s.heap vs ws hv hw
  refine fn_enter (X w.params) r F bd ps (bindsTo_peek F hp) hn hlu hk hN hs fun env B' h' tk he sub F' S => ?_
  exact b _ B' env s h' tk _ _ he F' (S _ hu) fun f h₂ tk₂ u g hd => q _ h₂ tk₂ u g (hd.sub sub)

theorem fn_bisk {ps : List (List Nat × Int)} {x : List Nat} (hlen : ps.length < 2 ^ 40) : Fn w (k + 2) (.ref 95) [.list (ps.map ent), .str x] ["key"] [.val (.ref 180)] (.int (bis (ps.map (·.1)) x 0 ps.length : Nat)) :=
  fn_ofK (ns := bisN) (full := [.list (ps.map ent), .str x, .int (0 : Nat), hiD none, .val (.ref 180)]) (fun P => (fx_bisect_left P).to) (bd_bisk (lo := 0) (hi := none) (fun n e => by cases e) hlen)
    (fun P B h vs ws hv hw => by
      obtain ⟨a, x, rfl, ha, hx⟩ := hasAll_two hv
      obtain ⟨y, rfl, hy⟩ := hasAll_one hw
      exact ⟨_, fun S => bt1 P S a x y _ _, rfl, .cons ha (.cons hx (.cons (.int _ _) (.cons .none (.cons hy .nil))))⟩) (by decide) (by kernel_rfl!) (fun L => by kernel_rfl!) ⟨by kernel_rfl!, by kernel_rfl!, by kernel_rfl!⟩
theorem hasAll_four {B : List Addr} {h : Heap} {vs : List Value} {a b c d : D} (x : HasAll B h vs [a, b, c, d]) : ∃ u v p q, vs = [u, v, p, q] ∧ Has B h u a ∧ Has B h v b ∧ Has B h p c ∧ Has B h q d := by
  cases x with
  | cons p x => cases x with
    | cons q x => cases x with
      | cons r x => cases x with
        | cons t x => cases x with
          | nil => exact ⟨_, _, _, _, rfl, p, q, r, t⟩
theorem hasAll_three {B : List Addr} {h : Heap} {vs : List Value} {a b c : D} (x : HasAll B h vs [a, b, c]) : ∃ u v p, vs = [u, v, p] ∧ Has B h u a ∧ Has B h v b ∧ Has B h p c := by
  cases x with
  | cons p x => cases x with
    | cons q x => cases x with
      | cons r x => cases x with
        | nil => exact ⟨_, _, _, rfl, p, q, r⟩
theorem fn_bisk4 {ps : List (List Nat × Int)} {x : List Nat} (hlen : ps.length < 2 ^ 40) : Fn w (k + 2) (.ref 95) [.list (ps.map ent), .str x, .int 0, .none] ["key"] [.val (.ref 180)] (.int (bis (ps.map (·.1)) x 0 ps.length : Nat)) :=
  fn_ofK (ns := bisN) (full := [.list (ps.map ent), .str x, .int (0 : Nat), hiD none, .val (.ref 180)]) (fun P => (fx_bisect_left P).to) (bd_bisk (lo := 0) (hi := none) (fun n e => by cases e) hlen)
    (fun P B h vs ws hv hw => by
      obtain ⟨a, x, l, m, rfl, ha, hx, hl, hm⟩ := hasAll_four hv
      obtain ⟨y, rfl, hy⟩ := hasAll_one hw
      exact ⟨_, fun S => bt5 P S a x l m y _ _, rfl, .cons ha (.cons hx (.cons hl (.cons hm (.cons hy .nil))))⟩) (by decide) (by kernel_rfl!) (fun L => by kernel_rfl!) ⟨by kernel_rfl!, by kernel_rfl!, by kernel_rfl!⟩
theorem fn_bis2 {ks : List (List Nat)} {x : List Nat} (hlen : ks.length < 2 ^ 40) : Fn w (k + 1) (.ref 95) [.list (ks.map .str), .str x] [] [] (.int (bis ks x 0 ks.length : Nat)) :=
  fn_ofK (ns := bisN) (full := [.list (ks.map .str), .str x, .int (0 : Nat), hiD none, .none]) (fun P => (fx_bisect_left P).to) (bd_bis (lo := 0) (hi := none) (fun n e => by cases e) hlen)
    (fun P B h vs ws hv hw => by
      obtain ⟨a, x, rfl, ha, hx⟩ := hasAll_two hv
      cases hw
      exact ⟨_, fun S => bt2 P S a x _ _, rfl, .cons ha (.cons hx (.cons (.int _ _) (.cons .none (.cons .none .nil))))⟩) (by decide) (by kernel_rfl!) (fun L => by kernel_rfl!) ⟨by kernel_rfl!, by kernel_rfl!, by kernel_rfl!⟩
theorem fn_bis3 {ks : List (List Nat)} {x : List Nat} {lo : Nat} (hlen : ks.length < 2 ^ 40) : Fn w (k + 1) (.ref 95) [.list (ks.map .str), .str x, .int lo] [] [] (.int (bis ks x lo ks.length : Nat)) :=
  fn_ofK (ns := bisN) (full := [.list (ks.map .str), .str x, .int lo, hiD none, .none]) (fun P => (fx_bisect_left P).to) (bd_bis (lo := lo) (hi := none) (fun n e => by cases e) hlen)
    (fun P B h vs ws hv hw => by
      obtain ⟨a, x, l, rfl, ha, hx, hl⟩ := hasAll_three hv
      cases hw
      exact ⟨_, fun S => bt3 P S a x l _ _, rfl, .cons ha (.cons hx (.cons hl (.cons .none (.cons .none .nil))))⟩) (by decide) (by kernel_rfl!) (fun L => by kernel_rfl!) ⟨by kernel_rfl!, by kernel_rfl!, by kernel_rfl!⟩
theorem fn_bis4 {ks : List (List Nat)} {x : List Nat} {lo hi : Nat} (hlen : ks.length < 2 ^ 40) (hh : hi ≤ ks.length) : Fn w (k + 1) (.ref 95) [.list (ks.map .str), .str x, .int lo, .int hi] [] [] (.int (bis ks x lo hi : Nat)) :=
  fn_ofK (ns := bisN) (full := [.list (ks.map .str), .str x, .int lo, hiD (some hi), .none]) (fun P => (fx_bisect_left P).to) (bd_bis (lo := lo) (hi := some hi) (fun n e => by cases e; exact hh) hlen)
    (fun P B h vs ws hv hw => by
      obtain ⟨a, x, l, m, rfl, ha, hx, hl, hm⟩ := hasAll_four hv
      cases hw
      exact ⟨_, fun S => bt4 P S a x l m _ _, rfl, .cons ha (.cons hx (.cons hl (.cons hm (.cons .none .nil))))⟩) (by decide) (by kernel_rfl!) (fun L => by kernel_rfl!) ⟨by kernel_rfl!, by kernel_rfl!, by kernel_rfl!⟩
end
end Mine

set_option maxRecDepth 100000
set_option linter.unusedVariables false
namespace Mine
open PySem PySem.W PyProof.Rows

noncomputable def insAt {α : Type} (l : List α) (i : Nat) (x : α) : List α := l.take i ++ x :: l.drop i
section
variable {w : World} {k : Nat} {A : Around} {E : Value → Shared → Prop} {s : Shared} {env : Env}

theorem list_insertI {a : Addr} {vs : List Value} {i : Int} {t : Tok} {y : Value} {Q : Value → Shared → Prop} (x : s.heap.PlainList a vs.toArray) (h0 : 0 ≤ i) (hi : i.toNat ≤ vs.length) (hl : vs.length ≤ 1000000)
    (q : ∀ h', h'.PlainList a (insAt vs i.toNat y).toArray → Heap.SameBut a s.heap h' → Q .none { s with heap := h' }) : wpAny (model pw w) A (call (.builtin "list.insert") [.ref a, .int i t, y]) Q E s := by
  obtain ⟨n, e⟩ := x
  have hf : Builtin.List.listFitsIndex i = true := by
    unfold Builtin.List.listFitsIndex
    rw [Bool.and_eq_true, decide_eq_true_eq, decide_eq_true_eq]
    omega
  have hz : vs.toArray.size ≤ sizeLine := by rw [List.size_toArray]; exact Nat.le_trans hl (by decide)
  have hk : (if i < 0 then (i + (vs.toArray.size : Nat)).toNat else min i.toNat vs.toArray.size) = i.toNat := by
    rw [if_neg (by omega), List.size_toArray]; omega
  have key : (vs.toArray.extract 0 i.toNat).push y ++ vs.toArray.extract i.toNat = (insAt vs i.toNat y).toArray := by
    unfold insAt
    apply Array.ext'
    simp
    rw [List.take_of_length_le (by simp)]
  have hc : ¬(!Builtin.List.listFitsIndex i) = true := by rw [hf]; decide
  refine call_meets PySem.F.slot_list_insert ⟨_, e, rfl⟩ PySem.F.entry_list_insert (PySem.F.args_list_insert_3 _ _ _) (PySem.AutoSeq1.list_insert_list_int_val_1 a _ n i t y hc hz) ⟨e, ?_⟩
  refine q _ ?_ (Heap.SameBut.update ..)
  have u := PySem.IsL.update e fun xs => (xs.extract 0 (if i < 0 then (i + (xs.size : Nat)).toNat else min i.toNat xs.size)).push y ++ xs.extract (if i < 0 then (i + (xs.size : Nat)).toNat else min i.toNat xs.size)
  simp only [hk, key] at u
  exact ⟨_, u⟩
theorem list_insert {a : Addr} {vs : List Value} {i : Nat} {t : Tok} {y : Value} {Q : Value → Shared → Prop} (x : s.heap.PlainList a vs.toArray) (hi : i ≤ vs.length) (hl : vs.length ≤ 1000000)
    (q : ∀ h', h'.PlainList a (insAt vs i y).toArray → Heap.SameBut a s.heap h' → Q .none { s with heap := h' }) : wpAny (model pw w) A (call (.builtin "list.insert") [.ref a, .int i t, y]) Q E s :=
  list_insertI x (by omega) (by simpa using hi) hl (by simpa using q)

theorem list_extend {a b : Addr} {vs ws : List Value} {Q : Value → Shared → Prop} (x : s.heap.PlainList a vs.toArray) (y : s.heap.PlainList b ws.toArray) (hl : vs.length + ws.length ≤ 1000000)
    (q : ∀ h', h'.PlainList a (vs ++ ws).toArray → Heap.SameBut a s.heap h' → Q .none { s with heap := h' }) : wpAny (model pw w) A (call (.builtin "list.extend") [.ref a, .ref b]) Q E s := by
  obtain ⟨n, e⟩ := x
  obtain ⟨n2, e2⟩ := y
  have hz : vs.toArray.size + ws.toArray.size ≤ sizeLine := by rw [List.size_toArray, List.size_toArray]; exact Nat.le_trans hl (by decide)
  refine call_meets PySem.F.slot_list_extend ⟨_, e, rfl⟩ PySem.F.entry_list_extend (PySem.F.args_list_extend_2 _ _) (AutoSeq1.list_extend_list_list_0 a _ n b _ n2 (extend_door hz) (Nat.le_trans (Nat.le_add_right _ _) hz) (Nat.le_succ_of_le hz)) ⟨e, e2, ?_⟩
  refine q _ ?_ (Heap.SameBut.update ..)
  have u := PySem.IsL.update e fun xs => xs ++ ws.toArray
  simp only [List.append_toArray] at u
  exact ⟨_, u⟩

theorem list_setitem {a : Addr} {vs : List Value} {i : Nat} {t : Tok} {y : Value} {Q : Unit → Shared → Prop} (x : s.heap.PlainList a vs.toArray) (hi : i < vs.length) (hl : vs.length ≤ 1000000)
    (q : ∀ h', h'.PlainList a (vs.set i y).toArray → Heap.SameBut a s.heap h' → Q () { s with heap := h' }) : wpAny (model pw w) A (setItem (.ref a) (.int i t) y) Q E s := by
  obtain ⟨n, e⟩ := x
  refine ki_setAt e (by omega) (by omega) (by rw [List.size_toArray]; omega) (q _ ?_ (Heap.SameBut.update ..))
  have u := PySem.IsL.update e fun xs => xs.setIfInBounds (i : Int).toNat y
  have : (vs.toArray.setIfInBounds (i : Int).toNat y) = (vs.set i y).toArray := by simp
  rw [this] at u
  exact ⟨_, u⟩

/-- a method of a list, called -/
theorem method_call {o : Expr} {name : Str} {apos pos : Pos} {e : Expr} {rest : List Expr} {σ : Sg} {B : List Addr} {ds : List D} {T id : String} {Q : Value → Shared → Prop} {ov : Value} (pr : Pre w k A B env σ s) (x : EvE w k env σ o (.val ov)) (y : EvL w k env σ (e :: rest) ds)
    (hT : s.TypeIs ov T) (hd : ∀ a, ov = .ref a → ∃ ob, s.heap.get? a = some ob ∧ ob.dict = none)
    (pa : PlainAttrs T) (slot : Slot T name id) (hty : typeOf (.builtin id) = pure (.type "method_descriptor"))
    (q : ∀ vs h' tk, Le s.heap h' → s.toks ≤ tk → HasAll B h' vs ds → wpAny (model pw w) A (call (.builtin id) (ov :: vs)) Q E (stAt s h' tk))
    (hbase : attributeBase o name env (eval o env) = eval o env)
    (hfew : ((backTo pos (starEach (e :: rest) env)).all (fun x => !x.1) && (backToKw pos (keywordEach [] env)).all (fun x => x.1.isSome)
      && decide ((e :: rest).length + ([] : List Keyword).length + (if ([] : List Keyword).isEmpty then 0 else 1) < 30)) = true)
    (hline : (apos.endLine == pos.line) = true) : wpAny (model pw w) A (eval (.Call (.Attribute o name apos) (e :: rest) [] pos) env) Q E s := by
  refine wpAny_Call_method hbase hfew hline pa slot hty (x A B s E _ pr fun v h₁ tk₁ u₁ g₁ hv => ?_)
  obtain rfl := hv.val_inv
  refine ⟨?_, fun a ha => ?_, ?_⟩
  · cases v with
    | ref a => obtain ⟨o, ho, hc⟩ := hT; exact ⟨o, u₁ _ _ ho, hc⟩
    | _ => exact hT
  · obtain ⟨ob, ho, hn⟩ := hd a ha; exact ⟨ob, u₁ _ _ ho, hn⟩
  · have hp := evL_plain (pos := pos) y
    have he : starEach (e :: rest) env = (false, eval e env) :: starEach rest env := by cases y with | cons _ he _ => exact he
    refine callWith_of (P := fun _ => True) (by rw [hp]; rfl) (fun _ _ => ⟨.machine, .inr (.inl rfl), .now⟩) ?_
    have ev := evL_run (pos := pos) y A B (stAt s h₁ tk₁) E (fun vs s₁ => True ∧ wpAny (model pw w) A (call (.builtin id) ([v] ++ vs)) Q E s₁) (pr.up u₁ g₁) fun vs h₂ tk₂ u₂ g₂ hvs => ⟨trivial, q vs h₂ tk₂ (u₁.trans u₂) (Nat.le_trans g₁ g₂) hvs⟩
    rw [he] at ev ⊢
    exact Calls.evalArgs_plain ev
end
end Mine

set_option maxRecDepth 100000
set_option linter.unusedVariables false
namespace Mine
open PySem PySem.W PyProof.Rows
section
variable {w : World} {k : Nat} {A : Around} {B : List Addr} {E : Value → Shared → Prop} {s : Shared}
theorem bt11 (P : Params) (S : Setting) (a x y : Value) (c md : Value) : peek (KK P) S (bindArgs (mkfd 11 "insort_left" (.ref 78) (.ref 79) md c) ⟨[a, x], List.zip ["key"] [y]⟩) = some (bisN.zip [a, x, .int 0 266, .none, y]) := by kernel_rfl!
theorem ty_insert : typeOf (.builtin "list.insert") = pure (.type "method_descriptor") := by show builtinType _ = _; rw [builtinType_eq_fast]; kernel_rfl
theorem ty_extend : typeOf (.builtin "list.extend") = pure (.type "method_descriptor") := by show builtinType _ = _; rw [builtinType_eq_fast]; kernel_rfl

theorem inter_no {env : Env} (h : env.scope.kind = .function) : interactive env = false := by unfold interactive; rw [h]; rfl
theorem call_insort {ps : List (List Nat × Int)} {x : List Nat} {n : Int} {a : Addr} {vs : List Value} {xv : Value} {Q : Value → Shared → Prop} (r : Room (k + 3) A) (F : Facts w s.heap) (bd : ∀ b ∈ B, Al s.heap b) (acc : s.heap.PlainList a vs.toArray) (hv : HasAll B s.heap vs (ps.map ent)) (ha : a ∉ B)
    (hx : Has B s.heap xv (ent (x, n))) (ps0 : 0 < s.toks) (hlen : ps.length ≤ 100000)
    (q : ∀ h₁ h' tk, Le s.heap h₁ → s.toks ≤ tk → h'.PlainList a (insAt vs (bis (ps.map (·.1)) x 0 ps.length) xv).toArray → Heap.ExtBut a h₁ h' → Q .none (stAt s h' tk)) :
    wpAny (model pw w) A (call (.ref 86) [.ref a, xv] (List.zip ["key"] [.ref 180])) Q E s := by
  refine fn_enter (N := ["a", "x", "lo", "hi", "key"]) (ns := bisN) (us := [.ref a, xv, .int 0 266, .none, .ref 180]) (fx_insort_left w.params).to r F bd ps0 (bindsTo_peek F fun S => bt11 _ S _ _ _ _ _) (by decide) rfl (by kernel_rfl!) (fun L => by kernel_rfl!) ⟨by kernel_rfl!, by kernel_rfl!, by kernel_rfl!⟩ fun env B' h' tk hsc sub F' S => ?_
  have S₀ := (S [.list (ps.map ent), ent (x, n), .int 0, .none, .val (.ref 180)] (.cons (.list ha acc hv) (.cons hx (.cons (.int _ _) (.cons .none (.cons (.val _) .nil)))))).both
    (S [.val (.ref a), .val xv, .val (.int 0 266), .val .none, .val (.ref 180)] (.cons (.val _) (.cons (.val _) (.cons (.val _) (.cons (.val _) (.cons (.val _) .nil))))))
  generalize hb : fnBody 11 = b
  with_unfolding_all conv at hb => lhs; whnf
  subst hb
  refine run_if F' S₀ (ts_cmp (ev_var (mem_at 4 rfl)) ev_none cp_isNv) fun h₁ tk₁ S₁ u₁ g₁ => ?_
  refine run_assign (ρ := [("a", .val (.ref a)), ("x", .val xv)]) F' S₁ (ev_callk (ev_glob (kd_glob hsc (by kernel_rfl!)) (fun P => by kernel_rfl!)) (FnAt.kp fx_bisect_left)
    (.cons (ev_var (mem_at 0 rfl)) rfl (.cons (ev_call (ev_var (mem_at 4 rfl)) kp_word (.cons (ev_var (mem_at 1 rfl)) rfl .nil) fn_word) rfl (.cons (ev_var (mem_at 2 rfl)) rfl (.cons (ev_var (mem_at 3 rfl)) rfl .nil)))) (ev_var (mem_at 4 rfl)) (fn_bisk4 (by omega)))
    (fun e m => by
      rcases List.mem_cons.mp m with e' | m
      · rw [e']; exact mem_at 5 rfl
      · rw [List.mem_singleton.mp m]; exact mem_at 6 rfl) (by kernel_rfl!) (by kernel_rfl!) rfl fun h₂ tk₂ S₂ sp₂ kd₂ g₂ => run_nil ?_
  have pr := S₂.pre F'
  have acc₂ : h₂.PlainList a vs.toArray := acc.at fun o e => S₂.keep _ o e
  refine wpAny_execs_cons (wpAny_Expr_any (method_call (ov := .ref a) (ds := [.int (bis (ps.map (·.1)) x 0 ps.length : Nat), .val xv]) pr (ev_var (mem_at 1 rfl)) (.cons (ev_var (mem_at 0 rfl)) rfl (.cons (ev_var (mem_at 2 rfl)) rfl .nil)) acc₂.isList.typeIs (fun b e => by cases e; obtain ⟨m, e⟩ := acc₂; exact ⟨_, e, rfl⟩)
    PySem.F.plainAttrs_list PySem.F.slot_list_insert ty_insert (fun ws h₃ tk₃ u₃ g₃ hw => ?_) rfl rfl rfl) (inter_no F'.ok.kind) rfl)
  obtain ⟨i, y, rfl, hi, hy⟩ := hasAll_two hw
  obtain ⟨t, rfl⟩ := hi.int_inv
  obtain rfl := hy.val_inv
  have hl := hv.length
  rw [List.length_map] at hl
  have hle := (bis_le (ks := ps.map (·.1)) (x := x) (ps.map (·.1)).length 0 ps.length).2 (Nat.zero_le _)
  refine list_insert (s := stAt s h₃ tk₃) (acc₂.at fun o e => u₃ _ o e) (by rw [hl]; exact hle) (by omega) fun h₄ acc₄ sb => run_nil ?_
  exact q h₃ h₄ tk₃ (S₂.keep.trans u₃) (Nat.le_trans S₂.g g₃) acc₄ sb.extBut

theorem call_setitem {a : Addr} {vs : List Value} {i : Nat} {t : Tok} {y : Value} {Q : Value → Shared → Prop} (r : Room (k + 1) A) (F : Facts w s.heap) (acc : s.heap.PlainList a vs.toArray) (hi : i < vs.length) (hl : vs.length ≤ 1000000) (ps0 : 0 < s.toks)
    (q : ∀ h₁ h' tk, Le s.heap h₁ → s.toks ≤ tk → h'.PlainList a (vs.set i y).toArray → Heap.ExtBut a h₁ h' → Q .none (stAt s h' tk)) :
    wpAny (model pw w) A (call (.ref 77) [.ref a, .int i t, y]) Q E s := by
  refine fn_enter (B := []) (N := []) (ns := ["a", "b", "c"]) (us := [.ref a, .int i t, y]) (fx_setitem w.params).to r F (fun b hb => nomatch hb) ps0 (.of_eq (by kernel_rfl!)) (by decide) rfl (by kernel_rfl!) (fun L => by kernel_rfl!) ⟨by kernel_rfl!, by kernel_rfl!, by kernel_rfl!⟩ fun env B' h' tk hsc sub F' S => ?_
  have S₀ := S [.val (.ref a), .val (.int i t), .val y] (.cons (.val _) (.cons (.val _) (.cons (.val _) .nil)))
  generalize hb : fnBody 9 = b
  with_unfolding_all conv at hb => lhs; whnf
  subst hb
  refine wpAny_execs_cons (wpAny_Assign_Subscript ?_ rfl)
  refine (ev_var (mem_at 2 rfl) : EvE w k env _ _ (.val y)) _ _ _ _ _ (S₀.pre F') fun v h₁ tk₁ u₁ g₁ hv => ?_
  obtain rfl := hv.val_inv
  refine (ev_var (mem_at 0 rfl) : EvE w k env _ _ (.val (.ref a))) _ _ _ _ _ ((S₀.pre F').up u₁ g₁) fun v h₂ tk₂ u₂ g₂ hv => ?_
  obtain rfl := hv.val_inv
  refine (ev_var (mem_at 1 rfl) : EvE w k env _ _ (.val (.int i t))) _ _ _ _ _ (((S₀.pre F').up u₁ g₁).up u₂ g₂) fun v h₃ tk₃ u₃ g₃ hv => ?_
  obtain rfl := hv.val_inv
  have le := ((S₀.keep.trans u₁).trans u₂).trans u₃
  refine list_setitem (s := stAt s h₃ tk₃) (acc.at fun o e => le _ o e) hi hl fun h₄ acc₄ sb => run_nil ?_
  exact q h₃ h₄ tk₃ le (Nat.le_trans (Nat.le_trans (Nat.le_trans S₀.g g₁) g₂) g₃) acc₄ sb.extBut
end
end Mine

set_option maxRecDepth 100000
set_option linter.unusedVariables false
namespace Mine
open PySem PySem.W PyProof.Rows
section
variable {w : World} {k : Nat} {env : Env} {σ : Sg} {A : Around} {E : Value → Shared → Prop} {s : Shared}

theorem isSame_str {M : Model} {y z : Str} {u v : Tok} {Q : Bool → Shared → Prop} (h0 : (u == 0 || v == 0) = false) (he : u = v → y = z) (hb : NoneBooked s.heap) (hq : ∀ b, (b = true → y = z) → Q b s) : wpAny M A (isSame (.str y u) (.str z v)) Q E s := by
  show wpAny M A (isSame.created (y == z) u v) Q E s
  unfold isSame.created
  refine wpAny_ite ?_
  split
  · rename_i h; rw [h0] at h; exact absurd h Bool.false_ne_true
  refine wpAny_ite ?_
  split
  · rename_i h; exact wpAny_pure (hq _ fun _ => he (eq_of_beq h))
  refine wpAny_ite ?_
  split
  · exact wpAny_pure (hq _ fun e => by cases e)
  rename_i hyz
  have hyz : y = z := by simpa using hyz
  refine wpAny_bind (wpAny_sharingNotTold_none hb ?_)
  first | rw [if_neg Bool.false_ne_true] | simp only [Bool.false_eq_true, if_false]
  refine wpAny_bind (wpAny_sharingNotTold_none hb ?_)
  first | rw [if_neg Bool.false_ne_true] | simp only [Bool.false_eq_true, if_false]
  exact wpAny_bind (wpAny_rule (wpAny_bind (wpAny_askSetting (wpAny_pure (hq _ fun _ => hyz)))))

/-- a test that may answer truly or not -/
theorem ts_orAny {e f : Expr} {p : Pos} {c : Bool} (x : ∀ (A : Around) (B : List Addr) (s : Shared) (E : Value → Shared → Prop) (Q : Bool → Shared → Prop), Pre w k A B env σ s →
    (∀ b h' tk, Le s.heap h' → s.toks ≤ tk → (b = true → c = true) → Q b (stAt s h' tk)) → wpAny (model pw w) A (isTrue e env (eval e env)) Q E s) (y : Ts w k env σ f c) : Ts w k env σ (.BoolOp .Or [e, f] p) c := fun A B s E Q pr q => by
  refine isTrue_or (x A B s E _ pr fun b h' tk u g hb => ?_)
  cases b with
  | true => rw [hb rfl] at q; exact q h' tk u g
  | false =>
    refine isTrue_or (y A B _ E _ (pr.up u g) fun h₂ tk₂ u₂ g₂ => ?_)
    cases c with
    | true => exact q h₂ tk₂ (u.trans u₂) (Nat.le_trans g g₂)
    | false => exact isTrue_or_nil (q h₂ tk₂ (u.trans u₂) (Nat.le_trans g g₂))

/-- texts among whose tokens `u` tells `x` -/
noncomputable def Texts (vs : List Value) (ls : List (List Nat)) (x : List Nat) (u : Tok) : Prop := vs.length = ls.length ∧ ∀ i v, vs[i]? = some v → ∃ t, v = Value.str ⟨(ls.getD i []).toArray⟩ t ∧ 0 < t ∧ (t = u → ls.getD i [] = x)

theorem cp_eqV {x y : List Nat} {t u : Tok} : Op2 w k (compareOp .Eq) (.val (.str ⟨x.toArray⟩ t)) (.val (.str ⟨y.toArray⟩ u)) (.bool (x == y)) := fun A B s E Q a b r F bd hu hv ps q => by
  obtain rfl := hu.val_inv; obtain rfl := hv.val_inv
  exact cp_eqS (k := k) A B s E Q _ _ r F bd (.str _ _) (.str _ _) ps q

theorem str_inj {x y : List Nat} (h : (⟨x.toArray⟩ : Str) = ⟨y.toArray⟩) : x = y := by
  have := congrArg (fun s : Str => s.cps.toList) h
  simpa using this

theorem bd_countOf {vs : List Value} {ls : List (List Nat)} {x : List Nat} {u : Tok} (hx : 0 < u) (hv : Texts vs ls x u) : Bd w k 8 ["count", "i"] [("a", .list (vs.map .val)), ("b", .val (.str ⟨x.toArray⟩ u))] (.int (ls.count x : Nat)) := by
  intro A B env s₀ h tk E Q hsc F S q
  generalize hb : fnBody 8 = b
  with_unfolding_all conv at hb => lhs; whnf
  subst hb
  refine run_assign (ρ := [("a", .list (vs.map .val)), ("b", .val (.str ⟨x.toArray⟩ u))]) F S ev_int (fun e m => m) (by kernel_rfl!) (by kernel_rfl!) rfl fun h₁ tk₁ S₁ sp₁ kd₁ g₁ => ?_
  let J : Nat → Sg := fun i => [("count", .int ((ls.take i).count x : Nat)), ("a", .list (vs.map .val)), ("b", .val (.str ⟨x.toArray⟩ u))]
  refine run_for (σI := J) (τI := fun i => ("i", .val (vs.getD i .none)) :: J i) F S₁ (ev_var (mem_at 1 rfl)) rfl trivial (fun e m => m) (fun i di hd => ?_) ?_ ?_
  · rw [List.getElem?_map] at hd
    obtain ⟨v, hv', rfl⟩ := Option.map_eq_some_iff.mp hd
    have : vs.getD i .none = v := by rw [List.getD_eq_getElem?_getD, hv']; rfl
    rw [this]
    exact asg_name (by kernel_rfl!) (fun e m => m) (by kernel_rfl!)
  · intro i di B' h₂ tk₂ E' hd sub F' S₂
    rw [List.getElem?_map] at hd
    obtain ⟨v, hv', rfl⟩ := Option.map_eq_some_iff.mp hd
    obtain ⟨t, rfl, ht, he⟩ := hv.2 i v hv'
    have hi : i < ls.length := by rw [← hv.1]; exact (List.getElem?_eq_some_iff.mp hv').1
    have hg : vs.getD i .none = .str ⟨(ls.getD i []).toArray⟩ t := by rw [List.getD_eq_getElem?_getD, hv']; rfl
    simp only [hg] at S₂
    have hli : ls.getD i [] = ls[i] := by rw [List.getD_eq_getElem?_getD, List.getElem?_eq_getElem hi]; rfl
    have cnt : (ls.take (i + 1)).count x = (ls.take i).count x + if (ls.getD i [] == x) then 1 else 0 := by
      rw [List.take_add_one, List.getElem?_eq_getElem hi, hli, List.count_append]; simp [List.count_cons]
    refine run_if (c := ls.getD i [] == x) F' S₂ (ts_orAny (fun A B s E Q pr q => ?_) (ts_cmp (ev_var (mem_at 0 rfl)) (ev_var (mem_at 3 rfl)) cp_eqV)) fun h₃ tk₃ S₃ u₃ g₃ => ?_
    · refine wpAny_isTrue_Compare1 ((ev_var (mem_at 0 rfl) : EvE w k env _ _ (.val (.str ⟨(ls.getD i []).toArray⟩ t))) A B s E _ pr fun a h₁ tk₁ u₁ g₁ ha => (ev_var (mem_at 3 rfl) : EvE w k env _ _ (.val (.str ⟨x.toArray⟩ u))) A B _ E _ (pr.up u₁ g₁) fun b h₂ tk₂ u₂ g₂ hb => ?_) (hm := by rfl)
      obtain rfl := ha.val_inv; obtain rfl := hb.val_inv
      show wpAny _ A (do return Value.bool (← isSame (.str ⟨(ls.getD i []).toArray⟩ t) (.str ⟨x.toArray⟩ u)) : Sem Value) _ _ _
      refine wpAny_bind (isSame_str (s := stAt s h₂ tk₂) (by have := Nat.ne_of_gt ht; have := Nat.ne_of_gt hx; simp [*]) (fun e => by rw [he e]) (pr.facts.keeps (u₁.trans u₂)).nb fun b hb => wpAny_pure ?_)
      exact wpAny_truthy_bool (q b h₂ tk₂ (u₁.trans u₂) (Nat.le_trans g₁ g₂) fun e => by rw [str_inj (hb e)]; simp)
    · cases hc : (ls.getD i [] == x) with
      | true =>
        rw [hc] at cnt
        refine run_aug (ρ := [("a", .list (vs.map .val)), ("b", .val (.str ⟨x.toArray⟩ u))]) F' S₃ (mem_at 1 rfl) ev_int op_iadd (fun e m => by
          rcases List.mem_cons.mp m with e' | m
          · rw [e']; exact mem_at 2 rfl
          · rw [List.mem_singleton.mp m]; exact mem_at 3 rfl) (by kernel_rfl!) (by kernel_rfl!) rfl fun h₄ tk₄ S₄ sp₄ kd₄ g₄ => run_nil (run_nil ?_)
        refine ⟨h₄, tk₄, rfl, ?_, u₃.sp.trans sp₄, u₃.kd.trans kd₄⟩
        show St B' env [("count", .int ((ls.take (i + 1)).count x : Nat)), _, _] _ _ _
        rw [cnt, if_pos rfl]
        exact S₄
      | false =>
        rw [hc, if_neg (by decide)] at cnt
        refine run_nil (run_nil ⟨h₃, tk₃, rfl, ?_, u₃.sp, u₃.kd⟩)
        show St B' env [("count", .int ((ls.take (i + 1)).count x : Nat)), _, _] _ _ _
        rw [cnt]
        exact S₃.pick [1, 2, 3]
  · intro h' tk' S' sp'
    refine run_ret F S' (ev_var (mem_at 0 rfl)) fun v h' tk' u g hd => q _ h' tk' u g ?_
    have : ((ls.take (vs.map D.val).length).count x : Nat) = ls.count x := by rw [List.length_map, hv.1, List.take_length]
    rw [this] at hd
    exact hd
theorem fn_countOf {vs : List Value} {ls : List (List Nat)} {x : List Nat} {u : Tok} (hx : 0 < u) (hv : Texts vs ls x u) : Fn w (k + 1) (.ref 70) [.list (vs.map .val), .val (.str ⟨x.toArray⟩ u)] [] [] (.int (ls.count x : Nat)) :=
  fn_of (N := ["count", "i"]) (ns := ["a", "b"]) (fun P => (fx_countOf P).to) (bd_countOf hx hv) (fun P vs e => by match vs, e with | [u, v], _ => kernel_rfl!) (by decide) rfl (by kernel_rfl!) (fun L => by kernel_rfl!) ⟨by kernel_rfl!, by kernel_rfl!, by kernel_rfl!⟩

/-- texts with tokens, seen as values -/
theorem St.vals {B : List Addr} {s₀ : Shared} {h : Heap} {tk : Nat} {x : Str} {ls : List (List Nat)} (S : St B env σ s₀ h tk) (m : (x, .tks ls) ∈ σ) :
    ∃ vs, TkOk vs ∧ (vs.length = ls.length ∧ ∀ i v, vs[i]? = some v → ∃ t, v = Value.str ⟨(ls.getD i []).toArray⟩ t ∧ 0 < t) ∧ St B env ((x, .list (vs.map .val)) :: σ) s₀ h tk := by
  have key : ∀ v, Has B h v (.tks ls) → ∃ vs, TkOk vs ∧ (vs.length = ls.length ∧ ∀ i v, vs[i]? = some v → ∃ t, v = Value.str ⟨(ls.getD i []).toArray⟩ t ∧ 0 < t) ∧ Has B h v (.list (vs.map .val)) := by
    intro v hv
    cases hv with
    | @tks a vs _ n acc hs tko =>
      have hl : vs.length = ls.length := by rw [hs.length, List.length_map]
      refine ⟨vs, tko, ⟨hl, fun i v hv => ?_⟩, .list n acc ?_⟩
      · have hi : i < ls.length := by rw [← hl]; exact (List.getElem?_eq_some_iff.mp hv).1
        have hd := hs.at (k := i) (d := D.str ls[i]) hv (by rw [List.getElem?_map, List.getElem?_eq_getElem hi]; rfl)
        obtain ⟨t, rfl⟩ := hd.str_inv
        obtain ⟨y, t', e, ht⟩ := tko.pos _ (List.mem_of_getElem? hv)
        cases e
        refine ⟨t, ?_, ht⟩
        rw [List.getD_eq_getElem?_getD, List.getElem?_eq_getElem hi]; rfl
      · exact hasAll_of (by simp) fun i v hv => ⟨.val v, by rw [List.getElem?_map, hv]; rfl, .val v⟩
  by_cases hl : env.kindOf x = some .local
  · obtain ⟨mm, a, b⟩ := S.vs.ns
    obtain ⟨v, e, r⟩ := b x _ m hl
    obtain ⟨vs, h1, h2, h3⟩ := key v r
    refine ⟨vs, h1, h2, ⟨⟨mm, a, fun y d m' l => ?_⟩, fun y d m' l => ?_⟩, S.keep, S.g, S.bd, S.cells⟩
    · rcases List.mem_cons.mp m' with e' | m'
      · cases e'; exact ⟨v, e, h3⟩
      · exact b y d m' l
    · rcases List.mem_cons.mp m' with e' | m'
      · cases e'; exact absurd hl l
      · exact S.vs.cell y d m' l
  · obtain ⟨hk, c, v, e, i, r⟩ := S.vs.cell x _ m hl
    obtain ⟨vs, h1, h2, h3⟩ := key v r
    obtain ⟨mm, a, b⟩ := S.vs.ns
    refine ⟨vs, h1, h2, ⟨⟨mm, a, fun y d m' l => ?_⟩, fun y d m' l => ?_⟩, S.keep, S.g, S.bd, S.cells⟩
    · rcases List.mem_cons.mp m' with e' | m'
      · cases e'; exact absurd l hl
      · exact b y d m' l
    · rcases List.mem_cons.mp m' with e' | m'
      · cases e'; exact ⟨hk, c, v, e, i, h3⟩
      · exact S.vs.cell y d m' l
end
end Mine

set_option maxRecDepth 100000
set_option linter.unusedVariables false
namespace Mine
open PySem PySem.W PyProof.Rows

noncomputable def b1L : List Nat := [173, 847, 6150, 6155, 6156, 6157, 8203, 8204, 8205, 8288, 65279] ++ (List.range 16).map (65024 + ·)
noncomputable def b1 (c : Nat) : Bool := b1L.contains c
noncomputable def els103 (P : Params) : List (Int × Value) := match (o103 P).data with
  | .set es _ _ => es.toList
  | _ => []
noncomputable def ins103 : List Int := [65024, 65025, 65026, 65027, 65028, 65029, 6150, 65030, 65031, 65032, 65033, 6155, 6156, 6157, 8203, 8204, 8205, 65034, 65035, 65036, 65037, 65038, 65039, 173, 847, 8288, 65279]
theorem els_keys (P : Params) : (els103 P).map (fun e => match e.2 with | .int i _ => some i | _ => none) = ins103.map some := by kernel_rfl!
theorem els_hash (P : Params) : ((els103 P).all fun e => match e.2 with | .int i _ => e.1 == hashInt i | _ => false) = true := by kernel_rfl!
theorem ins_b1 : (ins103.all fun i => decide (0 ≤ i) && b1L.contains i.toNat) = true := by decide +kernel
theorem b1_ins : (b1L.all fun c => ins103.contains (c : Int)) = true := by decide +kernel
theorem kk103 (P : Params) : (103, o103 P) ∈ KK P := mem_of_look_addr (by kernel_rfl!)
section
variable {w : World} {k : Nat} {env : Env} {σ : Sg} {A : Around} {E : Value → Shared → Prop} {s : Shared}

theorem el_at {e : Int × Value} (P : Params) (m : e ∈ els103 P) : ∃ i t, e.2 = .int i t ∧ i ∈ ins103 ∧ e.1 = hashInt i := by
  have h1 := List.all_eq_true.mp (els_hash P) e m
  have h2 : (match e.2 with | .int i _ => some i | _ => none) ∈ ins103.map some := by
    rw [← els_keys P]; exact List.mem_map.mpr ⟨e, m, rfl⟩
  cases hv : e.2 <;> rw [hv] at h1 h2 <;> first | (cases h1; done) | skip
  rename_i i t
  obtain ⟨j, hj, e'⟩ := List.mem_map.mp h2
  cases e'
  exact ⟨i, t, rfl, hj, by simpa using h1⟩
theorem setOf103 {h : Heap} (F : Facts w h) : h.SetOf (kn pw w) 103 (fun i => decide (i ∈ ins103)) 27 := by
  refine ⟨o103 w.params, (els103 w.params).toArray, 29, _, F.K _ (kk103 _), ⟨by kernel_rfl!, by kernel_rfl!, by kernel_rfl!⟩, (by kernel_rfl! : (o103 w.params).data = .set (els103 w.params).toArray 29 ⟨127, #[0, 1, 2, 3, 4, 5, 6, 7, 8, 9, 10, 11, 12, 13, 14, 15, 16, 17, 18, 19, 20, 21, 22, 45, 79, 96, 127], #[], 0, !w.params.followText "set-order", 2, true⟩), ?_, ?_, Nat.lt_of_le_of_lt (Nat.le_of_eq (by kernel_rfl! : (els103 w.params).toArray.size = 27)) (by decide), by kernel_rfl!, by kernel_rfl!⟩
  · intro e m
    obtain ⟨i, t, e2, _, e1⟩ := el_at w.params m
    refine ⟨⟨i, ?_, e1⟩, ?_⟩
    · rw [e2]; simp [intKind, Value.isInt]
    · rw [e2]; rfl
  · intro i
    constructor
    · intro hi
      have hi : i ∈ ins103 := by simpa using hi
      have : some i ∈ (els103 w.params).map (fun e => match e.2 with | .int i _ => some i | _ => none) := by rw [els_keys]; exact List.mem_map.mpr ⟨i, hi, rfl⟩
      obtain ⟨e, m, he⟩ := List.mem_map.mp this
      refine ⟨e, m, ?_⟩
      obtain ⟨j, t, e2, _, _⟩ := el_at w.params m
      rw [e2] at he ⊢
      cases he
      simp [intKind, Value.isInt]
    · rintro ⟨e, m, he⟩
      obtain ⟨j, t, e2, hj, _⟩ := el_at w.params m
      rw [e2] at he
      have : j = i := by simpa [intKind, Value.isInt] using he
      subst this
      simpa using hj
theorem b1_dec (c : Nat) : decide ((c : Int) ∈ ins103) = b1 c := by
  unfold b1
  rw [Bool.eq_iff_iff, decide_eq_true_eq, List.contains_iff_mem]
  constructor
  · intro m
    have := List.all_eq_true.mp ins_b1 _ m
    simpa using this
  · intro m
    have := List.all_eq_true.mp b1_ins _ m
    simpa using this
theorem cp_inB1 {c : Nat} : Op2 w k (compareOp .In) (.int c) (.val (.ref 103)) (.bool (b1 c)) := fun A B s E Q u v r F bd hu hv ps q => by
  obtain ⟨t, rfl⟩ := hu.int_inv
  obtain rfl := hv.val_inv
  refine wpAny_inSet_of (knd := kn pw w) (k := (c : Int)) (by simp [intKind, Value.isInt]) rfl (setOf103 F) ?_
  rw [b1_dec]
  exact q _ _ _ (Le.refl _) (Nat.le_succ _) (.bool _)

theorem bd_inb1 {c : Nat} : Bd w k 15 [] [("code", .str [c])] (.bool (b1 c)) := by
  intro A B env s₀ h tk E Q hsc F S q
  generalize hb : fnBody 15 = b
  with_unfolding_all conv at hb => lhs; whnf
  subst hb
  exact run_ret F S (ev_cmp (ev_call (ev_built (kd_glob hsc (by kernel_rfl!)) (fun P => by kernel_rfl!) (by kernel_rfl!)) kp_builtin (.cons (ev_var (mem_at 0 rfl)) rfl .nil) fn_ord)
    (ev_glob (kd_glob hsc (by kernel_rfl!)) (fun P => by kernel_rfl!)) cp_inB1) fun v h' tk' u g hv => q _ h' tk' u g hv
theorem fn_inb1 {c : Nat} : Fn w (k + 1) (.ref 113) [.str [c]] [] [] (.bool (b1 c)) :=
  fn_of (N := []) (ns := ["code"]) (fun P => (fx_in_table_b1 P).to) bd_inb1 (fun P vs e => by match vs, e with | [u], _ => kernel_rfl!) (by decide) rfl (by kernel_rfl!) (fun L => by kernel_rfl!) ⟨by kernel_rfl!, by kernel_rfl!, by kernel_rfl!⟩

theorem tab_at {kvs : List (Int × Value)} {es : List (Int × Str)} (x : Tab kvs es) (i : Int) : (es.lookup i = none ∧ (kvs.find? fun kv => decide (kv.1 = i)).map (·.2) = none) ∨ ∃ y t, es.lookup i = some y ∧ (kvs.find? fun kv => decide (kv.1 = i)).map (·.2) = some (.str y t) := by
  induction x with
  | nil => exact .inl ⟨rfl, rfl⟩
  | @cons k y t kvs es r ih =>
    rw [List.lookup_cons, List.find?_cons]
    by_cases h : k = i
    · subst h
      exact .inr ⟨y, t, by simp, by simp⟩
    · have h1 : (i == k) = false := by simpa using fun e => h e.symm
      simp only [h1, h, decide_false]
      exact ih
noncomputable def getB3 (c : Nat) : D := match tab3.lookup (c : Int) with
  | some y => .str y.cps.toList
  | none => .none
noncomputable def lowC (c : Nat) : List Nat := (Txt.lower ⟨#[c]⟩).cps.toList
noncomputable def mapB3 (c : Nat) : List Nat := match tab3.lookup (c : Int) with
  | some y => y.cps.toList
  | none => lowC c
theorem ev_get {o : Expr} {apos pos : Pos} {e : Expr} {c : Nat} (x : EvE w k env σ o (.val (.ref 114))) (y : EvL w k env σ [e] [.int c])
    (hbase : attributeBase o "get" env (eval o env) = eval o env := by rfl) (hline : (apos.endLine == pos.line) = true := by rfl)
    (hfew : ((backTo pos (starEach [e] env)).all (fun x => !x.1) && (backToKw pos (keywordEach [] env)).all (fun x => x.1.isSome)
      && decide ([e].length + ([] : List Keyword).length + (if ([] : List Keyword).isEmpty then 0 else 1) < 30)) = true := by rfl) : EvE w k env σ (.Call (.Attribute o "get" apos) [e] [] pos) (getB3 c) := fun A B s E Q pr q => by
  obtain ⟨es, ep, kvs, ho, hk, hp, ht⟩ := pr.facts.b3
  have mp : ∀ h', Le s.heap h' → h'.MapOf (kn pw w) 114 (fun i => (kvs.find? fun kv => decide (kv.1 = i)).map (·.2)) := fun h' u =>
    ⟨_, es, ep, u _ _ ho, ⟨rfl, rfl, rfl⟩, rfl, hk, fun i => by
      show _ = valueAt kvs i
      rw [← hp.find i]; obtain ⟨l⟩ := es; simp [findBy]⟩
  refine method_call (ov := .ref 114) pr x y (mp _ (Le.refl _)).typeIs (fun a e => by cases e; exact ⟨_, ho, rfl⟩) PySem.F.plainAttrs_dict PySem.F.slot_dict_get PySem.F.type_dict_get (fun vs h' tk' u g hv => ?_) hbase hfew hline
  obtain ⟨v, rfl, hv1⟩ := hasAll_one hv
  obtain ⟨t, rfl⟩ := hv1.int_inv
  refine call_meetsIn PySem.F.slot_dict_get (s := stAt s h' tk') (mp _ u).typeIs PySem.F.entry_dict_get (PySem.F.args_dict_get_2 _ _) (meets_dict_get (kn pw w) (k := (c : Int)) 114 (by simp [intKind, Value.isInt]) (by decide)) ⟨_, mp _ u, ?_⟩
  refine q _ h' (tk' + 1) u (Nat.le_succ_of_le g) ?_
  rcases tab_at ht (c : Int) with ⟨h1, h2⟩ | ⟨z, t, h1, h2⟩
  · rw [h2]; unfold getB3; rw [h1]; exact .none
  · rw [h2]; unfold getB3; rw [h1]; exact .str _ _
theorem ev_lower {o : Expr} {apos pos : Pos} {c : Nat} (x : EvE w k env σ o (.str [c])) (hbase : attributeBase o "lower" env (eval o env) = eval o env := by rfl) (hline : (apos.endLine == pos.line) = true := by rfl)
    (hfew : ((backTo pos (starEach [] env)).all (fun x => !x.1) && (backToKw pos (keywordEach [] env)).all (fun x => x.1.isSome)
      && decide (([] : List Expr).length + ([] : List Keyword).length + (if ([] : List Keyword).isEmpty then 0 else 1) < 30)) = true := by rfl) : EvE w k env σ (.Call (.Attribute o "lower" apos) [] [] pos) (.str (lowC c)) := fun A B s E Q pr q => by
  refine wpAny_Call_method_lateS hbase hfew hline (x A B s E _ pr fun v h₁ tk₁ u₁ g₁ hv => ?_)
  obtain ⟨t, rfl⟩ := hv.str_inv
  exact SBL.lower (s := stAt s h₁ tk₁) (by rw [str_len]; show 1 ≤ 5592405; decide) fun _ => q _ h₁ (tk₁ + 1) u₁ (Nat.le_succ_of_le g₁) (Has.str (lowC c) tk₁)
theorem bd_mapb3 {c : Nat} : Bd w k 17 ["r"] [("code", .str [c])] (.str (mapB3 c)) := by
  intro A B env s₀ h tk E Q hsc F S q
  generalize hb : fnBody 17 = b
  with_unfolding_all conv at hb => lhs; whnf
  subst hb
  refine run_assign (ρ := [("code", .str [c])]) F S (ev_get (ev_glob (kd_glob hsc (by kernel_rfl!)) (fun P => by kernel_rfl!)) (.cons (ev_call (ev_built (kd_glob hsc (by kernel_rfl!)) (fun P => by kernel_rfl!) (by kernel_rfl!)) kp_builtin (.cons (ev_var (mem_at 0 rfl)) rfl .nil) fn_ord) rfl .nil))
    (fun e m => m) (by kernel_rfl!) (by kernel_rfl!) rfl fun h₁ tk₁ S₁ sp₁ kd₁ g₁ => ?_
  refine run_if F S₁ (ts_cmp (ev_var (mem_at 0 rfl)) ev_none (cp_isNotN (by unfold getB3; cases tab3.lookup (c : Int) <;> intro u e <;> cases e))) fun h₂ tk₂ S₂ u₂ g₂ => ?_
  unfold getB3 at S₂ ⊢
  unfold mapB3 at q
  cases ht : tab3.lookup (c : Int) with
  | some y =>
    rw [ht] at S₂ q
    exact run_ret F S₂ (ev_var (mem_at 0 rfl)) fun v h' tk' u g hv => q _ h' tk' u g hv
  | none =>
    rw [ht] at q
    exact run_nil (run_ret F S₂ (ev_lower (ev_var (mem_at 1 rfl))) fun v h' tk' u g hv => q _ h' tk' u g hv)
theorem fn_mapb3 {c : Nat} : Fn w (k + 1) (.ref 159) [.str [c]] [] [] (.str (mapB3 c)) :=
  fn_of (N := ["r"]) (ns := ["code"]) (fun P => (fx_map_table_b3 P).to) bd_mapb3 (fun P vs e => by match vs, e with | [u], _ => kernel_rfl!) (by decide) rfl (by kernel_rfl!) (fun L => by kernel_rfl!) ⟨by kernel_rfl!, by kernel_rfl!, by kernel_rfl!⟩
end
end Mine

set_option maxRecDepth 100000
set_option linter.unusedVariables false
namespace Mine
open PySem PySem.W PyProof.Rows

/-- what is left of a text -/
noncomputable def prep (l : List Nat) : List Nat := (l.filter fun c => !b1 c).flatMap mapB3
theorem prep_app (x y : List Nat) : prep (x ++ y) = prep x ++ prep y := by unfold prep; rw [List.filter_append, List.flatMap_append]
theorem prep_take (l : List Nat) (i : Nat) : (prep (l.take i)).length ≤ (prep l).length := by
  conv => rhs; rw [← List.take_append_drop i l, prep_app, List.length_append]
  omega
theorem prep_one (c : Nat) : prep [c] = if b1 c then [] else mapB3 c := by
  unfold prep
  cases h : b1 c <;> simp [h]

section
variable {w : World} {k : Nat} {env : Env} {σ : Sg}
theorem ev_fdivN {l r : Expr} {p : Pos} {a b : Nat} (x : EvE w k env σ l (.int a)) (y : EvE w k env σ r (.int b)) (h0 : 0 < b) (h : b < 1073741824) : EvE w k env σ (.BinOp l .FloorDiv r p) (.int (a / b : Nat)) :=
  (ev_bin x y (op_fdiv (by omega) (by omega))).cast (congrArg D.int (Int.ofNat_fdiv a b).symm)
theorem ev_modN {l r : Expr} {p : Pos} {a b : Nat} (x : EvE w k env σ l (.int a)) (y : EvE w k env σ r (.int b)) (h0 : 0 < b) : EvE w k env σ (.BinOp l .Mod r p) (.int (a % b : Nat)) :=
  (ev_bin x y (op_mod (by omega))).cast (congrArg D.int (Int.ofNat_fmod a b).symm)
theorem ev_addN {l r : Expr} {p : Pos} {a b : Nat} (x : EvE w k env σ l (.int a)) (y : EvE w k env σ r (.int b)) : EvE w k env σ (.BinOp l .Add r p) (.int (a + b : Nat)) :=
  (ev_bin x y op_add).cast rfl
theorem ev_subN {l r : Expr} {p : Pos} {a b : Nat} (x : EvE w k env σ l (.int a)) (y : EvE w k env σ r (.int b)) (h : b ≤ a) : EvE w k env σ (.BinOp l .Sub r p) (.int (a - b : Nat)) :=
  (ev_bin x y op_sub).cast (congrArg D.int (by omega))
theorem ev_nat {n : Nat} {j p} : EvE w k env σ (.Constant (.int (n : Int)) j p) (.int (n : Nat)) := ev_int
theorem cp_eqN {a b : Nat} : Op2 w k (compareOp .Eq) (.int a) (.int b) (.bool (a == b)) := by
  have e : ((a : Int) == (b : Int)) = (a == b) := by
    rw [Bool.eq_iff_iff]; simp; omega
  exact e ▸ cp_eq
theorem cp_gtN {a b : Nat} : Op2 w k (compareOp .Gt) (.int a) (.int b) (.bool (decide (b < a))) := by
  have e : decide ((a : Int) > (b : Int)) = decide (b < a) := by simp
  exact e ▸ cp_gt
theorem cp_ltN {a b : Nat} : Op2 w k (compareOp .Lt) (.int a) (.int b) (.bool (decide (a < b))) := by
  have e : decide ((a : Int) < (b : Int)) = decide (a < b) := by simp
  exact e ▸ cp_lt

theorem bd_prepared {text : List Nat} (hl : (prep text).length ≤ 100000) : Bd w (k + 1) 20 ["kept", "sign", "unseen"] [("text", .str text)] (.str (prep text)) := by
  intro A B env s₀ h tk E Q hsc F S q
  generalize hb : fnBody 20 = b
  with_unfolding_all conv at hb => lhs; whnf
  subst hb
  refine run_assign (ρ := [("text", .str text)]) F S (ev_str (l := []) (by kernel_rfl!)) (fun e m => m) (by kernel_rfl!) (by kernel_rfl!) rfl fun h₁ tk₁ S₁ sp₁ kd₁ g₁ => ?_
  let J : Nat → Sg := fun i => [("kept", .str (prep (text.take i)))]
  refine run_for (σI := J) (τI := fun i => ("sign", .str [text.getD i 0]) :: J i) F S₁ (ev_var (mem_at 1 rfl)) rfl trivial (fun e m => by rw [List.mem_singleton.mp m]; exact mem_at 0 rfl) (fun i di hd => ?_) ?_ ?_
  · rw [List.getElem?_map] at hd
    obtain ⟨c, hc, rfl⟩ := Option.map_eq_some_iff.mp hd
    have : text.getD i 0 = c := by rw [List.getD_eq_getElem?_getD, hc]; rfl
    rw [this]
    exact asg_name (by kernel_rfl!) (fun e m => m) (by kernel_rfl!)
  · intro i di B' h₂ tk₂ E' hd sub F' S₂
    rw [List.getElem?_map] at hd
    obtain ⟨c, hc, rfl⟩ := Option.map_eq_some_iff.mp hd
    have hg : text.getD i 0 = c := by rw [List.getD_eq_getElem?_getD, hc]; rfl
    have step : prep (text.take (i + 1)) = prep (text.take i) ++ prep [c] := by
      rw [List.take_add_one, hc, prep_app]; rfl
    have hle := prep_take text (i + 1)
    rw [step, List.length_append] at hle
    simp only [hg] at S₂
    refine run_assign (ρ := ("sign", .str [c]) :: J i) F' S₂ (ev_call (ev_glob (kd_glob hsc (by kernel_rfl!)) (fun P => by kernel_rfl!)) (FnAt.kp fx_in_table_b1) (.cons (ev_var (mem_at 0 rfl)) rfl .nil) fn_inb1) (fun e m => m) (by kernel_rfl!) (by kernel_rfl!) rfl fun h₃ tk₃ S₃ sp₃ kd₃ g₃ => ?_
    refine run_if (c := !b1 c) F' S₃ ((ts_cmp (ev_var (mem_at 0 rfl)) ev_bool cp_isB).cast (by cases b1 c <;> rfl)) fun h₄ tk₄ S₄ u₄ g₄ => ?_
    rw [prep_one] at step hle
    cases hc1 : b1 c with
    | false =>
      rw [hc1] at step hle
      refine run_assign (ρ := []) F' S₄ (ev_call (ev_glob (kd_glob hsc (by kernel_rfl!)) (fun P => by kernel_rfl!)) (FnAt.kp fx_concat) (.cons (ev_var (mem_at 2 rfl)) rfl (.cons (ev_call (ev_glob (kd_glob hsc (by kernel_rfl!)) (fun P => by kernel_rfl!)) (FnAt.kp fx_map_table_b3) (.cons (ev_var (mem_at 1 rfl)) rfl .nil) fn_mapb3) rfl .nil)) (fn_concat ?_)) (fun e m => nomatch m) (by kernel_rfl!) (by kernel_rfl!) rfl fun h₅ tk₅ S₅ sp₅ kd₅ g₅ => run_nil (run_nil ?_)
      · simp only [Bool.false_eq_true, if_false] at hle; omega
      · refine ⟨h₅, tk₅, rfl, ?_, (sp₃.trans u₄.sp).trans sp₅, (kd₃.trans u₄.kd).trans kd₅⟩
        show St B' env [("kept", .str (prep (text.take (i + 1))))] _ _ _
        rw [step]; exact S₅
    | true =>
      rw [hc1] at step
      refine run_if (c := false) F' S₄ ((ts_cmp (ev_var (mem_at 0 rfl)) ev_bool cp_isNotB).cast (by rw [hc1]; rfl)) fun h₅ tk₅ S₅ u₅ g₅ => run_nil (run_nil (run_nil ?_))
      refine ⟨h₅, tk₅, rfl, ?_, (sp₃.trans u₄.sp).trans u₅.sp, (kd₃.trans u₄.kd).trans u₅.kd⟩
      show St B' env [("kept", .str (prep (text.take (i + 1))))] _ _ _
      rw [step, if_pos rfl, List.append_nil]
      exact S₅.pick [2]
  · intro h' tk' S' sp'
    refine run_ret F S' (ev_var (mem_at 0 rfl)) fun v h' tk' u g hd => q _ h' tk' u g ?_
    have : prep (text.take (text.map fun c => D.str [c]).length) = prep text := by rw [List.length_map, List.take_length]
    rw [this] at hd
    exact hd
theorem fn_prepared {text : List Nat} (hl : (prep text).length ≤ 100000) : Fn w (k + 2) (.ref 173) [.str text] [] [] (.str (prep text)) :=
  fn_of (N := ["kept", "sign", "unseen"]) (ns := ["text"]) (fun P => (fx_law_prepared P).to) (bd_prepared hl) (fun P vs e => by match vs, e with | [u], _ => kernel_rfl!) (by decide) rfl (by kernel_rfl!) (fun L => by kernel_rfl!) ⟨by kernel_rfl!, by kernel_rfl!, by kernel_rfl!⟩
end
end Mine

set_option maxRecDepth 100000
set_option linter.unusedVariables false
namespace Mine
open PySem PySem.W PyProof.Rows

abbrev lgs : List (Nat × List Nat) := [(64256, [102, 102]), (64257, [102, 105]), (64258, [102, 108]), (64259, [102, 102, 105]), (64260, [102, 102, 108])]
abbrev tblL : List Nat := [0, 1, 2, 4, 7, 8, 9, 10, 11, 12]
abbrev besL : List Nat := [172, 174, 846, 848, 6149, 6151, 6154, 6158, 8202, 8206, 8287, 8289, 65023, 65040, 65278, 65280]
abbrev velL : List Nat := [173, 847, 6150, 6155, 6156, 6157, 8203, 8204, 8205, 8288, 65279, 65024, 65025, 65026, 65027, 65028, 65029, 65030, 65031, 65032, 65033, 65034, 65035, 65036, 65037, 65038, 65039]
noncomputable def ligS (word : List Nat) (x spot : Nat) (acc : List Nat × Nat) (e : Nat × List Nat) : List Nat × Nat := if (x / 10 ^ spot % 2 == 1 && (word.take (spot + e.2.length)).drop spot == e.2) = true then ([e.1], e.2.length) else acc
noncomputable def dressOf (x spot : Nat) : Nat := (x / 100000 + spot) % 12
noncomputable def sign0 (d c : Nat) : Nat := if d = 0 then c else if d ≤ 1 then c - 32 else 119743 + 52 * tblL.getD (d - 2) 0 + (c - 32)
noncomputable def tst (word : List Nat) (x spot : Nat) : List Nat × Nat := lgs.foldl (ligS word x spot) ([sign0 (dressOf x spot) (word.getD spot 0)], 1)
noncomputable def hidOf (x spot : Nat) : Nat := (x / 1000 + spot) % 28
noncomputable def veil (x spot : Nat) : List Nat := if 0 < hidOf x spot then [velL.getD (hidOf x spot - 1) 0] else []
noncomputable def typedGo (word : List Nat) (x : Nat) : Nat → Nat → List Nat → List Nat
  | 0, _, text => text
  | n + 1, spot, text => if spot < word.length then typedGo word x n (spot + (tst word x spot).2) (text ++ veil x spot ++ (tst word x spot).1) else text
noncomputable def lastOf (x : Nat) : Nat := besL.getD (x % 16) 0
noncomputable def typedOf (word : List Nat) (x : Nat) : List Nat := typedGo word x word.length 0 [] ++ [lastOf x]

theorem ligs_pos (word : List Nat) (x spot : Nat) (c : Nat) : ∀ i, i ≤ lgs.length → 1 ≤ ((lgs.take i).foldl (ligS word x spot) ([c], 1)).2 ∧ ((lgs.take i).foldl (ligS word x spot) ([c], 1)).1.length = 1 := by
  intro i
  induction i with
  | zero => intro _; exact ⟨Nat.le_refl _, rfl⟩
  | succ i ih =>
    intro hi
    rw [List.take_add_one, List.getElem?_eq_getElem (by omega), List.foldl_append]
    have hl : ∀ e ∈ lgs, 1 ≤ e.2.length := by decide
    have := ih (by omega)
    show 1 ≤ (ligS word x spot _ _).2 ∧ (ligS word x spot _ _).1.length = 1
    unfold ligS
    split
    · exact ⟨hl _ (List.getElem_mem _), rfl⟩
    · exact this
theorem typedGo_more {word : List Nat} {x : Nat} : ∀ (n m spot : Nat) (text : List Nat), word.length - spot ≤ n → n ≤ m → typedGo word x n spot text = typedGo word x m spot text
  | 0, 0, _, _, _, _ => rfl
  | 0, m + 1, spot, text, h, _ => by rw [typedGo, typedGo, if_neg (by omega)]
  | n + 1, m + 1, spot, text, h, h' => by
      rw [typedGo, typedGo]
      split
      · refine typedGo_more n m _ _ ?_ (by omega)
        have := (ligs_pos word x spot (sign0 (dressOf x spot) (word.getD spot 0)) lgs.length (Nat.le_refl _)).1
        rw [List.take_length] at this
        have : 1 ≤ (tst word x spot).2 := this
        omega
      · rfl

section
variable {w : World} {k : Nat} {env : Env} {σ : Sg}
theorem fn_chrN {c : Nat} (h1 : c ≤ 0x10FFFF) : Fn w k (.builtin "chr") [.int c] [] [] (.str [c]) := fn_chr (by omega) (by omega)
theorem gi_intN {l : List Nat} {i : Nat} (h : i < l.length) (hl : l.length < 2 ^ 40) : Op2 w k getItem (.list (l.map fun (n : Nat) => D.int n)) (.int i) (.int (l.getD i 0 : Nat)) :=
  gi_list (j := i) ⟨by omega, by omega⟩ (seqIndex_nat (by rw [List.length_map]; exact h)) (by rw [List.getElem?_map, List.getD_eq_getElem?_getD, List.getElem?_eq_getElem h]; rfl)
theorem gi_strN {l : List Nat} {i : Nat} (h : i < l.length) (hl : l.length < 2 ^ 40) : Op2 w k getItem (.str l) (.int i) (.nstr [l.getD i 0]) :=
  gi_str (by rw [Bool.or_eq_false_iff, decide_eq_false_iff_not, decide_eq_false_iff_not]; exact ⟨by omega, by omega⟩) (by rw [seqIndex_nat h]; show l[i]? = _; rw [List.getD_eq_getElem?_getD, List.getElem?_eq_getElem h]; rfl)
theorem ev_powN {l r : Expr} {p : Pos} {a b : Nat} (x : EvE w k env σ l (.int a)) (y : EvE w k env σ r (.int b)) (h : (Builtin.Int.intBits (a : Int) : Int) * b ≤ 2 ^ 27) : EvE w k env σ (.BinOp l .Pow r p) (.int (a ^ b : Nat)) :=
  (ev_bin x y (op_pow (by omega) h)).cast (by rw [Int.toNat_natCast, Int.natCast_pow])

abbrev nts (l : List Nat) : List D := l.map fun (n : Nat) => D.int n
theorem vel_eq : (nts [173, 847, 6150, 6155, 6156, 6157, 8203, 8204, 8205, 8288, 65279] ++ (List.range ((65040 : Int) - 65024).toNat).map fun i => D.int (65024 + (i : Nat))) = nts velL := by kernel_rfl!
noncomputable def natC : Const → Option Nat := fun c => match c with
  | .int i => (match i with
    | .ofNat n => some n
    | .negSucc _ => none)
  | _ => none
noncomputable def strC : Const → Option Str := fun c => match c with
  | .str x => some x
  | _ => none
noncomputable def constE : Expr → Option (Const × Nat × Pos) := fun e => match e with
  | .Constant c j p => some (c, j, p)
  | _ => none
theorem natC_some {c : Const} {n : Nat} (h : natC c = some n) : c = .int (n : Int) := by
  cases c with
  | int i => cases i with
    | ofNat m => cases h; rfl
    | negSucc m => cases h
  | _ => cases h
theorem strC_some {c : Const} {x : Str} (h : strC c = some x) : c = .str x := by
  cases c with
  | str y => cases h; rfl
  | _ => cases h
theorem constE_some {e : Expr} {t : Const × Nat × Pos} (h : constE e = some t) : e = .Constant t.1 t.2.1 t.2.2 := by
  cases e with
  | Constant c j p => cases h; rfl
  | _ => cases h
noncomputable def natEx (e : Expr) : Option Nat := (constE e).bind fun t => natC t.1
noncomputable def strEx (e : Expr) : Option Str := (constE e).bind fun t => strC t.1
theorem natEx_some {e : Expr} {n : Nat} (h : natEx e = some n) : ∃ j p, e = .Constant (.int (n : Int)) j p := by
  obtain ⟨⟨c, j, p⟩, h1, h2⟩ := Option.bind_eq_some_iff.mp h
  have e1 := constE_some h1
  have e2 := natC_some h2
  exact ⟨j, p, by rw [e1]; show Expr.Constant c j p = _; rw [show c = _ from e2]⟩
theorem strEx_some {e : Expr} {x : Str} (h : strEx e = some x) : ∃ j p, e = .Constant (.str x) j p := by
  obtain ⟨⟨c, j, p⟩, h1, h2⟩ := Option.bind_eq_some_iff.mp h
  have e1 := constE_some h1
  have e2 := strC_some h2
  exact ⟨j, p, by rw [e1]; show Expr.Constant c j p = _; rw [show c = _ from e2]⟩
noncomputable def natsOf : List Expr → Option (List Nat)
  | [] => some []
  | e :: es => (natEx e).bind fun n => (natsOf es).map (n :: ·)
noncomputable def listE : Expr → Option (List Expr) := fun e => match e with
  | .List es _ => some es
  | _ => none
noncomputable def tupE : Expr → Option (List Expr) := fun e => match e with
  | .Tuple es _ _ => some es
  | _ => none
theorem listE_some {e : Expr} {es : List Expr} (h : listE e = some es) : ∃ p, e = .List es p := by
  cases e with
  | List es p => cases h; exact ⟨p, rfl⟩
  | _ => cases h
theorem tupE_some {e : Expr} {es : List Expr} (h : tupE e = some es) : ∃ n p, e = .Tuple es n p := by
  cases e with
  | Tuple es n p => cases h; exact ⟨n, p, rfl⟩
  | _ => cases h
noncomputable def natsE (e : Expr) : Option (List Nat) := (listE e).bind natsOf
theorem evL_nats : ∀ {es : List Expr} {l : List Nat}, natsOf es = some l → EvL w k env σ es (nts l)
  | [], l, h => by cases h; exact .nil
  | e :: es, l, h => by
      rw [natsOf] at h
      obtain ⟨n, h1, h2⟩ := Option.bind_eq_some_iff.mp h
      obtain ⟨l', h', rfl⟩ := Option.map_eq_some_iff.mp h2
      obtain ⟨j, p, rfl⟩ := natEx_some h1
      exact .cons ev_int rfl (evL_nats h')
theorem ev_nats {e : Expr} {l : List Nat} (h : natsE e = some l) (hl : l.length ≤ 1000000) : EvE w k env σ e (.list (nts l)) := by
  obtain ⟨es, h1, h2⟩ := Option.bind_eq_some_iff.mp h
  obtain ⟨p, rfl⟩ := listE_some h1
  exact ev_list (evL_nats h2) (by rw [List.length_map]; exact hl)
theorem sw_nats {e : Expr} {l : List Nat} (h : natsE e = some l) {t : Option Expr} {n : Nat} : swapsWith e t n env = pure false := by
  obtain ⟨es, h1, h2⟩ := Option.bind_eq_some_iff.mp h
  obtain ⟨p, rfl⟩ := listE_some h1
  rfl
abbrev lgsD : List D := lgs.map fun e => .tup [.int (e.1 : Nat), .str e.2]
noncomputable def pairEx (e : Expr) : Option (Nat × Str) := (tupE e).bind fun es => match es with
  | [a, b] => (natEx a).bind fun n => (strEx b).map fun x => (n, x)
  | _ => none
theorem pairEx_some {e : Expr} {q : Nat × Str} (h : pairEx e = some q) : ∃ a b n p, e = .Tuple [a, b] n p ∧ natEx a = some q.1 ∧ strEx b = some q.2 := by
  obtain ⟨es, h1, h2⟩ := Option.bind_eq_some_iff.mp h
  obtain ⟨n, p, rfl⟩ := tupE_some h1
  match es, h2 with
  | [a, b], h2 =>
    obtain ⟨m, h3, h4⟩ := Option.bind_eq_some_iff.mp h2
    obtain ⟨x, h5, rfl⟩ := Option.map_eq_some_iff.mp h4
    exact ⟨a, b, n, p, rfl, h3, h5⟩
noncomputable def tupsOf : List Expr → Option (List (Nat × Str))
  | [] => some []
  | e :: es => (pairEx e).bind fun q => (tupsOf es).map (q :: ·)
theorem evL_tups : ∀ {es : List Expr} {l : List (Nat × Str)}, tupsOf es = some l → EvL w k env σ es (l.map fun e => .tup [.int (e.1 : Nat), .str e.2.cps.toList])
  | [], l, h => by cases h; exact .nil
  | e :: es, l, h => by
      rw [tupsOf] at h
      obtain ⟨q, h1, h2⟩ := Option.bind_eq_some_iff.mp h
      obtain ⟨l', h', rfl⟩ := Option.map_eq_some_iff.mp h2
      obtain ⟨a, b, n, p, rfl, h3, h4⟩ := pairEx_some h1
      obtain ⟨j1, p1, rfl⟩ := natEx_some h3
      obtain ⟨j2, p2, rfl⟩ := strEx_some h4
      exact .cons (ev_tuple (.cons ev_int rfl (.cons (ev_str rfl) rfl .nil)) (by show 2 ≤ 1000000; decide)) rfl (evL_tups h')
noncomputable def tupsE (e : Expr) : Option (List (Nat × Str)) := (listE e).bind tupsOf
theorem ev_tups {e : Expr} {l : List (Nat × Str)} (h : tupsE e = some l) (hl : l.length ≤ 1000000) : EvE w k env σ e (.list (l.map fun e => .tup [.int (e.1 : Nat), .str e.2.cps.toList])) := by
  obtain ⟨es, h1, h2⟩ := Option.bind_eq_some_iff.mp h
  obtain ⟨p, rfl⟩ := listE_some h1
  exact ev_list (evL_tups h2) (by rw [List.length_map]; exact hl)
theorem run_forK {A : Around} {B : List Addr} {N : List Str} {s₀ : Shared} {h : Heap} {tk : Nat} {E : Value → Shared → Prop} {t iter : Expr} {body rest : List Stmt} {p : Pos} {d : D} {ds : List D} {σI τI : Nat → Sg} {Q : Flow → Shared → Prop} (F : Frm w k A B env N s₀) (S : St B env σ s₀ h tk) (ev : EvE w k env σ iter d) (hi : d.items = some ds) (hs : d.small)
    (h0 : ∀ e ∈ σI 0, e ∈ σ) (as : ∀ i di, ds[i]? = some di → Asg env N t di (σI i) (τI i))
    (turn : ∀ i di B' h₁ tk₁ E', ds[i]? = some di → (∀ b ∈ B, b ∈ B') → Frm w k A B' env N s₀ → St B' env (τI i) s₀ h₁ tk₁ →
      Run w A env body (fun f s' => match f with
        | .next => ∃ h₂ tk₂, s' = stAt s₀ h₂ tk₂ ∧ St B' env (σI (i + 1)) s₀ h₂ tk₂ ∧ Sp B' h₁ h₂ ∧ Kd h₁ h₂
        | .ret v => Q (.ret v) s'
        | _ => False) E' (stAt s₀ h₁ tk₁))
    (q : ∀ h' tk', St B env (σI ds.length) s₀ h' tk' → Sp B h h' → Kd h h' → Run w A env rest Q E (stAt s₀ h' tk'))
    (hf : ∀ x, foldedSetIterable iter env x = pure x := by intro _; rfl) : Run w A env (.For t iter body [] p :: rest) Q E (stAt s₀ h tk) := by
  refine run_forX (X := fun hL I _ h' => ∀ b o, b ≠ I → NotNm o → hL.get? b = some o → h'.get? b = some o) F S ev hi hs h0 (fun hL I h' _ u _ b o _ _ e => u b o e) (fun _ _ _ _ _ x _ k b o n m e => k b o n m (x b o n m e)) as (fun i di hL I h₁ tk₁ E' hd _ _ F' S' x _ => ?_) (fun hL I h' tk' u n S' x sp => q h' tk' S' sp fun b o m e => x b o (al_ne ⟨o, u b o e⟩ n) m (u b o e)) hf
  refine wpAny_mono (turn i di (I :: B) h₁ tk₁ E' hd (fun b m => .tail _ m) F' S') (fun f s' hf => ?_) fun _ _ x => x
  cases f with
  | next => obtain ⟨h₂, tk₂, e, S₂, sp, kd⟩ := hf; exact ⟨h₂, tk₂, e, S₂, fun b o n m e => kd b o m (x b o n m e), sp, fun b o _ nm e => kd b o nm e⟩
  | ret v => exact hf
  | brk => exact hf
  | cont => exact hf

theorem swS {ts : List Expr} {v : Expr} {i : Nat} {r : Sem (Option (List Str))} (hsc : env.scope = fnScope i) (h : ∀ e : Env, swappedStores ts v { e with scope := fnScope i } = r) : swappedStores ts v env = r := by
  have : { env with scope := fnScope i } = env := by cases env; cases hsc; rfl
  rw [← this]; exact h env
noncomputable def typedN : List Str := ["veils", "beside", "text", "spot", "size", "dress", "sign", "code", "means", "hidden"]
set_option maxHeartbeats 1000000 in
theorem bd_typed {word : List Nat} {x : Nat} (hw : ∀ c ∈ word, c = 102 ∨ c = 105 ∨ c = 108) (hlen : word.length ≤ 5) : Bd w k 19 typedN [("word", .str word), ("x", .int x)] (.tup [.str (typedOf word x), .str (word ++ [lastOf x])]) := by
  intro A B env s₀ h tk E Q hsc F S q
  generalize hb : fnBody 19 = b
  with_unfolding_all conv at hb => lhs; whnf
  subst hb
  generalize ha : Expr.List [_, _, _, _, _, _, _, _, _, _, _] _ = ea
  generalize hb : Expr.List [_, _, _, _, _, _, _, _, _, _, _, _, _, _, _, _] _ = eb
  generalize hc : Expr.List [_, _, _, _, _, _, _, _, _, _] _ = ec
  generalize hd : Expr.List [_, _, _, _, _] _ = ed
  have ha' : natsE ea = some [173, 847, 6150, 6155, 6156, 6157, 8203, 8204, 8205, 8288, 65279] := by subst ha; kernel_rfl!
  have hb' : natsE eb = some besL := by subst hb; kernel_rfl!
  have hc' : natsE ec = some tblL := by subst hc; kernel_rfl!
  have hd' : tupsE ed = some (lgs.map fun e => (e.1, ⟨e.2.toArray⟩)) := by subst hd; kernel_rfl!
  have fd' : ∀ x, foldedSetIterable ed env x = pure x := by subst hd; intro x; rfl
  clear ha hb hc hd
  refine run_assign (d := .list (nts velL)) (ρ := [("word", .str word), ("x", .int x)]) F S ?_ (fun e m => m) (by kernel_rfl!) (by kernel_rfl!) rfl fun h₁ tk₁ S₁ sp₁ kd₁ g₁ => ?_
  · refine Ev.cast ?_ (congrArg D.list vel_eq)
    refine (ev_bin (ev_nats ha' (by decide)) (ev_call (ev_built (kd_glob hsc (by kernel_rfl!)) (fun P => by kernel_rfl!) (by kernel_rfl!)) kp_type
      (.cons (ev_call (ev_built (kd_glob hsc (by kernel_rfl!)) (fun P => by kernel_rfl!) (by kernel_rfl!)) kp_type (.cons ev_int rfl (.cons ev_int rfl .nil)) fn_range2) rfl .nil) (fn_listRange ⟨by omega, by omega, by omega, by omega⟩ (by omega))) (op_addL (by decide)))
  refine run_assign (d := .list (nts besL)) (ρ := pick _ [0, 1, 2]) F S₁ (ev_nats hb' (by decide)) pick_sub (by kernel_rfl!) (by kernel_rfl!) (sw_nats hb') fun h₂ tk₂ S₂ sp₂ kd₂ g₂ => ?_
  let J : Nat × List Nat → Sg := fun a => [("text", .str a.2), ("spot", .int (a.1 : Nat)), ("beside", .list (nts besL)), ("veils", .list (nts velL)), ("word", .str word), ("x", .int x)]
  have hgd : ∀ i, i < word.length → word.getD i 0 = 102 ∨ word.getD i 0 = 105 ∨ word.getD i 0 = 108 := fun i hi => by
    rw [List.getD_eq_getElem?_getD, List.getElem?_eq_getElem hi]; exact hw _ (List.getElem_mem hi)
  have hfin : ∃ f, f = typedGo word x word.length 0 [] := ⟨_, rfl⟩
  obtain ⟨fin, hfin⟩ := hfin
  have htyp : typedOf word x = fin ++ [lastOf x] := by rw [hfin]; rfl
  refine run_assignT (d := .tup [.str [], .int (0 : Nat)]) F S₂ (ev_tuple (.cons (ev_str (by kernel_rfl!)) rfl (.cons ev_int rfl .nil)) (by decide)) (asg_pair (.inl rfl) (by kernel_rfl!) (by kernel_rfl!) (pick_sub (is := [0, 1, 2, 3])) (by kernel_rfl!) (by kernel_rfl!)) rfl (swS hsc fun e => by kernel_rfl!) fun h₃ tk₃ S₃ sp₃ kd₃ g₃ => ?_
  have S₃' : St B env (J (0, [])) s₀ h₃ tk₃ := S₃.pick [1, 0, 2, 3, 4, 5]
  clear S S₁ S₂ S₃
  refine run_whileX (J := J) (c := fun a => decide (a.1 < word.length)) (m := fun a => word.length - a.1) (P := fun a => typedGo word x (word.length - a.1) a.1 a.2 = fin ∧ a.2.length ≤ 2 * a.1 ∧ a.1 ≤ 20) (X := fun _ _ => True) (O := []) F S₃' (0, []) ⟨by rw [hfin]; rfl, Nat.le_refl _, Nat.zero_le _⟩ (fun e m => m) trivial
    (fun a _ => ts_cmp (ev_var (mem_at 1 rfl)) (ev_call (ev_built (kd_glob hsc (by kernel_rfl!)) (fun P => by kernel_rfl!) (by kernel_rfl!)) kp_builtin (.cons (ev_var (mem_at 4 rfl)) rfl .nil) (fn_lenS (by omega))) cp_ltN) (fun _ _ _ _ _ => trivial) ?_ ?_
  · rintro ⟨spot, text⟩ h₄ tk₄ E' ⟨hgo, htl, hsp⟩ hc S₄ -
    have hlt : spot < word.length := by simpa using hc
    have htl : text.length ≤ 2 * spot := htl
    have hsp : spot ≤ 20 := hsp
    have hwc := hgd spot hlt
    have hc32 : 32 ≤ word.getD spot 0 := by omega
    have hcM : word.getD spot 0 - 32 ≤ 0x10FFFF := by omega
    refine run_assignS (a := .int (1 : Nat)) (b := .int (dressOf x spot : Nat)) (ρ := J (spot, text)) F S₄ (ev_tuple (.cons ev_int rfl (.cons (ev_modN (ev_addN (ev_fdivN (ev_var (mem_at 5 rfl)) ev_nat (by decide) (by decide)) (ev_var (mem_at 1 rfl))) ev_nat (by decide)) rfl .nil)) (by show 2 ≤ 1000000; decide)) (by kernel_rfl!) (by kernel_rfl!) (fun e m => m) (by kernel_rfl!) (by kernel_rfl!) rfl (swS hsc fun e => by kernel_rfl!) fun h₅ tk₅ S₅ sp₅ kd₅ g₅ => ?_
    generalize hd : dressOf x spot = d at S₅
    have hd12 : d < 12 := by rw [← hd]; exact Nat.mod_lt _ (by decide)
    refine run_assign (d := .str [if d = 0 then word.getD spot 0 else word.getD spot 0 - 32]) (ρ := ("size", .int (1 : Nat)) :: ("dress", .int d) :: J (spot, text)) F S₅ (ev_ite (c := d == 0) (ts_cmp (ev_var (mem_at 1 rfl)) ev_nat cp_eqN) (fun e => ?_) (fun e => ?_)) (fun e m => m) (by kernel_rfl!) (by kernel_rfl!) rfl fun h₆ tk₆ S₆ sp₆ kd₆ g₆ => ?_
    · rw [if_pos (by simpa using e)]
      exact ev_weak (ev_sub (ev_var (mem_at 6 rfl)) (ev_var (mem_at 3 rfl)) (gi_strN hlt (by omega)))
    · rw [if_neg (by simpa using e)]
      exact ev_call (ev_built (kd_glob hsc (by kernel_rfl!)) (fun P => by kernel_rfl!) (by kernel_rfl!)) kp_builtin (.cons (ev_subN (ev_call (ev_built (kd_glob hsc (by kernel_rfl!)) (fun P => by kernel_rfl!) (by kernel_rfl!)) kp_builtin (.cons (ev_weak (ev_sub (ev_var (mem_at 6 rfl)) (ev_var (mem_at 3 rfl)) (gi_strN hlt (by omega)))) rfl .nil) fn_ord) (ev_nat (n := 32)) hc32) rfl .nil) (fn_chrN hcM)
    generalize hs1 : (if d = 0 then word.getD spot 0 else word.getD spot 0 - 32) = s1 at S₆
    refine name_rest fun rest hr => ?_
    have tail : ∀ h₇ tk₇, St B env (("sign", .str [sign0 d (word.getD spot 0)]) :: ("size", .int (1 : Nat)) :: J (spot, text)) s₀ h₇ tk₇ → Sp B h₄ h₇ → Kd h₄ h₇ →
       Run w A env rest (fun f s' => match f with
        | .next => ∃ b h₂ tk₂, word.length - b.1 < word.length - spot ∧ (typedGo word x (word.length - b.1) b.1 b.2 = fin ∧ b.2.length ≤ 2 * b.1 ∧ b.1 ≤ 20) ∧ s' = stAt s₀ h₂ tk₂ ∧ St B env (J b) s₀ h₂ tk₂ ∧ True ∧ Sp B h₄ h₂ ∧ Ko [] h₄ h₂
        | .ret v => Q (.ret v) s'
        | _ => False) E' (stAt s₀ h₇ tk₇) := by
      subst hr
      intro h₇ tk₇ S₇ sp₇ kd₇
      let acc : Nat → List Nat × Nat := fun i => (lgs.take i).foldl (ligS word x spot) ([sign0 d (word.getD spot 0)], 1)
      let σI : Nat → Sg := fun i => ("sign", .str (acc i).1) :: ("size", .int ((acc i).2 : Nat)) :: J (spot, text)
      refine run_forK (σI := σI) (τI := fun i => ("means", .str (lgs.getD i (0, [])).2) :: ("code", .int ((lgs.getD i (0, [])).1 : Nat)) :: σI i) F S₇ (ev_tups hd' (by decide)) rfl trivial (fun e m => m) (fun i di hdi => ?_) ?_ ?_ fd'
      · rw [List.getElem?_map, List.getElem?_map] at hdi
        obtain ⟨e', he', rfl⟩ := Option.map_eq_some_iff.mp hdi
        obtain ⟨e, he, rfl⟩ := Option.map_eq_some_iff.mp he'
        have : lgs.getD i (0, []) = e := by rw [List.getD_eq_getElem?_getD, he]; rfl
        rw [this]
        exact asg_pair (.inl rfl) (by kernel_rfl!) (by kernel_rfl!) (fun e m => m) (by kernel_rfl!) (by kernel_rfl!)
      · intro i di B' h₈ tk₈ E'' hdi sub F' S₈
        have hi : i < lgs.length := by
          have := (List.getElem?_eq_some_iff.mp hdi).1
          simpa using this
        have hgi : lgs.getD i (0, []) = lgs[i] := by rw [List.getD_eq_getElem?_getD, List.getElem?_eq_getElem hi]; rfl
        have step : acc (i + 1) = ligS word x spot (acc i) (lgs.getD i (0, [])) := by
          show (lgs.take (i + 1)).foldl _ _ = _
          rw [hgi, List.take_add_one, List.getElem?_eq_getElem hi, List.foldl_append]; rfl
        have hsmall : ∀ e ∈ lgs, e.1 ≤ 0x10FFFF ∧ e.2.length ≤ 3 := by decide
        have hle := hsmall (lgs.getD i (0, [])) (by rw [hgi]; exact List.getElem_mem hi)
        generalize lgs.getD i (0, []) = lg at S₈ step hle
        obtain ⟨code, means⟩ := lg
        have h10 : 0 < 10 ^ spot := Nat.pos_of_ne_zero (by simp)
        have h10' : 10 ^ spot ≤ 10 ^ 4 := Nat.pow_le_pow_right (by decide) (by omega)
        refine run_if (c := x / 10 ^ spot % 2 == 1 && (word.take (spot + means.length)).drop spot == means) F' S₈ (ts_and (b := x / 10 ^ spot % 2 == 1) (ts_cmp (ev_modN (ev_fdivN (ev_var (mem_at 9 rfl)) (ev_powN (ev_nat (n := 10)) (ev_var (mem_at 5 rfl)) ?_) h10 (Nat.lt_of_le_of_lt h10' (by decide))) ev_nat (by decide)) ev_nat cp_eqN) (fun e => ?_) (fun e => by rw [e]; rfl)) fun h₉ tk₉ S₉ u₉ g₉ => ?_
        · have : (Builtin.Int.intBits ((10 : Nat) : Int) : Int) = 4 := by decide
          rw [this]; omega
        · rw [e, Bool.true_and, ← piece_run]
          exact ts_cmp (ev_slS (ev_var (mem_at 8 rfl)) (.some (ev_var (mem_at 5 rfl))) (.some (ev_addN (ev_var (mem_at 5 rfl)) (ev_call (ev_built (kd_glob hsc (by kernel_rfl!)) (fun P => by kernel_rfl!) (by kernel_rfl!)) kp_builtin (.cons (ev_var (mem_at 0 rfl)) rfl .nil) (fn_lenS (by omega))))) (by omega)) (ev_var (mem_at 0 rfl)) cp_eqS
        · have unf : ligS word x spot (acc i) (code, means) = if (x / 10 ^ spot % 2 == 1 && (word.take (spot + means.length)).drop spot == means) = true then ([code], means.length) else acc i := rfl
          cases hcc : (x / 10 ^ spot % 2 == 1 && (word.take (spot + means.length)).drop spot == means) with
          | true =>
            rw [hcc, if_pos rfl] at unf
            refine run_assign (d := .str [code]) (ρ := pick _ [0, 1, 3, 4, 5, 6, 7, 8, 9]) F' S₉ (ev_call (ev_built (kd_glob hsc (by kernel_rfl!)) (fun P => by kernel_rfl!) (by kernel_rfl!)) kp_builtin (.cons (ev_var (mem_at 1 rfl)) rfl .nil) (fn_chrN hle.1)) pick_sub (by kernel_rfl!) (by kernel_rfl!) rfl fun h₁₀ tk₁₀ S₁₀ sp₁₀ kd₁₀ g₁₀ => ?_
            refine run_assign (d := .int (means.length : Nat)) (ρ := pick _ [0, 1, 2, 4, 5, 6, 7, 8, 9]) F' S₁₀ (ev_call (ev_built (kd_glob hsc (by kernel_rfl!)) (fun P => by kernel_rfl!) (by kernel_rfl!)) kp_builtin (.cons (ev_var (mem_at 1 rfl)) rfl .nil) (fn_lenS (by omega))) pick_sub (by kernel_rfl!) (by kernel_rfl!) rfl fun h₁₁ tk₁₁ S₁₁ sp₁₁ kd₁₁ g₁₁ => run_nil (run_nil ?_)
            refine ⟨h₁₁, tk₁₁, rfl, ?_, (u₉.sp.trans sp₁₀).trans sp₁₁, (u₉.kd.trans kd₁₀).trans kd₁₁⟩
            show St B' env (("sign", .str (acc (i + 1)).1) :: ("size", .int ((acc (i + 1)).2 : Nat)) :: J (spot, text)) _ _ _
            rw [step, unf]
            exact S₁₁.pick [1, 0, 4, 5, 6, 7, 8, 9]
          | false =>
            rw [hcc, if_neg (by decide)] at unf
            refine run_nil (run_nil ⟨h₉, tk₉, rfl, ?_, u₉.sp, u₉.kd⟩)
            show St B' env (("sign", .str (acc (i + 1)).1) :: ("size", .int ((acc (i + 1)).2 : Nat)) :: J (spot, text)) _ _ _
            rw [step, unf]
            exact S₉.pick [2, 3, 4, 5, 6, 7, 8, 9]
      · intro h₈ tk₈ S₈ sp₈ kd₈
        have hacc : acc (lgs.map fun e => D.tup [.int (e.1 : Nat), .str e.2]).length = tst word x spot := by
          rw [List.length_map]
          show (lgs.take lgs.length).foldl _ _ = _
          rw [List.take_length]; unfold tst; rw [hd]
        have S₈' : St B env (("sign", .str (tst word x spot).1) :: ("size", .int ((tst word x spot).2 : Nat)) :: J (spot, text)) s₀ h₈ tk₈ := by
          have e : ∀ n, n = lgs.length → St B env (σI n) s₀ h₈ tk₈ → St B env (("sign", .str (tst word x spot).1) :: ("size", .int ((tst word x spot).2 : Nat)) :: J (spot, text)) s₀ h₈ tk₈ := by
            rintro n rfl S
            rw [List.length_map] at hacc
            rw [← hacc]; exact S
          exact e _ (by rfl) S₈
        have hpos := ligs_pos word x spot (sign0 (dressOf x spot) (word.getD spot 0)) lgs.length (Nat.le_refl _)
        rw [List.take_length] at hpos
        have hone : 1 ≤ (tst word x spot).2 ∧ (tst word x spot).1.length = 1 := hpos
        have hsz : (tst word x spot).2 ≤ 3 := by
          have gen : ∀ (es : List (Nat × List Nat)) (a : List Nat × Nat), (∀ e ∈ es, e.2.length ≤ 3) → a.2 ≤ 3 → (es.foldl (ligS word x spot) a).2 ≤ 3 := by
            intro es
            induction es with
            | nil => intro a _ h; exact h
            | cons e es ih =>
              intro a he ha
              refine ih _ (fun e' m => he e' (.tail _ m)) ?_
              unfold ligS
              split
              · exact he e (.head _)
              · exact ha
          exact gen lgs _ (by decide) (by show 1 ≤ 3; decide)
        refine run_assign (d := .int (hidOf x spot : Nat)) (ρ := pick _ [0, 1, 2, 3, 4, 5, 6, 7]) F S₈' (ev_modN (ev_addN (ev_fdivN (ev_var (mem_at 7 rfl)) (ev_nat (n := 1000)) (by decide) (by decide)) (ev_var (mem_at 3 rfl))) (ev_nat (n := 28)) (by decide)) pick_sub (by kernel_rfl!) (by kernel_rfl!) rfl fun h₉ tk₉ S₉ sp₉ kd₉ g₉ => ?_
        have hveil : veil x spot = if 0 < hidOf x spot then [velL.getD (hidOf x spot - 1) 0] else [] := rfl
        have hh28 : hidOf x spot < 28 := Nat.mod_lt _ (by decide)
        have hvl : (veil x spot).length ≤ 1 := by rw [hveil]; split <;> simp
        generalize hidOf x spot = hd' at S₉ hveil hh28
        have hsg := hone.2
        have hvM : velL.getD (hd' - 1) 0 ≤ 0x10FFFF := by
          have : ∀ i, i < 27 → velL.getD i 0 ≤ 0x10FFFF := by decide
          exact this _ (by omega)
        refine run_assign (d := .str (text ++ veil x spot ++ (tst word x spot).1)) (ρ := pick _ [2, 4, 5, 6, 7, 8]) F S₉ (ev_bin (ev_bin (ev_var (mem_at 3 rfl)) (ev_ite (c := decide (0 < hd')) (ts_cmp (ev_var (mem_at 0 rfl)) (ev_nat (n := 0)) cp_gtN) (fun e => ?_) (fun e => ?_)) (op_addS (by omega))) (ev_var (mem_at 1 rfl)) (op_addS (by rw [List.length_append]; omega))) pick_sub (by kernel_rfl!) (by kernel_rfl!) rfl fun h₁₀ tk₁₀ S₁₀ sp₁₀ kd₁₀ g₁₀ => ?_
        · rw [hveil, if_pos (by simpa using e)]
          exact ev_call (ev_built (kd_glob hsc (by kernel_rfl!)) (fun P => by kernel_rfl!) (by kernel_rfl!)) kp_builtin (.cons (ev_sub (ev_var (mem_at 6 rfl)) (ev_subN (ev_var (mem_at 0 rfl)) (ev_nat (n := 1)) (by have := of_decide_eq_true e; omega)) (gi_intN (l := velL) (by show hd' - 1 < 27; omega) (by decide))) rfl .nil) (fn_chrN hvM)
        · rw [hveil, if_neg (by simpa using e)]
          exact ev_str (by kernel_rfl!)
        refine run_assign (d := .int (spot + (tst word x spot).2 : Nat)) (ρ := pick _ [0, 3, 4, 5, 6]) F S₁₀ (ev_addN (ev_var (mem_at 2 rfl)) (ev_var (mem_at 1 rfl))) pick_sub (by kernel_rfl!) (by kernel_rfl!) rfl fun h₁₁ tk₁₁ S₁₁ sp₁₁ kd₁₁ g₁₁ => run_nil ?_
        refine ⟨(spot + (tst word x spot).2, text ++ veil x spot ++ (tst word x spot).1), h₁₁, tk₁₁, ?_, ⟨?_, ?_, ?_⟩, rfl, S₁₁.pick [1, 0, 2, 3, 4, 5], trivial, (((sp₇.trans sp₈).trans sp₉).trans sp₁₀).trans sp₁₁, ((((kd₇.trans kd₈).trans kd₉).trans kd₁₀).trans kd₁₁).ko⟩
        · show word.length - (spot + (tst word x spot).2) < word.length - spot; omega
        · rw [← hgo]
          show typedGo word x (word.length - (spot + (tst word x spot).2)) _ _ = typedGo word x (word.length - spot) spot text
          obtain ⟨m, hm⟩ : ∃ m, word.length - spot = m + 1 := ⟨word.length - spot - 1, by omega⟩
          rw [hm, typedGo, if_pos hlt]
          have h1 : 1 ≤ (tst word x spot).2 := hone.1
          have h2 : word.length - (spot + (tst word x spot).2) ≤ m := by omega
          exact typedGo_more _ _ _ _ (Nat.le_refl _) h2
        · show (text ++ veil x spot ++ (tst word x spot).1).length ≤ 2 * (spot + (tst word x spot).2)
          rw [List.length_append, List.length_append]; omega
        · show spot + (tst word x spot).2 ≤ 20; omega
    refine run_if (c := decide (1 < d)) F S₆ (ts_cmp (ev_var (mem_at 2 rfl)) (ev_nat (n := 1)) cp_gtN) fun h₇ tk₇ S₇ u₇ g₇ => ?_
    have sp6 : Sp B h₄ h₇ := (sp₅.trans sp₆).trans u₇.sp
    have kd6 : Kd h₄ h₇ := (kd₅.trans kd₆).trans u₇.kd
    have hs0 : sign0 d (word.getD spot 0) = if d = 0 then word.getD spot 0 else if d ≤ 1 then word.getD spot 0 - 32 else 119743 + 52 * tblL.getD (d - 2) 0 + (word.getD spot 0 - 32) := rfl
    cases hd1 : decide (1 < d) with
    | false =>
      have hd1 : d ≤ 1 := by simpa using hd1
      refine run_nil (tail h₇ tk₇ ?_ sp6 kd6)
      have : sign0 d (word.getD spot 0) = s1 := by rw [hs0, ← hs1]; split <;> simp_all
      rw [this]
      exact S₇.pick [0, 1, 3, 4, 5, 6, 7, 8]
    | true =>
      have hd1 : 1 < d := by simpa using hd1
      have hs1' : s1 = word.getD spot 0 - 32 := by rw [← hs1, if_neg (by omega)]
      have hs : sign0 d (word.getD spot 0) = 119743 + 52 * tblL.getD (d - 2) 0 + s1 := by rw [hs0, if_neg (by omega), if_neg (by omega), hs1']
      have htb : tblL.getD (d - 2) 0 ≤ 12 := by
        have : ∀ i, i < 10 → tblL.getD i 0 ≤ 12 := by decide
        exact this _ (by omega)
      refine run_assign (d := .str [119743 + 52 * tblL.getD (d - 2) 0 + s1]) (ρ := pick _ [1, 3, 4, 5, 6, 7, 8]) F S₇ (ev_call (ev_built (kd_glob hsc (by kernel_rfl!)) (fun P => by kernel_rfl!) (by kernel_rfl!)) kp_builtin (.cons (ev_addN (ev_addN (ev_nat (n := 119743)) (Ev.cast (ev_bin (ev_nat (n := 52)) (ev_sub (ev_nats hc' (by decide)) (ev_subN (ev_var (mem_at 2 rfl)) (ev_nat (n := 2)) hd1) (gi_intN (l := tblL) (by show d - 2 < 10; omega) (by decide))) (op_mul (IntMulOk.of_left (by decide)))) (by rw [← Int.natCast_mul])))
        (ev_call (ev_built (kd_glob hsc (by kernel_rfl!)) (fun P => by kernel_rfl!) (by kernel_rfl!)) kp_builtin (.cons (ev_var (mem_at 0 rfl)) rfl .nil) fn_ord)) rfl .nil) (fn_chrN (by omega))) pick_sub (by kernel_rfl!) (by kernel_rfl!) rfl fun h₈ tk₈ S₈ sp₈ kd₈ g₈ => run_nil ?_
      refine tail h₈ tk₈ ?_ (sp6.trans sp₈) (kd6.trans kd₈)
      rw [hs]
      exact S₈
  · rintro ⟨spot, text⟩ h₄ tk₄ ⟨hgo, htl, hsp⟩ hc S₄ - sp₄ ko₄
    have hlt : ¬ spot < word.length := by simpa using hc
    have htl : text.length ≤ 2 * spot := htl
    have hsp : spot ≤ 20 := hsp
    have ht : text = fin := by
      rw [← hgo]
      show text = typedGo word x (word.length - spot) spot text
      rw [Nat.sub_eq_zero_of_le (Nat.le_of_not_lt hlt)]; rfl
    have hbM : lastOf x ≤ 0x10FFFF := by
      have : ∀ i, i < 16 → besL.getD i 0 ≤ 0x10FFFF := by decide
      exact this _ (Nat.mod_lt _ (by decide))
    refine run_ret F S₄ (ev_tuple (.cons (ev_bin (ev_var (mem_at 0 rfl)) (d := .str (text ++ [lastOf x])) (ev_call (ev_built (kd_glob hsc (by kernel_rfl!)) (fun P => by kernel_rfl!) (by kernel_rfl!)) kp_builtin (.cons (ev_sub (ev_var (mem_at 2 rfl)) (ev_modN (ev_var (mem_at 5 rfl)) (ev_nat (n := 16)) (by decide)) (gi_intN (l := besL) (Nat.mod_lt _ (by decide)) (by decide))) rfl .nil) (fn_chrN hbM)) (op_addS (by show text.length + 1 ≤ _; omega))) rfl
      (.cons (ev_bin (ev_var (mem_at 4 rfl)) (d := .str (word ++ [lastOf x])) (ev_call (ev_built (kd_glob hsc (by kernel_rfl!)) (fun P => by kernel_rfl!) (by kernel_rfl!)) kp_builtin (.cons (ev_sub (ev_var (mem_at 2 rfl)) (ev_modN (ev_var (mem_at 5 rfl)) (ev_nat (n := 16)) (by decide)) (gi_intN (l := besL) (Nat.mod_lt _ (by decide)) (by decide))) rfl .nil) (fn_chrN hbM)) (op_addS (by show word.length + 1 ≤ _; omega))) rfl .nil)) (by show 2 ≤ 1000000; decide)) fun v h' tk' u g hd => q _ h' tk' u g (by rw [htyp, ← ht]; exact hd)
theorem fn_typed {word : List Nat} {x : Nat} (hw : ∀ c ∈ word, c = 102 ∨ c = 105 ∨ c = 108) (hlen : word.length ≤ 5) : Fn w (k + 1) (.ref 166) [.str word, .int x] [] [] (.tup [.str (typedOf word x), .str (word ++ [lastOf x])]) :=
  fn_of (N := typedN) (ns := ["word", "x"]) (fun P => (fx_law_typed P).to) (bd_typed hw hlen) (fun P vs e => by match vs, e with | [u, v], _ => kernel_rfl!) (by decide) rfl (by kernel_rfl!) (fun L => by kernel_rfl!) ⟨by kernel_rfl!, by kernel_rfl!, by kernel_rfl!⟩
end
end Mine

set_option maxRecDepth 100000
set_option linter.unusedVariables false
namespace Mine
open PySem PySem.W PyProof.Rows

/-- a thing without objects -/
noncomputable def D.flat : D → Bool
  | .none | .bool _ | .int _ | .str _ | .nstr _ | .val _ => true
  | _ => false
theorem Has.flat {B B' : List Addr} {h h' : Heap} {v : Value} {d : D} (x : Has B h v d) (f : d.flat = true) : Has B' h' v d := by
  cases x with
  | none => exact .none
  | bool => exact .bool _
  | int => exact .int _ _
  | str => exact .str _ _
  | nstr _ _ p => exact .nstr _ _ p
  | val => exact .val _
  | tks | list | tup | range | ils => cases f
/-- all that lives -/
noncomputable def allOf (h : Heap) : List Addr := (List.range h.objs.size).filter fun b => (h.get? b).isSome
theorem mem_allOf {h : Heap} {b : Addr} : b ∈ allOf h ↔ Al h b := by
  unfold allOf
  rw [List.mem_filter, List.mem_range, Option.isSome_iff_exists]
  exact ⟨fun x => x.2, fun x => ⟨x.lt, x⟩⟩
theorem new_all {h : Heap} {a : Addr} (n : a ∉ allOf h) : h.get? a = none := by
  cases e : h.get? a with
  | none => rfl
  | some o => exact absurd (mem_allOf.mpr ⟨o, e⟩) n

section
variable {w : World} {k : Nat} {A : Around} {B : List Addr} {env : Env} {N : List Str} {σ : Sg} {s₀ s : Shared} {h : Heap} {tk : Nat} {E : Value → Shared → Prop}

theorem St.raise {B' : List Addr} (S : St B env σ s₀ h tk) (f : (σ.all fun e => e.2.flat) = true) (bd : ∀ b ∈ B', Al h b) : St B' env σ s₀ h tk := by
  have fl : ∀ x d, (x, d) ∈ σ → d.flat = true := fun x d m => List.all_eq_true.mp f _ m
  refine ⟨⟨?_, fun x d m l => ?_⟩, S.keep, S.g, bd, S.cells⟩
  · obtain ⟨m, a, b⟩ := S.vs.ns
    exact ⟨m, a, fun x d m' l => let ⟨v, p, q⟩ := b x d m' l; ⟨v, p, q.flat (fl x d m')⟩⟩
  · obtain ⟨a, c, v, p, q, r⟩ := S.vs.cell x d m l
    exact ⟨a, c, v, p, q, r.flat (fl x d m)⟩
/-- another sight of a thing -/
theorem St.view {x : Str} {v : Value} {d : D} (S : St B env σ s₀ h tk) (m : (x, .val v) ∈ σ) (hv : Has B h v d) : St B env ((x, d) :: σ) s₀ h tk := by
  refine ⟨⟨?_, fun y d' m' l => ?_⟩, S.keep, S.g, S.bd, S.cells⟩
  · obtain ⟨mm, a, b⟩ := S.vs.ns
    refine ⟨mm, a, fun y d' m' l => ?_⟩
    rcases List.mem_cons.mp m' with e | m'
    · cases e
      obtain ⟨u, p, q⟩ := b x _ m l
      obtain rfl := q.val_inv
      exact ⟨_, p, hv⟩
    · exact b y d' m' l
  · rcases List.mem_cons.mp m' with e | m'
    · cases e
      obtain ⟨a, c, u, p, q, r⟩ := S.vs.cell x _ m l
      obtain rfl := r.val_inv
      exact ⟨a, c, _, p, q, hv⟩
    · exact S.vs.cell y d' m' l

theorem call_hand {func e : Expr} {rest : List Expr} {pos : Pos} {f : Value} {ds : List D} {Q : Value → Shared → Prop} (pr : Pre w k A B env σ s) (hf : EvE w k env σ func (.val f)) (kp : Kp w f) (x : EvL w k env σ (e :: rest) ds)
    (h : ∀ vs h' tk', Le s.heap h' → s.toks ≤ tk' → HasAll B h' vs ds → wpAny (model pw w) A (call f vs []) Q E (stAt s h' tk'))
    (hc : eval (.Call func (e :: rest) [] pos) env = (do callWith pos (← eval func env) [] (backTo pos (starEach (e :: rest) env)) (backToKw pos (keywordEach [] env))) := by rfl) : wpAny (model pw w) A (eval (.Call func (e :: rest) [] pos) env) Q E s := by
  rw [hc]
  refine wpAny_bind (hf A B s E _ pr fun v h₁ tk₁ u₁ g₁ hv => ?_)
  obtain rfl := hv.val_inv
  refine callW (pr.up u₁ g₁) kp x rfl rfl fun vs h₂ tk₂ u₂ g₂ hvs => kwAll_nil ⟨pr.facts.keeps (u₁.trans u₂), ?_⟩
  exact h vs h₂ tk₂ (u₁.trans u₂) (Nat.le_trans g₁ g₂) hvs
theorem call_handk {func e val : Expr} {rest : List Expr} {pos kp' : Pos} {f : Value} {kn : Str} {ds : List D} {u : Value} {Q : Value → Shared → Prop} (pr : Pre w k A B env σ s) (hf : EvE w k env σ func (.val f)) (kp : Kp w f) (x : EvL w k env σ (e :: rest) ds) (y : EvE w k env σ val (.val u))
    (h : ∀ vs h' tk', Le s.heap h' → s.toks ≤ tk' → HasAll B h' vs ds → wpAny (model pw w) A (call f vs (List.zip [kn] [u])) Q E (stAt s h' tk'))
    (hc : eval (.Call func (e :: rest) [⟨some kn, val, kp'⟩] pos) env = (do callWith pos (← eval func env) [] (backTo pos (starEach (e :: rest) env)) (backToKw pos (keywordEach [⟨some kn, val, kp'⟩] env))) := by rfl) :
    wpAny (model pw w) A (eval (.Call func (e :: rest) [⟨some kn, val, kp'⟩] pos) env) Q E s := by
  rw [hc]
  refine wpAny_bind (hf A B s E _ pr fun v h₁ tk₁ u₁ g₁ hv => ?_)
  obtain rfl := hv.val_inv
  refine callW (pr.up u₁ g₁) kp x rfl rfl fun vs h₂ tk₂ u₂ g₂ hvs => ?_
  refine kwAll_cons (y A B _ E _ ((pr.up u₁ g₁).up u₂ g₂) fun z h₃ tk₃ u₃ g₃ hz => kwAll_nil ⟨pr.facts.keeps ((u₁.trans u₂).trans u₃), ?_⟩)
  obtain rfl := hz.val_inv
  exact h vs h₃ tk₃ ((u₁.trans u₂).trans u₃) (Nat.le_trans (Nat.le_trans g₁ g₂) g₃) (hvs.le u₃)

/-- a loop whose turns may change what was made behind its start -/
theorem run_forY {t iter : Expr} {body rest : List Stmt} {p : Pos} {d : D} {ds : List D} {σI τI : Nat → Sg} {Q : Flow → Shared → Prop} {X : Heap → Addr → Nat → Heap → Prop} (F : Frm w k A B env N s₀) (S : St B env σ s₀ h tk) (ev : EvE w k env σ iter d) (hi : d.items = some ds) (hs : d.small)
    (h0 : ∀ e ∈ σI 0, e ∈ σ) (start : ∀ hL I h', Le h hL → Le hL h' → hL.get? I = none → X hL I 0 h')
    (keep : ∀ hL I i h h', X hL I i h → Sp (I :: B) h h' → (∀ b o, b ≠ I → NotNm o → h.get? b = some o → h'.get? b = some o) → X hL I i h')
    (as : ∀ i di, ds[i]? = some di → Asg env N t di (σI i) (τI i))
    (turn : ∀ i di hL I h₁ tk₁ E', ds[i]? = some di → Le h hL → hL.get? I = none → Frm w k A (I :: B) env N s₀ → St (I :: B) env (τI i) s₀ h₁ tk₁ → X hL I i h₁ → Sp (I :: B) hL h₁ → (∃ o, h₁.get? I = some o ∧ NotNm o) →
      Run w A env body (fun f s' => match f with
        | .next => ∃ h₂ tk₂, s' = stAt s₀ h₂ tk₂ ∧ St (I :: B) env (σI (i + 1)) s₀ h₂ tk₂ ∧ X hL I (i + 1) h₂ ∧ Sp (I :: B) hL h₂ ∧ (∀ o, NotNm o → h₁.get? I = some o → h₂.get? I = some o)
        | .ret v => Q (.ret v) s'
        | _ => False) E' (stAt s₀ h₁ tk₁))
    (q : ∀ hL I h' tk', Le h hL → hL.get? I = none → St B env (σI ds.length) s₀ h' tk' → X hL I ds.length h' → Sp B h h' → Run w A env rest Q E (stAt s₀ h' tk'))
    (hf : ∀ x, foldedSetIterable iter env x = pure x := by intro _; rfl) : Run w A env (.For t iter body [] p :: rest) Q E (stAt s₀ h tk) := by
  refine wpAny_execs_cons (wpAny_For (ev A B _ E _ (S.pre F) fun v h₁ tk₁ u₁ g₁ hv => ?_) hf)
  refine wp_iter (s := stAt s₀ h₁ tk₁) hv hi hs fun I h₂ fp P Stt IT => ?_
  have S₁ : St B env (σI 0) s₀ h₁ tk₁ := (S.up u₁ g₁).less h0
  have alI : Al h₂ I := by obtain ⟨o, _, _, e, _⟩ := IT.own 0 h₂ IT.st; exact ⟨o, e⟩
  have S₂ : St (I :: B) env (σI 0) s₀ h₂ tk₁ := S₁.addI IT.le IT.new alI
  have F' := F.add I
  have bI : ∀ b ∈ B, b ≠ I := fun b hb => al_ne (S₁.bd b hb) IT.new
  have nl : I ≠ env.locals := (bI _ F.locB).symm
  have nc : ∀ y c, env.cells.lookup y = some c → I ≠ c := fun y c e => by
    obtain ⟨v, o, z, _⟩ := S₁.cells y c e
    exact (al_ne ⟨o, z⟩ IT.new).symm
  have n0 : s₀.heap.objs.size ≤ I := Nat.le_trans F.locF (Nat.le_trans (Nat.le_of_lt (S₁.bd _ F.locB).lt) IT.big)
  have at₂ : ∀ b o, h.get? b = some o → h₁.get? b = some o ∧ b ≠ I := fun b o e => ⟨u₁ b o e, al_ne ⟨o, u₁ b o e⟩ IT.new⟩
  have W := IT.walks A F.room.1
  refine loopL (I := fun n s => ∃ j h tk, n = ds.length - j ∧ j ≤ ds.length ∧ s = stAt s₀ h tk ∧ St (I :: B) env (σI j) s₀ h tk ∧ Stt j h ∧ X h₁ I j h ∧ Sp (I :: B) h₁ h) ?_ ds.length ⟨0, h₂, tk₁, rfl, Nat.zero_le _, rfl, S₂, IT.st, start h₁ I h₂ u₁ IT.le IT.new, IT.le.sp⟩
  rintro n s ⟨j, h₃, tk₃, hn, hj, rfl, S₃, st₃, hX₃, sp₃⟩
  by_cases hlt : j < ds.length
  · refine wpAny_with_toks (Nat.le_refl tk₃) (W.item j _ _ _ hlt st₃ fun v h₄ tk₄ hP st₄ k₄ g₄ => ?_)
    have eb₄ : Heap.ExtBut I h₃ h₄ := fun b o n e => k₄ b o (fun m => n (List.mem_singleton.mp m)) e
    have al₄ : Al h₄ I := by obtain ⟨o, _, _, e, _⟩ := IT.own _ _ st₄; exact ⟨o, e⟩
    have S₄ := S₃.but (.head _) eb₄ nl nc n0 al₄ g₄
    have sp₄ : Sp (I :: B) h₃ h₄ := sp_own (.head _) eb₄
    refine let_owned (IT.own _ _ st₄) ?_
    have hd : ds[j]? = some ds[j] := List.getElem?_eq_getElem hlt
    have hv : Has (I :: B) h₄ v ds[j] := by
      have a1 := IT.item j v _ hP hd h₁ (Sp.refl _ _)
      have a2 : Has (I :: B) h₁ v ds[j] := a1.add fun c m => by
        rcases List.mem_cons.mp m with e | m
        · rw [e]; exact .inr IT.new
        · exact .inl m
      exact a2.sp (sp₃.trans sp₄)
    refine as j _ hd w k A (I :: B) s₀ h₄ tk₄ v _ _ F' S₄ hv fun h₅ tk₅ S₅ sp₅ kd₅ g₅ => ?_
    have hX₅ := keep _ _ _ _ _ hX₃ (sp₄.trans sp₅) fun b o nb nm e => kd₅ b o nm (eb₄ b o nb e)
    have nm₅ : ∃ o, h₅.get? I = some o ∧ NotNm o := by
      obtain ⟨o, n, f, e, c, d, _⟩ := IT.own _ _ st₄
      exact ⟨o, kd₅ _ o (notNm_fields d) e, notNm_fields d⟩
    have sp₅' := (sp₃.trans sp₄).trans sp₅
    refine wpAny_mono (turn j _ h₁ I h₅ tk₅ _ hd u₁ IT.new F' S₅ hX₅ sp₅' nm₅) (fun f s' hf => ?_) fun _ _ x => x
    cases f with
    | next =>
      obtain ⟨h₆, tk₆, rfl, S₆, hX₆, sp₆, kb₆⟩ := hf
      refine ⟨ds.length - (j + 1), by omega, j + 1, h₆, tk₆, rfl, hlt, rfl, S₆, ?_, hX₆, sp₆⟩
      refine W.frame _ h₄ h₆ st₄ fun b hb o e => ?_
      have nm := IT.nn _ _ st₄ b hb o e
      have e5 := kd₅ b o nm e
      rcases IT.far b hb with e' | ⟨nB, al⟩
      · subst e'; exact kb₆ o nm e5
      · obtain ⟨o', e'⟩ := al
        have nI : b ∉ I :: B := fun m => (List.mem_cons.mp m).elim (al_ne ⟨o', e'⟩ IT.new) nB
        have := sp₅' b o' nI e'
        rw [e5] at this; cases this
        exact sp₆ b o nI e'
    | ret v => exact hf
    | brk => exact hf.elim
    | cont => exact hf.elim
  · have ej : j = ds.length := Nat.le_antisymm hj (Nat.le_of_not_lt hlt)
    subst ej
    refine wpAny_with_toks (Nat.le_refl tk₃) (W.done _ _ _ st₃ fun h₄ tk₄ k₄ g₄ => ?_)
    have eb₄ : Heap.ExtBut I h₃ h₄ := fun b o n e => k₄ b o (fun m => n (List.mem_singleton.mp m)) e
    have sp₄ : Sp (I :: B) h₃ h₄ := sp_own (.head _) eb₄
    have S₄ : St B env (σI ds.length) s₀ h₄ tk₄ := S₃.drop eb₄ bI nl nc n0 g₄
    have hX₄ := keep _ _ _ _ _ hX₃ sp₄ fun b o nb nm e => eb₄ b o nb e
    refine q h₁ I h₄ tk₄ u₁ IT.new S₄ hX₄ fun b o nb e => ?_
    obtain ⟨e2, n2⟩ := at₂ b o e
    exact eb₄ b o n2 (sp₃ b o (fun m => (List.mem_cons.mp m).elim n2 nb) e2)
end
end Mine

set_option maxRecDepth 100000
set_option linter.unusedVariables false
namespace Mine
open PySem PySem.W PyProof.Rows

abbrev Sh := List (List Nat × Int)
/-- a word and its number, taken up -/
noncomputable def gath1 (sh : Sh) (p : List Nat × Int) : Sh :=
  let at' := bis (sh.map (·.1)) p.1 0 sh.length
  if (decide (at' < sh.length) && (sh.getD at' ([], 0)).1 == p.1) = true then sh.set at' ((sh.getD at' ([], 0)).1, (sh.getD at' ([], 0)).2 + p.2) else insAt sh at' p
noncomputable def gath (ps : Sh) : Sh := ps.foldl gath1 []
theorem insAt_length {α : Type} (l : List α) (i : Nat) (x : α) : (insAt l i x).length = l.length + 1 := by
  unfold insAt
  rw [List.length_append, List.length_cons, ← Nat.add_assoc, ← List.length_append, List.take_append_drop]
theorem gath1_length (sh : Sh) (p : List Nat × Int) : (gath1 sh p).length ≤ sh.length + 1 := by
  unfold gath1
  simp only []
  split
  · rw [List.length_set]; exact Nat.le_succ _
  · rw [insAt_length]; exact Nat.le_refl _
theorem gath_length (ps : Sh) : ∀ sh : Sh, (ps.foldl gath1 sh).length ≤ sh.length + ps.length := by
  induction ps with
  | nil => intro sh; exact Nat.le_refl _
  | cons p ps ih =>
    intro sh
    have := ih (gath1 sh p)
    have := gath1_length sh p
    show (List.foldl gath1 (gath1 sh p) ps).length ≤ _
    rw [List.length_cons]; omega

inductive Ents (h : Heap) : List Addr → Sh → Prop
  | nil : Ents h [] []
  | cons {e : Addr} {p : List Nat × Int} {t t' : Tok} {es : List Addr} {sh : Sh} : h.PlainList e [Value.str ⟨p.1.toArray⟩ t, .int p.2 t'].toArray → Ents h es sh → Ents h (e :: es) (p :: sh)
section
variable {h h' : Heap} {es fs : List Addr} {sh th : Sh}
theorem Ents.length (x : Ents h es sh) : es.length = sh.length := by
  induction x with
  | nil => rfl
  | cons _ _ ih => rw [List.length_cons, List.length_cons, ih]
theorem Ents.keep (x : Ents h es sh) (k : ∀ e ∈ es, ∀ o, h.get? e = some o → h'.get? e = some o) : Ents h' es sh := by
  induction x with
  | nil => exact .nil
  | cons a _ ih => obtain ⟨n, a⟩ := a; exact .cons ⟨n, k _ (.head _) _ a⟩ (ih fun e m => k e (.tail _ m))
theorem Ents.keep' (x : Ents h es sh) (k : ∀ e ∈ es, ∀ n vs, h.get? e = some ⟨.type "list", none, .seq vs n, #[]⟩ → h'.get? e = some ⟨.type "list", none, .seq vs n, #[]⟩) : Ents h' es sh := by
  induction x with
  | nil => exact .nil
  | cons a _ ih => obtain ⟨n, a⟩ := a; exact .cons ⟨n, k _ (.head _) _ _ a⟩ (ih fun e m => k e (.tail _ m))
theorem Ents.append (x : Ents h es sh) (y : Ents h fs th) : Ents h (es ++ fs) (sh ++ th) := by
  induction x with
  | nil => exact y
  | cons a _ ih => exact .cons a ih
theorem Ents.take (x : Ents h es sh) : ∀ n, Ents h (es.take n) (sh.take n) := by
  induction x with
  | nil => intro n; simp; exact .nil
  | cons a _ ih => intro n; cases n with | zero => exact .nil | succ n => exact .cons a (ih n)
theorem Ents.drop (x : Ents h es sh) : ∀ n, Ents h (es.drop n) (sh.drop n) := by
  induction x with
  | nil => intro n; simp; exact .nil
  | cons a r ih => intro n; cases n with | zero => exact .cons a r | succ n => exact ih n
theorem Ents.get (x : Ents h es sh) : ∀ {i : Nat} {e : Addr}, es[i]? = some e → ∃ p t t', sh[i]? = some p ∧ h.PlainList e [Value.str ⟨p.1.toArray⟩ t, .int p.2 t'].toArray := by
  induction x with
  | nil => intro i e he; simp at he
  | cons a _ ih =>
    intro i e he
    cases i with
    | zero => simp at he; subst he; exact ⟨_, _, _, rfl, a⟩
    | succ i => simpa using ih (by simpa using he)
/-- one entry turned -/
theorem Ents.set (x : Ents h es sh) : ∀ {i : Nat} {e : Addr} {p : List Nat × Int} {t t' : Tok}, es[i]? = some e → es.Nodup → (∀ f ∈ es, f ≠ e → ∀ o, h.get? f = some o → h'.get? f = some o) → h'.PlainList e [Value.str ⟨p.1.toArray⟩ t, .int p.2 t'].toArray → Ents h' es (sh.set i p) := by
  induction x with
  | nil => intro i e p t t' he; simp at he
  | @cons e₀ p₀ t₀ t₀' es sh a r ih =>
    intro i e p t t' he nd k acc
    rw [List.nodup_cons] at nd
    cases i with
    | zero =>
      simp at he; subst he
      exact .cons acc (r.keep fun f m => k f (.tail _ m) fun c => nd.1 (c ▸ m))
    | succ i =>
      have he : es[i]? = some e := by simpa using he
      have ne : e₀ ≠ e := fun c => nd.1 (c ▸ List.mem_of_getElem? he)
      obtain ⟨n, a⟩ := a
      exact .cons ⟨n, k _ (.head _) ne _ a⟩ (ih he nd.2 (fun f m => k f (.tail _ m)) acc)
theorem Ents.hasE (x : Ents h es sh) {B : List Addr} (n : ∀ e ∈ es, e ∉ B) : HasAll B h (es.map Value.ref) (sh.map ent) := by
  induction x with
  | nil => exact .nil
  | cons a _ ih => exact .cons (.list (n _ (.head _)) a (.cons (.str _ _) (.cons (.int _ _) .nil))) (ih fun e m => n e (.tail _ m))
end
theorem hasRefs {B : List Addr} {h : Heap} : ∀ es : List Addr, HasAll B h (es.map Value.ref) (es.map fun e => .val (.ref e))
  | [] => .nil
  | e :: es => .cons (.val _) (hasRefs es)

section
variable {w : World} {k : Nat} {A : Around} {B : List Addr} {env : Env} {N : List Str} {σ : Sg} {s₀ s : Shared} {h : Heap} {tk : Nat} {E : Value → Shared → Prop}
theorem St.dropN {I : Addr} (S : St (I :: B) env σ s₀ h tk) {h' : Heap} {tk' : Nat} (x : Heap.ExtBut I h h') (nb : ∀ b ∈ B, b ≠ I) (n1 : I ≠ env.locals) (n2 : ∀ y c, env.cells.lookup y = some c → I ≠ c) (n3 : s₀.heap.get? I = none) (g : tk ≤ tk') : St B env σ s₀ h' tk' := by
  have sp : Sp (I :: B) h h' := sp_own (.head _) x
  have sb : ∀ c ∈ B, c ∈ I :: B := fun c m => .tail _ m
  have ce : ∀ {c : Addr} {v : Option Value}, h.IsCell c v → I ≠ c → h'.IsCell c v := fun ⟨o, e, d⟩ n => ⟨o, x _ o (Ne.symm n) e, d⟩
  refine ⟨⟨?_, fun y d m l => ?_⟩, fun b o e => x b o (al_ne ⟨o, e⟩ n3) (S.keep b o e), Nat.le_trans S.g g, fun b hb => ?_, fun y c e => ?_⟩
  · obtain ⟨m, hm, hv⟩ := S.vs.ns
    refine ⟨m, hm.at' fun o e => x _ o (Ne.symm n1) e, fun y d e l => ?_⟩
    obtain ⟨v, p, r⟩ := hv y d e l
    exact ⟨v, p, (r.sp sp).sub sb⟩
  · obtain ⟨a, c, v, p, r, t⟩ := S.vs.cell y d m l
    exact ⟨a, c, v, p, ce r (n2 _ _ p), (t.sp sp).sub sb⟩
  · obtain ⟨o, e⟩ := S.bd b (.tail _ hb); exact ⟨o, x b o (nb b hb) e⟩
  · obtain ⟨v, z⟩ := S.cells y c e
    exact ⟨v, ce z (n2 _ _ e)⟩
/-- a list of no name turns under flat names -/
theorem St.turned {I : Addr} {vs : Array Value} (S : St B env σ s₀ h tk) (f : (σ.all fun e => e.2.flat) = true) {h' : Heap} {tk' : Nat} (acc : h.PlainList I vs) (nb : I ∉ B) (n3 : s₀.heap.get? I = none) (x : Heap.ExtBut I h h') (g : tk ≤ tk') : St B env σ s₀ h' tk' := by
  have nm := it_ne_ns S (plain_nm acc)
  refine (S.raise (B' := I :: B) f fun b m => ?_).dropN x (fun b m e => nb (e ▸ m)) nm.1 nm.2 n3 g
  rcases List.mem_cons.mp m with e | m
  · rw [e]; obtain ⟨n, e⟩ := acc; exact ⟨_, e⟩
  · exact S.bd b m

/-- the shelf at `a`, its entries made behind `hL` -/
noncomputable def Shelf (hL : Heap) (I a : Addr) (sh : Sh) (h : Heap) : Prop := ∃ es : List Addr, h.PlainList a (es.map Value.ref).toArray ∧ es.Nodup ∧ Ents h es sh ∧ ∀ e ∈ es, hL.get? e = none ∧ e ≠ I

abbrev pr2 (p : List Nat × Int) : D := .tup [.str p.1, .int p.2]
noncomputable def gathN : List Str := ["shelf", "word", "number", "at", "told"]
set_option maxHeartbeats 1000000 in
theorem bd_gathered {ps : Sh} (hl : ps.length ≤ 100000) : Bd w (k + 3) 22 gathN [("pairs", .list (ps.map pr2))] (.list ((gath ps).map ent)) := by
  intro A B env s₀ h tk E Q hsc F S q
  generalize hb : fnBody 22 = b
  with_unfolding_all conv at hb => lhs; whnf
  subst hb
  -- the shelf
  refine wpAny_execs_cons (wpAny_Assign_Name ?_ rfl)
  have S0 : St (allOf h) env [] s₀ h tk := (S.less (τ := []) fun e m => nomatch m).raise rfl fun b m => mem_allOf.mp m
  refine (ev_list (w := w) (k := k) (σ := []) .nil (by decide)) A (allOf h) (stAt s₀ h tk) _ _ ⟨F.room.mono (by omega), F.facts.keeps S.keep, S0.bd, F.ok, S0.vs, Nat.lt_of_lt_of_le F.pos S.g⟩ fun v h₁ tk₁ u₁ g₁ hv => ?_
  obtain ⟨a, na, acc₁, rfl⟩ : ∃ a, a ∉ allOf h ∧ h₁.PlainList a ([] : List Value).toArray ∧ v = .ref a := by
    cases hv with
    | @list a vs _ n x y => cases y; exact ⟨a, n, x, rfl⟩
  have na0 : h.get? a = none := new_all na
  have al₁ : Al h₁ a := by obtain ⟨n, e⟩ := acc₁; exact ⟨_, e⟩
  have S₁ : St (a :: B) env [("pairs", .list (ps.map pr2))] s₀ h₁ tk₁ := (S.addI u₁ na0 al₁).up (Le.refl _) g₁
  have aB : a ∉ B := fun m => al_ne (S.bd _ m) na0 rfl
  refine st_store (s₀ := s₀) (F.add a) S₁ (.val (.ref a)) (x := "shelf") (ρ := [("pairs", .list (ps.map pr2))]) (by kernel_rfl!) (fun e m => m) (by kernel_rfl!) fun h₂ tk₂ S₂ sp₂ kd₂ g₂ => ?_
  have acc₂ : h₂.PlainList a ([] : List Value).toArray := by obtain ⟨n, e⟩ := acc₁; exact ⟨n, kd₂ _ _ (notNm_seq rfl) e⟩
  have s0a : s₀.heap.get? a = none := by
    cases e : s₀.heap.get? a with
    | none => rfl
    | some o => have := S.keep _ _ e; rw [na0] at this; cases this
  refine run_forY (X := fun hL I i h' => a ≠ I ∧ Shelf hL I a (gath (ps.take i)) h') (σI := fun _ => [("shelf", .val (.ref a))]) (τI := fun i => [("number", .int (ps.getD i ([], 0)).2), ("word", .str (ps.getD i ([], 0)).1), ("shelf", .val (.ref a))])
    (F.add a) S₂ (ev_var (mem_at 1 rfl)) rfl trivial (fun e m => by rw [List.mem_singleton.mp m]; exact mem_at 0 rfl) ?_ ?_ (fun i di hd => ?_) ?_ ?_
  · intro hL I h' u v n
    exact ⟨al_ne (by obtain ⟨m, e⟩ := acc₂; exact ⟨_, u _ _ e⟩) n, [], by obtain ⟨n, e⟩ := acc₂; exact ⟨n, v _ _ (u _ _ e)⟩, List.nodup_nil, .nil, fun e m => nomatch m⟩
  · rintro hL I i h' h'' ⟨aI, es, acc, nd, en, new⟩ sp kd
    refine ⟨aI, es, ?_, nd, ?_, new⟩
    · obtain ⟨n, e⟩ := acc; exact ⟨n, kd _ _ aI (notNm_seq rfl) e⟩
    · refine en.keep' fun e m n vs ho => kd _ _ (new e m).2 (notNm_seq rfl) ho
  · rw [List.getElem?_map] at hd
    obtain ⟨p, hp, rfl⟩ := Option.map_eq_some_iff.mp hd
    have : ps.getD i ([], 0) = p := by rw [List.getD_eq_getElem?_getD, hp]; rfl
    simp only [this]
    exact asg_pair (.inl rfl) (by kernel_rfl!) (by kernel_rfl!) (fun e m => m) (by kernel_rfl!) (by kernel_rfl!)
  · intro i di hL I h₃ tk₃ E' hd uL nI F' S' hX spL nmI
    obtain ⟨aI, es, acc, nd, en, new⟩ := hX
    rw [List.getElem?_map] at hd
    obtain ⟨p, hp, rfl⟩ := Option.map_eq_some_iff.mp hd
    have hg : ps.getD i ([], 0) = p := by rw [List.getD_eq_getElem?_getD, hp]; rfl
    simp only [hg] at S'
    have step : gath (ps.take (i + 1)) = gath1 (gath (ps.take i)) p := by
      unfold gath; rw [List.take_add_one, hp, List.foldl_append]; rfl
    have hshl : (gath (ps.take i)).length ≤ 100000 := by
      have := gath_length (ps.take i) []
      have h2 : (gath (ps.take i)).length ≤ (ps.take i).length := by unfold gath; simpa using this
      rw [List.length_take] at h2; omega
    generalize gath (ps.take i) = sh at en hshl step
    have alB : ∀ b ∈ B, Al hL b := fun b m => ((S₂.bd b (.tail _ m)).le uL)
    have ala : Al hL a := (S₂.bd a (.head _)).le uL
    have iB : I ∉ B := fun m => al_ne (alB _ m) nI rfl
    have eB : ∀ e ∈ es, e ∉ B := fun e m m' => al_ne (alB _ m') (new e m).1 rfl
    have ea : ∀ e ∈ es, e ≠ a := fun e m c => al_ne ala (new e m).1 c.symm
    have S₃ : St B env [("number", .int p.2), ("word", .str p.1), ("shelf", .val (.ref a))] s₀ h₃ tk₃ := S'.sub fun b m => .tail _ (.tail _ m)
    have Sv := (S₃.view (mem_at 2 rfl) (.list aB acc (hasRefs es))).view (mem_at 3 rfl) (.list aB acc (en.hasE eB))
    have hlen : es.length = sh.length := en.length
    -- at
    refine run_assign (d := .int (bis (sh.map (·.1)) p.1 0 sh.length : Nat)) (ρ := pick _ [0, 1, 2, 3, 4]) F Sv (ev_callk (ev_glob (kd_glob hsc (by kernel_rfl!)) (fun P => by kernel_rfl!)) (FnAt.kp fx_bisect_left) (.cons (ev_var (mem_at 0 rfl)) rfl (.cons (ev_var (mem_at 3 rfl)) rfl .nil)) (ev_glob (kd_glob hsc (by kernel_rfl!)) (fun P => by kernel_rfl!)) (fn_bisk (by omega)))
      pick_sub (by kernel_rfl!) (by kernel_rfl!) rfl fun h₄ tk₄ S₄ sp₄ kd₄ g₄ => ?_
    have hat : (gath1 sh p) = if (decide (bis (sh.map (·.1)) p.1 0 sh.length < sh.length) && (sh.getD (bis (sh.map (·.1)) p.1 0 sh.length) ([], 0)).1 == p.1) = true then sh.set (bis (sh.map (·.1)) p.1 0 sh.length) ((sh.getD (bis (sh.map (·.1)) p.1 0 sh.length) ([], 0)).1, (sh.getD (bis (sh.map (·.1)) p.1 0 sh.length) ([], 0)).2 + p.2) else insAt sh (bis (sh.map (·.1)) p.1 0 sh.length) p := rfl
    generalize hj : bis (sh.map (·.1)) p.1 0 sh.length = j at S₄ hat
    refine name_rest fun rest hr => ?_
    have tail : ∀ h₈ tk₈ es', St B env [("told", .none), ("shelf", .val (.ref a))] s₀ h₈ tk₈ → h₈.PlainList a (es'.map Value.ref).toArray → es'.Nodup → Ents h₈ es' (gath1 sh p) → (∀ e ∈ es', hL.get? e = none ∧ e ≠ I) → (∀ b o, b ∉ B → b ≠ a → b ∉ es → h₃.get? b = some o → h₈.get? b = some o) →
       Run w A env rest (fun f s' => match f with
        | .next => ∃ h₂ tk₂, s' = stAt s₀ h₂ tk₂ ∧ St (I :: a :: B) env [("shelf", .val (.ref a))] s₀ h₂ tk₂ ∧ (a ≠ I ∧ Shelf hL I a (gath (ps.take (i + 1))) h₂) ∧ Sp (I :: a :: B) hL h₂ ∧ (∀ o, NotNm o → h₃.get? I = some o → h₂.get? I = some o)
        | .ret v => Q (.ret v) s'
        | _ => False) E' (stAt s₀ h₈ tk₈) := by
      intro h₈ tk₈ es' S₈ acc₈ nd₈ en₈ new₈ kp₈
      subst hr
      refine run_if F S₈ (ts_cmp (ev_var (mem_at 0 rfl)) ev_none (cp_isNotN (by intro u e; cases e))) fun h₉ tk₉ S₉ u₉ g₉ => run_nil (run_nil ?_)
      have kI : ∀ o, h₃.get? I = some o → h₉.get? I = some o := fun o e => u₉ _ _ (kp₈ I o iB aI.symm (fun m => (new I m).2 rfl) e)
      obtain ⟨na', ea'⟩ := acc₈
      refine ⟨h₉, tk₉, rfl, ((S₉.pick [1]).raise rfl fun b m => ?_), ⟨aI, es', ⟨na', u₉ _ _ ea'⟩, nd₈, step ▸ en₈.keep fun e _ o x => u₉ _ _ x, new₈⟩, fun b o nb e => ?_, fun o _ e => kI o e⟩
      · rcases List.mem_cons.mp m with e | m
        · rw [e]; obtain ⟨o, e, _⟩ := nmI; exact ⟨o, kI o e⟩
        · rcases List.mem_cons.mp m with e | m
          · rw [e]; exact ⟨_, u₉ _ _ ea'⟩
          · exact S₉.bd b m
      · have e3 := spL b o nb e
        exact u₉ _ _ (kp₈ b o (fun m => nb (.tail _ (.tail _ m))) (fun c => nb (c ▸ .tail _ (.head _))) (fun m => by rw [(new b m).1] at e; cases e) e3)
    refine run_if (c := decide (j < sh.length) && (sh.getD j ([], 0)).1 == p.1) F S₄ (ts_and (b := decide (j < sh.length)) (ts_cmp (ev_var (mem_at 0 rfl)) (Ev.cast (d' := .int (sh.length : Nat)) (ev_call (ev_built (kd_glob hsc (by kernel_rfl!)) (fun P => by kernel_rfl!) (by kernel_rfl!)) kp_builtin (.cons (ev_var (mem_at 1 rfl)) rfl .nil) (fn_len (by rw [List.length_map]; omega))) (by rw [List.length_map])) cp_ltN)
        (fun e => ?_) (fun e => by rw [e]; rfl)) fun h₅ tk₅ S₅ u₅ g₅ => ?_
    · have hjl : j < sh.length := of_decide_eq_true e
      rw [e, Bool.true_and]
      have hgj : (sh.map ent)[j]? = some (.list [.str (sh.getD j ([], 0)).1, .int (sh.getD j ([], 0)).2]) := by
        rw [List.getElem?_map, List.getD_eq_getElem?_getD, List.getElem?_eq_getElem hjl]; rfl
      refine Ts.cast (ts_cmp (ev_call (ev_glob (kd_glob hsc (by kernel_rfl!)) (fun P => by kernel_rfl!)) (FnAt.kp fx_eq) (.cons (ev_sub (ev_sub (ev_var (mem_at 1 rfl)) (ev_var (mem_at 0 rfl)) (gi_list (j := j) ⟨by omega, by omega⟩ (seqIndex_nat (by rw [List.length_map]; exact hjl)) hgj)) ev_int (gi_list (j := 0) ⟨by decide, by decide⟩ rfl rfl)) rfl (.cons (ev_var (mem_at 4 rfl)) rfl .nil)) fn_eq) ev_bool cp_isB) (by cases (sh.getD j ([], 0)).1 == p.1 <;> rfl)
    have sp₅ : Sp B h₃ h₅ := sp₄.trans u₅.sp
    have acc₅ : h₅.PlainList a (es.map Value.ref).toArray := isList_sp sp₅ aB acc
    have en₅ : Ents h₅ es sh := en.keep fun e m o x => sp₅ e o (eB e m) x
    cases hc : (decide (j < sh.length) && (sh.getD j ([], 0)).1 == p.1) with
    | true =>
      rw [hc, if_pos rfl] at hat
      have hjl : j < sh.length := by
        rw [Bool.and_eq_true] at hc; exact of_decide_eq_true hc.1
      have hej : es[j]? = some es[j] := List.getElem?_eq_getElem (by omega)
      generalize es[j]'(by omega) = ej at hej
      have hejm : ej ∈ es := List.mem_of_getElem? hej
      obtain ⟨p', t, t', hp', accj⟩ := en₅.get hej
      have hgd : sh.getD j ([], 0) = p' := by rw [List.getD_eq_getElem?_getD, hp']; rfl
      rw [hgd] at hat
      have hgj : (sh.map ent)[j]? = some (.list [.str p'.1, .int p'.2]) := by
        rw [List.getElem?_map, hp']; rfl
      have hrj : (es.map fun e => D.val (.ref e))[j]? = some (.val (.ref ej)) := by
        rw [List.getElem?_map, hej]; rfl
      refine wpAny_execs_cons (wpAny_Assign_Name (call_hand (S₅.pre F) (ev_glob (kd_glob hsc (by kernel_rfl!)) (fun P => by kernel_rfl!)) (FnAt.kp fx_setitem)
        (.cons (ev_sub (ev_var (mem_at 2 rfl)) (ev_var (mem_at 0 rfl)) (gi_list (j := j) ⟨by omega, by omega⟩ (seqIndex_nat (by rw [List.length_map]; omega)) hrj)) rfl
        (.cons (ev_nat (n := 1)) rfl (.cons (ev_call (ev_glob (kd_glob hsc (by kernel_rfl!)) (fun P => by kernel_rfl!)) (FnAt.kp fx_add) (.cons (ev_sub (ev_sub (ev_var (mem_at 1 rfl)) (ev_var (mem_at 0 rfl)) (gi_list (j := j) ⟨by omega, by omega⟩ (seqIndex_nat (by rw [List.length_map]; exact hjl)) hgj)) (ev_nat (n := 1)) (gi_list (j := 1) ⟨by decide, by decide⟩ rfl rfl)) rfl (.cons (ev_var (mem_at 3 rfl)) rfl .nil)) fn_add) rfl .nil)))
        fun vs h₆ tk₆ u₆ g₆ hv => ?_) rfl)
      obtain ⟨x, y, z, rfl, hx, hy, hz⟩ := hasAll_three hv
      obtain rfl := hx.val_inv
      obtain ⟨ty, rfl⟩ := hy.int_inv
      obtain ⟨tz, rfl⟩ := hz.int_inv
      have S₆ := S₅.up u₆ g₆
      have accj₆ : h₆.PlainList ej [Value.str ⟨p'.1.toArray⟩ t, .int p'.2 t'].toArray := by obtain ⟨n, e⟩ := accj; exact ⟨n, u₆ _ _ e⟩
      refine call_setitem (s := stAt s₀ h₆ tk₆) (i := 1) (k := k) (F.room.mono (by omega)) (F.facts.keeps S₆.keep) accj₆ (by show 1 < 2; decide) (by show 2 ≤ 1000000; decide) (S₆.pre F).pos fun h₇ h₈ tk₈ u₇ g₇ acc₈ eb₈ => ?_
      have accj₇ : h₇.PlainList ej [Value.str ⟨p'.1.toArray⟩ t, .int p'.2 t'].toArray := by obtain ⟨n, e⟩ := accj₆; exact ⟨n, u₇ _ _ e⟩
      have s0j : s₀.heap.get? ej = none := by
        cases e : s₀.heap.get? ej with
        | none => rfl
        | some o => have := uL _ _ (S₂.keep _ _ e); rw [(new ej hejm).1] at this; cases this
      have S₇ : St B env [("shelf", .val (.ref a))] s₀ h₇ tk₈ := (S₆.up u₇ g₇).pick [5]
      have S₈ := S₇.turned rfl accj₇ (eB ej hejm) s0j eb₈ (Nat.le_refl _)
      refine st_store (s₀ := s₀) F S₈ .none (x := "told") (ρ := [("shelf", .val (.ref a))]) (by kernel_rfl!) (fun e m => m) (by kernel_rfl!) fun h₉ tk₉ S₉ sp₉ kd₉ g₉ => run_nil ?_
      have kp : ∀ b o, b ∉ B → b ≠ ej → h₃.get? b = some o → h₉.get? b = some o := fun b o nb ne e => sp₉ b o nb (eb₈ b o ne (u₇ _ _ (u₆ _ _ (sp₅ b o nb e))))
      refine tail h₉ tk₉ es S₉ ?_ nd ?_ new fun b o nb na ne e => kp b o nb (fun c => ne (c ▸ hejm)) e
      · obtain ⟨n, e⟩ := acc; exact ⟨n, kp _ _ aB (ea ej hejm).symm e⟩
      · rw [hat]
        refine en.set hej nd (fun f m ne o e => kp f o (eB f m) ne e) (p := (p'.1, p'.2 + p.2)) (t := t) (t' := tz) ?_
        obtain ⟨n, e⟩ := acc₈; exact ⟨n, sp₉ _ _ (eB ej hejm) e⟩
    | false =>
      rw [hc, if_neg (by decide)] at hat
      have Sf : St (allOf h₅) env [("number", .int p.2), ("word", .str p.1), ("shelf", .val (.ref a))] s₀ h₅ tk₅ := (S₅.pick [3, 4, 5]).raise rfl fun b m => mem_allOf.mp m
      refine wpAny_execs_cons (wpAny_Assign_Name (call_handk (u := .ref 180) (k := k + 3) (B := allOf h₅) ⟨F.room, F.facts.keeps S₅.keep, Sf.bd, F.ok, Sf.vs, (S₅.pre F).pos⟩ (ev_glob (kd_glob hsc (by kernel_rfl!)) (fun P => by kernel_rfl!)) (FnAt.kp fx_insort_left)
        (.cons (ev_var (mem_at 2 rfl)) rfl (.cons (ev_list (.cons (ev_var (mem_at 1 rfl)) rfl (.cons (ev_var (mem_at 0 rfl)) rfl .nil)) (by show 2 ≤ 1000000; decide)) rfl .nil)) (ev_glob (kd_glob hsc (by kernel_rfl!)) (fun P => by kernel_rfl!))
        fun vs h₆ tk₆ u₆ g₆ hv => ?_) rfl)
      obtain ⟨x, y, rfl, hx, hy⟩ := hasAll_two hv
      obtain rfl := hx.val_inv
      obtain ⟨e, ne, rfl, t, t', acce⟩ : ∃ e, e ∉ allOf h₅ ∧ y = .ref e ∧ ∃ t t', h₆.PlainList e [Value.str ⟨p.1.toArray⟩ t, .int p.2 t'].toArray := by
        cases hy with
        | @list e vs _ n acc hs =>
          obtain ⟨u, v, rfl, hu, hv⟩ := hasAll_two hs
          obtain ⟨t, rfl⟩ := hu.str_inv
          obtain ⟨t', rfl⟩ := hv.int_inv
          exact ⟨e, n, rfl, t, t', acc⟩
      have ne5 : h₅.get? e = none := new_all ne
      have S₆ := S₅.up u₆ g₆
      have acc₆ : h₆.PlainList a (es.map Value.ref).toArray := by obtain ⟨n, e⟩ := acc₅; exact ⟨n, u₆ _ _ e⟩
      have en₆ : Ents h₆ es sh := en₅.keep fun e m o x => u₆ _ _ x
      have eBn : e ∉ B := fun m => al_ne (S₅.bd _ m) ne5 rfl
      refine call_insort (s := stAt s₀ h₆ tk₆) (B := B) (ps := sh) (x := p.1) (n := p.2) (k := k) F.room (F.facts.keeps S₆.keep) S₆.bd acc₆ (en₆.hasE eB) aB (.list eBn acce (.cons (.str _ _) (.cons (.int _ _) .nil))) (S₆.pre F).pos hshl fun h₇ h₈ tk₈ u₇ g₇ acc₈ eb₈ => ?_
      rw [hj] at acc₈
      have acc₇ : h₇.PlainList a (es.map Value.ref).toArray := by obtain ⟨n, e⟩ := acc₆; exact ⟨n, u₇ _ _ e⟩
      have S₇ : St B env [("shelf", .val (.ref a))] s₀ h₇ tk₈ := (S₆.up u₇ g₇).pick [5]
      have S₈ := S₇.turned rfl acc₇ aB s0a eb₈ (Nat.le_refl _)
      refine st_store (s₀ := s₀) F S₈ .none (x := "told") (ρ := [("shelf", .val (.ref a))]) (by kernel_rfl!) (fun e m => m) (by kernel_rfl!) fun h₉ tk₉ S₉ sp₉ kd₉ g₉ => run_nil ?_
      have kp : ∀ b o, b ∉ B → b ≠ a → h₃.get? b = some o → h₉.get? b = some o := fun b o nb ne e => sp₉ b o nb (eb₈ b o ne (u₇ _ _ (u₆ _ _ (sp₅ b o nb e))))
      have al5 : ∀ b, Al hL b → Al h₅ b := fun b ⟨o, e⟩ => by
        by_cases m : b ∈ I :: a :: B
        · rcases List.mem_cons.mp m with e' | m
          · rw [e', nI] at e; cases e
          · rcases List.mem_cons.mp m with e' | m
            · rw [e']; obtain ⟨n, x⟩ := acc₅; exact ⟨_, x⟩
            · exact S₅.bd b m
        · exact ⟨o, sp₅ b o (fun m' => m (.tail _ (.tail _ m'))) (spL b o m e)⟩
      have enL : hL.get? e = none := by
        cases x : hL.get? e with
        | none => rfl
        | some o => obtain ⟨o', y⟩ := al5 e ⟨o, x⟩; rw [ne5] at y; cases y
      have eI : e ≠ I := by
        rintro rfl
        obtain ⟨o, x, _⟩ := nmI
        have := sp₅ e o iB x
        rw [ne5] at this; cases this
      have ees : e ∉ es := fun m => by
        obtain ⟨i, hi⟩ := List.getElem?_of_mem m
        obtain ⟨_, _, _, _, n, x⟩ := en₅.get hi
        rw [ne5] at x; cases x
      have eaN : e ≠ a := fun c => by obtain ⟨n, x⟩ := acc₅; rw [← c, ne5] at x; cases x
      refine tail h₉ tk₉ (insAt es j e) S₉ ?_ ?_ ?_ ?_ fun b o nb na _ e => kp b o nb na e
      · obtain ⟨n, x⟩ := acc₈
        have e' : (insAt es j e).map Value.ref = insAt (es.map Value.ref) j (.ref e) := by unfold insAt; rw [List.map_append, List.map_cons, List.map_take, List.map_drop]
        rw [e']
        exact ⟨n, sp₉ _ _ aB x⟩
      · have : (insAt es j e).Perm (e :: es) := by
          unfold insAt
          exact List.perm_middle.trans (by rw [List.take_append_drop])
        exact this.nodup_iff.mpr (List.nodup_cons.mpr ⟨ees, nd⟩)
      · rw [hat]
        have k9 : ∀ f ∈ es, ∀ o, h₃.get? f = some o → h₉.get? f = some o := fun f m o x => kp f o (eB f m) (ea f m) x
        have en₉ := en.keep k9
        refine (en₉.take j).append (.cons (t := t) (t' := t') ?_ (en₉.drop j))
        obtain ⟨n, x⟩ := acce
        exact ⟨n, sp₉ _ _ eBn (eb₈ _ _ eaN (u₇ _ _ x))⟩
      · intro f m
        have : f ∈ e :: es := by
          have : (insAt es j e).Perm (e :: es) := by
            unfold insAt
            exact List.perm_middle.trans (by rw [List.take_append_drop])
          exact this.mem_iff.mp m
        rcases List.mem_cons.mp this with c | m
        · rw [c]; exact ⟨enL, eI⟩
        · exact new f m
  · intro hL I h' tk' uL nI S' hX sp'
    obtain ⟨aI, es, acc, nd, en, new⟩ := hX
    have alB : ∀ b ∈ B, Al hL b := fun b m => ((S₂.bd b (.tail _ m)).le uL)
    have eB : ∀ e ∈ es, e ∉ B := fun e m m' => al_ne (alB _ m') (new e m).1 rfl
    have S₃ : St B env [("shelf", .val (.ref a))] s₀ h' tk' := S'.sub fun b m => .tail _ m
    have Sv := S₃.view (mem_at 0 rfl) (.list aB acc (en.hasE eB))
    refine run_ret F Sv (ev_var (mem_at 0 rfl)) fun v h' tk' u g hd => q _ h' tk' u g ?_
    have : gath (ps.take (ps.map pr2).length) = gath ps := by rw [List.length_map, List.take_length]
    rw [this] at hd
    exact hd
theorem fn_gathered {ps : Sh} (hl : ps.length ≤ 100000) : Fn w (k + 4) (.ref 187) [.list (ps.map pr2)] [] [] (.list ((gath ps).map ent)) :=
  fn_of (N := gathN) (ns := ["pairs"]) (fun P => (fx_law_gathered P).to) (bd_gathered hl) (fun P vs e => by match vs, e with | [u], _ => kernel_rfl!) (by decide) rfl (by kernel_rfl!) (fun L => by kernel_rfl!) ⟨by kernel_rfl!, by kernel_rfl!, by kernel_rfl!⟩
end
end Mine

set_option maxRecDepth 100000
set_option linter.unusedVariables false
namespace Mine
open PySem PySem.W PyProof.Rows
section
variable {w : World} {k : Nat} {A : Around} {B : List Addr} {env : Env} {N : List Str} {σ : Sg} {s₀ s : Shared} {h : Heap} {tk : Nat} {E : Value → Shared → Prop}

theorem kd_globC {sc : Scope} {cenv : Env} {x : Str} (hcs : cenv.scope = relabel sc env) (h : sc.names.lookup x = some .globalImplicit) : cenv.kindOf x = some .globalImplicit := by
  show cenv.scope.names.lookup x = _
  rw [hcs]; exact relabel_same (by decide) h

/-- the value behind a name -/
theorem St.see {x : Str} {d : D} (S : St B env σ s₀ h tk) (m : (x, d) ∈ σ) : ∃ v, Has B h v d ∧ St B env ((x, .val v) :: σ) s₀ h tk := by
  by_cases hl : env.kindOf x = some .local
  · obtain ⟨mm, a, b⟩ := S.vs.ns
    obtain ⟨v, e, r⟩ := b x _ m hl
    refine ⟨v, r, ⟨⟨mm, a, fun y d m' l => ?_⟩, fun y d m' l => ?_⟩, S.keep, S.g, S.bd, S.cells⟩
    · rcases List.mem_cons.mp m' with e' | m'
      · cases e'; exact ⟨v, e, .val v⟩
      · exact b y d m' l
    · rcases List.mem_cons.mp m' with e' | m'
      · cases e'; exact absurd hl l
      · exact S.vs.cell y d m' l
  · obtain ⟨hk, c, v, e, i, r⟩ := S.vs.cell x _ m hl
    obtain ⟨mm, a, b⟩ := S.vs.ns
    refine ⟨v, r, ⟨⟨mm, a, fun y d m' l => ?_⟩, fun y d m' l => ?_⟩, S.keep, S.g, S.bd, S.cells⟩
    · rcases List.mem_cons.mp m' with e' | m'
      · cases e'; exact absurd l hl
      · exact b y d m' l
    · rcases List.mem_cons.mp m' with e' | m'
      · cases e'; exact ⟨hk, c, v, e, i, .val v⟩
      · exact S.vs.cell y d m' l

theorem range_at {a b : Int} {i : Nat} {di : D} (h : ((List.range (b - a).toNat).map fun i => D.int (a + (i : Nat)))[i]? = some di) : i < (b - a).toNat ∧ di = .int (a + (i : Nat)) := by
  rw [List.getElem?_map] at h
  obtain ⟨j, hj, rfl⟩ := Option.map_eq_some_iff.mp h
  obtain ⟨hlt, rfl⟩ := List.getElem?_eq_some_iff.mp hj
  rw [List.length_range] at hlt
  exact ⟨hlt, by rw [List.getElem_range]⟩
theorem map_at {α : Type} {l : List α} {f : α → D} {i : Nat} {di : D} (h : (l.map f)[i]? = some di) : ∃ x, l[i]? = some x ∧ di = f x := by
  rw [List.getElem?_map] at h
  obtain ⟨j, hj, rfl⟩ := Option.map_eq_some_iff.mp h
  exact ⟨j, hj, rfl⟩
theorem flat_filter {α : Type} (p : α → Bool) (g : α → D) : ∀ L : List α, (L.map fun i => if p i then [g i] else []).flatten = (L.filter p).map g
  | [] => rfl
  | i :: L => by
      rw [List.map_cons, List.flatten_cons, flat_filter p g L, List.filter_cons]
      cases p i <;> rfl
theorem flat_one {α : Type} (g : α → D) : ∀ L : List α, (L.map fun i => [g i]).flatten = L.map g
  | [] => rfl
  | i :: L => by rw [List.map_cons, List.flatten_cons, flat_one g L]; rfl
/-- turns given place by place -/
theorem turns_of {em : Sg → List D → Prop} {g : Comprehension} {ds os : List D} (f : Nat → List D) (hos : os = ((List.range ds.length).map f).flatten)
    (h : ∀ i di, ds[i]? = some di → ∃ τ b, Asg env N g.target di σ τ ∧ (∀ e ∈ σ, e ∈ τ) ∧ Tests w k env τ g.ifs b ∧ (b = true → em τ (f i)) ∧ (b = false → f i = [])) : Turns w k env N em g σ ds os := by
  refine ⟨(List.range ds.length).map f, by rw [List.length_map, List.length_range], hos, fun i di hd => ?_⟩
  have hi : i < ds.length := (List.getElem?_eq_some_iff.mp hd).1
  have e : ((List.range ds.length).map f).getD i [] = f i := by
    rw [List.getD_eq_getElem?_getD, List.getElem?_map, List.getElem?_range hi]; rfl
  rw [e]; exact h i di hd
/-- a plain turn: one thing out of each -/
theorem emit_one {elt : Expr} {d : D} (x : EvE w k env σ elt d) : Emit w k env N elt [] σ [d] := ⟨d, rfl, x⟩

theorem foldl_max_cast : ∀ (ns : List Nat) (n : Nat), (ns.map fun (m : Nat) => (m : Int)).foldl max (n : Int) = ((ns.foldl max n : Nat) : Int)
  | [], n => rfl
  | m :: ns, n => by
      rw [List.map_cons, List.foldl_cons, List.foldl_cons, ← foldl_max_cast ns (max n m)]
      congr 1
      omega
theorem fn_maxN {n : Nat} {ns : List Nat} : Fn w k (.builtin "max") [.list (nts (n :: ns))] [] [] (.int (ns.foldl max n : Nat)) := by
  have := fn_max (w := w) (k := k) (n := (n : Int)) (ns := ns.map fun (m : Nat) => (m : Int))
  rw [foldl_max_cast, List.map_cons, List.map_map] at this
  exact this
theorem pys_ints : ∀ l : List Int, D.pys (l.map .int) = some (l.map .int)
  | [] => rfl
  | i :: l => by rw [List.map_cons, D.pys, pys_ints l]; rfl
theorem py_nts (l : List Nat) : (D.list (nts l)).py = some (.list (l.map fun (n : Nat) => .int n)) := by
  have := pys_ints (l.map fun (n : Nat) => (n : Int))
  rw [List.map_map, List.map_map] at this
  rw [D.py]
  show (D.pys (l.map (D.int ∘ fun (n : Nat) => (n : Int)))).map PyData.list = _
  rw [this]; rfl

/-- a piece of a text, its token told -/
theorem slTok {value : Expr} {lower upper : Option Expr} {lo hi : Option Int} {p pos : Pos} {l : List Nat} {u : Tok} {Q : Value → Shared → Prop} (pr : Pre w k A B env σ s) (x : EvE w k env σ value (.val (.str ⟨l.toArray⟩ u))) (yl : EvP w k env σ lower lo) (yu : EvP w k env σ upper hi) (hl : l.length ≤ 1000000)
    (q1 : (piece l lo hi).length = l.length → ∀ h' tk', Le s.heap h' → s.toks ≤ tk' → Q (.str ⟨l.toArray⟩ u) (stAt s h' tk'))
    (q2 : (piece l lo hi).length ≠ l.length → ∀ h' tk' t, Le s.heap h' → s.toks ≤ t → t < tk' → Q (.str ⟨(piece l lo hi).toArray⟩ t) (stAt s h' tk'))
    (ht : ∀ o r, letTemporaryGo value o r = pure () := by intro _ _; rfl) : wpAny (model pw w) A (eval (.Subscript value (.Slice lower upper none p) pos) env) Q E s := by
  refine wpAny_Subscript_str_slice (x A B s E _ pr fun o h₁ tk₁ u₁ g₁ hu => evP_run yl A B _ E _ (pr.up u₁ g₁) fun pl h₂ tk₂ u₂ g₂ hpl => evP_run yu A B _ E _ ((pr.up u₁ g₁).up u₂ g₂) fun pu h₃ tk₃ u₃ g₃ hpu => ?_) ht
  obtain rfl := hu.val_inv
  refine ⟨_, _, pl, pu, rfl, rfl, rfl, ?_⟩
  have hk := picked (x := l) (l := pl) (u := pu)
  rw [hpl, hpu] at hk
  have le : Le s.heap (h₃.push { cls := .type "slice", data := .fields #[partValue pl, partValue pu, .none] }) := ((u₁.trans u₂).trans u₃).trans (Le.push _ _)
  have gg := Nat.le_trans (Nat.le_trans g₁ g₂) g₃
  unfold sliceMade slicePicked
  rw [str_len, hpl, hpu]
  simp only [Option.map_none, Option.getD_none, hk.1]
  by_cases hc : (piece l lo hi).length = l.length
  · rw [if_pos (by simp [hc])]
    exact q1 hc _ tk₃ le gg
  · rw [if_neg (by simp [hc])]
    have e : (⟨(List.filterMap (fun x => l.toArray[x]?) (Builtin.Str.strSliceIndices lo hi 1 l.length)).toArray⟩ : Str) = ⟨(piece l lo hi).toArray⟩ := by
      rw [← hk.2]; simp
    rw [e]
    refine ⟨?_, ?_⟩
    · rw [str_len]
      have := (piece_sub l lo hi).length_le
      exact Nat.le_trans this (Nat.le_trans hl (by decide))
    · exact q2 hc _ (tk₃ + 1) tk₃ le gg (Nat.lt_succ_self _)

/-- a method of one thing, by hand -/
theorem method_call1 {o : Expr} {name : Str} {apos pos : Pos} {e : Expr} {T id : String} {Q : Value → Shared → Prop} {ov : Value} (pr : Pre w k A B env σ s) (x : EvE w k env σ o (.val ov))
    (hT : s.TypeIs ov T) (hd : ∀ a, ov = .ref a → ∃ ob, s.heap.get? a = some ob ∧ ob.dict = none)
    (pa : PlainAttrs T) (slot : Slot T name id) (hty : typeOf (.builtin id) = pure (.type "method_descriptor"))
    (q : ∀ h' tk, Le s.heap h' → s.toks ≤ tk → wpAny (model pw w) A (eval e env) (fun v s₂ => wpAny (model pw w) A (call (.builtin id) [ov, v]) Q E s₂) E (stAt s h' tk))
    (hbase : attributeBase o name env (eval o env) = eval o env)
    (hfew : ((backTo pos (starEach [e] env)).all (fun x => !x.1) && (backToKw pos (keywordEach [] env)).all (fun x => x.1.isSome)
      && decide ([e].length + ([] : List Keyword).length + (if ([] : List Keyword).isEmpty then 0 else 1) < 30)) = true)
    (hline : (apos.endLine == pos.line) = true) (he : starEach [e] env = [(false, eval e env)] := by rfl) : wpAny (model pw w) A (eval (.Call (.Attribute o name apos) [e] [] pos) env) Q E s := by
  refine wpAny_Call_method hbase hfew hline pa slot hty (x A B s E _ pr fun v h₁ tk₁ u₁ g₁ hv => ?_)
  obtain rfl := hv.val_inv
  refine ⟨?_, fun a ha => ?_, ?_⟩
  · cases v with
    | ref a => obtain ⟨o, ho, hc⟩ := hT; exact ⟨o, u₁ _ _ ho, hc⟩
    | _ => exact hT
  · obtain ⟨ob, ho, hn⟩ := hd a ha; exact ⟨ob, u₁ _ _ ho, hn⟩
  · refine callWith_of (P := fun _ => True) (by rw [he]; rfl) (fun _ _ => ⟨.machine, .inr (.inl rfl), .now⟩) ?_
    have ev : wpAny (model pw w) A (spliced (backTo pos (starEach [e] env))) (fun vs s₁ => True ∧ wpAny (model pw w) A (call (.builtin id) ([v] ++ vs)) Q E s₁) E (stAt s h₁ tk₁) :=
      wpAny_items_cons (wpAny_mono (q h₁ tk₁ u₁ g₁) (fun z s₂ hz => wpAny_items_nil ⟨trivial, hz⟩) fun _ _ e => e) he
    rw [he] at ev ⊢
    exact Calls.evalArgs_plain ev

theorem run_whileT {α : Type} {test : Expr} {body rest : List Stmt} {p : Pos} {J : α → Sg} {c : α → Bool} {m : α → Nat} {P : α → Prop} {X : α → Heap → Nat → Prop} {Q : Flow → Shared → Prop} (F : Frm w k A B env N s₀) (S : St B env σ s₀ h tk) (a₀ : α) (hP : P a₀)
    (h0 : ∀ e ∈ J a₀, e ∈ σ) (hX : X a₀ h tk) (ts : ∀ a, P a → Ts w k env (J a) test (c a)) (kx : ∀ a h h' tk tk', X a h tk → Le h h' → tk ≤ tk' → X a h' tk')
    (turn : ∀ a h₁ tk₁ E', P a → c a = true → St B env (J a) s₀ h₁ tk₁ → X a h₁ tk₁ →
      Run w A env body (fun f s' => match f with
        | .next => ∃ b h₂ tk₂, m b < m a ∧ P b ∧ s' = stAt s₀ h₂ tk₂ ∧ St B env (J b) s₀ h₂ tk₂ ∧ X b h₂ tk₂
        | .ret v => Q (.ret v) s'
        | _ => False) E' (stAt s₀ h₁ tk₁))
    (q : ∀ a h' tk', P a → c a = false → St B env (J a) s₀ h' tk' → X a h' tk' → Run w A env rest Q E (stAt s₀ h' tk')) : Run w A env (.While test body [] p :: rest) Q E (stAt s₀ h tk) := by
  refine wpAny_execs_cons (wpAny_While ?_)
  refine codeAny_whileLoop (I := fun n s => ∃ a h' tk', n = m a ∧ P a ∧ s = stAt s₀ h' tk' ∧ St B env (J a) s₀ h' tk' ∧ X a h' tk') ?_ (m a₀) ⟨a₀, h, tk, rfl, hP, rfl, S.less h0, hX⟩
  rintro n s ⟨a, h₁, tk₁, rfl, hPa, rfl, S₁, hX₁⟩
  refine ts a hPa A B (stAt s₀ h₁ tk₁) _ _ (S₁.pre F) fun h₂ tk₂ u₂ g₂ => ?_
  have S₂ := S₁.up u₂ g₂
  cases hc : c a with
  | true =>
    rw [if_pos rfl]
    refine wpAny_mono (turn a h₂ tk₂ _ hPa hc S₂ (kx _ _ _ _ _ hX₁ u₂ g₂)) (fun f s' hf => ?_) fun _ _ x => x
    cases f with
    | next =>
      obtain ⟨b, h₃, tk₃, lt, hPb, e, S₃, hX₃⟩ := hf
      exact ⟨m b, lt, b, h₃, tk₃, rfl, hPb, e, S₃, hX₃⟩
    | ret v => exact hf
    | brk => exact hf.elim
    | cont => exact hf.elim
  | false =>
    rw [if_neg (by decide)]
    exact wpAny_execs_nil (q a h₂ tk₂ hPa hc S₂ (kx _ _ _ _ _ hX₁ u₂ g₂))
end
end Mine

set_option maxRecDepth 100000
set_option linter.unusedVariables false
namespace Mine
open PySem PySem.W PyProof.Rows

/-- the beginning of length `k` is less than each of its own ends -/
noncomputable def lynd (l : List Nat) (k : Nat) : Bool := ((List.range (k - 1)).filter fun j => !(decide (l.take k < (l.take k).drop (j + 1)))).isEmpty
noncomputable def sizesOf (l : List Nat) : List Nat := ((List.range l.length).filter fun i => lynd l (i + 1)).map (· + 1)
noncomputable def cutSize (l : List Nat) : Nat := (sizesOf l).foldl max 0
noncomputable def cutF : Nat → List Nat → List (List Nat)
  | 0, _ => []
  | n + 1, l => if l = [] then [] else l.take (cutSize l) :: cutF n (l.drop (cutSize l))
noncomputable def cut (l : List Nat) : List (List Nat) := cutF l.length l
theorem foldl_max_le {b : Nat} : ∀ (ns : List Nat) (a : Nat), a ≤ b → (∀ n ∈ ns, n ≤ b) → ns.foldl max a ≤ b ∧ a ≤ ns.foldl max a
  | [], a, h, _ => ⟨h, Nat.le_refl _⟩
  | n :: ns, a, h, hn => by
      have := foldl_max_le ns (max a n) (by have := hn n (.head _); omega) fun m hm => hn m (.tail _ hm)
      exact ⟨this.1, by have := this.2; simp only [List.foldl_cons]; omega⟩
theorem sizes_head {l : List Nat} (h : l ≠ []) : ∃ tl, sizesOf l = 1 :: tl := by
  obtain ⟨n, hn⟩ : ∃ n, l.length = n + 1 := ⟨l.length - 1, by have := List.length_pos_iff.mpr h; omega⟩
  unfold sizesOf
  rw [hn, List.range_succ_eq_map, List.filter_cons, if_pos (by rfl)]
  exact ⟨_, rfl⟩
theorem cutSize_ok {l : List Nat} (h : l ≠ []) : 1 ≤ cutSize l ∧ cutSize l ≤ l.length := by
  obtain ⟨tl, e⟩ := sizes_head h
  have hb : ∀ n ∈ sizesOf l, n ≤ l.length := fun n hn => by
    obtain ⟨i, hi, rfl⟩ := List.mem_map.mp hn
    have := List.mem_range.mp (List.mem_filter.mp hi).1
    omega
  unfold cutSize
  refine ⟨?_, (foldl_max_le _ 0 (Nat.zero_le _) hb).1⟩
  rw [e]
  exact (foldl_max_le tl 1 (hb 1 (e ▸ .head _)) (fun n hn => hb n (e ▸ .tail _ hn))).2
theorem cutF_more : ∀ (n m : Nat) (l : List Nat), l.length ≤ n → n ≤ m → cutF n l = cutF m l
  | 0, 0, _, _, _ => rfl
  | 0, m + 1, l, h, _ => by rw [cutF, cutF, if_pos (List.eq_nil_of_length_eq_zero (by omega))]
  | n + 1, m + 1, l, h, h' => by
      rw [cutF, cutF]
      split
      · rfl
      · rename_i hl
        have := cutSize_ok hl
        rw [cutF_more n m _ (by rw [List.length_drop]; omega) (by omega)]
theorem cut_step {l : List Nat} (h : l ≠ []) : cut l = l.take (cutSize l) :: cut (l.drop (cutSize l)) := by
  have := cutSize_ok h
  obtain ⟨n, hn⟩ : ∃ n, l.length = n + 1 := ⟨l.length - 1, by have := List.length_pos_iff.mpr h; omega⟩
  show cutF l.length l = _ :: cutF _ _
  rw [hn, cutF, if_neg h]
  congr 1
  exact (cutF_more _ n _ (Nat.le_refl _) (by rw [List.length_drop]; omega)).symm
theorem lay_all {n : Nat} : ∀ {l : List PyData}, (∀ x ∈ l, x.canLay0 = true ∧ x.depth ≤ n) → PyData.canLayAll0 l = true ∧ PyData.depthAll l ≤ n
  | [], _ => ⟨by simp [PyData.canLayAll0], by simp [PyData.depthAll]⟩
  | x :: l, h => by
      obtain ⟨a, b⟩ := h x (.head _)
      obtain ⟨c, d⟩ := lay_all (l := l) fun y m => h y (.tail _ m)
      exact ⟨by rw [PyData.canLayAll0, a, c]; rfl, by rw [PyData.depthAll]; omega⟩
theorem shaped_list {n : Nat} {l : List PyData} (h : ∀ x ∈ l, x.canLay0 = true ∧ x.depth ≤ n) (hn : n < 64) : SeqAt.shaped (.list l) = true := by
  obtain ⟨a, b⟩ := lay_all h
  unfold SeqAt.shaped
  rw [PyData.canLay0, a, PyData.depth, decide_eq_true (by omega)]; rfl
theorem shaped_nts (l : List Nat) : SeqAt.shaped (.list (l.map fun (n : Nat) => .int n)) = true := shaped_list (n := 0) (fun x m => by obtain ⟨i, _, rfl⟩ := List.mem_map.mp m; exact ⟨by rw [PyData.canLay0], by rw [PyData.depth]; exact Nat.le_refl _⟩) (by decide)
theorem eqv_nil (l : List PyData) : PyData.eqv (.list l) (.list []) = l.isEmpty := by
  cases l <;> simp [PyData.eqv, PyData.eqvAll]

section
variable {w : World} {k : Nat} {A : Around} {B : List Addr} {env : Env} {N : List Str} {σ : Sg} {s₀ s : Shared} {h : Heap} {tk : Nat} {E : Value → Shared → Prop}
theorem rl_names {sc : Scope} {i : Nat} (hsc : env.scope = fnScope i) : relabel sc env = relabel sc { env with scope := fnScope i } := by
  have : { env with scope := fnScope i } = env := by cases env; cases hsc; rfl
  rw [this]

/-- the texts cut off so far, with the rest -/
structure Cuts (p : Addr) (a : List Value × List Nat × Tok × List (List Nat)) (h : Heap) (tk : Nat) : Prop where
  acc : h.PlainList p a.1.toArray
  txt : ∀ B h, HasAll B h a.1 (a.2.2.2.map .str)
  ok : TkOk a.1
  more : a.2.1 ≠ [] → TkOk (a.1 ++ [.str ⟨a.2.1.toArray⟩ a.2.2.1]) ∧ (a.1 = [] ∨ ∀ v ∈ a.1, ∀ x t, v = .str x t → t < tk)

noncomputable def cutN : List Str := ["parts", "sizes", "size", "word"]
set_option maxHeartbeats 1000000 in
theorem bd_cut {l₀ : List Nat} (hl : l₀.length ≤ 1000) : Bd w (k + 8) 23 cutN [("word", .nstr l₀)] (.tks (cut l₀)) := by
  intro A B env s₀ h tk E Q hsc F S q
  generalize hb : fnBody 23 = b
  with_unfolding_all conv at hb => lhs; whnf
  subst hb
  refine wpAny_execs_cons (wpAny_Assign_Name ?_ rfl)
  have S0 : St (allOf h) env [] s₀ h tk := (S.less (τ := []) fun e m => nomatch m).raise rfl fun b m => mem_allOf.mp m
  refine (ev_list (w := w) (k := k) (σ := []) .nil (by decide)) A (allOf h) (stAt s₀ h tk) _ _ ⟨F.room.mono (by omega), F.facts.keeps S.keep, S0.bd, F.ok, S0.vs, Nat.lt_of_lt_of_le F.pos S.g⟩ fun v h₁ tk₁ u₁ g₁ hv => ?_
  obtain ⟨p, np, acc₁, rfl⟩ : ∃ p, p ∉ allOf h ∧ h₁.PlainList p ([] : List Value).toArray ∧ v = .ref p := by
    cases hv with
    | @list a vs _ n x y => cases y; exact ⟨a, n, x, rfl⟩
  have np0 : h.get? p = none := new_all np
  have pB : p ∉ B := fun m => al_ne (S.bd _ m) np0 rfl
  have s0p : s₀.heap.get? p = none := by
    cases e : s₀.heap.get? p with
    | none => rfl
    | some o => have := S.keep _ _ e; rw [np0] at this; cases this
  obtain ⟨wv, hwv, Sw⟩ := (S.up u₁ g₁).see (mem_at 0 rfl)
  obtain ⟨u₀, rfl, hu₀⟩ := hwv.nstr_inv
  refine st_store (s₀ := s₀) F Sw (.val (.ref p)) (x := "parts") (ρ := [("word", .val (.str ⟨l₀.toArray⟩ u₀))]) (by kernel_rfl!) (fun e m => by rw [List.mem_singleton.mp m]; exact mem_at 0 rfl) (by kernel_rfl!) fun h₂ tk₂ S₂ sp₂ kd₂ g₂ => ?_
  have acc₂ : h₂.PlainList p ([] : List Value).toArray := isList_sp sp₂ pB acc₁
  let J : List Value × List Nat × Tok × List (List Nat) → Sg := fun a => [("word", .str a.2.1), ("word", .val (.str ⟨a.2.1.toArray⟩ a.2.2.1)), ("parts", .val (.ref p))]
  have S₂' : St B env (J ([], l₀, u₀, [])) s₀ h₂ tk₂ := (S₂.view (mem_at 1 rfl) (.str l₀ u₀)).pick [0, 2, 1]
  refine run_whileT (J := J) (c := fun a => a.2.1 != []) (m := fun a => a.2.1.length) (P := fun a => a.2.2.2 ++ cut a.2.1 = cut l₀ ∧ a.2.1.length + a.1.length ≤ 1000) (X := Cuts p) F S₂' ([], l₀, u₀, []) ⟨rfl, by show l₀.length + 0 ≤ 1000; omega⟩ (fun e m => m)
    ⟨acc₂, fun _ _ => .nil, ⟨fun v m => (nomatch m), fun _ _ _ m => (nomatch m)⟩, fun _ => ⟨⟨fun v m => by rw [List.mem_singleton.mp m]; exact ⟨_, _, rfl, hu₀⟩, fun x y t m m' => by
      have e1 := List.mem_singleton.mp m; have e2 := List.mem_singleton.mp m'; cases e1; cases e2; rfl⟩, .inl rfl⟩⟩
    (fun a _ => ts_cmp (ev_var (mem_at 0 rfl)) (ev_str (l := []) (by kernel_rfl!)) cp_neS) (fun a h h' tk tk' x u g => ⟨by obtain ⟨n, e⟩ := x.acc; exact ⟨n, u _ _ e⟩, x.txt, x.ok, fun ne => ⟨(x.more ne).1, (x.more ne).2.imp id fun y v m z t e => Nat.lt_of_lt_of_le (y v m z t e) g⟩⟩) ?_ ?_
  · rintro ⟨vs, l, u, ls⟩ h₃ tk₃ E' ⟨hcut, hsz⟩ hc S₃ X₃
    have hl : l ≠ [] := by simpa using hc
    have hsz : l.length + vs.length ≤ 1000 := hsz
    have hcut : ls ++ cut l = cut l₀ := hcut
    obtain ⟨n1, n2⟩ := cutSize_ok hl
    refine run_assign (d := .range 1 ((l.length : Int) + 1)) (ρ := J (vs, l, u, ls)) F S₃ (ev_call (ev_built (kd_glob hsc (by kernel_rfl!)) (fun P => by kernel_rfl!) (by kernel_rfl!)) kp_type (.cons ev_int rfl (.cons (ev_bin (ev_call (ev_built (kd_glob hsc (by kernel_rfl!)) (fun P => by kernel_rfl!) (by kernel_rfl!)) kp_builtin (.cons (ev_var (mem_at 0 rfl)) rfl .nil) (fn_lenS (by omega))) ev_int op_add) rfl .nil)) fn_range2)
      (fun e m => m) (by kernel_rfl!) (by kernel_rfl!) rfl fun h₄ tk₄ S₄ sp₄ kd₄ g₄ => ?_
    obtain ⟨tl, htl⟩ := sizes_head hl
    have hcs : cutSize l = tl.foldl max 1 := by unfold cutSize; rw [htl]; rfl
    refine run_assign (d := .int (cutSize l : Nat)) (ρ := J (vs, l, u, ls)) F S₄ (hcs ▸ ev_call (ev_built (kd_glob hsc (by kernel_rfl!)) (fun P => by kernel_rfl!) (by kernel_rfl!)) kp_builtin (.cons (ev_comp (os := nts (1 :: tl)) [("word", .str l)] ["k"] ⟨by kernel_rfl!, by kernel_rfl!, by rw [hsc]; kernel_rfl!, by kernel_rfl!, by kernel_rfl!, fun e m => by rw [List.mem_singleton.mp m]; exact mem_at 1 rfl⟩ (ev_var (mem_at 0 rfl)) rfl ⟨by decide, by decide, by omega, by omega⟩
      (fun g' m => by rw [List.mem_singleton.mp m]; exact ⟨rfl, fun _ _ => rfl⟩) (fun cenv ok hcs => ?_) ?_) rfl .nil) fn_maxN) (fun e m => .tail _ m) (by kernel_rfl!) (by kernel_rfl!) rfl fun h₅ tk₅ S₅ sp₅ kd₅ g₅ => ?_
    · rw [← htl]
      have hds : ((List.range ((l.length : Int) + 1 - 1).toNat).map fun i => D.int (1 + (i : Nat))).length = l.length := by rw [List.length_map, List.length_range]; omega
      refine turns_of (fun i => if lynd l (i + 1) then [.int ((i + 1 : Nat))] else []) ?_ fun i di hd => ?_
      · rw [hds, flat_filter (fun i => lynd l (i + 1)) (fun i => D.int ((i + 1 : Nat)))]
        show (sizesOf l).map _ = _
        unfold sizesOf
        rw [List.map_map]; rfl
      · obtain ⟨hi, rfl⟩ := range_at hd
        have e1 : (1 + ((i : Nat) : Int)) = ((i + 1 : Nat) : Int) := by omega
        rw [e1]
        refine ⟨("k", .int ((i + 1 : Nat))) :: [("word", .str l)], lynd l (i + 1), asg_name (by kernel_rfl!) (fun e m => m) (by kernel_rfl!), fun e m => .tail _ m, ?_, fun hb => by rw [if_pos hb]; exact emit_one (ev_var (mem_at 0 rfl)), fun hb => by rw [if_neg (by rw [hb]; decide)]⟩
        have hlk : (l.take (i + 1)).length ≤ 1000 := by rw [List.length_take]; omega
        refine Ts.cast (ts_cmp (b := .list (nts [])) (ev_comp (os := nts (((List.range i).filter fun j => !(decide (l.take (i + 1) < (l.take (i + 1)).drop (j + 1)))).map (· + 1))) [("word", .str l), ("k", .int ((i + 1 : Nat)))] ["j"] ⟨by kernel_rfl!, by kernel_rfl!, by rw [hcs, rl_names hsc]; kernel_rfl!, by kernel_rfl!, by kernel_rfl!, fun e m => by
            rcases List.mem_cons.mp m with e' | m
            · rw [e']; exact mem_at 1 rfl
            · rw [List.mem_singleton.mp m]; exact mem_at 0 rfl⟩
          (ev_call (ev_built (kd_globC hcs (by kernel_rfl!)) (fun P => by kernel_rfl!) (by kernel_rfl!)) kp_type (.cons ev_int rfl (.cons (ev_var (mem_at 0 rfl)) rfl .nil)) fn_range2) rfl ⟨by decide, by decide, by omega, by omega⟩ (fun g' m => by rw [List.mem_singleton.mp m]; exact ⟨rfl, fun _ _ => rfl⟩) (fun cenv2 ok2 hcs2 => ?_) ?_) (ev_list .nil (by decide)) (cp_eqD (by omega) (py_nts _) (py_nts []) (shaped_nts _) (shaped_nts []) (eqv_nil _))) ?_
        · have hds2 : ((List.range ((((i + 1 : Nat) : Int)) - 1).toNat).map fun i => D.int (1 + (i : Nat))).length = i := by rw [List.length_map, List.length_range]; omega
          refine turns_of (fun j => if !(decide (l.take (i + 1) < (l.take (i + 1)).drop (j + 1))) then [.int ((j + 1 : Nat))] else []) ?_ fun j dj hd => ?_
          · rw [hds2, flat_filter (fun j => !(decide (l.take (i + 1) < (l.take (i + 1)).drop (j + 1)))) (fun i => D.int ((i + 1 : Nat)))]
            show List.map _ _ = _
            rw [List.map_map]; rfl
          · obtain ⟨hj, rfl⟩ := range_at hd
            have e2 : (1 + ((j : Nat) : Int)) = ((j + 1 : Nat) : Int) := by omega
            rw [e2]
            refine ⟨("j", .int ((j + 1 : Nat))) :: [("word", .str l), ("k", .int ((i + 1 : Nat)))], !(decide (l.take (i + 1) < (l.take (i + 1)).drop (j + 1))), asg_name (by kernel_rfl!) (fun e m => m) (by kernel_rfl!), fun e m => .tail _ m, ?_, fun hb => by rw [if_pos hb]; exact emit_one (ev_var (mem_at 0 rfl)), fun hb => by rw [if_neg (by rw [hb]; decide)]⟩
            refine Ts.cast (ts_cmp (ev_call (ev_glob (kd_globC hcs2 (by kernel_rfl!)) (fun P => by kernel_rfl!)) (FnAt.kp fx_lt) (.cons (Ev.cast (ev_slS (ev_var (mem_at 1 rfl)) .none (.some (ev_var (mem_at 2 rfl))) (by omega)) (congrArg D.str (piece_to _ _))) rfl (.cons (Ev.cast (ev_slS (ev_var (mem_at 1 rfl)) (.some (ev_var (mem_at 0 rfl))) (.some (ev_var (mem_at 2 rfl))) (by omega)) (congrArg D.str (piece_run _ _ _))) rfl .nil)) fn_lt) ev_bool cp_isNotB) (by cases decide (l.take (i + 1) < (l.take (i + 1)).drop (j + 1)) <;> rfl)
        · rw [List.length_map, List.length_map]
          have := List.length_filter_le (fun j => !(decide (l.take (i + 1) < (l.take (i + 1)).drop (j + 1)))) (List.range i)
          rw [List.length_range] at this
          omega
        · unfold lynd
          rw [Nat.add_sub_cancel]
          cases List.filter (fun j => !(decide (l.take (i + 1) < (l.take (i + 1)).drop (j + 1)))) (List.range i) <;> rfl
    · rw [← htl, List.length_map]
      unfold sizesOf
      rw [List.length_map]
      have := List.length_filter_le (fun i => lynd l (i + 1)) (List.range l.length)
      rw [List.length_range] at this
      omega
    · have acc₅ : h₅.PlainList p vs.toArray := isList_sp (sp₄.trans sp₅) pB X₃.acc
      have g5 : tk₃ ≤ tk₅ := Nat.le_trans g₄ g₅
      obtain ⟨tko, fresh⟩ := X₃.more hl
      refine name_rest fun rest hr => ?_
      refine wpAny_execs_cons (wpAny_Expr_any (method_call1 (ov := .ref p) (S₅.pre F) (ev_var (mem_at 3 rfl)) acc₅.isList.typeIs (fun b e => by cases e; obtain ⟨m, e⟩ := acc₅; exact ⟨_, e, rfl⟩)
        PySem.F.plainAttrs_list PySem.F.slot_list_append PySem.F.type_list_append (fun h₆ tk₆ u₆ g₆ => ?_) rfl rfl rfl) (inter_no F.ok.kind) rfl)
      have S₆ : St B env [("size", .int (cutSize l : Nat)), ("word", .str l), ("word", .val (.str ⟨l.toArray⟩ u)), ("parts", .val (.ref p))] s₀ h₆ tk₆ := S₅.up u₆ g₆
      have acc₆ : h₆.PlainList p vs.toArray := by obtain ⟨n, e⟩ := acc₅; exact ⟨n, u₆ _ _ e⟩
      -- what is cut off
      have mid : ∀ h₇ tk₇ v, Le h₆ h₇ → tk₆ ≤ tk₇ → TkOk (vs ++ [v]) → (∀ B h, Has B h v (.str (l.take (cutSize l)))) → (l.drop (cutSize l) ≠ [] → ∀ v' ∈ vs ++ [v], ∀ x t, v' = .str x t → t < tk₇) →
          wpAny (model pw w) A (call (.builtin "list.append") [.ref p, v]) (fun _ s' => Run w A env rest (fun f s' => match f with
            | .next => ∃ b h₂ tk₂, b.2.1.length < l.length ∧ (b.2.2.2 ++ cut b.2.1 = cut l₀ ∧ b.2.1.length + b.1.length ≤ 1000) ∧ s' = stAt s₀ h₂ tk₂ ∧ St B env (J b) s₀ h₂ tk₂ ∧ Cuts p b h₂ tk₂
            | .ret v => Q (.ret v) s'
            | _ => False) E' s') E' (stAt s₀ h₇ tk₇) := by
        intro h₇ tk₇ v u₇ g₇ tk' hv fr
        have acc₇ : h₇.PlainList p vs.toArray := by obtain ⟨n, e⟩ := acc₆; exact ⟨n, u₇ _ _ e⟩
        refine wpAny_list_append_plain (s := stAt s₀ h₇ tk₇) acc₇ (fun h₈ acc₈ sb₈ => ?_) (by rw [List.size_toArray]; exact Nat.le_trans (by omega) (show 1000000 ≤ sizeLine by decide))
        have S₇ : St B env (("size", .int (cutSize l : Nat)) :: J (vs, l, u, ls)) s₀ h₇ tk₇ := S₆.up u₇ g₇
        have S₈ : St B env [("size", .int (cutSize l : Nat)), ("word", .str l), ("word", .val (.str ⟨l.toArray⟩ u)), ("parts", .val (.ref p))] s₀ h₈ tk₇ := S₇.turned rfl acc₇ pB s0p sb₈.extBut (Nat.le_refl _)
        subst hr
        have hpc : piece l (some ((cutSize l : Nat) : Int)) none = l.drop (cutSize l) := piece_from _ _
        refine wpAny_execs_cons (wpAny_Assign_Name (slTok (s := stAt s₀ h₈ tk₇) (l := l) (u := u) (S₈.pre F) (ev_var (mem_at 2 rfl)) (EvP.some (ev_var (mem_at 0 rfl) : EvE w (k + 8) env [("size", .int (cutSize l : Nat)), ("word", .str l), ("word", .val (.str ⟨l.toArray⟩ u)), ("parts", .val (.ref p))] _ (.int (cutSize l : Nat)))) .none (by omega) (fun he => ?_) (fun he h₉ tk₉ t u₉ g₉ g₉' => ?_)) rfl)
        · rw [hpc, List.length_drop] at he; omega
        · rw [hpc]
          have S₉ := S₈.up u₉ (Nat.le_trans g₉ (Nat.le_of_lt g₉'))
          refine st_store (s₀ := s₀) F S₉ (.val (.str ⟨(l.drop (cutSize l)).toArray⟩ t)) (x := "word") (ρ := [("parts", .val (.ref p))]) (by kernel_rfl!) (fun e m => by rw [List.mem_singleton.mp m]; exact mem_at 3 rfl) (by kernel_rfl!) fun h₁₀ tk₁₀ S₁₀ sp₁₀ kd₁₀ g₁₀ => run_nil ?_
          have hin : ∀ v' ∈ vs ++ [v], ∃ x t, v' = Value.str x t ∧ 0 < t := tk'.pos
          refine ⟨(vs ++ [v], l.drop (cutSize l), t, ls ++ [l.take (cutSize l)]), h₁₀, tk₁₀, ?_, ⟨?_, ?_⟩, rfl, (S₁₀.view (mem_at 0 rfl) (.str _ _)), ?_, ?_, tk', fun ne => ⟨⟨fun v' m => ?_, fun x y tt m m' => ?_⟩, .inr fun v' m x tt e => Nat.lt_of_lt_of_le (fr ne v' m x tt e) (Nat.le_trans g₉ (Nat.le_trans (Nat.le_of_lt g₉') g₁₀))⟩⟩
          · show (l.drop (cutSize l)).length < l.length; rw [List.length_drop]; omega
          · show (ls ++ [l.take (cutSize l)]) ++ cut (l.drop (cutSize l)) = cut l₀
            rw [← hcut, cut_step hl, List.append_assoc]; rfl
          · show (l.drop (cutSize l)).length + (vs ++ [v]).length ≤ 1000
            rw [List.length_drop, List.length_append, List.length_singleton]; omega
          · show h₁₀.PlainList p (vs ++ [v]).toArray
            have e8 : h₈.PlainList p (vs ++ [v]).toArray := by simpa using acc₈
            obtain ⟨n, e⟩ := e8
            exact ⟨n, sp₁₀ _ _ pB (u₉ _ _ e)⟩
          · intro B' h'
            show HasAll B' h' (vs ++ [v]) ((ls ++ [l.take (cutSize l)]).map .str)
            rw [List.map_append]
            exact (X₃.txt B' h').append (.one (hv B' h'))
          · rcases List.mem_append.mp m with m | m
            · exact tk'.pos v' m
            · rw [List.mem_singleton.mp m]
              exact ⟨_, _, rfl, Nat.lt_of_lt_of_le (S₈.pre F).pos g₉⟩
          · rcases List.mem_append.mp m with m | m <;> rcases List.mem_append.mp m' with m' | m'
            · exact tk'.one x y tt m m'
            · have e := List.mem_singleton.mp m'; cases e
              exact absurd (fr ne _ m x t rfl) (Nat.not_lt.mpr g₉)
            · have e := List.mem_singleton.mp m; cases e
              exact absurd (fr ne _ m' y t rfl) (Nat.not_lt.mpr g₉)
            · have e := List.mem_singleton.mp m; have e' := List.mem_singleton.mp m'; cases e; cases e'; rfl
      have hpc : piece l none (some ((cutSize l : Nat) : Int)) = l.take (cutSize l) := piece_to _ _
      refine slTok (s := stAt s₀ h₆ tk₆) (l := l) (u := u) (S₆.pre F) (ev_var (mem_at 2 rfl)) .none (EvP.some (ev_var (mem_at 0 rfl) : EvE w (k + 8) env [("size", .int (cutSize l : Nat)), ("word", .str l), ("word", .val (.str ⟨l.toArray⟩ u)), ("parts", .val (.ref p))] _ (.int (cutSize l : Nat)))) (by omega) (fun he h₇ tk₇ u₇ g₇ => ?_) (fun he h₇ tk₇ t u₇ g₇ g₇' => ?_)
      · rw [hpc, List.length_take] at he
        have hn : cutSize l = l.length := by omega
        exact mid h₇ tk₇ _ u₇ g₇ tko (fun B h => by rw [hn, List.take_length]; exact .str _ _) fun ne => absurd (by rw [hn]; exact List.drop_length) ne
      · rw [hpc, List.length_take] at he
        rw [hpc]
        have g6 : tk₃ ≤ tk₆ := Nat.le_trans g5 g₆
        have old : vs = [] ∨ ∀ v' ∈ vs, ∀ x t', v' = Value.str x t' → t' < t := fresh.imp id fun f v' m x t' e => Nat.lt_of_lt_of_le (f v' m x t' e) (Nat.le_trans g6 g₇)
        refine mid h₇ tk₇ _ u₇ (Nat.le_trans g₇ (Nat.le_of_lt g₇')) ⟨fun v' m => ?_, fun x y tt m m' => ?_⟩ (fun B h => .str _ _) fun _ v' m x tt e => ?_
        · rcases List.mem_append.mp m with m | m
          · exact X₃.ok.pos v' m
          · rw [List.mem_singleton.mp m]
            exact ⟨_, _, rfl, Nat.lt_of_lt_of_le (S₆.pre F).pos g₇⟩
        · rcases List.mem_append.mp m with m | m <;> rcases List.mem_append.mp m' with m' | m'
          · exact X₃.ok.one x y tt m m'
          · have e := List.mem_singleton.mp m'; cases e
            rcases old with o | o
            · rw [o] at m; cases m
            · exact absurd (o _ m x t rfl) (Nat.lt_irrefl _)
          · have e := List.mem_singleton.mp m; cases e
            rcases old with o | o
            · rw [o] at m'; cases m'
            · exact absurd (o _ m' y t rfl) (Nat.lt_irrefl _)
          · have e := List.mem_singleton.mp m; have e' := List.mem_singleton.mp m'; cases e; cases e'; rfl
        · rcases List.mem_append.mp m with m | m
          · rcases old with o | o
            · rw [o] at m; cases m
            · exact Nat.lt_trans (o v' m x tt e) g₇'
          · have e' := List.mem_singleton.mp m
            rw [e'] at e; cases e; exact g₇'
  · rintro ⟨vs, l, u, ls⟩ h₄ tk₄ ⟨hcut, hsz⟩ hc S₄ X₄
    have hl : l = [] := by simpa using hc
    subst hl
    have : ls = cut l₀ := by rw [← hcut]; exact (List.append_nil ls).symm
    have Sv := S₄.view (mem_at 2 rfl) (.tks pB X₄.acc (X₄.txt _ _) X₄.ok)
    refine run_ret F Sv (ev_var (mem_at 0 rfl)) fun v h' tk' u g hd => q _ h' tk' u g ?_
    rw [← this]
    exact hd
theorem fn_cut {l : List Nat} (hl : l.length ≤ 1000) : Fn w (k + 9) (.ref 192) [.nstr l] [] [] (.tks (cut l)) :=
  fn_of (N := cutN) (ns := ["word"]) (fun P => (fx_law_cut P).to) (bd_cut hl) (fun P vs e => by match vs, e with | [u], _ => kernel_rfl!) (by decide) rfl (by kernel_rfl!) (fun L => by kernel_rfl!) ⟨by kernel_rfl!, by kernel_rfl!, by kernel_rfl!⟩
end
end Mine

set_option maxRecDepth 100000
set_option linter.unusedVariables false
namespace Mine
open PySem PySem.W PyProof.Rows
section
variable {w : World} {k : Nat} {A : Around} {B : List Addr} {env : Env} {N : List Str} {σ : Sg} {s₀ s : Shared} {h : Heap} {tk : Nat} {E : Value → Shared → Prop}

theorem St.addL {B' : List Addr} (S : St B env σ s₀ h tk) {h' : Heap} {tk' : Nat} (u : Le h h') (g : tk ≤ tk') (bs : ∀ b ∈ B', b ∈ B ∨ (h.get? b = none ∧ Al h' b)) : St B' env σ s₀ h' tk' := by
  have S' := S.up u g
  refine ⟨Vs.le (S.vs.add fun c m => (bs c m).imp id fun x => x.1) u, S'.keep, S'.g, fun b hb => ?_, S'.cells⟩
  rcases bs b hb with m | ⟨_, a⟩
  · exact S'.bd b m
  · exact a

/-- a comprehension stored at once, its list known -/
theorem run_assignCN {x : Str} {px p : Pos} {rest : List Stmt} {elt : Expr} {g : Comprehension} {gs : List Comprehension} {sc : Scope} {pos : Pos} {d : D} {ds os : List D} {ρ : Sg} {NF : List Str} {Q : Flow → Shared → Prop} (F : Frm w k A B env NF s₀) (S : St B env σ s₀ h tk)
    (σc : Sg) (N : List Str) (ck : CompOk env.scope.names σ σc sc N) (ev : EvE w k env σ g.iter d) (hi : d.items = some ds) (hs : d.small)
    (hgens : ∀ g' ∈ g :: gs, g'.is_async = 0 ∧ ∀ (env : Env) x, foldedSetIterable g'.iter env x = pure x) (T : ∀ cenv, EnvOk cenv → cenv.scope = relabel sc env → Turns w k cenv N (Emit w k cenv N elt gs) g σc ds os) (len : os.length ≤ 1000000)
    (hρ : ∀ e ∈ ρ, e ∈ σ) (hx : (ρ.all fun e => e.1 != x) = true) (hN : NF.contains x = true) (hsw : swapsWith (.ListComp elt (g :: gs) sc pos) (some (.Name x px)) p.line env = pure true)
    (q : ∀ a vs h' tk', h.get? a = none → s₀.heap.objs.size ≤ a → h'.PlainList a vs.toArray → HasAll (a :: B) h' vs os → St (a :: B) env ((x, .val (.ref a)) :: ρ) s₀ h' tk' → Run w A env rest Q E (stAt s₀ h' tk')) : Run w A env (.Assign [.Name x px] (.ListComp elt (g :: gs) sc pos) p :: rest) Q E (stAt s₀ h tk) := by
  have ha : firstAsync (g :: gs) = false := by
    obtain ⟨t, iter, ifs, ia⟩ := g
    obtain ⟨rfl, -⟩ := hgens _ (.head _)
    rfl
  have hf : firstIter (g :: gs) env = eval g.iter env := by cases g; rfl
  refine wpAny_execs_cons ?_
  rw [exec_Assign_Name_used _ _ _ _ hsw]
  refine wpAny_bind (wpAny_standAt (wpAny_bind ?_))
  show wpAny _ A (do let _ ← comprehension (.ListComp elt (g :: gs) sc pos) sc env _ (newList []) (firstAsync (g :: gs)) (firstIter (g :: gs) env) (some (assign (.Name x px) env))) _ _ _
  rw [ha, hf]
  have pr := S.pre F
  refine wpAny_bind (wpAny_mono (comp_core (Q := fun _ s' => Run w A env rest Q E s') pr ck ev hi hs hgens T len fun Rr C h' tk' vs fresh hne hns le gk acc hv => ?_) (fun _ s' hq => wpAny_pure (wpAny_pure hq)) fun _ _ e => e)
  obtain ⟨m, hm⟩ := hns
  have fr : ∀ {b}, Al h b → @LT.lt Nat _ b Rr ∧ @LT.lt Nat _ b C := fun {b} al => fresh b al
  have nC : h.get? C = none := by
    cases e : h.get? C with
    | none => rfl
    | some o => exact absurd (fr ⟨o, e⟩).2 (Nat.lt_irrefl _)
  have nR : h.get? Rr = none := by
    cases e : h.get? Rr with
    | none => rfl
    | some o => exact absurd (fr ⟨o, e⟩).1 (Nat.lt_irrefl _)
  have alC : Al h' C := by obtain ⟨o, _, _, e, _⟩ := hm; exact ⟨o, e⟩
  have alR : Al h' Rr := by obtain ⟨n, e⟩ := acc; exact ⟨_, e⟩
  have S₁ : St (C :: Rr :: B) env σ s₀ h' tk' := S.addL le gk fun b m => by
    rcases List.mem_cons.mp m with e | m
    · rw [e]; exact .inr ⟨nC, alC⟩
    · rcases List.mem_cons.mp m with e | m
      · rw [e]; exact .inr ⟨nR, alR⟩
      · exact .inl m
  have bC : ∀ b ∈ B, b ≠ C := fun b hb => al_ne (S.bd b hb) nC
  show wpAny _ A (assign (.Name x px) env (.ref Rr)) _ _ _
  refine wpAny_assign_Name (st_storeX (s₀ := s₀) ((F.add Rr).add C) S₁ (.val (.ref Rr)) hN hρ hx fun h₂ tk₂ S₂ sp₂ kd₂ g₂ kn₂ => ?_)
  have clC : C ≠ env.locals := (bC _ F.locB).symm
  have ccC : ∀ y c, env.cells.lookup y = some c → C ≠ c := fun y c e => by
    obtain ⟨v, o, z, _⟩ := S.cells y c e
    exact (al_ne ⟨o, z⟩ nC).symm
  have n3 : s₀.heap.objs.size ≤ C := Nat.le_trans F.locF (Nat.le_of_lt (fr (S.bd _ F.locB)).2)
  have n4 : s₀.heap.objs.size ≤ Rr := Nat.le_trans F.locF (Nat.le_of_lt (fr (S.bd _ F.locB)).1)
  refine ⟨m, hm.at' fun o e => kn₂ C o clC ccC e, fun h₃ sb => ?_⟩
  have eb := sb.extBut
  refine q Rr vs h₃ tk₂ nR n4 ?_ ?_ (S₂.drop eb (fun b m => ?_) clC ccC n3 (Nat.le_refl _))
  · obtain ⟨n, e⟩ := acc
    exact ⟨n, eb _ _ hne (kd₂ _ _ (notNm_seq rfl) e)⟩
  · exact ((hv.sp sp₂).sp (sp_own (.head _) eb)).sub fun b m => .tail _ m
  · rcases List.mem_cons.mp m with e | m
    · rw [e]; exact hne
    · exact bC b m

theorem seqIndex_last {n : Nat} : seqIndex? (-1) (n + 1) = some n := by
  have e : seqIndex? (-1) (n + 1) = if (0 ≤ (if (-1 : Int) < 0 then (-1 : Int) + (n + 1 : Nat) else -1) && (if (-1 : Int) < 0 then (-1 : Int) + ((n + 1 : Nat) : Int) else -1) < (n + 1 : Nat)) = true then some (if (-1 : Int) < 0 then (-1 : Int) + (n + 1 : Nat) else -1).toNat else none := rfl
  have h0 : ((-1 : Int) < 0) := by decide
  simp only [h0, if_true] at e
  rw [e, if_pos (by simp; omega)]
  congr 1
  omega
noncomputable def lastD (l : List (List Nat)) : List Nat := l.getD (l.length - 1) []
theorem last_at {l : List (List Nat)} (h : l ≠ []) : ∃ n, l.length = n + 1 ∧ l[n]? = some (lastD l) := by
  obtain ⟨n, hn⟩ : ∃ n, l.length = n + 1 := ⟨l.length - 1, by have := List.length_pos_iff.mpr h; omega⟩
  refine ⟨n, hn, ?_⟩
  unfold lastD
  rw [hn, Nat.add_sub_cancel, List.getD_eq_getElem?_getD, List.getElem?_eq_getElem (by omega)]; rfl

/-- all pairs of two rows -/
noncomputable def prod (f : (List Nat × Int) → (List Nat × Int) → (List Nat × Int)) (xs ys : Sh) : Sh := xs.flatMap fun p => ys.map (f p)
noncomputable def small (sh : Sh) : Bool := decide (sh.length ≤ 200) && sh.all fun p => decide (p.2.natAbs ≤ 1000000) && decide (p.1.length ≤ 5)
theorem small_len {sh : Sh} (h : small sh = true) : sh.length ≤ 200 := by
  unfold small at h; rw [Bool.and_eq_true] at h; exact of_decide_eq_true h.1
theorem small_at {sh : Sh} (h : small sh = true) {p : List Nat × Int} (m : p ∈ sh) : p.2.natAbs ≤ 1000000 ∧ p.1.length ≤ 5 := by
  unfold small at h; rw [Bool.and_eq_true] at h
  have := List.all_eq_true.mp h.2 p m
  rw [Bool.and_eq_true] at this
  exact ⟨of_decide_eq_true this.1, of_decide_eq_true this.2⟩
theorem mul_ok {a b : Int} (h : a.natAbs ≤ 1000000) : IntMulOk a b := IntMulOk.of_left (PySem.intBits_le_64 (by omega) (by omega))
theorem flatMap_range {α β : Type} (d : α) (f : α → List β) : ∀ L : List α, L.flatMap f = ((List.range L.length).map fun i => f (L.getD i d)).flatten := fun L => by
  have : L = (List.range L.length).map fun i => L.getD i d := by
    apply List.ext_getElem
    · simp
    · intro i h1 h2; simp [List.getElem?_eq_getElem h1]
  conv => lhs; rw [this]
  rw [List.flatMap_def, List.map_map]; rfl
theorem getD_of {α : Type} {l : List α} {i : Nat} {x d : α} (h : l[i]? = some x) : l.getD i d = x := by rw [List.getD_eq_getElem?_getD, h]; rfl
end
end Mine

set_option maxRecDepth 100000
set_option linter.unusedVariables false
namespace Mine
open PySem PySem.W PyProof.Rows

noncomputable def brkSize (l : List Nat) : Nat := if 1 < (cut l).length then ((cut l).getD 0 []).length else l.length - (lastD (cut (l.drop 1))).length
abbrev fAB (p q : List Nat × Int) : List Nat × Int := (p.1 ++ q.1, p.2 * q.2)
abbrev fBA (p q : List Nat × Int) : List Nat × Int := (q.1 ++ p.1, -(p.2 * q.2))
noncomputable def brk : Nat → List Nat → Sh
  | 0, _ => []
  | n + 1, l => if l.length = 1 then [(l, 1)] else
    gath (prod fAB (brk n (l.take (brkSize l))) (brk n (l.drop (brkSize l))) ++ if (cut l).length = 1 then prod fBA (brk n (l.take (brkSize l))) (brk n (l.drop (brkSize l))) else [])
noncomputable def brkOk : Nat → List Nat → Bool
  | 0, _ => false
  | n + 1, l => if l.length = 1 then true else
    decide (2 ≤ l.length ∧ l.length ≤ 5 ∧ (cut l).length ≤ 5 ∧ ((cut l).getD 0 []).length ≤ 5) && decide (1 < (cut l).length ∨ (0 < (cut (l.drop 1)).length ∧ (cut (l.drop 1)).length ≤ 5 ∧ (lastD (cut (l.drop 1))).length ≤ l.length)) &&
    (small (brk n (l.take (brkSize l))) && small (brk n (l.drop (brkSize l)))) && (brkOk n (l.take (brkSize l)) && brkOk n (l.drop (brkSize l)))
theorem prod_len (f : (List Nat × Int) → (List Nat × Int) → (List Nat × Int)) (xs ys : Sh) : (prod f xs ys).length = xs.length * ys.length := by
  induction xs with
  | nil => simp [prod]
  | cons x xs ih =>
    unfold prod at ih ⊢
    rw [List.flatMap_cons, List.length_append, ih, List.length_map, List.length_cons, Nat.add_mul, Nat.one_mul, Nat.add_comm]
theorem range_getD {α β : Type} (d : α) (f : α → β) (L : List α) : L.map f = (List.range L.length).map fun i => f (L.getD i d) := by
  apply List.ext_getElem
  · simp
  · intro i h1 h2; simp at h1; simp [List.getElem?_eq_getElem h1]

section
variable {w : World} {k : Nat} {A : Around} {B : List Addr} {env : Env} {N : List Str} {σ : Sg} {s₀ s : Shared} {h : Heap} {tk : Nat} {E : Value → Shared → Prop}
theorem turns_prod {a m b n : Str} {pa pm pb pn pt pt' : Pos} {ka kb : Nat} {it it' elt : Expr} {xs ys : Sh} {f : (List Nat × Int) → (List Nat × Int) → (List Nat × Int)} (h1 : N.contains a = true) (h2 : N.contains m = true) (h3 : N.contains b = true) (h4 : N.contains n = true)
    (x1 : (σ.all fun e => e.1 != a) = true) (x2 : ∀ p : List Nat × Int, (((a, D.str p.1) :: σ).all fun e => e.1 != m) = true) (x3 : ∀ p : List Nat × Int, (((m, D.int p.2) :: (a, .str p.1) :: σ).all fun e => e.1 != b) = true) (x4 : ∀ p q : List Nat × Int, (((b, D.str q.1) :: (m, .int p.2) :: (a, .str p.1) :: σ).all fun e => e.1 != n) = true)
    (ev' : ∀ p : List Nat × Int, EvE w k env ((m, .int p.2) :: (a, .str p.1) :: σ) it' (.list (ys.map ent)))
    (evE : ∀ p ∈ xs, ∀ q ∈ ys, EvE w k env ((n, .int q.2) :: (b, .str q.1) :: (m, .int p.2) :: (a, .str p.1) :: σ) elt (pr2 (f p q))) :
    Turns w k env N (Emit w k env N elt [⟨.Tuple [.Name b pb, .Name n pn] kb pt', it', [], 0⟩]) ⟨.Tuple [.Name a pa, .Name m pm] ka pt, it, [], 0⟩ σ (xs.map ent) ((prod f xs ys).map pr2) := by
  refine turns_of (fun i => ys.map fun q => pr2 (f (xs.getD i ([], 0)) q)) ?_ fun i di hd => ?_
  · unfold prod
    rw [List.map_flatMap, flatMap_range ([], 0), List.length_map]
    congr 1
    apply List.map_congr_left
    intro i _
    rw [List.map_map]; rfl
  · obtain ⟨p, hp, rfl⟩ := map_at hd
    rw [getD_of hp]
    refine ⟨(m, .int p.2) :: (a, .str p.1) :: σ, true, asg_pair (.inr rfl) h1 h2 (fun e m => m) x1 (x2 p), fun e m => .tail _ (.tail _ m), rfl, fun _ => ?_, fun e => by cases e⟩
    refine ⟨.list (ys.map ent), ys.map ent, ev' p, rfl, trivial, ?_⟩
    refine turns_of (fun j => [pr2 (f p (ys.getD j ([], 0)))]) ?_ fun j dj hdj => ?_
    · rw [flat_one, List.length_map]
      exact range_getD ([], 0) (fun q => pr2 (f p q)) ys
    · obtain ⟨q, hq, rfl⟩ := map_at hdj
      rw [getD_of hq]
      exact ⟨(n, .int q.2) :: (b, .str q.1) :: (m, .int p.2) :: (a, .str p.1) :: σ, true, asg_pair (.inr rfl) h3 h4 (fun e m => m) (x3 p) (x4 p q), fun e m => .tail _ (.tail _ m), rfl, fun _ => emit_one (evE p (List.mem_of_getElem? hp) q (List.mem_of_getElem? hq)), fun e => by cases e⟩

theorem swW {v : Expr} {t : Option Expr} {n i : Nat} {r : Sem Bool} (hsc : env.scope = fnScope i) (h : ∀ e : Env, swapsWith v t n { e with scope := fnScope i } = r) : swapsWith v t n env = r := by
  have : { env with scope := fnScope i } = env := by cases env; cases hsc; rfl
  rw [← this]; exact h env
noncomputable def brkN : List Str := ["parts", "size", "ones", "others", "pairs"]
set_option maxHeartbeats 1000000 in
theorem fn_brackets : ∀ (n : Nat) (l : List Nat), brkOk n l = true → Fn w (k + 10 + n) (.ref 197) [.nstr l] [] [] (.list ((brk n l).map ent)) := by
  intro n
  induction n with
  | zero => intro l h; cases h
  | succ n ih =>
    intro l ok
    have bd : Bd w (k + 10 + n) 24 brkN [("word", .nstr l)] (.list ((brk (n + 1) l).map ent)) := by
      intro A B env s₀ h tk E Q hsc F S q
      generalize hb : fnBody 24 = b
      with_unfolding_all conv at hb => lhs; whnf
      subst hb
      have hll : l.length ≤ 5 ∧ 1 ≤ l.length := by
        rw [brkOk] at ok
        by_cases h1 : l.length = 1
        · omega
        · rw [if_neg h1] at ok
          simp only [Bool.and_eq_true, decide_eq_true_eq] at ok
          omega
      refine run_if (c := l.length == 1) F S (ts_cmp (ev_call (ev_built (kd_glob hsc (by kernel_rfl!)) (fun P => by kernel_rfl!) (by kernel_rfl!)) kp_builtin (.cons (ev_weak (ev_var (mem_at 0 rfl))) rfl .nil) (fn_lenS (by omega))) (ev_nat (n := 1)) cp_eqN) fun h₁ tk₁ S₁ u₁ g₁ => ?_
      by_cases h1 : l.length = 1
      · rw [show (l.length == 1) = true by simpa using h1]
        refine run_ret F S₁ (ev_list (ds := [ent (l, 1)]) (.cons (ev_list (.cons (ev_weak (ev_var (mem_at 0 rfl))) rfl (.cons ev_int rfl .nil)) (by show 2 ≤ 1000000; decide)) rfl .nil) (by show 1 ≤ 1000000; decide)) fun v h' tk' u g hv => q _ h' tk' u g ?_
        rw [brk, if_pos h1]
        exact hv
      · rw [show (l.length == 1) = false by simpa using h1]
        refine run_nil ?_
        rw [brkOk, if_neg h1] at ok
        simp only [Bool.and_eq_true, decide_eq_true_eq] at ok
        obtain ⟨⟨⟨⟨ok1, ok2, ok3, ok4⟩, ok5⟩, sm1, sm2⟩, r1, r2⟩ := ok
        have hbrk : brk (n + 1) l = gath (prod fAB (brk n (l.take (brkSize l))) (brk n (l.drop (brkSize l))) ++ if (cut l).length = 1 then prod fBA (brk n (l.take (brkSize l))) (brk n (l.drop (brkSize l))) else []) := by rw [brk, if_neg h1]
        refine run_assign (d := .tks (cut l)) (ρ := [("word", .nstr l)]) F S₁ (ev_call (ev_glob (kd_glob hsc (by kernel_rfl!)) (fun P => by kernel_rfl!)) (FnAt.kp fx_law_cut) (.cons (ev_var (mem_at 0 rfl)) rfl .nil) ((fn_cut (k := 0) (by omega)).mono (by omega))) (fun e m => m) (by kernel_rfl!) (by kernel_rfl!) rfl fun h₂ tk₂ S₂ sp₂ kd₂ g₂ => ?_
        have hsz : brkSize l = if 1 < (cut l).length then ((cut l).getD 0 []).length else l.length - (lastD (cut (l.drop 1))).length := rfl
        refine run_assign (d := .int (brkSize l : Nat)) (ρ := [("parts", .tks (cut l)), ("word", .nstr l)]) F S₂ (ev_ite (c := decide (1 < (cut l).length)) (ts_cmp (ev_call (ev_built (kd_glob hsc (by kernel_rfl!)) (fun P => by kernel_rfl!) (by kernel_rfl!)) kp_builtin (.cons (ev_var (mem_at 0 rfl)) rfl .nil) (fn_lenT (by omega))) (ev_nat (n := 1)) cp_gtN) (fun e => ?_) (fun e => ?_)) (fun e m => m) (by kernel_rfl!) (by kernel_rfl!) rfl fun h₃ tk₃ S₃ sp₃ kd₃ g₃ => ?_
        · have e := of_decide_eq_true e
          rw [hsz, if_pos e]
          refine ev_call (ev_built (kd_glob hsc (by kernel_rfl!)) (fun P => by kernel_rfl!) (by kernel_rfl!)) kp_builtin (.cons (ev_weak (ev_sub (ev_var (mem_at 0 rfl)) (ev_nat (n := 0)) (gi_tks (j := 0) (l := (cut l).getD 0 []) ⟨by decide, by decide⟩ (seqIndex_nat (by omega)) ?_))) rfl .nil) (fn_lenS (by omega))
          rw [List.getD_eq_getElem?_getD, List.getElem?_eq_getElem (by omega)]; rfl
        · have e := of_decide_eq_false e
          rw [hsz, if_neg e]
          obtain ⟨m1, m2, m3⟩ := ok5.resolve_left e
          obtain ⟨j, hj, hd⟩ := last_at (l := cut (l.drop 1)) (fun c => by rw [c] at m1; exact absurd m1 (by decide))
          have hlt : (lastD (cut (l.drop 1))).length ≤ l.length := m3
          refine ev_subN (ev_call (ev_built (kd_glob hsc (by kernel_rfl!)) (fun P => by kernel_rfl!) (by kernel_rfl!)) kp_builtin (.cons (ev_weak (ev_var (mem_at 1 rfl))) rfl .nil) (fn_lenS (by omega)))
            (ev_call (ev_built (kd_glob hsc (by kernel_rfl!)) (fun P => by kernel_rfl!) (by kernel_rfl!)) kp_builtin (.cons (ev_weak (ev_sub (ev_call (ev_glob (kd_glob hsc (by kernel_rfl!)) (fun P => by kernel_rfl!)) (FnAt.kp fx_law_cut) (.cons (Ev.cast (d' := .nstr (l.drop 1)) (ev_slN (ev_var (mem_at 1 rfl)) (.some (ev_nat (n := 1))) .none (by omega)) (congrArg D.nstr (piece_from _ _))) rfl .nil) ((fn_cut (k := 0) (by rw [List.length_drop]; omega)).mono (by omega))) (ev_neg ev_int) (gi_tks (j := j) (l := lastD (cut (l.drop 1))) ⟨by decide, by decide⟩ (by rw [hj]; exact seqIndex_last) hd))) rfl .nil) (fn_lenS (by omega))) m3
        refine run_assignT (d := .tup [.list ((brk n (l.take (brkSize l))).map ent), .list ((brk n (l.drop (brkSize l))).map ent)]) F S₃
          (ev_tuple (.cons (ev_call (ev_glob (kd_glob hsc (by kernel_rfl!)) (fun P => by kernel_rfl!)) (FnAt.kp fx_law_brackets) (.cons (Ev.cast (d' := .nstr (l.take (brkSize l))) (ev_slN (ev_var (mem_at 2 rfl)) .none (.some (ev_var (mem_at 0 rfl))) (by omega)) (congrArg D.nstr (piece_to _ _))) rfl .nil) (ih _ r1)) rfl
            (.cons (ev_call (ev_glob (kd_glob hsc (by kernel_rfl!)) (fun P => by kernel_rfl!)) (FnAt.kp fx_law_brackets) (.cons (Ev.cast (d' := .nstr (l.drop (brkSize l))) (ev_slN (ev_var (mem_at 2 rfl)) (.some (ev_var (mem_at 0 rfl))) .none (by omega)) (congrArg D.nstr (piece_from _ _))) rfl .nil) (ih _ r2)) rfl .nil)) (by show 2 ≤ 1000000; decide))
          (asg_pair (.inl rfl) (by kernel_rfl!) (by kernel_rfl!) (pick_sub (is := [1, 2])) (by kernel_rfl!) (by kernel_rfl!)) rfl (swS hsc fun e => by kernel_rfl!) fun h₄ tk₄ S₄ sp₄ kd₄ g₄ => ?_
        generalize brk n (l.take (brkSize l)) = ones at S₄ sm1 hbrk
        generalize brk n (l.drop (brkSize l)) = others at S₄ sm2 hbrk
        have S₄' : St B env [("others", .list (others.map ent)), ("ones", .list (ones.map ent)), ("parts", .tks (cut l)), ("word", .nstr l)] s₀ h₄ tk₄ := S₄
        have hn1 := small_len sm1
        have hn2 := small_len sm2
        have hpl : ∀ f, (prod f ones others).length ≤ 40000 := fun f => by
          rw [prod_len]
          exact Nat.le_trans (Nat.mul_le_mul hn1 hn2) (by decide)
        refine run_assignCN (os := (prod fAB ones others).map pr2) (ρ := pick _ [0, 1, 2]) F S₄' [("others", .list (others.map ent))] ["a", "m", "b", "n"] ⟨by kernel_rfl!, by kernel_rfl!, by rw [hsc]; kernel_rfl!, by kernel_rfl!, by kernel_rfl!, fun e m => by rw [List.mem_singleton.mp m]; exact mem_at 0 rfl⟩ (ev_var (mem_at 1 rfl)) rfl trivial
          (fun g' m => by
            rcases List.mem_cons.mp m with e | m
            · rw [e]; exact ⟨rfl, fun _ _ => rfl⟩
            · rw [List.mem_singleton.mp m]; exact ⟨rfl, fun _ _ => rfl⟩)
          (fun cenv ok hcs => turns_prod (by kernel_rfl!) (by kernel_rfl!) (by kernel_rfl!) (by kernel_rfl!) (by kernel_rfl!) (fun p => by kernel_rfl!) (fun p => by kernel_rfl!) (fun p q => by kernel_rfl!) (fun p => ev_var (mem_at 2 rfl)) fun p mp q mq => ?_)
          (by rw [List.length_map]; have := hpl fAB; omega) pick_sub (by kernel_rfl!) (by kernel_rfl!) ?_ fun a vs h₅ tk₅ na s0a acc₅ hv₅ S₅ => ?_
        · have bp := small_at sm1 mp
          have bq := small_at sm2 mq
          exact ev_tuple (.cons (ev_call (ev_glob (kd_globC hcs (by kernel_rfl!)) (fun P => by kernel_rfl!)) (FnAt.kp fx_concat) (.cons (ev_var (mem_at 3 rfl)) rfl (.cons (ev_var (mem_at 1 rfl)) rfl .nil)) ((fn_concat (k := 0) (by omega)).mono (by omega))) rfl
            (.cons (ev_call (ev_glob (kd_globC hcs (by kernel_rfl!)) (fun P => by kernel_rfl!)) (FnAt.kp fx_mul) (.cons (ev_var (mem_at 2 rfl)) rfl (.cons (ev_var (mem_at 0 rfl)) rfl .nil)) ((fn_mul (k := 0) (mul_ok bp.1)).mono (by omega))) rfl .nil)) (by show 2 ≤ 1000000; decide)
        · exact swW hsc fun e => by kernel_rfl!
        · have hF := F.add a
          have aB : a ∉ B := fun m => al_ne (S₄'.bd _ m) na rfl
          refine name_rest fun rest hr => ?_
          have tail : ∀ h₆ tk₆ (vs' : List Value) (ps : Sh), St (a :: B) env [("pairs", .val (.ref a))] s₀ h₆ tk₆ → h₆.PlainList a vs'.toArray → HasAll (a :: B) h₆ vs' (ps.map pr2) → ps.length ≤ 100000 → brk (n + 1) l = gath ps → Run w A env rest Q E (stAt s₀ h₆ tk₆) := by
            intro h₆ tk₆ vs' ps S₆ acc₆ hv₆ hl hps
            subst hr
            have Sv := (S₆.sub (B := B) fun b m => .tail _ m).view (mem_at 0 rfl) (.list aB acc₆ (hv₆.sub fun b m => .tail _ m))
            refine run_ret F Sv (ev_call (ev_glob (kd_glob hsc (by kernel_rfl!)) (fun P => by kernel_rfl!)) (FnAt.kp fx_law_gathered) (.cons (ev_var (mem_at 0 rfl)) rfl .nil) ((fn_gathered (k := 0) hl).mono (by omega))) fun v h' tk' u g hd => q _ h' tk' u g ?_
            rw [hps]; exact hd
          refine run_if (c := (cut l).length == 1) hF S₅ (ts_cmp (ev_call (ev_built (kd_glob hsc (by kernel_rfl!)) (fun P => by kernel_rfl!) (by kernel_rfl!)) kp_builtin (.cons (ev_var (mem_at 3 rfl)) rfl .nil) (fn_lenT (by omega))) (ev_nat (n := 1)) cp_eqN) fun h₆ tk₆ S₆ u₆ g₆ => ?_
          have acc₆ : h₆.PlainList a vs.toArray := by obtain ⟨n, e⟩ := acc₅; exact ⟨n, u₆ _ _ e⟩
          have hv₆ := hv₅.le u₆
          by_cases hc1 : (cut l).length = 1
          · rw [show ((cut l).length == 1) = true by simpa using hc1]
            rw [if_pos hc1] at hbrk
            refine wpAny_execs_cons (wpAny_Expr_any (method_call (ov := .ref a) (ds := [.list ((prod fBA ones others).map pr2)]) (S₆.pre hF) (ev_var (mem_at 0 rfl)) (.cons (ev_comp (σc := [("others", .list (others.map ent))]) (N := ["a", "m", "b", "n"]) ⟨by kernel_rfl!, by kernel_rfl!, by rw [hsc]; kernel_rfl!, by kernel_rfl!, by kernel_rfl!, fun e m => by rw [List.mem_singleton.mp m]; exact mem_at 1 rfl⟩ (ev_var (mem_at 2 rfl)) rfl trivial
              (fun g' m => by
                rcases List.mem_cons.mp m with e | m
                · rw [e]; exact ⟨rfl, fun _ _ => rfl⟩
                · rw [List.mem_singleton.mp m]; exact ⟨rfl, fun _ _ => rfl⟩)
              (fun cenv ok hcs => turns_prod (by kernel_rfl!) (by kernel_rfl!) (by kernel_rfl!) (by kernel_rfl!) (by kernel_rfl!) (fun p => by kernel_rfl!) (fun p => by kernel_rfl!) (fun p q => by kernel_rfl!) (fun p => ev_var (mem_at 2 rfl)) fun p mp q mq => ?_) (by rw [List.length_map]; have := hpl fBA; omega)) rfl .nil)
              acc₆.isList.typeIs (fun b e => by cases e; obtain ⟨m, e⟩ := acc₆; exact ⟨_, e, rfl⟩) PySem.F.plainAttrs_list PySem.F.slot_list_extend ty_extend (fun vs' h₇ tk₇ u₇ g₇ hw => ?_) rfl rfl rfl) (inter_no F.ok.kind) rfl)
            · have bp := small_at sm1 mp
              have bq := small_at sm2 mq
              exact ev_tuple (.cons (ev_call (ev_glob (kd_globC hcs (by kernel_rfl!)) (fun P => by kernel_rfl!)) (FnAt.kp fx_concat) (.cons (ev_var (mem_at 1 rfl)) rfl (.cons (ev_var (mem_at 3 rfl)) rfl .nil)) ((fn_concat (k := 0) (by omega)).mono (by omega))) rfl
                (.cons (ev_call (ev_glob (kd_globC hcs (by kernel_rfl!)) (fun P => by kernel_rfl!)) (FnAt.kp fx_neg) (.cons (ev_call (ev_glob (kd_globC hcs (by kernel_rfl!)) (fun P => by kernel_rfl!)) (FnAt.kp fx_mul) (.cons (ev_var (mem_at 2 rfl)) rfl (.cons (ev_var (mem_at 0 rfl)) rfl .nil)) ((fn_mul (k := 0) (mul_ok bp.1)).mono (by omega))) rfl .nil) ((fn_neg (k := 0)).mono (by omega))) rfl .nil)) (by show 2 ≤ 1000000; decide)
            · obtain ⟨v, rfl, hv⟩ := hasAll_one hw
              cases hv with
              | @list b ws _ nb accb hws =>
                have acc₇ : h₇.PlainList a vs.toArray := by obtain ⟨n, e⟩ := acc₆; exact ⟨n, u₇ _ _ e⟩
                have hv₇ := hv₆.le u₇
                have l1 := hv₇.length
                have l2 := hws.length
                rw [List.length_map] at l1 l2
                have p1 := hpl fAB
                have p2 := hpl fBA
                refine list_extend (s := stAt s₀ h₇ tk₇) acc₇ accb (by omega) fun h₈ acc₈ sb₈ => run_nil ?_
                have S₇ : St (a :: B) env [("pairs", .val (.ref a))] s₀ h₇ tk₇ := (S₆.up u₇ g₇).pick [0]
                have nm := it_ne_ns S₇ (plain_nm acc₇)
                have S₈ := S₇.but (.head _) sb₈.extBut nm.1 nm.2 s0a (by obtain ⟨n, e⟩ := acc₈; exact ⟨_, e⟩) (Nat.le_refl _)
                refine tail h₈ tk₇ (vs ++ ws) (prod fAB ones others ++ prod fBA ones others) S₈ acc₈ ?_ (by rw [List.length_append]; omega) hbrk
                rw [List.map_append]
                exact (hv₇.append hws).sp (sp_own (.head _) sb₈.extBut)
          · rw [show ((cut l).length == 1) = false by simpa using hc1]
            rw [if_neg hc1, List.append_nil] at hbrk
            exact run_nil (tail h₆ tk₆ vs _ (S₆.pick [0]) acc₆ hv₆ (by have := hpl fAB; omega) hbrk)
    show Fn w (k + 10 + n + 1) _ _ _ _ _
    exact fn_of (w := w) (N := brkN) (ns := ["word"]) (fun P => (fx_law_brackets P).to) bd (fun P vs e => by match vs, e with | [u], _ => kernel_rfl!) (by decide) rfl (by kernel_rfl!) (fun L => by kernel_rfl!) ⟨by kernel_rfl!, by kernel_rfl!, by kernel_rfl!⟩
end
end Mine

set_option maxRecDepth 100000
set_option linter.unusedVariables false
namespace Mine
open PySem PySem.W PyProof.Rows

noncomputable def ways : Nat → List Nat → List Nat → List (List Nat)
  | 0, _, _ => []
  | n + 1, x, y => if x = [] ∨ y = [] then [x ++ y] else (ways n (x.drop 1) y).map (x.getD 0 0 :: ·) ++ (ways n x (y.drop 1)).map (y.getD 0 0 :: ·)
theorem ways_len : ∀ (n : Nat) (x y : List Nat), (ways n x y).length ≤ 2 ^ n
  | 0, _, _ => by simp [ways]
  | n + 1, x, y => by
      rw [ways]
      split
      · simp; exact Nat.pos_of_ne_zero (by simp)
      · rw [List.length_append, List.length_map, List.length_map, Nat.pow_succ]
        have := ways_len n (x.drop 1) y
        have := ways_len n x (y.drop 1)
        omega
theorem ways_each : ∀ (n : Nat) (x y : List Nat), ∀ z ∈ ways n x y, z.length = x.length + y.length
  | 0, _, _, z, m => by cases m
  | n + 1, x, y, z, m => by
      rw [ways] at m
      split at m
      · rw [List.mem_singleton.mp m, List.length_append]
      · rename_i hn
        have h1 : x ≠ [] := fun e => hn (.inl e)
        have h2 : y ≠ [] := fun e => hn (.inr e)
        have p1 := List.length_pos_iff.mpr h1
        have p2 := List.length_pos_iff.mpr h2
        rcases List.mem_append.mp m with m | m
        · obtain ⟨t, mt, rfl⟩ := List.mem_map.mp m
          have := ways_each n _ _ t mt
          rw [List.length_drop] at this
          rw [List.length_cons]; omega
        · obtain ⟨t, mt, rfl⟩ := List.mem_map.mp m
          have := ways_each n _ _ t mt
          rw [List.length_drop] at this
          rw [List.length_cons]; omega

section
variable {w : World} {k : Nat} {A : Around} {B : List Addr} {env : Env} {N : List Str} {σ : Sg} {s₀ s : Shared} {h : Heap} {tk : Nat} {E : Value → Shared → Prop}
theorem turns_str {a : Str} {pa : Pos} {it elt : Expr} {xs : List (List Nat)} {f : List Nat → List Nat} (h1 : N.contains a = true) (x1 : (σ.all fun e => e.1 != a) = true)
    (evE : ∀ p ∈ xs, EvE w k env ((a, .str p) :: σ) elt (.str (f p))) : Turns w k env N (Emit w k env N elt []) ⟨.Name a pa, it, [], 0⟩ σ (xs.map .str) ((xs.map f).map .str) := by
  refine turns_of (fun i => [.str (f (xs.getD i []))]) ?_ fun i di hd => ?_
  · rw [flat_one, List.length_map, List.map_map]
    exact range_getD [] (fun p => D.str (f p)) xs
  · obtain ⟨p, hp, rfl⟩ := map_at hd
    rw [getD_of hp]
    exact ⟨(a, .str p) :: σ, true, asg_name h1 (fun e m => m) x1, fun e m => .tail _ m, rfl, fun _ => emit_one (evE p (List.mem_of_getElem? hp)), fun e => by cases e⟩

set_option maxHeartbeats 1000000 in
theorem fn_ways : ∀ (n : Nat) (x y : List Nat), x.length + y.length < n → n ≤ 12 → Fn w (k + 2 + n) (.ref 202) [.str x, .str y] [] [] (.list ((ways n x y).map .str)) := by
  intro n
  induction n with
  | zero => intro x y h; omega
  | succ n ih =>
    intro x y hn h12
    have bd : Bd w (k + 2 + n) 25 ["one", "other"] [("one", .str x), ("other", .str y)] (.list ((ways (n + 1) x y).map .str)) := by
      intro A B env s₀ h tk E Q hsc F S q
      generalize hb : fnBody 25 = b
      with_unfolding_all conv at hb => lhs; whnf
      subst hb
      refine run_if (c := x == [] || y == []) F S (ts_or (b := x == []) (ts_cmp (ev_var (mem_at 0 rfl)) (ev_str (l := []) (by kernel_rfl!)) cp_eqS) (fun e => by rw [e, Bool.false_or]; exact ts_cmp (ev_var (mem_at 1 rfl)) (ev_str (l := []) (by kernel_rfl!)) cp_eqS) (fun e => by rw [e]; rfl)) fun h₁ tk₁ S₁ u₁ g₁ => ?_
      by_cases h1 : x = [] ∨ y = []
      · rw [show (x == [] || y == []) = true by simpa using h1]
        refine run_ret F S₁ (ev_list (ds := [D.str (x ++ y)]) (.cons (ev_bin (ev_var (mem_at 0 rfl)) (ev_var (mem_at 1 rfl)) (op_addS (by omega))) rfl .nil) (by show 1 ≤ 1000000; decide)) fun v h' tk' u g hv => q _ h' tk' u g ?_
        rw [ways, if_pos h1]
        exact hv
      · rw [show (x == [] || y == []) = false by simpa using h1]
        have nx : x ≠ [] := fun e => h1 (.inl e)
        have ny : y ≠ [] := fun e => h1 (.inr e)
        have p1 := List.length_pos_iff.mpr nx
        have p2 := List.length_pos_iff.mpr ny
        have b1 := ways_len n (x.drop 1) y
        have b2 := ways_len n x (y.drop 1)
        have b3 : 2 ^ n ≤ 2 ^ 12 := Nat.pow_le_pow_right (by decide) (by omega)
        have e1 := ways_each n (x.drop 1) y
        have e2 := ways_each n x (y.drop 1)
        rw [List.length_drop] at e1 e2
        refine run_nil (run_ret F S₁ (d := .list ((ways (n + 1) x y).map .str)) ?_ fun v h' tk' u g hv => q _ h' tk' u g hv)
        rw [ways, if_neg h1, List.map_append]
        refine ev_bin (ev_comp (σc := [("one", .str x)]) (N := ["rest"]) ⟨by kernel_rfl!, by kernel_rfl!, by rw [hsc]; kernel_rfl!, by kernel_rfl!, by kernel_rfl!, fun e m => by rw [List.mem_singleton.mp m]; exact mem_at 0 rfl⟩
            (ev_call (ev_glob (kd_glob hsc (by kernel_rfl!)) (fun P => by kernel_rfl!)) (FnAt.kp fx_law_ways) (.cons (Ev.cast (d' := .str (x.drop 1)) (ev_slS (ev_var (mem_at 0 rfl)) (.some (ev_nat (n := 1))) .none (by omega)) (congrArg D.str (piece_from _ _))) rfl (.cons (ev_var (mem_at 1 rfl)) rfl .nil)) (ih _ _ (by rw [List.length_drop]; omega) (by omega))) rfl trivial
            (fun g' m => by rw [List.mem_singleton.mp m]; exact ⟨rfl, fun _ _ => rfl⟩)
            (fun cenv ok hcs => turns_str (by kernel_rfl!) (by kernel_rfl!) fun p mp => ev_bin (ev_weak (ev_sub (ev_var (mem_at 1 rfl)) (ev_nat (n := 0)) (gi_strN p1 (by omega)))) (ev_var (mem_at 0 rfl)) (op_addS (by have := e1 p mp; show 1 + p.length ≤ 1000000; omega)))
            (by rw [List.length_map, List.length_map]; omega))
          (ev_comp (σc := [("other", .str y)]) (N := ["rest"]) ⟨by kernel_rfl!, by kernel_rfl!, by rw [hsc]; kernel_rfl!, by kernel_rfl!, by kernel_rfl!, fun e m => by rw [List.mem_singleton.mp m]; exact mem_at 1 rfl⟩
            (ev_call (ev_glob (kd_glob hsc (by kernel_rfl!)) (fun P => by kernel_rfl!)) (FnAt.kp fx_law_ways) (.cons (ev_var (mem_at 0 rfl)) rfl (.cons (Ev.cast (d' := .str (y.drop 1)) (ev_slS (ev_var (mem_at 1 rfl)) (.some (ev_nat (n := 1))) .none (by omega)) (congrArg D.str (piece_from _ _))) rfl .nil)) (ih _ _ (by rw [List.length_drop]; omega) (by omega))) rfl trivial
            (fun g' m => by rw [List.mem_singleton.mp m]; exact ⟨rfl, fun _ _ => rfl⟩)
            (fun cenv ok hcs => turns_str (by kernel_rfl!) (by kernel_rfl!) fun p mp => ev_bin (ev_weak (ev_sub (ev_var (mem_at 1 rfl)) (ev_nat (n := 0)) (gi_strN p2 (by omega)))) (ev_var (mem_at 0 rfl)) (op_addS (by have := e2 p mp; show 1 + p.length ≤ 1000000; omega)))
            (by rw [List.length_map, List.length_map]; omega)) (op_addL (by rw [List.length_map, List.length_map, List.length_map, List.length_map]; omega))
    show Fn w (k + 2 + n + 1) _ _ _ _ _
    exact fn_of (w := w) (N := ["one", "other"]) (ns := ["one", "other"]) (fun P => (fx_law_ways P).to) bd (fun P vs e => by match vs, e with | [u, v], _ => kernel_rfl!) (by decide) rfl (by kernel_rfl!) (fun L => by kernel_rfl!) ⟨by kernel_rfl!, by kernel_rfl!, by kernel_rfl!⟩
end
end Mine

set_option maxRecDepth 100000
set_option linter.unusedVariables false
namespace Mine
open PySem PySem.W PyProof.Rows

noncomputable def prod3 (xs ys : Sh) : Sh := xs.flatMap fun p => ys.flatMap fun q => (ways 12 p.1 q.1).map fun z => (z, p.2 * q.2)
noncomputable def told (f : List Nat → Sh) (parts : List (List Nat)) : Nat → Sh
  | 0 => [([], 1)]
  | i + 1 => gath (prod3 (told f parts i) (f (parts.getD i [])))
noncomputable def timesOf (parts : List (List Nat)) : Nat → Nat
  | 0 => 1
  | i + 1 => timesOf parts i * (parts.take (i + 1)).count (parts.getD i [])
noncomputable def shareOf (t : Int) (sh : Sh) : Sh := sh.map fun p => (p.1, (p.2 + t - 1).fdiv t)
noncomputable def belowOf (t : Int) (sh : Sh) : Sh := sh.map fun p => (p.1, -((t - 1 - p.2).fdiv t))
noncomputable def backOf (t : Int) (sh : Sh) : Sh := sh.map fun p => (p.1, p.2 * t)
noncomputable def shf : Nat → List Nat → Sh
  | 0, _ => []
  | n + 1, l => if (cut l).length = 1 then (shf n (l.drop 1)).map fun p => (l.getD 0 0 :: p.1, p.2)
    else shareOf (timesOf (cut l) (cut l).length : Nat) (told (shf n) (cut l) (cut l).length)
noncomputable def valid (sh : Sh) : Bool := sh.all fun p => p.1.all fun c => decide (c < 0x110000)
noncomputable def stepOk (ok : List Nat → Bool) (f : List Nat → Sh) (parts : List (List Nat)) (i : Nat) : Bool :=
  ok (parts.getD i []) && (small (told f parts i) && small (f (parts.getD i []))) && decide ((prod3 (told f parts i) (f (parts.getD i []))).length ≤ 100000) && decide (timesOf parts i ≤ 1000)
noncomputable def endOk (t : Nat) (sh : Sh) : Bool := small sh && valid sh && valid (shareOf t sh) && decide (0 < t ∧ t ≤ 1000) && decide (backOf t (shareOf t sh) = sh ∧ belowOf t sh = shareOf t sh) && small (shareOf t sh)
noncomputable def shfOk : Nat → List Nat → Bool
  | 0, _ => false
  | n + 1, l => decide (l.length ≤ 5 ∧ (cut l).length ≤ 5) && if (cut l).length = 1 then decide (1 ≤ l.length) && shfOk n (l.drop 1) && small (shf n (l.drop 1))
    else (List.range (cut l).length).all (stepOk (shfOk n) (shf n) (cut l)) && endOk (timesOf (cut l) (cut l).length) (told (shf n) (cut l) (cut l).length)

theorem pys_ents : ∀ sh : Sh, D.pys (sh.map ent) = some (sh.map fun p => .list [.str ⟨p.1.toArray⟩, .int p.2])
  | [] => rfl
  | p :: sh => by rw [List.map_cons, D.pys, pys_ents sh]; rfl
theorem py_ents (sh : Sh) : (D.list (sh.map ent)).py = some (.list (sh.map fun p => .list [.str ⟨p.1.toArray⟩, .int p.2])) := by
  rw [D.py, pys_ents]; rfl
theorem strOk_of {l : List Nat} (h : (l.all fun c => decide (c < 0x110000)) = true) : PyData.strOk ⟨l.toArray⟩ = true := by
  unfold PyData.strOk; simpa using h
theorem shaped_ents {sh : Sh} (h : valid sh = true) : SeqAt.shaped (.list (sh.map fun p => .list [.str ⟨p.1.toArray⟩, .int p.2])) = true := shaped_list (n := 1) (fun x m => by
  obtain ⟨p, mp, rfl⟩ := List.mem_map.mp m
  have hs := strOk_of (List.all_eq_true.mp h p mp)
  refine ⟨?_, ?_⟩
  · simp only [PyData.canLay0, PyData.canLayAll0, hs, Bool.and_true]
  · simp [PyData.depth, PyData.depthAll]) (by decide)

section
variable {w : World} {k : Nat} {A : Around} {B : List Addr} {env : Env} {N : List Str} {σ : Sg} {s₀ s : Shared} {h : Heap} {tk : Nat} {E : Value → Shared → Prop}
theorem turns_ent {a m : Str} {pa pm pt : Pos} {ka : Nat} {it elt : Expr} {xs : Sh} {f : (List Nat × Int) → (List Nat × Int)} (h1 : N.contains a = true) (h2 : N.contains m = true)
    (x1 : (σ.all fun e => e.1 != a) = true) (x2 : ∀ p : List Nat × Int, (((a, D.str p.1) :: σ).all fun e => e.1 != m) = true)
    (evE : ∀ p ∈ xs, EvE w k env ((m, .int p.2) :: (a, .str p.1) :: σ) elt (ent (f p))) : Turns w k env N (Emit w k env N elt []) ⟨.Tuple [.Name a pa, .Name m pm] ka pt, it, [], 0⟩ σ (xs.map ent) ((xs.map f).map ent) := by
  refine turns_of (fun i => [ent (f (xs.getD i ([], 0)))]) ?_ fun i di hd => ?_
  · rw [flat_one, List.length_map, List.map_map]
    exact range_getD ([], 0) (fun p => ent (f p)) xs
  · obtain ⟨p, hp, rfl⟩ := map_at hd
    rw [getD_of hp]
    exact ⟨(m, .int p.2) :: (a, .str p.1) :: σ, true, asg_pair (.inr rfl) h1 h2 (fun e m => m) x1 (x2 p), fun e m => .tail _ (.tail _ m), rfl, fun _ => emit_one (evE p (List.mem_of_getElem? hp)), fun e => by cases e⟩
theorem turns_prod3 {a m b n z : Str} {pa pm pb pn pt pt' pz : Pos} {ka kb : Nat} {it it' it'' elt : Expr} {xs ys : Sh} (h1 : N.contains a = true) (h2 : N.contains m = true) (h3 : N.contains b = true) (h4 : N.contains n = true) (h5 : N.contains z = true)
    (x1 : (σ.all fun e => e.1 != a) = true) (x2 : ∀ p : List Nat × Int, (((a, D.str p.1) :: σ).all fun e => e.1 != m) = true) (x3 : ∀ p : List Nat × Int, (((m, D.int p.2) :: (a, .str p.1) :: σ).all fun e => e.1 != b) = true) (x4 : ∀ p q : List Nat × Int, (((b, D.str q.1) :: (m, .int p.2) :: (a, .str p.1) :: σ).all fun e => e.1 != n) = true)
    (x5 : ∀ p q : List Nat × Int, (((n, D.int q.2) :: (b, D.str q.1) :: (m, .int p.2) :: (a, .str p.1) :: σ).all fun e => e.1 != z) = true)
    (ev' : ∀ p : List Nat × Int, EvE w k env ((m, .int p.2) :: (a, .str p.1) :: σ) it' (.list (ys.map ent)))
    (ev'' : ∀ p ∈ xs, ∀ q ∈ ys, EvE w k env ((n, .int q.2) :: (b, .str q.1) :: (m, .int p.2) :: (a, .str p.1) :: σ) it'' (.list ((ways 12 p.1 q.1).map .str)))
    (evE : ∀ p ∈ xs, ∀ q ∈ ys, ∀ y, EvE w k env ((z, .str y) :: (n, .int q.2) :: (b, .str q.1) :: (m, .int p.2) :: (a, .str p.1) :: σ) elt (pr2 (y, p.2 * q.2))) :
    Turns w k env N (Emit w k env N elt [⟨.Tuple [.Name b pb, .Name n pn] kb pt', it', [], 0⟩, ⟨.Name z pz, it'', [], 0⟩]) ⟨.Tuple [.Name a pa, .Name m pm] ka pt, it, [], 0⟩ σ (xs.map ent) ((prod3 xs ys).map pr2) := by
  refine turns_of (fun i => ys.flatMap fun q => (ways 12 (xs.getD i ([], 0)).1 q.1).map fun z => pr2 (z, (xs.getD i ([], 0)).2 * q.2)) ?_ fun i di hd => ?_
  · unfold prod3
    rw [List.map_flatMap, flatMap_range ([], 0), List.length_map]
    congr 1
    apply List.map_congr_left
    intro i _
    rw [List.map_flatMap]
    congr 1
    funext q
    rw [List.map_map]; rfl
  · obtain ⟨p, hp, rfl⟩ := map_at hd
    rw [getD_of hp]
    have mp := List.mem_of_getElem? hp
    refine ⟨(m, .int p.2) :: (a, .str p.1) :: σ, true, asg_pair (.inr rfl) h1 h2 (fun e m => m) x1 (x2 p), fun e m => .tail _ (.tail _ m), rfl, fun _ => ?_, fun e => by cases e⟩
    refine ⟨.list (ys.map ent), ys.map ent, ev' p, rfl, trivial, ?_⟩
    refine turns_of (fun j => (ways 12 p.1 (ys.getD j ([], 0)).1).map fun z => pr2 (z, p.2 * (ys.getD j ([], 0)).2)) ?_ fun j dj hdj => ?_
    · rw [flatMap_range ([], 0), List.length_map]
    · obtain ⟨q, hq, rfl⟩ := map_at hdj
      rw [getD_of hq]
      have mq := List.mem_of_getElem? hq
      refine ⟨(n, .int q.2) :: (b, .str q.1) :: (m, .int p.2) :: (a, .str p.1) :: σ, true, asg_pair (.inr rfl) h3 h4 (fun e m => m) (x3 p) (x4 p q), fun e m => .tail _ (.tail _ m), rfl, fun _ => ?_, fun e => by cases e⟩
      refine ⟨.list ((ways 12 p.1 q.1).map .str), (ways 12 p.1 q.1).map .str, ev'' p mp q mq, rfl, trivial, ?_⟩
      refine turns_of (fun l => [pr2 ((ways 12 p.1 q.1).getD l [], p.2 * q.2)]) ?_ fun l dl hdl => ?_
      · rw [flat_one, List.length_map]
        exact range_getD [] (fun z => pr2 (z, p.2 * q.2)) (ways 12 p.1 q.1)
      · obtain ⟨y, hy, rfl⟩ := map_at hdl
        rw [getD_of hy]
        exact ⟨(z, .str y) :: (n, .int q.2) :: (b, .str q.1) :: (m, .int p.2) :: (a, .str p.1) :: σ, true, asg_name h5 (fun e m => m) (x5 p q), fun e m => .tail _ m, rfl, fun _ => emit_one (evE p mp q mq y), fun e => by cases e⟩
theorem pick_take {α : Type} (xs : List α) (b : Nat) : pickL xs none (some (b : Int)) none = xs.take b := by rw [pickL_plain, piece_to]
end
end Mine

set_option maxRecDepth 100000
set_option linter.unusedVariables false
namespace Mine
open PySem PySem.W PyProof.Rows
section
variable {w : World} {k : Nat} {A : Around} {B : List Addr} {env : Env} {N : List Str} {σ : Sg} {s₀ s : Shared} {h : Heap} {tk : Nat} {E : Value → Shared → Prop}

noncomputable def shfN : List Str := ["parts", "told", "times", "k", "part", "shared", "below", "word"]
set_option maxHeartbeats 2000000 in
theorem fn_shuffles : ∀ (n : Nat) (l : List Nat), shfOk n l = true → Fn w (k + 20 + n) (.ref 207) [.nstr l] [] [] (.list ((shf n l).map ent)) := by
  intro n
  induction n with
  | zero => intro l h; cases h
  | succ n ih =>
    intro l ok
    have bd : Bd w (k + 20 + n) 26 shfN [("word", .nstr l)] (.list ((shf (n + 1) l).map ent)) := by
      intro A B env s₀ h tk E Q hsc F S q
      generalize hb : fnBody 26 = b
      with_unfolding_all conv at hb => lhs; whnf
      subst hb
      rw [shfOk, Bool.and_eq_true, decide_eq_true_eq] at ok
      obtain ⟨⟨ok1, ok2⟩, ok⟩ := ok
      refine run_assign (d := .tks (cut l)) (ρ := [("word", .nstr l)]) F S (ev_call (ev_glob (kd_glob hsc (by kernel_rfl!)) (fun P => by kernel_rfl!)) (FnAt.kp fx_law_cut) (.cons (ev_var (mem_at 0 rfl)) rfl .nil) ((fn_cut (k := 0) (by omega)).mono (by omega))) (fun e m => m) (by kernel_rfl!) (by kernel_rfl!) rfl fun h₁ tk₁ S₁ sp₁ kd₁ g₁ => ?_
      refine run_if (c := (cut l).length == 1) F S₁ (ts_cmp (ev_call (ev_built (kd_glob hsc (by kernel_rfl!)) (fun P => by kernel_rfl!) (by kernel_rfl!)) kp_builtin (.cons (ev_var (mem_at 0 rfl)) rfl .nil) (fn_lenT (by omega))) (ev_nat (n := 1)) cp_eqN) fun h₂ tk₂ S₂ u₂ g₂ => ?_
      by_cases h1 : (cut l).length = 1
      · rw [show ((cut l).length == 1) = true by simpa using h1]
        rw [if_pos h1] at ok
        simp only [Bool.and_eq_true, decide_eq_true_eq] at ok
        obtain ⟨⟨o1, o2⟩, o3⟩ := ok
        have hl3 := small_len o3
        have hsh : shf (n + 1) l = (shf n (l.drop 1)).map fun p => (l.getD 0 0 :: p.1, p.2) := by rw [shf, if_pos h1]
        refine run_ret F S₂ (d := .list ((shf (n + 1) l).map ent)) ?_ fun v h' tk' u g hv => q _ h' tk' u g hv
        rw [hsh]
        refine ev_comp (σc := [("word", .nstr l)]) (N := ["rest", "number"]) ⟨by kernel_rfl!, by kernel_rfl!, by rw [hsc]; kernel_rfl!, by kernel_rfl!, by kernel_rfl!, fun e m => by rw [List.mem_singleton.mp m]; exact mem_at 1 rfl⟩
            (ev_call (ev_glob (kd_glob hsc (by kernel_rfl!)) (fun P => by kernel_rfl!)) (FnAt.kp fx_law_shuffles) (.cons (Ev.cast (d' := .nstr (l.drop 1)) (ev_slN (ev_var (mem_at 1 rfl)) (.some (ev_nat (n := 1))) .none (by omega)) (congrArg D.nstr (piece_from _ _))) rfl .nil) (ih _ o2)) rfl trivial
            (fun g' m => by rw [List.mem_singleton.mp m]; exact ⟨rfl, fun _ _ => rfl⟩)
            (fun cenv ok hcs => turns_ent (by kernel_rfl!) (by kernel_rfl!) (by kernel_rfl!) (fun p => by kernel_rfl!) fun p mp => ?_) (by rw [List.length_map, List.length_map]; omega)
        have bp := small_at o3 mp
        exact ev_list (.cons (ev_call (ev_glob (kd_globC hcs (by kernel_rfl!)) (fun P => by kernel_rfl!)) (FnAt.kp fx_concat) (.cons (ev_weak (ev_sub (ev_var (mem_at 2 rfl)) (ev_nat (n := 0)) (gi_nstr (c := l.getD 0 0) (by decide) (by rw [show ((0 : Nat) : Int) = ((0 : Nat) : Int) from rfl, seqIndex_nat (by omega)]; show l[0]? = _; rw [List.getD_eq_getElem?_getD, List.getElem?_eq_getElem (by omega)]; rfl)))) rfl (.cons (ev_var (mem_at 1 rfl)) rfl .nil)) ((fn_concat (k := 0) (by show 1 + _ ≤ 1000000; omega)).mono (by omega))) rfl (.cons (ev_var (mem_at 0 rfl)) rfl .nil)) (by show 2 ≤ 1000000; decide)
      · rw [show ((cut l).length == 1) = false by simpa using h1]
        rw [if_neg h1, Bool.and_eq_true] at ok
        obtain ⟨oks, oke⟩ := ok
        have hsh : shf (n + 1) l = shareOf (timesOf (cut l) (cut l).length : Nat) (told (shf n) (cut l) (cut l).length) := by rw [shf, if_neg h1]
        refine run_nil ?_
        obtain ⟨vs, tko, ⟨hvl, hvt⟩, Sv⟩ := S₂.vals (mem_at 0 rfl)
        generalize hp : cut l = parts at *
        refine run_assign (d := .list ((told (shf n) parts 0).map ent)) (ρ := pick _ [0, 1]) F Sv (ev_list (ds := [ent ([], 1)]) (.cons (ev_list (.cons (ev_str (by kernel_rfl!)) rfl (.cons ev_int rfl .nil)) (by show 2 ≤ 1000000; decide)) rfl .nil) (by show 1 ≤ 1000000; decide)) pick_sub (by kernel_rfl!) (by kernel_rfl!) rfl fun h₃ tk₃ S₃ sp₃ kd₃ g₃ => ?_
        refine run_assign (d := .int (timesOf parts 0 : Nat)) (ρ := [("told", .list ((told (shf n) parts 0).map ent)), ("parts", .list (vs.map .val)), ("parts", .tks parts)]) F S₃ ev_int (fun e m => m) (by kernel_rfl!) (by kernel_rfl!) rfl fun h₄ tk₄ S₄ sp₄ kd₄ g₄ => ?_
        let σI : Nat → Sg := fun i => [("times", .int (timesOf parts i : Nat)), ("told", .list ((told (shf n) parts i).map ent)), ("parts", .list (vs.map .val)), ("parts", .tks parts)]
        refine run_for (σI := σI) (τI := fun i => ("k", .int (i : Nat)) :: σI i) F S₄ (ev_call (ev_built (kd_glob hsc (by kernel_rfl!)) (fun P => by kernel_rfl!) (by kernel_rfl!)) kp_type (.cons (ev_call (ev_built (kd_glob hsc (by kernel_rfl!)) (fun P => by kernel_rfl!) (by kernel_rfl!)) kp_builtin (.cons (ev_var (mem_at 3 rfl)) rfl .nil) (fn_lenT (by omega))) rfl .nil) fn_range1) rfl ⟨by decide, by decide, by omega, by omega⟩ (fun e m => m) (fun i di hd => ?_) ?_ ?_
        · obtain ⟨hi, rfl⟩ := range_at hd
          rw [Int.zero_add]
          exact asg_name (by kernel_rfl!) (fun e m => m) (by kernel_rfl!)
        · intro i di B' h₅ tk₅ E' hd sub F' S₅
          obtain ⟨hi, rfl⟩ := range_at hd
          have hi : i < parts.length := by omega
          have oki := List.all_eq_true.mp oks i (List.mem_range.mpr hi)
          unfold stepOk at oki
          simp only [Bool.and_eq_true, decide_eq_true_eq] at oki
          obtain ⟨⟨⟨r1, sm1, sm2⟩, p3⟩, tm⟩ := oki
          have hpk : parts[i]? = some (parts.getD i []) := by rw [List.getD_eq_getElem?_getD, List.getElem?_eq_getElem hi]; rfl
          refine run_assign (d := .list ((shf n (parts.getD i [])).map ent)) (ρ := ("k", .int (i : Nat)) :: σI i) F' S₅ (ev_call (ev_glob (kd_glob hsc (by kernel_rfl!)) (fun P => by kernel_rfl!)) (FnAt.kp fx_law_shuffles) (.cons (ev_sub (ev_var (mem_at 4 rfl)) (ev_var (mem_at 0 rfl)) (gi_tks (j := i) ⟨by omega, by omega⟩ (seqIndex_nat hi) hpk)) rfl .nil) (ih _ r1)) (fun e m => m) (by kernel_rfl!) (by kernel_rfl!) rfl fun h₆ tk₆ S₆ sp₆ kd₆ g₆ => ?_
          have hts : timesOf parts (i + 1) = timesOf parts i * (parts.take (i + 1)).count (parts.getD i []) := rfl
          have htd : told (shf n) parts (i + 1) = gath (prod3 (told (shf n) parts i) (shf n (parts.getD i []))) := rfl
          have S₆' : St B' env [("part", .list ((shf n (parts.getD i [])).map ent)), ("k", .int (i : Nat)), ("times", .int (timesOf parts i : Nat)), ("told", .list ((told (shf n) parts i).map ent)), ("parts", .list (vs.map .val)), ("parts", .tks parts)] s₀ h₆ tk₆ := S₆
          generalize shf n (parts.getD i []) = ys at S₆' sm2 p3 htd
          generalize told (shf n) parts i = xs at S₆' sm1 p3 htd
          refine run_assign (d := .list ((gath (prod3 xs ys)).map ent)) (ρ := pick _ [1, 2, 4, 5]) F' S₆' (ev_call (ev_glob (kd_glob hsc (by kernel_rfl!)) (fun P => by kernel_rfl!)) (FnAt.kp fx_law_gathered) (.cons (ev_comp (σc := [("part", .list (ys.map ent))]) (N := ["a", "m", "b", "n", "way"]) ⟨by kernel_rfl!, by kernel_rfl!, by rw [hsc]; kernel_rfl!, by kernel_rfl!, by kernel_rfl!, fun e m => by rw [List.mem_singleton.mp m]; exact mem_at 0 rfl⟩ (ev_var (mem_at 3 rfl)) rfl trivial
            (fun g' m => by
              rcases List.mem_cons.mp m with e | m
              · rw [e]; exact ⟨rfl, fun _ _ => rfl⟩
              · rcases List.mem_cons.mp m with e | m
                · rw [e]; exact ⟨rfl, fun _ _ => rfl⟩
                · rw [List.mem_singleton.mp m]; exact ⟨rfl, fun _ _ => rfl⟩)
            (fun cenv ok hcs => turns_prod3 (by kernel_rfl!) (by kernel_rfl!) (by kernel_rfl!) (by kernel_rfl!) (by kernel_rfl!) (by kernel_rfl!) (fun p => by kernel_rfl!) (fun p => by kernel_rfl!) (fun p q => by kernel_rfl!) (fun p q => by kernel_rfl!) (fun p => ev_var (mem_at 2 rfl)) (fun p mp q mq => ?_) fun p mp q mq y => ?_) (by rw [List.length_map]; omega)) rfl .nil) ((fn_gathered (k := 0) p3).mono (by omega))) pick_sub (by kernel_rfl!) (by kernel_rfl!) rfl fun h₇ tk₇ S₇ sp₇ kd₇ g₇ => ?_
          · have bp := small_at sm1 mp
            have bq := small_at sm2 mq
            exact ev_call (ev_glob (kd_globC hcs (by kernel_rfl!)) (fun P => by kernel_rfl!)) (FnAt.kp fx_law_ways) (.cons (ev_var (mem_at 3 rfl)) rfl (.cons (ev_var (mem_at 1 rfl)) rfl .nil)) ((fn_ways (k := 0) 12 p.1 q.1 (by omega) (by omega)).mono (by omega))
          · have bp := small_at sm1 mp
            exact ev_tuple (.cons (ev_var (mem_at 0 rfl)) rfl (.cons (ev_call (ev_glob (kd_globC hcs (by kernel_rfl!)) (fun P => by kernel_rfl!)) (FnAt.kp fx_mul) (.cons (ev_var (mem_at 3 rfl)) rfl (.cons (ev_var (mem_at 1 rfl)) rfl .nil)) ((fn_mul (k := 0) (mul_ok bp.1)).mono (by omega))) rfl .nil)) (by show 2 ≤ 1000000; decide)
          · obtain ⟨v, hv⟩ : ∃ v, vs[i]? = some v := ⟨vs[i]'(by omega), List.getElem?_eq_getElem (by omega)⟩
            obtain ⟨u, rfl, hu⟩ := hvt i v hv
            have hmem := List.mem_of_getElem? hv
            have hvd : (vs.map D.val)[i]? = some (.val (.str ⟨(parts.getD i []).toArray⟩ u)) := by rw [List.getElem?_map, hv]; rfl
            have txt : Texts (vs.take (i + 1)) (parts.take (i + 1)) (parts.getD i []) u := by
              refine ⟨by rw [List.length_take, List.length_take, hvl], fun j v' hv' => ?_⟩
              have hj : j < i + 1 := by
                have := (List.getElem?_eq_some_iff.mp hv').1
                rw [List.length_take] at this; omega
              rw [List.getElem?_take_of_lt hj] at hv'
              obtain ⟨t, rfl, ht⟩ := hvt j v' hv'
              have hg : (parts.take (i + 1)).getD j [] = parts.getD j [] := by rw [List.getD_eq_getElem?_getD, List.getElem?_take_of_lt hj, List.getD_eq_getElem?_getD]
              rw [hg]
              refine ⟨t, rfl, ht, fun e => ?_⟩
              subst e
              exact str_inj (tko.one _ _ t (List.mem_of_getElem? hv') hmem)
            refine run_assign (d := .int (timesOf parts (i + 1) : Nat)) (ρ := pick _ [0, 3, 4]) F' S₇ (Ev.cast (ev_call (ev_glob (kd_glob hsc (by kernel_rfl!)) (fun P => by kernel_rfl!)) (FnAt.kp fx_mul) (.cons (ev_var (mem_at 2 rfl)) rfl (.cons (ev_call (ev_glob (kd_glob hsc (by kernel_rfl!)) (fun P => by kernel_rfl!)) (FnAt.kp fx_countOf) (.cons (Ev.cast (d' := .list ((vs.take (i + 1)).map .val)) (ev_slL (ev_var (mem_at 3 rfl)) .none (.some (ev_addN (ev_var (mem_at 1 rfl)) (ev_nat (n := 1)))) .none (by intro c; cases c) (by rw [List.length_map]; omega)) (by rw [pickL_map, pick_take])) rfl
              (.cons (ev_sub (ev_var (mem_at 3 rfl)) (ev_var (mem_at 1 rfl)) (gi_list (j := i) ⟨by omega, by omega⟩ (seqIndex_nat (by rw [List.length_map]; omega)) hvd)) rfl .nil)) ((fn_countOf (k := 0) hu txt).mono (by omega))) rfl .nil)) ((fn_mul (k := 0) (mul_ok (by omega))).mono (by omega))) (by rw [hts, Int.natCast_mul])) pick_sub (by kernel_rfl!) (by kernel_rfl!) rfl fun h₈ tk₈ S₈ sp₈ kd₈ g₈ => run_nil ?_
            refine ⟨h₈, tk₈, rfl, ?_, (sp₆.trans sp₇).trans sp₈, (kd₆.trans kd₇).trans kd₈⟩
            show St B' env [("times", .int (timesOf parts (i + 1) : Nat)), ("told", .list ((told (shf n) parts (i + 1)).map ent)), _, _] _ _ _
            rw [htd]
            exact S₈
        · intro h₅ tk₅ S₅ sp₅
          have S₅' : St B env [("times", .int (timesOf parts parts.length : Nat)), ("told", .list ((told (shf n) parts parts.length).map ent)), ("parts", .list (vs.map .val)), ("parts", .tks parts)] s₀ h₅ tk₅ := by
            have e : ∀ m, m = parts.length → St B env (σI m) s₀ h₅ tk₅ → St B env [("times", .int (timesOf parts parts.length : Nat)), ("told", .list ((told (shf n) parts parts.length).map ent)), ("parts", .list (vs.map .val)), ("parts", .tks parts)] s₀ h₅ tk₅ := by
              rintro m rfl S; exact S
            exact e _ (by rw [List.length_map, List.length_range]; omega) S₅
          generalize told (shf n) parts parts.length = T at S₅' oke hsh
          generalize timesOf parts parts.length = t at S₅' oke hsh
          unfold endOk at oke
          simp only [Bool.and_eq_true, decide_eq_true_eq] at oke
          obtain ⟨⟨⟨⟨⟨o1, o2⟩, o3⟩, o4, o5⟩, o6, o7⟩, o8⟩ := oke
          have hT := small_len o1
          have hq : (backOf (t : Int) (shareOf t T)).length ≤ 200 := by rw [o6]; exact hT
          refine run_assignC (os := (shareOf (t : Int) T).map ent) (ρ := pick _ [0, 1]) F S₅' [("times", .int (t : Nat))] ["way", "number"] ⟨by kernel_rfl!, by kernel_rfl!, by rw [hsc]; kernel_rfl!, by kernel_rfl!, by kernel_rfl!, fun e m => by rw [List.mem_singleton.mp m]; exact mem_at 0 rfl⟩ (ev_var (mem_at 1 rfl)) rfl trivial
            (fun g' m => by rw [List.mem_singleton.mp m]; exact ⟨rfl, fun _ _ => rfl⟩)
            (fun cenv ok hcs => turns_ent (by kernel_rfl!) (by kernel_rfl!) (by kernel_rfl!) (fun p => by kernel_rfl!) fun p mp => ?_) (by unfold shareOf; rw [List.length_map, List.length_map]; omega) pick_sub (by kernel_rfl!) (by kernel_rfl!) (swW hsc fun e => by kernel_rfl!) fun h₆ tk₆ S₆ sp₆ kd₆ g₆ => ?_
          · exact ev_list (.cons (ev_var (mem_at 1 rfl)) rfl (.cons (ev_call (ev_glob (kd_globC hcs (by kernel_rfl!)) (fun P => by kernel_rfl!)) (FnAt.kp fx_floordiv) (.cons (ev_bin (ev_bin (ev_var (mem_at 0 rfl)) (ev_var (mem_at 2 rfl)) op_add) ev_int op_sub) rfl (.cons (ev_var (mem_at 2 rfl)) rfl .nil)) ((fn_floordiv (k := 0) (by omega) (by omega)).mono (by omega))) rfl .nil)) (by show 2 ≤ 1000000; decide)
          · refine run_assignC (os := (belowOf (t : Int) T).map ent) (ρ := pick _ [0, 1, 2]) F S₆ [("times", .int (t : Nat))] ["way", "number"] ⟨by kernel_rfl!, by kernel_rfl!, by rw [hsc]; kernel_rfl!, by kernel_rfl!, by kernel_rfl!, fun e m => by rw [List.mem_singleton.mp m]; exact mem_at 1 rfl⟩ (ev_var (mem_at 2 rfl)) rfl trivial
              (fun g' m => by rw [List.mem_singleton.mp m]; exact ⟨rfl, fun _ _ => rfl⟩)
              (fun cenv ok hcs => turns_ent (by kernel_rfl!) (by kernel_rfl!) (by kernel_rfl!) (fun p => by kernel_rfl!) fun p mp => ?_) (by unfold belowOf; rw [List.length_map, List.length_map]; omega) pick_sub (by kernel_rfl!) (by kernel_rfl!) (swW hsc fun e => by kernel_rfl!) fun h₇ tk₇ S₇ sp₇ kd₇ g₇ => ?_
            · exact ev_list (.cons (ev_var (mem_at 1 rfl)) rfl (.cons (ev_call (ev_glob (kd_globC hcs (by kernel_rfl!)) (fun P => by kernel_rfl!)) (FnAt.kp fx_neg) (.cons (ev_call (ev_glob (kd_globC hcs (by kernel_rfl!)) (fun P => by kernel_rfl!)) (FnAt.kp fx_floordiv) (.cons (ev_bin (ev_bin (ev_var (mem_at 2 rfl)) ev_int op_sub) (ev_var (mem_at 0 rfl)) op_sub) rfl (.cons (ev_var (mem_at 2 rfl)) rfl .nil)) ((fn_floordiv (k := 0) (by omega) (by omega)).mono (by omega))) rfl .nil) ((fn_neg (k := 0)).mono (by omega))) rfl .nil)) (by show 2 ≤ 1000000; decide)
            · refine run_ret F S₇ (ev_ite (c := true) (ts_and (b := true) (ts_cmp (ev_comp (os := (backOf (t : Int) (shareOf t T)).map ent) (σc := [("times", .int (t : Nat))]) (N := ["way", "number"]) ⟨by kernel_rfl!, by kernel_rfl!, by rw [hsc]; kernel_rfl!, by kernel_rfl!, by kernel_rfl!, fun e m => by rw [List.mem_singleton.mp m]; exact mem_at 2 rfl⟩ (ev_var (mem_at 1 rfl)) rfl trivial
                  (fun g' m => by rw [List.mem_singleton.mp m]; exact ⟨rfl, fun _ _ => rfl⟩)
                  (fun cenv ok hcs => turns_ent (by kernel_rfl!) (by kernel_rfl!) (by kernel_rfl!) (fun p => by kernel_rfl!) fun p mp => ?_) (by rw [List.length_map]; omega)) (ev_var (mem_at 3 rfl)) (cp_eqD (by omega) (py_ents _) (py_ents _) (shaped_ents (by rw [o6]; exact o2)) (shaped_ents o2) (by rw [o6]; exact eqv_self (py_ents T))))
                (fun _ => ts_cmp (ev_var (mem_at 0 rfl)) (ev_var (mem_at 1 rfl)) (cp_eqD (by omega) (py_ents _) (py_ents _) (shaped_ents (by rw [o7]; exact o3)) (shaped_ents o3) (by rw [o7]; exact eqv_self (py_ents _)))) (fun e => by cases e))
                (fun _ => ev_var (mem_at 1 rfl)) (fun e => by cases e)) fun v h' tk' u g hv => q _ h' tk' u g (by rw [hsh]; exact hv)
              have bp := small_at o8 mp
              exact ev_list (.cons (ev_var (mem_at 1 rfl)) rfl (.cons (ev_bin (ev_var (mem_at 0 rfl)) (ev_var (mem_at 2 rfl)) (op_mul (mul_ok bp.1))) rfl .nil)) (by show 2 ≤ 1000000; decide)
    show Fn w (k + 20 + n + 1) _ _ _ _ _
    exact fn_of (w := w) (N := shfN) (ns := ["word"]) (fun P => (fx_law_shuffles P).to) bd (fun P vs e => by match vs, e with | [u], _ => kernel_rfl!) (by decide) rfl (by kernel_rfl!) (fun L => by kernel_rfl!) ⟨by kernel_rfl!, by kernel_rfl!, by kernel_rfl!⟩
end
end Mine

set_option maxRecDepth 100000
set_option linter.unusedVariables false
namespace Mine
open PySem PySem.W PyProof.Rows
noncomputable def meas1 (sh : Sh) (t : Int) (p : List Nat × Int) : Int :=
  let at' := bis (sh.map (·.1)) p.1 0 sh.length
  if (decide (at' < sh.length) && p.1 == (sh.getD at' ([], 0)).1) = true then t + p.2 * (sh.getD at' ([], 0)).2 else t
noncomputable def meas (bs sh : Sh) : Int := bs.foldl (meas1 sh) 0
section
variable {w : World} {k : Nat} {A : Around} {B : List Addr} {env : Env} {N : List Str} {σ : Sg} {s₀ s : Shared} {h : Heap} {tk : Nat} {E : Value → Shared → Prop}
theorem bd_measured {bs sh : Sh} (o1 : small bs = true) (o2 : small sh = true) : Bd w (k + 3) 27 ["total", "word", "number", "at"] [("brackets", .list (bs.map ent)), ("shuffles", .list (sh.map ent))] (.int (meas bs sh)) := by
  intro A B env s₀ h tk E Q hsc F S q
  generalize hb : fnBody 27 = b
  with_unfolding_all conv at hb => lhs; whnf
  subst hb
  have hl1 := small_len o1
  have hl2 := small_len o2
  refine run_assign (d := .int 0) (ρ := [("brackets", .list (bs.map ent)), ("shuffles", .list (sh.map ent))]) F S ev_int (fun e m => m) (by kernel_rfl!) (by kernel_rfl!) rfl fun h₁ tk₁ S₁ sp₁ kd₁ g₁ => ?_
  let J : Nat → Sg := fun i => [("total", .int ((bs.take i).foldl (meas1 sh) 0)), ("shuffles", .list (sh.map ent))]
  refine run_for (σI := J) (τI := fun i => ("number", .int (bs.getD i ([], 0)).2) :: ("word", .str (bs.getD i ([], 0)).1) :: J i) F S₁ (ev_var (mem_at 1 rfl)) rfl trivial (fun e m => by
      rcases List.mem_cons.mp m with e' | m
      · rw [e']; exact mem_at 0 rfl
      · rw [List.mem_singleton.mp m]; exact mem_at 2 rfl) (fun i di hd => ?_) ?_ ?_
  · obtain ⟨p, hp, rfl⟩ := map_at hd
    have : bs.getD i ([], 0) = p := getD_of hp
    simp only [this]
    exact asg_pair (.inr rfl) (by kernel_rfl!) (by kernel_rfl!) (fun e m => m) (by kernel_rfl!) (by kernel_rfl!)
  · intro i di B' h₂ tk₂ E' hd sub F' S₂
    obtain ⟨p, hp, rfl⟩ := map_at hd
    have hg : bs.getD i ([], 0) = p := getD_of hp
    simp only [hg] at S₂
    have bp := small_at o1 (List.mem_of_getElem? hp)
    have step : (bs.take (i + 1)).foldl (meas1 sh) 0 = meas1 sh ((bs.take i).foldl (meas1 sh) 0) p := by
      rw [List.take_add_one, hp, List.foldl_append]; rfl
    have S₂' : St B' env [("number", .int p.2), ("word", .str p.1), ("total", .int ((bs.take i).foldl (meas1 sh) 0)), ("shuffles", .list (sh.map ent))] s₀ h₂ tk₂ := S₂
    generalize (bs.take i).foldl (meas1 sh) 0 = t at S₂' step
    refine run_assign (d := .int (bis (sh.map (·.1)) p.1 0 sh.length : Nat)) (ρ := pick _ [0, 1, 2, 3]) F' S₂' (ev_callk (ev_glob (kd_glob hsc (by kernel_rfl!)) (fun P => by kernel_rfl!)) (FnAt.kp fx_bisect_left) (.cons (ev_var (mem_at 3 rfl)) rfl (.cons (ev_var (mem_at 1 rfl)) rfl .nil)) (ev_glob (kd_glob hsc (by kernel_rfl!)) (fun P => by kernel_rfl!)) (fn_bisk (by omega)))
      pick_sub (by kernel_rfl!) (by kernel_rfl!) rfl fun h₃ tk₃ S₃ sp₃ kd₃ g₃ => ?_
    have hat : meas1 sh t p = if (decide (bis (sh.map (·.1)) p.1 0 sh.length < sh.length) && p.1 == (sh.getD (bis (sh.map (·.1)) p.1 0 sh.length) ([], 0)).1) = true then t + p.2 * (sh.getD (bis (sh.map (·.1)) p.1 0 sh.length) ([], 0)).2 else t := rfl
    generalize hj : bis (sh.map (·.1)) p.1 0 sh.length = j at S₃ hat
    have hgj : j < sh.length → (sh.map ent)[j]? = some (.list [.str (sh.getD j ([], 0)).1, .int (sh.getD j ([], 0)).2]) := fun hjl => by
      rw [List.getElem?_map, List.getD_eq_getElem?_getD, List.getElem?_eq_getElem hjl]; rfl
    refine run_if (c := decide (j < sh.length) && p.1 == (sh.getD j ([], 0)).1) F' S₃ (ts_and (b := decide (j < sh.length)) (ts_cmp (ev_var (mem_at 0 rfl)) (Ev.cast (d' := .int (sh.length : Nat)) (ev_call (ev_built (kd_glob hsc (by kernel_rfl!)) (fun P => by kernel_rfl!) (by kernel_rfl!)) kp_builtin (.cons (ev_var (mem_at 4 rfl)) rfl .nil) (fn_len (by rw [List.length_map]; omega))) (by rw [List.length_map])) cp_ltN)
        (fun e => ?_) (fun e => by rw [e]; rfl)) fun h₄ tk₄ S₄ u₄ g₄ => ?_
    · have hjl : j < sh.length := of_decide_eq_true e
      rw [e, Bool.true_and]
      exact Ts.cast (ts_cmp (ev_call (ev_glob (kd_glob hsc (by kernel_rfl!)) (fun P => by kernel_rfl!)) (FnAt.kp fx_eq) (.cons (ev_var (mem_at 2 rfl)) rfl (.cons (ev_sub (ev_sub (ev_var (mem_at 4 rfl)) (ev_var (mem_at 0 rfl)) (gi_list (j := j) ⟨by omega, by omega⟩ (seqIndex_nat (by rw [List.length_map]; exact hjl)) (hgj hjl))) ev_int (gi_list (j := 0) ⟨by decide, by decide⟩ rfl rfl)) rfl .nil)) fn_eq) ev_bool cp_isNotB) (by cases p.1 == (sh.getD j ([], 0)).1 <;> rfl)
    · cases hc : (decide (j < sh.length) && p.1 == (sh.getD j ([], 0)).1) with
      | true =>
        rw [hc, if_pos rfl] at hat
        have hjl : j < sh.length := by rw [Bool.and_eq_true] at hc; exact of_decide_eq_true hc.1
        refine run_assign (d := .int (t + p.2 * (sh.getD j ([], 0)).2)) (ρ := pick _ [4]) F' S₄ (ev_call (ev_glob (kd_glob hsc (by kernel_rfl!)) (fun P => by kernel_rfl!)) (FnAt.kp fx_add) (.cons (ev_var (mem_at 3 rfl)) rfl (.cons (ev_call (ev_glob (kd_glob hsc (by kernel_rfl!)) (fun P => by kernel_rfl!)) (FnAt.kp fx_mul) (.cons (ev_var (mem_at 1 rfl)) rfl (.cons (ev_sub (ev_sub (ev_var (mem_at 4 rfl)) (ev_var (mem_at 0 rfl)) (gi_list (j := j) ⟨by omega, by omega⟩ (seqIndex_nat (by rw [List.length_map]; exact hjl)) (hgj hjl))) (ev_nat (n := 1)) (gi_list (j := 1) ⟨by decide, by decide⟩ rfl rfl)) rfl .nil)) (fn_mul (mul_ok bp.1))) rfl .nil)) fn_add)
          pick_sub (by kernel_rfl!) (by kernel_rfl!) rfl fun h₅ tk₅ S₅ sp₅ kd₅ g₅ => run_nil (run_nil ?_)
        refine ⟨h₅, tk₅, rfl, ?_, (sp₃.trans u₄.sp).trans sp₅, (kd₃.trans u₄.kd).trans kd₅⟩
        show St B' env [("total", .int ((bs.take (i + 1)).foldl (meas1 sh) 0)), _] _ _ _
        rw [step, hat]
        exact S₅
      | false =>
        rw [hc, if_neg (by decide)] at hat
        refine run_nil (run_nil ⟨h₄, tk₄, rfl, ?_, sp₃.trans u₄.sp, kd₃.trans u₄.kd⟩)
        show St B' env [("total", .int ((bs.take (i + 1)).foldl (meas1 sh) 0)), _] _ _ _
        rw [step, hat]
        exact S₄.pick [3, 4]
  · intro h' tk' S' sp'
    refine run_ret F S' (ev_var (mem_at 0 rfl)) fun v h' tk' u g hd => q _ h' tk' u g ?_
    have : (bs.take (bs.map ent).length).foldl (meas1 sh) 0 = meas bs sh := by rw [List.length_map, List.take_length]; rfl
    rw [this] at hd
    exact hd
theorem fn_measured {bs sh : Sh} (o1 : small bs = true) (o2 : small sh = true) : Fn w (k + 4) (.ref 214) [.list (bs.map ent), .list (sh.map ent)] [] [] (.int (meas bs sh)) :=
  fn_of (N := ["total", "word", "number", "at"]) (ns := ["brackets", "shuffles"]) (fun P => (fx_law_measured P).to) (bd_measured o1 o2) (fun P vs e => by match vs, e with | [u, v], _ => kernel_rfl!) (by decide) rfl (by kernel_rfl!) (fun L => by kernel_rfl!) ⟨by kernel_rfl!, by kernel_rfl!, by kernel_rfl!⟩
end
end Mine

set_option maxRecDepth 100000
set_option linter.unusedVariables false
namespace Mine
open PySem PySem.W PyProof.Rows
theorem ints_has {B : List Addr} {h : Heap} {vs : List Value} {ns : List Int} (x : IntsAre vs ns) : HasAll B h vs (ns.map .int) := by
  induction x with
  | nil => exact .nil
  | cons n t _ ih => exact .cons (.int n t) ih
section
variable {w : World} {k : Nat} {A : Around} {B : List Addr} {env : Env} {N : List Str} {σ : Sg} {s₀ s : Shared} {h : Heap} {tk : Nat} {E : Value → Shared → Prop}

/-- a slice of the script -/
theorem ev_slI {value : Expr} {lower upper st : Option Expr} {lo hi step : Option Int} {p pos : Pos} {ns : List Int} (x : EvE w k env σ value (.ils ns)) (yl : EvP w k env σ lower lo) (yu : EvP w k env σ upper hi) (ys : EvP w k env σ st step) (h0 : step ≠ some 0) (hl : ns.length ≤ 1000000) :
    EvE w k env σ (.Subscript value (.Slice lower upper st p) pos) (.list ((pickL ns lo hi step).map .int)) := fun A B s E Q pr q => by
  refine Subscript_ (x A B s E _ pr fun u h₁ tk₁ u₁ g₁ hu => wpAny_Slice (evP_run yl A B _ E _ (pr.up u₁ g₁) fun pl h₂ tk₂ u₂ g₂ hpl => evP_run yu A B _ E _ ((pr.up u₁ g₁).up u₂ g₂) fun pu h₃ tk₃ u₃ g₃ hpu =>
    evP_run ys A B _ E _ (((pr.up u₁ g₁).up u₂ g₂).up u₃ g₃) fun ps h₄ tk₄ u₄ g₄ hps => ?_))
  have lx := (((u₁.trans u₂).trans u₃).trans u₄)
  have hu' : Has B (h₄.push { cls := .type "slice", data := .fields #[partValue pl, partValue pu, partValue ps] }) u (.ils ns) := (hu.le ((u₂.trans u₃).trans u₄)).le (Le.push _ _)
  cases hu' with
  | @ils a vs _ n xx y =>
    have y' := ints_has (B := B) (h := h₄) y
    have ly := y'.length
    rw [List.length_map] at ly
    have tail : wpAny (model pw w) A (getItem (.ref a) (.ref h₄.objs.size)) Q E (stAt s (h₄.push { cls := .type "slice", data := .fields #[partValue pl, partValue pu, partValue ps] }) tk₄) := by
      refine wpAny_getItem_list_slice xx (Heap.IsSliceOf.new ..) (hpl ▸ part_is) (hpu ▸ part_is) (hps ▸ part_is) h0 ?_ (by rw [List.size_toArray, ly]; exact Nat.le_trans hl (by decide))
      rw [slicePick_L]
      refine q _ _ tk₄ ((lx.trans (Le.push _ _)).trans (Le.push _ _)) (Nat.le_trans (Nat.le_trans (Nat.le_trans g₁ g₂) g₃) g₄) (.list (new_off fun b hb => ((pr.bd b hb).le lx).le (Le.push _ _)) ⟨_, Heap.get?_push_size _ rfl⟩ ?_)
      have := (y'.pick (sliceRange (sliceBounds lo hi step vs.length).1 (sliceBounds lo hi step vs.length).2.1 (sliceBounds lo hi step vs.length).2.2))
      rw [← pickL_map]
      unfold pickL
      rw [List.length_map, ← ly]
      exact ((this.le (Le.push _ _)).le (Le.push _ _))
    have hT : (stAt s (h₄.push { cls := .type "slice", data := .fields #[partValue pl, partValue pu, partValue ps] }) tk₄).TypeIs (.ref a) "list" := xx.typeIs
    unfold subscriptTail
    refine wpAny_bind ?_
    rw [getitemInPython_of_ne hT.not_modules]
    refine wpAny_bind (wpAny_specialOf hT list_getitem_lookup ?_)
    have fin : wpAny (model pw w) A (subscripted (.Slice lower upper st p) false (.ref a) (.ref h₄.objs.size)) (fun r s₃ => wpAny (model pw w) A (letTemporaryGo value (.ref a) r >>= fun _ => pure r) Q E s₃) E (stAt s (h₄.push { cls := .type "slice", data := .fields #[partValue pl, partValue pu, partValue ps] }) tk₄) := by
      have c : wpAny (model pw w) A (getItem (.ref a) (.ref h₄.objs.size)) (fun r s₃ => wpAny (model pw w) A (letTemporaryGo value (.ref a) r >>= fun _ => pure r) Q E s₃) E (stAt s (h₄.push { cls := .type "slice", data := .fields #[partValue pl, partValue pu, partValue ps] }) tk₄) :=
        wpAny_mono tail (fun r s₃ h₃ => wpAny_bind (wpAny_letTemporaryGo (wpAny_pure h₃))) fun _ _ x => x
      cases st with
      | none => exact wpAny_operating c
      | some _ => exact wpAny_operating c
    first
      | exact wpAny_pure (wpAny_bind fin)
      | exact wpAny_bind (wpAny_pure (wpAny_bind fin))
      | exact wpAny_bind fin

theorem glue5 (a b c d e : Nat) : Builtin.Str.glued ⟨([] : List Nat).toArray⟩ [⟨[a].toArray⟩, ⟨[b].toArray⟩, ⟨[c].toArray⟩, ⟨[d].toArray⟩, ⟨[e].toArray⟩] = ⟨[a, b, c, d, e].toArray⟩ := by rfl
theorem ev_join {o e : Expr} {apos pos : Pos} {a b c d f : Nat} (x : EvE w k env σ o (.str [])) (y : EvE w k env σ e (.list [.str [a], .str [b], .str [c], .str [d], .str [f]]))
    (he : starEach [e] env = [(false, eval e env)] := by rfl)
    (hbase : attributeBase o "join" env (eval o env) = eval o env := by rfl) (hline : (apos.endLine == pos.line) = true := by rfl)
    (hfew : ((backTo pos (starEach [e] env)).all (fun x => !x.1) && (backToKw pos (keywordEach [] env)).all (fun x => x.1.isSome)
      && decide ([e].length + ([] : List Keyword).length + (if ([] : List Keyword).isEmpty then 0 else 1) < 30)) = true := by rfl) : EvE w k env σ (.Call (.Attribute o "join" apos) [e] [] pos) (.str [a, b, c, d, f]) := fun A B s E Q pr q => by
  refine wpAny_Call_method_lateS hbase hfew hline (x A B s E _ pr fun v h₁ tk₁ u₁ g₁ hv => ?_)
  obtain ⟨t, rfl⟩ := hv.str_inv
  refine ⟨"str", "str.join", PySem.F.plainAttrs_str, PySem.F.slot_str_join, PySem.F.type_str_join, typeIs_str _ _ _, (fun _ e => nomatch e), ?_⟩
  refine callWith_of (P := fun _ => True) (by rw [he]; rfl) (fun _ _ => ⟨.machine, .inr (.inl rfl), .now⟩) ?_
  have ev : wpAny (model pw w) A (spliced (backTo pos (starEach [e] env))) (fun vs s₁ => True ∧ wpAny (model pw w) A (call (.builtin "str.join") ([.str ⟨([] : List Nat).toArray⟩ t] ++ vs)) Q E s₁) E (stAt s h₁ tk₁) := by
    refine wpAny_items_cons (y A B _ E _ (pr.up u₁ g₁) fun z h₂ tk₂ u₂ g₂ hz => wpAny_items_nil ⟨trivial, ?_⟩) he
    cases hz with
    | @list D vs _ n acc hs =>
      cases hs with
      | cons p1 hs => cases hs with
        | cons p2 hs => cases hs with
          | cons p3 hs => cases hs with
            | cons p4 hs => cases hs with
              | cons p5 hs =>
                cases hs
                obtain ⟨t1, rfl⟩ := p1.str_inv
                obtain ⟨t2, rfl⟩ := p2.str_inv
                obtain ⟨t3, rfl⟩ := p3.str_inv
                obtain ⟨t4, rfl⟩ := p4.str_inv
                obtain ⟨t5, rfl⟩ := p5.str_inv
                refine call_meets (s := stAt s h₂ tk₂) PySem.F.slot_str_join (typeIs_str _ _ _) PySem.F.entry_str_join (PySem.F.args_str_join_2 _ _) (meets_str_join_list ⟨([] : List Nat).toArray⟩ t D [(⟨[a].toArray⟩, t1), (⟨[b].toArray⟩, t2), (⟨[c].toArray⟩, t3), (⟨[d].toArray⟩, t4), (⟨[f].toArray⟩, t5)] (by rfl)) ⟨acc.isList, ?_⟩
                show _ ∧ _
                refine ⟨?_, ?_⟩
                · show 5 ≤ sizeLine
                  decide
                · exact q _ h₂ (tk₂ + 1) (u₁.trans u₂) (Nat.le_succ_of_le (Nat.le_trans g₁ g₂)) (Has.str [a, b, c, d, f] tk₂)
  rw [he] at ev ⊢
  exact Calls.evalArgs_plain ev

/-- a list display, its list new -/
theorem eval_listN {es : List Expr} {ds : List D} {pos : Pos} {Q : Value → Shared → Prop} (pr : Pre w k A B env σ s) (x : EvL w k env σ es ds) (hl : ds.length ≤ 1000000)
    (q : ∀ a vs h' tk', Le s.heap h' → s.toks ≤ tk' → s.heap.get? a = none → h'.PlainList a vs.toArray → HasAll B h' vs ds → Q (.ref a) (stAt s h' tk')) : wpAny (model pw w) A (eval (.List es pos) env) Q E s := by
  refine wpAny_List (evL_run x A B s E _ pr fun vs h₁ tk₁ u₁ g₁ hv => ?_)
  refine ⟨?_, q _ _ _ _ (u₁.trans (Le.push _ _)) g₁ ?_ ⟨_, Heap.get?_push_size _ rfl⟩ (hv.le (Le.push _ _))⟩
  · rw [hv.length]; exact Nat.le_trans hl (by decide)
  · cases e : s.heap.get? h₁.objs.size with
    | none => rfl
    | some o => exact absurd (Heap.lt_size (u₁ _ _ e)) (Nat.lt_irrefl _)
theorem St.butN (S : St B env σ s₀ h tk) {I : Addr} {h' : Heap} {tk' : Nat} (hI : I ∈ B) (x : Heap.ExtBut I h h') (n1 : I ≠ env.locals) (n2 : ∀ y c, env.cells.lookup y = some c → I ≠ c) (n3 : s₀.heap.get? I = none) (n4 : Al h' I) (g : tk ≤ tk') : St B env σ s₀ h' tk' := by
  have sp : Sp B h h' := sp_own hI x
  have ce : ∀ {c : Addr} {v : Option Value}, h.IsCell c v → I ≠ c → h'.IsCell c v := fun ⟨o, e, d⟩ n => ⟨o, x _ o (Ne.symm n) e, d⟩
  refine ⟨⟨?_, fun y d m l => ?_⟩, fun b o e => x b o (al_ne ⟨o, e⟩ n3) (S.keep b o e), Nat.le_trans S.g g, fun b hb => ?_, fun y c e => ?_⟩
  · obtain ⟨m, hm, hv⟩ := S.vs.ns
    refine ⟨m, hm.at' fun o e => x _ o (Ne.symm n1) e, fun y d e l => ?_⟩
    obtain ⟨v, p, r⟩ := hv y d e l
    exact ⟨v, p, r.sp sp⟩
  · obtain ⟨a, c, v, p, r, t⟩ := S.vs.cell y d m l
    exact ⟨a, c, v, p, ce r (n2 _ _ p), t.sp sp⟩
  · by_cases hb' : b = I
    · rw [hb']; exact n4
    · obtain ⟨o, e⟩ := S.bd b hb; exact ⟨o, x b o hb' e⟩
  · obtain ⟨v, z⟩ := S.cells y c e
    exact ⟨v, ce z (n2 _ _ e)⟩
end
end Mine

set_option maxRecDepth 100000
set_option linter.unusedVariables false
namespace Mine
open PySem PySem.W PyProof.Rows
noncomputable def risStep (parts : List (List Nat)) (sh : Sh) (j : Nat) : Sh := insAt sh (bis (sh.map (·.1)) (parts.getD j []) 0 sh.length) (parts.getD j [], (j : Int))
noncomputable def risOf (parts : List (List Nat)) : Nat → Sh
  | 0 => []
  | i + 1 => risStep parts (risOf parts i) i
noncomputable def pairsOf (parts : List (List Nat)) : Sh := (List.range parts.length).map fun j => (parts.getD j [], (j : Int))
noncomputable def turnedOf (parts : List (List Nat)) : List (List Nat) := pickL parts none none (some (-1))
noncomputable def lessOf (parts : List (List Nat)) (j : Nat) : Nat := (parts.filter fun p => decide (p < parts.getD j [])).length
noncomputable def sameOf (parts : List (List Nat)) (j : Nat) : Nat := (parts.filter fun p => p == parts.getD j []).length
noncomputable def foundOf (parts : List (List Nat)) (j : Nat) : List Nat :=
  [bis ((risOf parts parts.length).map (·.1)) (parts.getD j []) 0 (risOf parts parts.length).length, bis (turnedOf parts) (parts.getD j []) 0 (turnedOf parts).length,
   bis (turnedOf parts) (parts.getD j []) 0 j, bis (turnedOf parts) (parts.getD j []) j (turnedOf parts).length, parts.count (parts.getD j [])]
noncomputable def dueOf (parts : List (List Nat)) (j : Nat) : List Nat := [lessOf parts j, lessOf parts j, min (lessOf parts j) j, max (lessOf parts j) j, sameOf parts j]
noncomputable def fallOk (parts : List (List Nat)) : Bool := (List.range (parts.length - 1)).all fun j => !(decide (parts.getD j [] < parts.getD (j + 1) []))
noncomputable def partsOk (parts : List (List Nat)) : Bool :=
  decide (parts.length ≤ 5) && (parts.all fun p => decide (p.length ≤ 5) && p.all fun c => decide (c < 0x110000)) && fallOk parts && valid (risOf parts parts.length) && decide (risOf parts parts.length = pickL (pairsOf parts) none none (some (-1)) ∧ (turnedOf parts).length = parts.length) &&
    (List.range parts.length).all fun j => decide (foundOf parts j = dueOf parts j)
noncomputable def wordOk (u : List Nat) : Bool :=
  partsOk (cut u) && (brkOk 6 u && shfOk 7 u) && (small (brk 6 u) && small (shf 7 u)) && (valid (brk 6 u) && valid (shf 7 u)) && decide ((brk 6 u)[0]? = some (u, 1) ∧ (shf 7 u)[(shf 7 u).length - 1]? = some (u, 1))
noncomputable def pairOk (u v : List Nat) : Bool := decide (meas (brk 6 u) (shf 7 v) = if u = v then 1 else 0)
noncomputable def letters : List Nat := [102, 105, 108]
noncomputable def wordsN : Nat → List (List Nat)
  | 0 => [[]]
  | n + 1 => letters.flatMap fun c => (wordsN n).map (c :: ·)
noncomputable def words5 : List (List Nat) := wordsN 5
end Mine

set_option maxRecDepth 100000
set_option linter.unusedVariables false
namespace Mine
open PySem PySem.W PyProof.Rows
noncomputable def lawB (n : Nat) : List Stmt := (fnBody 28).drop n
noncomputable def lawN : List Str := ["cells", "first", "left", "second", "place", "spot", "typed", "read", "words", "cuts", "parts", "rising", "turned", "j", "less", "found", "brackets", "shuffles", "same", "script"]
theorem flat_nil : ∀ n : Nat, ((List.range n).map fun _ => ([] : List D)).flatten = []
  | n => by simp
section
variable {w : World} {k : Nat} {A : Around} {B : List Addr} {env : Env} {N : List Str} {σ : Sg} {s₀ s : Shared} {h : Heap} {tk : Nat} {E : Value → Shared → Prop}
theorem turns_two {a : Str} {pa : Pos} {it elt : Expr} {d1 d2 o1 o2 : D} (h1 : N.contains a = true) (x1 : (σ.all fun e => e.1 != a) = true) (e1 : EvE w k env ((a, d1) :: σ) elt o1) (e2 : EvE w k env ((a, d2) :: σ) elt o2) :
    Turns w k env N (Emit w k env N elt []) ⟨.Name a pa, it, [], 0⟩ σ [d1, d2] [o1, o2] := by
  refine turns_of (fun i => [if i = 0 then o1 else o2]) rfl fun i di hd => ?_
  match i, hd with
  | 0, hd => cases hd; exact ⟨(a, d1) :: σ, true, asg_name h1 (fun e m => m) x1, fun e m => .tail _ m, rfl, fun _ => emit_one e1, fun e => by cases e⟩
  | 1, hd => cases hd; exact ⟨(a, d2) :: σ, true, asg_name h1 (fun e m => m) x1, fun e m => .tail _ m, rfl, fun _ => emit_one e2, fun e => by cases e⟩
  | (n + 2), hd => cases hd
/-- entries, none of them passing the test -/
theorem turns_none {a m : Str} {pa pm pt : Pos} {ka : Nat} {it elt c : Expr} {sh : Sh} (h1 : N.contains a = true) (h2 : N.contains m = true) (x1 : (σ.all fun e => e.1 != a) = true) (x2 : ∀ p : List Nat × Int, (((a, D.str p.1) :: σ).all fun e => e.1 != m) = true)
    (ts : ∀ p : List Nat × Int, Ts w k env ((m, .int p.2) :: (a, .str p.1) :: σ) c false) : Turns w k env N (Emit w k env N elt []) ⟨.Tuple [.Name a pa, .Name m pm] ka pt, it, [c], 0⟩ σ (sh.map ent) [] := by
  refine turns_of (fun _ => []) (flat_nil _).symm fun i di hd => ?_
  obtain ⟨p, hp, rfl⟩ := map_at hd
  exact ⟨(m, .int p.2) :: (a, .str p.1) :: σ, false, asg_pair (.inr rfl) h1 h2 (fun e m => m) x1 (x2 p), fun e m => .tail _ (.tail _ m), ts p, (fun e => nomatch e), fun _ => rfl⟩

/-- what the walk asks of a word -/
structure WOk (u : List Nat) : Prop where
  parts : partsOk (cut u) = true
  brk : brkOk 6 u = true
  shf : shfOk 7 u = true
  sb : small (Mine.brk 6 u) = true
  ss : small (Mine.shf 7 u) = true
  hb : (Mine.brk 6 u)[0]? = some (u, 1)
  hs : (Mine.shf 7 u)[(Mine.shf 7 u).length - 1]? = some (u, 1)
  len : u.length = 5
  abc : ∀ c ∈ u, c = 102 ∨ c = 105 ∨ c = 108
structure POk (u v : List Nat) : Prop where
  wu : WOk u
  wv : WOk v
  uu : meas (Mine.brk 6 u) (Mine.shf 7 u) = 1
  uv : meas (Mine.brk 6 u) (Mine.shf 7 v) = if u == v then 1 else 0
  vu : meas (Mine.brk 6 v) (Mine.shf 7 u) = if u == v then 1 else 0
  vv : meas (Mine.brk 6 v) (Mine.shf 7 v) = 1
theorem abc_ok {u : List Nat} (h : ∀ c ∈ u, c = 102 ∨ c = 105 ∨ c = 108) : PyData.strOk ⟨u.toArray⟩ = true := strOk_of (List.all_eq_true.mpr fun c m => by have := h c m; simp; omega)

set_option maxHeartbeats 2000000 in
theorem law_C {u v : List Nat} (ok : POk u v) {Q : Flow → Shared → Prop} (hsc : env.scope = fnScope 28) (F : Frm w (k + 40) A B env lawN s₀) (S : St B env [("words", .list [.nstr u, .nstr v])] s₀ h tk)
    (q : ∀ f h' tk', Le s₀.heap h' → s₀.toks ≤ tk' → Has B h' (match f with | .ret v => v | _ => .none) (.bool true) → Q f (stAt s₀ h' tk')) : Run w A env (lawB 11) Q E (stAt s₀ h tk) := by
  generalize hb : lawB 11 = b
  with_unfolding_all conv at hb => lhs; whnf
  subst hb
  obtain ⟨hu, hv, uu, uv, vu, vv⟩ := ok
  have hbu := hu.hb
  have hbv := hv.hb
  have hsu := hu.hs
  have hsv := hv.hs
  have fbu := fn_brackets (w := w) (k := 0) 6 u hu.brk
  have fbv := fn_brackets (w := w) (k := 0) 6 v hv.brk
  have fsu := fn_shuffles (w := w) (k := 0) 7 u hu.shf
  have fsv := fn_shuffles (w := w) (k := 0) 7 v hv.shf
  have sbu := hu.sb
  have sbv := hv.sb
  have ssu := hu.ss
  have ssv := hv.ss
  have oku := abc_ok hu.abc
  have okv := abc_ok hv.abc
  generalize Mine.brk 6 u = bu at *
  generalize Mine.brk 6 v = bv at *
  generalize Mine.shf 7 u = su at *
  generalize Mine.shf 7 v = sv at *
  have l1 := small_len sbu
  have l2 := small_len sbv
  have l3 := small_len ssu
  have l4 := small_len ssv
  refine run_assignC (os := [.list (bu.map ent), .list (bv.map ent)]) (ρ := [("words", .list [.nstr u, .nstr v])]) F S [] ["word"] ⟨by kernel_rfl!, by kernel_rfl!, by rw [hsc]; kernel_rfl!, by kernel_rfl!, by kernel_rfl!, fun e m => nomatch m⟩ (ev_var (mem_at 0 rfl)) rfl trivial (fun g' m => by rw [List.mem_singleton.mp m]; exact ⟨rfl, fun _ _ => rfl⟩)
    (fun cenv ok hcs => turns_two (by kernel_rfl!) (by kernel_rfl!) (ev_call (ev_glob (kd_globC hcs (by kernel_rfl!)) (fun P => by kernel_rfl!)) (FnAt.kp fx_law_brackets) (.cons (ev_var (mem_at 0 rfl)) rfl .nil) (fbu.mono (by omega))) (ev_call (ev_glob (kd_globC hcs (by kernel_rfl!)) (fun P => by kernel_rfl!)) (FnAt.kp fx_law_brackets) (.cons (ev_var (mem_at 0 rfl)) rfl .nil) (fbv.mono (by omega))))
    (by show 2 ≤ 1000000; decide) (fun e m => m) (by kernel_rfl!) (by kernel_rfl!) (swW hsc fun e => by kernel_rfl!) fun h₁ tk₁ S₁ sp₁ kd₁ g₁ => ?_
  refine run_assign (d := .list [.list (su.map ent), .list (sv.map ent)]) (ρ := [("brackets", .list [.list (bu.map ent), .list (bv.map ent)]), ("words", .list [.nstr u, .nstr v])]) F S₁ (ev_comp [] ["word"] ⟨by kernel_rfl!, by kernel_rfl!, by rw [hsc]; kernel_rfl!, by kernel_rfl!, by kernel_rfl!, fun e m => nomatch m⟩ (ev_var (mem_at 1 rfl)) rfl trivial (fun g' m => by rw [List.mem_singleton.mp m]; exact ⟨rfl, fun _ _ => rfl⟩)
    (fun cenv ok hcs => turns_two (by kernel_rfl!) (by kernel_rfl!) (ev_call (ev_glob (kd_globC hcs (by kernel_rfl!)) (fun P => by kernel_rfl!)) (FnAt.kp fx_law_shuffles) (.cons (ev_var (mem_at 0 rfl)) rfl .nil) (fsu.mono (by omega))) (ev_call (ev_glob (kd_globC hcs (by kernel_rfl!)) (fun P => by kernel_rfl!)) (FnAt.kp fx_law_shuffles) (.cons (ev_var (mem_at 0 rfl)) rfl .nil) (fsv.mono (by omega))))
    (by show 2 ≤ 1000000; decide)) (fun e m => m) (by kernel_rfl!) (by kernel_rfl!) (swW hsc fun e => by kernel_rfl!) fun h₂ tk₂ S₂ sp₂ kd₂ g₂ => ?_
  refine run_if (c := false) F S₂ (ts_cmp (ev_comp (os := []) [] ["told", "word", "n"] ⟨by kernel_rfl!, by kernel_rfl!, by rw [hsc]; kernel_rfl!, by kernel_rfl!, by kernel_rfl!, fun e m => nomatch m⟩
      (ev_bin (ev_var (mem_at 1 rfl)) (ev_var (mem_at 0 rfl)) (op_addL (by show 4 ≤ 1000000; decide))) rfl trivial
      (fun g' m => by
        rcases List.mem_cons.mp m with e | m
        · rw [e]; exact ⟨rfl, fun _ _ => rfl⟩
        · rw [List.mem_singleton.mp m]; exact ⟨rfl, fun _ _ => rfl⟩)
      (fun cenv ok hcs => ?_) (by decide)) (ev_list .nil (by decide)) (cp_neD (by omega) (p := .list []) (q := .list []) rfl rfl (by decide) (by decide) (c := true) (by decide))) fun h₃ tk₃ S₃ u₃ g₃ => run_nil ?_
  · refine turns_of (fun _ => []) (flat_nil _).symm fun i di hd => ?_
    have hd : ([bu, bv, su, sv].map fun sh => D.list (sh.map ent))[i]? = some di := hd
    obtain ⟨sh, hsh, rfl⟩ := map_at hd
    exact ⟨[("told", .list (sh.map ent))], true, asg_name (by kernel_rfl!) (fun e m => m) (by kernel_rfl!), fun e m => .tail _ m, rfl, fun _ => ⟨.list (sh.map ent), sh.map ent, ev_var (mem_at 0 rfl), rfl, trivial, turns_none (by kernel_rfl!) (by kernel_rfl!) (by kernel_rfl!) (fun p => by kernel_rfl!) fun p => ts_not (ts_plain (ev_call (ev_built (kd_globC hcs (by kernel_rfl!)) (fun P => by kernel_rfl!) (by kernel_rfl!)) kp_builtin (.cons (ev_var (mem_at 0 rfl)) rfl (.cons (ev_built (kd_globC hcs (by kernel_rfl!)) (fun P => by kernel_rfl!) (by kernel_rfl!)) rfl .nil)) fn_isInt))⟩, fun e => nomatch e⟩
  have S₃' : St B env [("shuffles", .list [.list (su.map ent), .list (sv.map ent)]), ("brackets", .list [.list (bu.map ent), .list (bv.map ent)]), ("words", .list [.nstr u, .nstr v])] s₀ h₃ tk₃ := S₃
  refine run_assign (d := .int (if u == v then 1 else 0)) (ρ := pick _ [0, 1, 2]) F S₃' (ev_ite (c := u == v) (ts_cmp (ev_weak (ev_sub (ev_var (mem_at 2 rfl)) (ev_nat (n := 0)) (gi_list (j := 0) ⟨by decide, by decide⟩ rfl rfl))) (ev_weak (ev_sub (ev_var (mem_at 2 rfl)) (ev_nat (n := 1)) (gi_list (j := 1) ⟨by decide, by decide⟩ rfl rfl))) cp_eqS) (fun e => by rw [if_pos e]; exact ev_int) (fun e => by rw [if_neg (by rw [e]; decide)]; exact ev_int)) pick_sub (by kernel_rfl!) (by kernel_rfl!) rfl fun h₄ tk₄ S₄ sp₄ kd₄ g₄ => ?_
  generalize (if u == v then (1 : Int) else 0) = same at *
  have pyM : ∀ a b c d : Int, (D.list [.list [.int a, .int b], .list [.int c, .int d]]).py = some (.list [.list [.int a, .int b], .list [.int c, .int d]]) := fun a b c d => rfl
  have shM : ∀ a b c d : Int, SeqAt.shaped (.list [.list [.int a, .int b], .list [.int c, .int d]]) = true := fun a b c d => rfl
  refine run_if (c := false) F S₄ (ts_cmp (ev_comp (os := [.list [.int 1, .int same], .list [.int same, .int 1]]) [("shuffles", .list [.list (su.map ent), .list (sv.map ent)])] ["one"] ⟨by kernel_rfl!, by kernel_rfl!, by rw [hsc]; kernel_rfl!, by kernel_rfl!, by kernel_rfl!, fun e m => by rw [List.mem_singleton.mp m]; exact mem_at 1 rfl⟩
      (ev_var (mem_at 2 rfl)) rfl trivial (fun g' m => by rw [List.mem_singleton.mp m]; exact ⟨rfl, fun _ _ => rfl⟩)
      (fun cenv ok hcs => turns_two (by kernel_rfl!) (by kernel_rfl!)
        (ev_comp [("one", .list (bu.map ent))] ["other"] ⟨by kernel_rfl!, by kernel_rfl!, by rw [hcs, rl_names hsc]; kernel_rfl!, by kernel_rfl!, by kernel_rfl!, fun e m => by rw [List.mem_singleton.mp m]; exact mem_at 0 rfl⟩ (ev_var (mem_at 1 rfl)) rfl trivial (fun g' m => by rw [List.mem_singleton.mp m]; exact ⟨rfl, fun _ _ => rfl⟩)
          (fun cenv2 ok2 hcs2 => turns_two (by kernel_rfl!) (by kernel_rfl!)
            (Ev.cast (ev_call (ev_glob (kd_globC hcs2 (by kernel_rfl!)) (fun P => by kernel_rfl!)) (FnAt.kp fx_law_measured) (.cons (ev_var (mem_at 1 rfl)) rfl (.cons (ev_var (mem_at 0 rfl)) rfl .nil)) ((fn_measured (k := 0) sbu ssu).mono (by omega))) (congrArg D.int uu))
            (Ev.cast (ev_call (ev_glob (kd_globC hcs2 (by kernel_rfl!)) (fun P => by kernel_rfl!)) (FnAt.kp fx_law_measured) (.cons (ev_var (mem_at 1 rfl)) rfl (.cons (ev_var (mem_at 0 rfl)) rfl .nil)) ((fn_measured (k := 0) sbu ssv).mono (by omega))) (congrArg D.int uv))) (by show 2 ≤ 1000000; decide))
        (ev_comp [("one", .list (bv.map ent))] ["other"] ⟨by kernel_rfl!, by kernel_rfl!, by rw [hcs, rl_names hsc]; kernel_rfl!, by kernel_rfl!, by kernel_rfl!, fun e m => by rw [List.mem_singleton.mp m]; exact mem_at 0 rfl⟩ (ev_var (mem_at 1 rfl)) rfl trivial (fun g' m => by rw [List.mem_singleton.mp m]; exact ⟨rfl, fun _ _ => rfl⟩)
          (fun cenv2 ok2 hcs2 => turns_two (by kernel_rfl!) (by kernel_rfl!)
            (Ev.cast (ev_call (ev_glob (kd_globC hcs2 (by kernel_rfl!)) (fun P => by kernel_rfl!)) (FnAt.kp fx_law_measured) (.cons (ev_var (mem_at 1 rfl)) rfl (.cons (ev_var (mem_at 0 rfl)) rfl .nil)) ((fn_measured (k := 0) sbv ssu).mono (by omega))) (congrArg D.int vu))
            (Ev.cast (ev_call (ev_glob (kd_globC hcs2 (by kernel_rfl!)) (fun P => by kernel_rfl!)) (FnAt.kp fx_law_measured) (.cons (ev_var (mem_at 1 rfl)) rfl (.cons (ev_var (mem_at 0 rfl)) rfl .nil)) ((fn_measured (k := 0) sbv ssv).mono (by omega))) (congrArg D.int vv))) (by show 2 ≤ 1000000; decide))) (by show 2 ≤ 1000000; decide))
      (ev_list (ds := [.list [.int 1, .int same], .list [.int same, .int 1]]) (.cons (ev_list (.cons ev_int rfl (.cons (ev_var (mem_at 0 rfl)) rfl .nil)) (by show 2 ≤ 1000000; decide)) rfl (.cons (ev_list (.cons (ev_var (mem_at 0 rfl)) rfl (.cons ev_int rfl .nil)) (by show 2 ≤ 1000000; decide)) rfl .nil)) (by show 2 ≤ 1000000; decide))
      (cp_neD (by omega) (pyM _ _ _ _) (pyM _ _ _ _) (shM _ _ _ _) (shM _ _ _ _) (c := true) (eqv_self (pyM _ _ _ _)))) fun h₅ tk₅ S₅ u₅ g₅ => run_nil ?_
  have shE : ∀ x y : List Nat, PyData.strOk ⟨x.toArray⟩ = true → PyData.strOk ⟨y.toArray⟩ = true → SeqAt.shaped (.list [.list [.str ⟨x.toArray⟩, .int 1], .list [.str ⟨y.toArray⟩, .int 1]]) = true := fun x y hx hy =>
    shaped_list (n := 1) (fun z m => by
      rcases List.mem_cons.mp m with e | m
      · rw [e]; exact ⟨by simp only [PyData.canLay0, PyData.canLayAll0, hx, Bool.and_true], by simp [PyData.depth, PyData.depthAll]⟩
      · rw [List.mem_singleton.mp m]; exact ⟨by simp only [PyData.canLay0, PyData.canLayAll0, hy, Bool.and_true], by simp [PyData.depth, PyData.depthAll]⟩) (by decide)
  have pyE : (D.list [ent (u, 1), ent (v, 1)]).py = some (.list [.list [.str ⟨u.toArray⟩, .int 1], .list [.str ⟨v.toArray⟩, .int 1]]) := rfl
  have opE : Op2 w (k + 40) (compareOp .Eq) (.list [ent (u, 1), ent (v, 1)]) (.list [ent (u, 1), ent (v, 1)]) (.bool true) := cp_eqD (by omega) pyE pyE (shE u v oku okv) (shE u v oku okv) (eqv_self pyE)
  have last : ∀ (sh : Sh) (x : List Nat), sh[sh.length - 1]? = some (x, 1) → ∃ n, sh.length = n + 1 ∧ (sh.map ent)[n]? = some (ent (x, 1)) := fun sh x e => by
    have h := (List.getElem?_eq_some_iff.mp e).1
    refine ⟨sh.length - 1, by omega, ?_⟩
    rw [List.getElem?_map, e]; rfl
  obtain ⟨nu, hnu, hlu⟩ := last su u hsu
  obtain ⟨nv, hnv, hlv⟩ := last sv v hsv
  have S₅' : St B env [("same", .int same), ("shuffles", .list [.list (su.map ent), .list (sv.map ent)]), ("brackets", .list [.list (bu.map ent), .list (bv.map ent)]), ("words", .list [.nstr u, .nstr v])] s₀ h₅ tk₅ := S₅
  refine run_ret F S₅' (ev_eq3
    (ev_comp (os := [ent (u, 1), ent (v, 1)]) [] ["told"] ⟨by kernel_rfl!, by kernel_rfl!, by rw [hsc]; kernel_rfl!, by kernel_rfl!, by kernel_rfl!, fun e m => nomatch m⟩ (ev_var (mem_at 2 rfl)) rfl trivial (fun g' m => by rw [List.mem_singleton.mp m]; exact ⟨rfl, fun _ _ => rfl⟩)
      (fun cenv ok hcs => turns_two (by kernel_rfl!) (by kernel_rfl!) (ev_sub (ev_var (mem_at 0 rfl)) (ev_nat (n := 0)) (gi_list (j := 0) ⟨by decide, by decide⟩ (seqIndex_nat (by rw [List.length_map]; exact (List.getElem?_eq_some_iff.mp hbu).1)) (by rw [List.getElem?_map, hbu]; rfl))) (ev_sub (ev_var (mem_at 0 rfl)) (ev_nat (n := 0)) (gi_list (j := 0) ⟨by decide, by decide⟩ (seqIndex_nat (by rw [List.length_map]; exact (List.getElem?_eq_some_iff.mp hbv).1)) (by rw [List.getElem?_map, hbv]; rfl)))) (by show 2 ≤ 1000000; decide))
    (ev_comp (os := [ent (u, 1), ent (v, 1)]) [] ["word"] ⟨by kernel_rfl!, by kernel_rfl!, by rw [hsc]; kernel_rfl!, by kernel_rfl!, by kernel_rfl!, fun e m => nomatch m⟩ (ev_var (mem_at 3 rfl)) rfl trivial (fun g' m => by rw [List.mem_singleton.mp m]; exact ⟨rfl, fun _ _ => rfl⟩)
      (fun cenv ok hcs => turns_two (by kernel_rfl!) (by kernel_rfl!) (ev_list (.cons (ev_weak (ev_var (mem_at 0 rfl))) rfl (.cons ev_int rfl .nil)) (by show 2 ≤ 1000000; decide)) (ev_list (.cons (ev_weak (ev_var (mem_at 0 rfl))) rfl (.cons ev_int rfl .nil)) (by show 2 ≤ 1000000; decide))) (by show 2 ≤ 1000000; decide))
    (ev_comp (os := [ent (u, 1), ent (v, 1)]) [] ["told"] ⟨by kernel_rfl!, by kernel_rfl!, by rw [hsc]; kernel_rfl!, by kernel_rfl!, by kernel_rfl!, fun e m => nomatch m⟩ (ev_var (mem_at 1 rfl)) rfl trivial (fun g' m => by rw [List.mem_singleton.mp m]; exact ⟨rfl, fun _ _ => rfl⟩)
      (fun cenv ok hcs => turns_two (by kernel_rfl!) (by kernel_rfl!) (ev_sub (ev_var (mem_at 0 rfl)) (ev_neg ev_int) (gi_list (i := -1) (j := nu) ⟨by decide, by decide⟩ (by rw [List.length_map, hnu]; exact seqIndex_last) hlu)) (ev_sub (ev_var (mem_at 0 rfl)) (ev_neg ev_int) (gi_list (i := -1) (j := nv) ⟨by decide, by decide⟩ (by rw [List.length_map, hnv]; exact seqIndex_last) hlv))) (by show 2 ≤ 1000000; decide))
    opE opE) fun x h' tk' u g hd => q _ h' tk' u g hd
end
end Mine

set_option maxRecDepth 100000
set_option linter.unusedVariables false
namespace Mine
open PySem PySem.W PyProof.Rows
/-- all but `f`, dicts and cells stays; what stands off `B` and `f` stays -/
structure Kf (f : Addr) (B : List Addr) (h h' : Heap) : Prop where
  sp : Sp (f :: B) h h'
  ko : Ko [f] h h'
theorem Kf.trans {f : Addr} {B : List Addr} {a b c : Heap} (x : Kf f B a b) (y : Kf f B b c) : Kf f B a c := ⟨x.sp.trans y.sp, x.ko.trans y.ko⟩
theorem Le.kf {f : Addr} {B : List Addr} {a b : Heap} (x : Le a b) : Kf f B a b := ⟨x.sp, x.kd.ko⟩
theorem kf_own {f : Addr} {B : List Addr} {a b : Heap} (x : Heap.ExtBut f a b) : Kf f B a b := ⟨sp_own (.head _) x, fun d o n _ e => x d o (fun c => n (c ▸ .head _)) e⟩
theorem Kf.sp' {f : Addr} {B : List Addr} {a b : Heap} (x : Kf f B a b) (n : a.get? f = none) : Sp B a b := fun d o m e => x.sp d o (fun c => (List.mem_cons.mp c).elim (al_ne ⟨o, e⟩ n) m) e
theorem Kf.kd' {f : Addr} {B : List Addr} {a b : Heap} (x : Kf f B a b) (n : a.get? f = none) : Kd a b := fun d o m e => x.ko d o (fun c => al_ne ⟨o, e⟩ n (List.mem_singleton.mp c)) m e
theorem insAt_map {α β : Type} (f : α → β) (l : List α) (i : Nat) (x : α) : (insAt l i x).map f = insAt (l.map f) i (f x) := by
  unfold insAt; rw [List.map_append, List.map_cons, List.map_take, List.map_drop]
theorem HasAll.ins {B : List Addr} {h : Heap} {vs : List Value} {ds : List D} (x : HasAll B h vs ds) (i : Nat) {v : Value} {d : D} (y : Has B h v d) : HasAll B h (insAt vs i v) (insAt ds i d) := (x.take i).append (.cons y (x.drop i))
section
variable {w : World} {k : Nat} {A : Around} {B : List Addr} {env : Env} {N : List Str} {σ : Sg} {s₀ s : Shared} {h : Heap} {tk : Nat} {E : Value → Shared → Prop}
theorem turns_filter {a : Str} {pa pb : Pos} {it c : Expr} {xs : List (List Nat)} {t : List Nat → Bool} (h1 : N.contains a = true) (x1 : (σ.all fun e => e.1 != a) = true) (hd : (a == ("__debug__" : Str)) = false) (hc : (a == ("__classdict__" : Str)) = false)
    (ts : ∀ p ∈ xs, Ts w k env ((a, .str p) :: σ) c (t p)) : Turns w k env N (Emit w k env N (.Name a pb) []) ⟨.Name a pa, it, [c], 0⟩ σ (xs.map .str) ((xs.filter t).map .str) := by
  refine turns_of (fun i => if t (xs.getD i []) then [.str (xs.getD i [])] else []) ?_ fun i di hd' => ?_
  · rw [List.length_map, ← flat_filter t .str xs]
    congr 1
    exact range_getD [] (fun p => if t p then [D.str p] else []) xs
  · obtain ⟨p, hp, rfl⟩ := map_at hd'
    rw [getD_of hp]
    refine ⟨(a, .str p) :: σ, t p, asg_name h1 (fun e m => m) x1, fun e m => .tail _ m, ts p (List.mem_of_getElem? hp), fun e => ?_, fun e => by rw [e]; rfl⟩
    rw [if_pos e]
    exact emit_one (ev_var (mem_at 0 rfl) hd hc)
/-- two names, the first a new list -/
theorem run_assignOwn {x y : Str} {px py : Pos} {n n2 : Nat} {pl p2 pt p : Pos} {e2 : Expr} {rest : List Stmt} {d2 : D} {ρ : Sg} {Q : Flow → Shared → Prop} (F : Frm w k A B env N s₀) (S : St B env σ s₀ h tk) (ev2 : EvE w k env σ e2 d2)
    (hNx : N.contains x = true) (hNy : N.contains y = true) (hρ : ∀ e ∈ ρ, e ∈ σ) (hy : (ρ.all fun e => e.1 != y) = true) (hx : (((y, d2) :: ρ).all fun e => e.1 != x) = true)
    (hs : swapsWithSole [.Tuple [.Name x px, .Name y py] n pt] (.Tuple [.List [] pl, e2] n2 p2) p.line env = pure false) (hw : swappedStores [.Tuple [.Name x px, .Name y py] n pt] (.Tuple [.List [] pl, e2] n2 p2) env = pure (some [x, y]))
    (he : starEach [e2] env = [(false, eval e2 env)])
    (q : ∀ r h' tk', h.get? r = none → h'.PlainList r ([] : List Value).toArray → St (r :: B) env ((x, .val (.ref r)) :: (y, d2) :: ρ) s₀ h' tk' → Kf r B h h' → Run w A env rest Q E (stAt s₀ h' tk')) :
    Run w A env (.Assign [.Tuple [.Name x px, .Name y py] n pt] (.Tuple [.List [] pl, e2] n2 p2) p :: rest) Q E (stAt s₀ h tk) := by
  refine wpAny_execs_cons (Assign_Tuple_swapped (hs := hs) (hw := hw) (wpAny_Tuple (wpAny_items_cons (eval_listN (S.pre F) .nil (by decide) fun r vs h₁ tk₁ u₁ g₁ nr acc hv => ?_) (by rw [show starEach (Expr.List [] pl :: [e2]) env = (false, eval (.List [] pl) env) :: starEach [e2] env from rfl]))))
  cases hv
  have alr : Al h₁ r := by obtain ⟨n, e⟩ := acc; exact ⟨_, e⟩
  have S₁ : St (r :: B) env σ s₀ h₁ tk₁ := S.addL u₁ g₁ fun b m => by
    rcases List.mem_cons.mp m with e | m
    · rw [e]; exact .inr ⟨nr, alr⟩
    · exact .inl m
  have F₁ := F.add r
  refine wpAny_items_cons (ev2 A (r :: B) (stAt s₀ h₁ tk₁) E _ (S₁.pre F₁) fun v h₂ tk₂ u₂ g₂ hv2 => wpAny_items_nil ?_) he
  have S₂ := S₁.up u₂ g₂
  refine ⟨(by show 2 ≤ sizeLine; decide), ?_⟩
  generalize hH : (stAt (stAt s₀ h₁ tk₁) h₂ tk₂).heap.push { cls := .type "tuple", data := .seq ([Value.ref r, v]).toArray } = h₃
  have up : Le h₂ h₃ := by rw [← hH]; exact Le.push _ _
  have S₃ := S₂.up up (Nat.le_refl _)
  have ht : Has (r :: B) h₃ (.ref h₂.objs.size) (.tup [.val (.ref r), d2]) := by
    refine .tup (new_off S₂.bd) ?_ (.cons (.val _) (.cons (hv2.le up) .nil))
    rw [← hH]; exact ⟨_, Heap.get?_push_size _ rfl⟩
  refine unpack2 (s := stAt s₀ h₃ tk₂) F.room.1 (.inl rfl) ht fun u u' h₄ l₄ hu hu' => ?_
  obtain rfl := hu.val_inv
  have S₄ := S₃.up l₄ (Nat.le_refl _)
  show wpAny _ A (assignInOrder [bindName env y, bindName env x] [u', .ref r]) _ _ (stAt s₀ h₄ tk₂)
  refine assignInOrder_cons (wpAny_bindName (st_store F₁ S₄ hu' hNy hρ hy fun h₅ tk₅ S₅ sp₅ kd₅ g₅ => ?_))
  refine assignInOrder_cons (wpAny_bindName (st_store F₁ S₅ (.val (.ref r)) hNx (fun e m => m) hx fun h₆ tk₆ S₆ sp₆ kd₆ g₆ => assignInOrder_nil ?_))
  have le4 : Le h₁ h₄ := (u₂.trans up).trans l₄
  refine q r h₆ tk₆ nr ?_ S₆ ⟨((u₁.trans le4).sp.trans sp₅).trans sp₆, ((u₁.trans le4).kd.trans (kd₅.trans kd₆)).ko⟩
  obtain ⟨n, e⟩ := acc
  exact ⟨n, kd₆ _ _ (notNm_seq rfl) (kd₅ _ _ (notNm_seq rfl) (le4 _ _ e))⟩
end
end Mine

set_option maxRecDepth 100000
set_option linter.unusedVariables false
namespace Mine
open PySem PySem.W PyProof.Rows
noncomputable def cutsBody : List Stmt := match lawB 10 with
  | .For _ _ b _ _ :: _ => b
  | _ => []
section
variable {w : World} {k : Nat} {A : Around} {B : List Addr} {env : Env} {N : List Str} {σ : Sg} {s₀ s : Shared} {h : Heap} {tk : Nat} {E : Value → Shared → Prop}
set_option maxHeartbeats 4000000 in
theorem law_turn {p : List (List Nat)} {d : D} (ok : partsOk p = true) {Q : Flow → Shared → Prop} (hsc : env.scope = fnScope 28) (F : Frm w (k + 40) A B env lawN s₀) (S : St B env [("parts", .tks p), ("words", d)] s₀ h tk)
    (q : ∀ h' tk', St B env [("words", d)] s₀ h' tk' → Sp B h h' → Kd h h' → Q .next (stAt s₀ h' tk')) : Run w A env cutsBody Q E (stAt s₀ h tk) := by
  generalize hb : cutsBody = b
  with_unfolding_all conv at hb => lhs; whnf
  subst hb
  unfold partsOk at ok
  simp only [Bool.and_eq_true, decide_eq_true_eq] at ok
  obtain ⟨⟨⟨⟨⟨o1, o2⟩, o3⟩, o4⟩, o5, o6⟩, o7⟩ := ok
  have chars : ∀ x ∈ p, x.length ≤ 5 := fun x m => by
    have := List.all_eq_true.mp o2 x m
    rw [Bool.and_eq_true] at this
    exact of_decide_eq_true this.1
  have hT : (pickL (p.map D.str) none none (some (-1))) = (turnedOf p).map .str := pickL_map _ _ _ _ _
  refine run_assignOwn (d2 := .list ((turnedOf p).map .str)) (ρ := [("parts", .tks p), ("words", d)]) F S (Ev.cast (ev_slL (ev_untk (ev_var (mem_at 0 rfl))) .none .none (.some (ev_neg ev_int)) (by decide) (by rw [List.length_map]; omega)) (congrArg D.list hT)) (by kernel_rfl!) (by kernel_rfl!) (fun e m => m) (by kernel_rfl!) (by kernel_rfl!) rfl (swS hsc fun e => by kernel_rfl!) rfl fun r h₁ tk₁ nr acc₁ S₁ kf₁ => ?_
  have rB : r ∉ B := fun m => al_ne (S.bd _ m) nr rfl
  have s0r : s₀.heap.get? r = none := by
    cases e : s₀.heap.get? r with
    | none => rfl
    | some o => have := S.keep _ _ e; rw [nr] at this; cases this
  let σ : Sg := [("rising", .val (.ref r)), ("turned", .list ((turnedOf p).map .str)), ("parts", .tks p), ("words", d)]
  have S₁ : St (r :: B) env σ s₀ h₁ tk₁ := S₁
  refine run_forY (X := fun hL I i h' => r ≠ I ∧ (∃ vs, h'.PlainList r vs.toArray ∧ HasAll (I :: r :: B) h' vs ((risOf p i).map ent)) ∧ (∀ b o, b ≠ I → b ≠ r → NotNm o → hL.get? b = some o → h'.get? b = some o)) (σI := fun _ => σ) (τI := fun i => ("j", .int (i : Nat)) :: σ) (F.add r) S₁
    (ev_call (ev_built (kd_glob hsc (by kernel_rfl!)) (fun P => by kernel_rfl!) (by kernel_rfl!)) kp_type (.cons (ev_call (ev_built (kd_glob hsc (by kernel_rfl!)) (fun P => by kernel_rfl!) (by kernel_rfl!)) kp_builtin (.cons (ev_var (mem_at 2 rfl)) rfl .nil) (fn_lenT (by omega))) rfl .nil) fn_range1) rfl ⟨by decide, by decide, by omega, by omega⟩ (fun e m => m) ?_ ?_ (fun i di hd => ?_) ?_ ?_
  · intro hL I h' u v n
    obtain ⟨m, e⟩ := acc₁
    exact ⟨al_ne ⟨_, u _ _ e⟩ n, ⟨[], ⟨m, v _ _ (u _ _ e)⟩, .nil⟩, fun b o _ _ _ e => v _ _ e⟩
  · rintro hL I i h' h'' ⟨rI, ⟨vs, ⟨m, e⟩, hv⟩, ko⟩ sp kd
    exact ⟨rI, ⟨vs, ⟨m, kd _ _ rI (notNm_seq rfl) e⟩, hv.sp sp⟩, fun b o n1 n2 nm e => kd b o n1 nm (ko b o n1 n2 nm e)⟩
  · obtain ⟨hi, rfl⟩ := range_at hd
    rw [Int.zero_add]
    exact asg_name (by kernel_rfl!) (fun e m => m) (by kernel_rfl!)
  · intro i di hL I h₂ tk₂ E' hd uL nI F' S₂ hX spL nmI
    obtain ⟨rI, ⟨vs, acc, hv⟩, ko⟩ := hX
    obtain ⟨hi, rfl⟩ := range_at hd
    have hi : i < p.length := by omega
    have hpi : p[i]? = some (p.getD i []) := by rw [List.getD_eq_getElem?_getD, List.getElem?_eq_getElem hi]; rfl
    have hlen : (risOf p i).length ≤ i := by
      have : ∀ n, (risOf p n).length ≤ n := fun n => by
        induction n with
        | zero => exact Nat.le_refl _
        | succ n ih => rw [risOf]; unfold risStep; rw [insAt_length]; omega
      exact this i
    have S₂' : St (I :: r :: B) env [("j", .int (i : Nat)), ("rising", .val (.ref r)), ("turned", .list ((turnedOf p).map .str)), ("parts", .tks p), ("words", d)] s₀ h₂ tk₂ := S₂
    refine wpAny_execs_cons (wpAny_Expr_any (call_handk (u := .ref 180) (S₂'.pre F') (ev_glob (kd_glob hsc (by kernel_rfl!)) (fun P => by kernel_rfl!)) (FnAt.kp fx_insort_left)
        (.cons (ev_var (mem_at 1 rfl)) rfl (.cons (ev_list (.cons (ev_weak (ev_sub (ev_var (mem_at 3 rfl)) (ev_var (mem_at 0 rfl)) (gi_tks (j := i) ⟨by omega, by omega⟩ (seqIndex_nat hi) hpi))) rfl (.cons (ev_var (mem_at 0 rfl)) rfl .nil)) (by show 2 ≤ 1000000; decide)) rfl .nil)) (ev_glob (kd_glob hsc (by kernel_rfl!)) (fun P => by kernel_rfl!))
        fun ws h₃ tk₃ u₃ g₃ hw => ?_) (inter_no F.ok.kind) rfl)
    obtain ⟨x, y, rfl, hx, hy⟩ := hasAll_two hw
    obtain rfl := hx.val_inv
    have S₃ := S₂'.up u₃ g₃
    have acc₃ : h₃.PlainList r vs.toArray := by obtain ⟨n, e⟩ := acc; exact ⟨n, u₃ _ _ e⟩
    have sb : ∀ c ∈ B, c ∈ I :: r :: B := fun c m => .tail _ (.tail _ m)
    refine call_insort (s := stAt s₀ h₃ tk₃) (B := B) (ps := risOf p i) (x := p.getD i []) (n := (i : Int)) (k := k) (F.room.mono (by omega)) (F.facts.keeps S₃.keep) (fun b m => S₃.bd b (sb b m)) acc₃ ((hv.le u₃).sub sb) rB (hy.sub sb) (S₃.pre F').pos (by omega) fun h₄ h₅ tk₅ u₄ g₄ acc₅ eb₅ => run_nil ?_
    have acc₄ : h₄.PlainList r vs.toArray := by obtain ⟨n, e⟩ := acc₃; exact ⟨n, u₄ _ _ e⟩
    have S₄ : St (I :: r :: B) env σ s₀ h₄ tk₅ := (S₃.up u₄ g₄).pick [1, 2, 3, 4]
    have nm := it_ne_ns S₄ (plain_nm acc₄)
    have S₅ := S₄.butN (I := r) (.tail _ (.head _)) eb₅ nm.1 nm.2 s0r (by obtain ⟨n, e⟩ := acc₅; exact ⟨_, e⟩) (Nat.le_refl _)
    have sp₅ : Sp (I :: r :: B) h₄ h₅ := sp_own (.tail _ (.head _)) eb₅
    refine ⟨h₅, tk₅, rfl, S₅, ⟨rI, ⟨_, acc₅, ?_⟩, fun b o n1 n2 nm e => eb₅ b o n2 (u₄ _ _ (u₃ _ _ (ko b o n1 n2 nm e)))⟩, fun b o nb e => sp₅ b o nb (u₄ _ _ (u₃ _ _ (spL b o nb e))), fun o _ e => eb₅ I o rI.symm (u₄ _ _ (u₃ _ _ e))⟩
    have hr : risOf p (i + 1) = insAt (risOf p i) (bis ((risOf p i).map (·.1)) (p.getD i []) 0 (risOf p i).length) (p.getD i [], (i : Int)) := rfl
    rw [hr, insAt_map]
    exact (((hv.le u₃).le u₄).sp sp₅).ins _ ((hy.le u₄).sp sp₅)
  · intro hL I h₂ tk₂ uL nI S₂ hX sp₂
    obtain ⟨rI, ⟨vs, acc, hv⟩, ko⟩ := hX
    have hn : ((List.range ((p.length : Int) - 0).toNat).map fun i => D.int (0 + (i : Nat))).length = p.length := by rw [List.length_map, List.length_range]; omega
    rw [hn] at hv
    have kf₂ : Kf r B h h₂ := kf₁.trans ⟨sp₂, fun b o nb nm e => ko b o (al_ne ⟨o, uL _ _ e⟩ nI) (fun c => nb (c ▸ .head _)) nm (uL _ _ e)⟩
    have hv' : HasAll B h₂ vs ((risOf p p.length).map ent) := hv.sub fun c m => .tail _ (.tail _ m)
    have S₃ : St B env [("rising", .list ((risOf p p.length).map ent)), ("rising", .val (.ref r)), ("turned", .list ((turnedOf p).map .str)), ("parts", .tks p), ("words", d)] s₀ h₂ tk₂ := (S₂.sub fun c m => .tail _ m).view (mem_at 0 rfl) (.list rB acc hv')
    have sp₃ : Sp B h h₂ := kf₂.sp' nr
    have kd₃ : Kd h h₂ := kf₂.kd' nr
    have hR : (pickL ((pairsOf p).map ent) none none (some (-1))) = (risOf p p.length).map ent := by rw [pickL_map, o5]
    have hRl : (risOf p p.length).length = p.length := by
      have : ∀ n, (risOf p n).length = n := fun n => by
        induction n with
        | zero => rfl
        | succ n ih => rw [risOf]; unfold risStep; rw [insAt_length, ih]
      exact this _
    refine run_if (c := false) F S₃ (ts_cmp (ev_var (mem_at 0 rfl)) (Ev.cast (ev_slL (ev_comp (os := (pairsOf p).map ent) [("parts", .tks p)] ["j"] ⟨by kernel_rfl!, by kernel_rfl!, by rw [hsc]; kernel_rfl!, by kernel_rfl!, by kernel_rfl!, fun e m => by rw [List.mem_singleton.mp m]; exact mem_at 3 rfl⟩
        (ev_call (ev_built (kd_glob hsc (by kernel_rfl!)) (fun P => by kernel_rfl!) (by kernel_rfl!)) kp_type (.cons (ev_call (ev_built (kd_glob hsc (by kernel_rfl!)) (fun P => by kernel_rfl!) (by kernel_rfl!)) kp_builtin (.cons (ev_var (mem_at 3 rfl)) rfl .nil) (fn_lenT (by omega))) rfl .nil) fn_range1) rfl ⟨by decide, by decide, by omega, by omega⟩
        (fun g' m => by rw [List.mem_singleton.mp m]; exact ⟨rfl, fun _ _ => rfl⟩) (fun cenv ok hcs => turns_of (fun i => [ent (p.getD i [], (i : Int))]) ?_ fun i di hd => ?_) ?_) .none .none (.some (ev_neg ev_int)) (by decide) ?_) (congrArg D.list hR)) (cp_neD (by omega) (py_ents _) (py_ents _) (shaped_ents o4) (shaped_ents o4) (c := true) (eqv_self (py_ents _)))) fun h₃ tk₃ S₄ u₃ g₃ => run_nil ?_
    · rw [hn, flat_one]
      unfold pairsOf
      rw [List.map_map]; rfl
    · obtain ⟨hi, rfl⟩ := range_at hd
      rw [Int.zero_add]
      have hi : i < p.length := by omega
      have hpi : p[i]? = some (p.getD i []) := by rw [List.getD_eq_getElem?_getD, List.getElem?_eq_getElem hi]; rfl
      exact ⟨[("j", .int (i : Nat)), ("parts", .tks p)], true, asg_name (by kernel_rfl!) (fun e m => m) (by kernel_rfl!), fun e m => .tail _ m, rfl, fun _ => emit_one (ev_list (.cons (ev_weak (ev_sub (ev_var (mem_at 1 rfl)) (ev_var (mem_at 0 rfl)) (gi_tks (j := i) ⟨by omega, by omega⟩ (seqIndex_nat hi) hpi))) rfl (.cons (ev_var (mem_at 0 rfl)) rfl .nil)) (by show 2 ≤ 1000000; decide)), fun e => nomatch e⟩
    · unfold pairsOf; rw [List.length_map, List.length_map, List.length_range]; omega
    · unfold pairsOf; rw [List.length_map, List.length_map, List.length_range]; omega
    -- the second loop
    have S₄' : St B env [("parts", .tks p), ("rising", .list ((risOf p p.length).map ent)), ("turned", .list ((turnedOf p).map .str)), ("words", d)] s₀ h₃ tk₃ := S₄.pick [3, 0, 2, 4]
    obtain ⟨vs, tko, ⟨hvl, hvt⟩, Sv⟩ := S₄'.vals (mem_at 0 rfl)
    let J : Sg := [("parts", .list (vs.map .val)), ("parts", .tks p), ("rising", .list ((risOf p p.length).map ent)), ("turned", .list ((turnedOf p).map .str)), ("words", d)]
    have Sv : St B env J s₀ h₃ tk₃ := Sv
    have sp₄ : Sp B h h₃ := sp₃.trans u₃.sp
    have kd₄ : Kd h h₃ := kd₃.trans u₃.kd
    refine run_forK (σI := fun _ => J) (τI := fun i => ("j", .int (i : Nat)) :: J) F Sv
      (ev_call (ev_built (kd_glob hsc (by kernel_rfl!)) (fun P => by kernel_rfl!) (by kernel_rfl!)) kp_type (.cons (ev_call (ev_built (kd_glob hsc (by kernel_rfl!)) (fun P => by kernel_rfl!) (by kernel_rfl!)) kp_builtin (.cons (ev_var (mem_at 1 rfl)) rfl .nil) (fn_lenT (by omega))) rfl .nil) fn_range1) rfl ⟨by decide, by decide, by omega, by omega⟩ (fun e m => m) (fun i di hd => ?_) ?_ ?_
    · obtain ⟨hi, rfl⟩ := range_at hd
      rw [Int.zero_add]
      exact asg_name (by kernel_rfl!) (fun e m => m) (by kernel_rfl!)
    · intro j dj B' h₄ tk₄ E' hd sub F' S₅
      obtain ⟨hj, rfl⟩ := range_at hd
      have hj : j < p.length := by omega
      have hpj : p[j]? = some (p.getD j []) := by rw [List.getD_eq_getElem?_getD, List.getElem?_eq_getElem hj]; rfl
      have okj := of_decide_eq_true (List.all_eq_true.mp o7 j (List.mem_range.mpr hj))
      have hcj := chars (p.getD j []) (List.mem_of_getElem? hpj)
      have S₅' : St B' env [("j", .int (j : Nat)), ("parts", .list (vs.map .val)), ("parts", .tks p), ("rising", .list ((risOf p p.length).map ent)), ("turned", .list ((turnedOf p).map .str)), ("words", d)] s₀ h₄ tk₄ := S₅
      refine run_assign (d := .int (lessOf p j : Nat)) (ρ := pick _ [0, 1, 2, 3, 4, 5]) F' S₅' (Ev.cast (ev_call (ev_built (kd_glob hsc (by kernel_rfl!)) (fun P => by kernel_rfl!) (by kernel_rfl!)) kp_builtin (.cons (ev_comp (os := (p.filter fun x => decide (x < p.getD j [])).map .str) [("j", .int (j : Nat)), ("parts", .tks p)] ["part"] ⟨by kernel_rfl!, by kernel_rfl!, by rw [hsc]; kernel_rfl!, by kernel_rfl!, by kernel_rfl!, fun e m => by
            rcases List.mem_cons.mp m with e' | m
            · rw [e']; exact mem_at 0 rfl
            · rw [List.mem_singleton.mp m]; exact mem_at 2 rfl⟩ (ev_var (mem_at 2 rfl)) rfl trivial (fun g' m => by rw [List.mem_singleton.mp m]; exact ⟨rfl, fun _ _ => rfl⟩)
          (fun cenv ok hcs => turns_filter (by kernel_rfl!) (by kernel_rfl!) (by decide) (by decide) fun x mx => ts_cmp (ev_var (mem_at 0 rfl)) (ev_weak (ev_sub (ev_var (mem_at 2 rfl)) (ev_var (mem_at 1 rfl)) (gi_tks (j := j) ⟨by omega, by omega⟩ (seqIndex_nat hj) hpj))) cp_ltS)
          (by rw [List.length_map]; have := List.length_filter_le (fun x => decide (x < p.getD j [])) p; omega)) rfl .nil) (fn_len (by rw [List.length_map]; have := List.length_filter_le (fun x => decide (x < p.getD j [])) p; omega))) (by rw [List.length_map]; rfl)) pick_sub (by kernel_rfl!) (by kernel_rfl!) rfl fun h₅ tk₅ S₆ sp₆ kd₆ g₆ => ?_
      have S₆' : St B' env [("less", .int (lessOf p j : Nat)), ("j", .int (j : Nat)), ("parts", .list (vs.map .val)), ("parts", .tks p), ("rising", .list ((risOf p p.length).map ent)), ("turned", .list ((turnedOf p).map .str)), ("words", d)] s₀ h₅ tk₅ := S₆
      have hfo : foundOf p j = [bis ((risOf p p.length).map (·.1)) (p.getD j []) 0 (risOf p p.length).length, bis (turnedOf p) (p.getD j []) 0 (turnedOf p).length, bis (turnedOf p) (p.getD j []) 0 j, bis (turnedOf p) (p.getD j []) j (turnedOf p).length, p.count (p.getD j [])] := rfl
      refine wpAny_execs_cons (wpAny_Assign_Name (eval_listN (S₆'.pre F')
        (.cons (ev_callk (ev_glob (kd_glob hsc (by kernel_rfl!)) (fun P => by kernel_rfl!)) (FnAt.kp fx_bisect_left) (.cons (ev_var (mem_at 4 rfl)) rfl (.cons (ev_weak (ev_sub (ev_var (mem_at 3 rfl)) (ev_var (mem_at 1 rfl)) (gi_tks (j := j) ⟨by omega, by omega⟩ (seqIndex_nat hj) hpj))) rfl .nil)) (ev_glob (kd_glob hsc (by kernel_rfl!)) (fun P => by kernel_rfl!)) (fn_bisk (by omega))) rfl
        (.cons (ev_call (ev_glob (kd_glob hsc (by kernel_rfl!)) (fun P => by kernel_rfl!)) (FnAt.kp fx_bisect_left) (.cons (ev_var (mem_at 5 rfl)) rfl (.cons (ev_weak (ev_sub (ev_var (mem_at 3 rfl)) (ev_var (mem_at 1 rfl)) (gi_tks (j := j) ⟨by omega, by omega⟩ (seqIndex_nat hj) hpj))) rfl .nil)) (fn_bis2 (by omega))) rfl .nil)) (by show 2 ≤ 1000000; decide) fun f fs h₆ tk₆ u₆ g₆ nf accf hvf => ?_) rfl)
      have alf : Al h₆ f := by obtain ⟨n, e⟩ := accf; exact ⟨_, e⟩
      have fB : f ∉ B' := fun m => al_ne (S₆'.bd _ m) nf rfl
      have s0f : s₀.heap.get? f = none := by
        cases e : s₀.heap.get? f with
        | none => rfl
        | some o => have := S₆'.keep _ _ e; rw [nf] at this; cases this
      have S₇ : St (f :: B') env [("less", .int (lessOf p j : Nat)), ("j", .int (j : Nat)), ("parts", .list (vs.map .val)), ("parts", .tks p), ("rising", .list ((risOf p p.length).map ent)), ("turned", .list ((turnedOf p).map .str)), ("words", d)] s₀ h₆ tk₆ := S₆'.addL u₆ g₆ fun b m => by
        rcases List.mem_cons.mp m with e | m
        · rw [e]; exact .inr ⟨nf, alf⟩
        · exact .inl m
      have F₇ := F'.add f
      refine st_store (s₀ := s₀) F₇ S₇ (.val (.ref f)) (x := "found") (ρ := pick _ [0, 1, 2, 3, 4, 5, 6]) (by kernel_rfl!) pick_sub (by kernel_rfl!) fun h₇ tk₇ S₈ sp₈ kd₈ g₈ => ?_
      have S₈ : St (f :: B') env [("found", .val (.ref f)), ("less", .int (lessOf p j : Nat)), ("j", .int (j : Nat)), ("parts", .list (vs.map .val)), ("parts", .tks p), ("rising", .list ((risOf p p.length).map ent)), ("turned", .list ((turnedOf p).map .str)), ("words", d)] s₀ h₇ tk₇ := S₈
      have acc₇ : h₇.PlainList f fs.toArray := by obtain ⟨n, e⟩ := accf; exact ⟨n, kd₈ _ _ (notNm_seq rfl) e⟩
      have kf₇ : Kf f B' h₅ h₇ := (Le.kf u₆).trans ⟨sp₈, kd₈.ko⟩
      -- extend
      refine wpAny_execs_cons (wpAny_Expr_any (method_call (ov := .ref f) (ds := [.list [.int (bis (turnedOf p) (p.getD j []) 0 j : Nat), .int (bis (turnedOf p) (p.getD j []) j (turnedOf p).length : Nat)]]) (S₈.pre F₇) (ev_var (mem_at 0 rfl))
        (.cons (ev_list (.cons (ev_call (ev_glob (kd_glob hsc (by kernel_rfl!)) (fun P => by kernel_rfl!)) (FnAt.kp fx_bisect_left) (.cons (ev_var (mem_at 6 rfl)) rfl (.cons (ev_weak (ev_sub (ev_var (mem_at 4 rfl)) (ev_var (mem_at 2 rfl)) (gi_tks (j := j) ⟨by omega, by omega⟩ (seqIndex_nat hj) hpj))) rfl (.cons (ev_nat (n := 0)) rfl (.cons (ev_var (mem_at 2 rfl)) rfl .nil)))) (fn_bis4 (by omega) (by omega))) rfl
          (.cons (ev_call (ev_glob (kd_glob hsc (by kernel_rfl!)) (fun P => by kernel_rfl!)) (FnAt.kp fx_bisect_left) (.cons (ev_var (mem_at 6 rfl)) rfl (.cons (ev_weak (ev_sub (ev_var (mem_at 4 rfl)) (ev_var (mem_at 2 rfl)) (gi_tks (j := j) ⟨by omega, by omega⟩ (seqIndex_nat hj) hpj))) rfl (.cons (ev_var (mem_at 2 rfl)) rfl .nil))) (fn_bis3 (by omega))) rfl .nil)) (by show 2 ≤ 1000000; decide)) rfl .nil)
        acc₇.isList.typeIs (fun b e => by cases e; obtain ⟨m, e⟩ := acc₇; exact ⟨_, e, rfl⟩) PySem.F.plainAttrs_list PySem.F.slot_list_extend ty_extend (fun ws h₈ tk₈ u₈ g₈' hw => ?_) rfl rfl rfl) (inter_no F.ok.kind) rfl)
      obtain ⟨v, rfl, hv⟩ := hasAll_one hw
      cases hv with
      | @list b ws _ nb accb hws =>
        have acc₈ : h₈.PlainList f fs.toArray := by obtain ⟨n, e⟩ := acc₇; exact ⟨n, u₈ _ _ e⟩
        have lf := hvf.length
        have lw := hws.length
        have lf : fs.length = 2 := lf
        have lw : ws.length = 2 := lw
        refine list_extend (s := stAt s₀ h₈ tk₈) acc₈ accb (by omega) fun h₉ acc₉ sb₉ => ?_
        have S₈' : St (f :: B') env [("found", .val (.ref f)), ("less", .int (lessOf p j : Nat)), ("j", .int (j : Nat)), ("parts", .list (vs.map .val)), ("parts", .tks p), ("rising", .list ((risOf p p.length).map ent)), ("turned", .list ((turnedOf p).map .str)), ("words", d)] s₀ h₈ tk₈ := S₈.up u₈ g₈'
        have nm := it_ne_ns S₈' (plain_nm acc₈)
        have S₉ := S₈'.butN (.head _) sb₉.extBut nm.1 nm.2 s0f (by obtain ⟨n, e⟩ := acc₉; exact ⟨_, e⟩) (Nat.le_refl _)
        have kf₉ : Kf f B' h₅ h₉ := (kf₇.trans (Le.kf u₈)).trans (kf_own sb₉.extBut)
        -- append
        obtain ⟨v, hv⟩ : ∃ v, vs[j]? = some v := ⟨vs[j]'(by omega), List.getElem?_eq_getElem (by omega)⟩
        obtain ⟨t, rfl, ht⟩ := hvt j v hv
        have hmem := List.mem_of_getElem? hv
        have hvd : (vs.map D.val)[j]? = some (.val (.str ⟨(p.getD j []).toArray⟩ t)) := by rw [List.getElem?_map, hv]; rfl
        have txt : Texts vs p (p.getD j []) t := ⟨hvl, fun i v' hv' => by
          obtain ⟨t', rfl, ht'⟩ := hvt i v' hv'
          refine ⟨t', rfl, ht', fun e => ?_⟩
          subst e
          exact str_inj (tko.one _ _ t' (List.mem_of_getElem? hv') hmem)⟩
        refine wpAny_execs_cons (wpAny_Expr_any (method_call (s := stAt s₀ h₉ tk₈) (ov := .ref f) (ds := [.int (p.count (p.getD j []) : Nat)]) (S₉.pre F₇) (ev_var (mem_at 0 rfl))
          (.cons (ev_call (ev_glob (kd_glob hsc (by kernel_rfl!)) (fun P => by kernel_rfl!)) (FnAt.kp fx_countOf) (.cons (ev_var (mem_at 3 rfl)) rfl (.cons (ev_sub (ev_var (mem_at 3 rfl)) (ev_var (mem_at 2 rfl)) (gi_list (j := j) ⟨by omega, by omega⟩ (seqIndex_nat (by rw [List.length_map]; omega)) hvd)) rfl .nil)) (fn_countOf ht txt)) rfl .nil)
          acc₉.isList.typeIs (fun b e => by cases e; obtain ⟨m, e⟩ := acc₉; exact ⟨_, e, rfl⟩) PySem.F.plainAttrs_list PySem.F.slot_list_append PySem.F.type_list_append (fun cs h₁₀ tk₁₀ u₁₀ g₁₀ hc => ?_) rfl rfl rfl) (inter_no F.ok.kind) rfl)
        obtain ⟨c, rfl, hc1⟩ := hasAll_one hc
        have acc₁₀ : h₁₀.PlainList f (fs ++ ws).toArray := by obtain ⟨n, e⟩ := acc₉; exact ⟨n, u₁₀ _ _ e⟩
        refine wpAny_list_append_plain (s := stAt s₀ h₁₀ tk₁₀) acc₁₀ (fun h₁₁ acc₁₁ sb₁₁ => ?_) (by rw [List.size_toArray, List.length_append, lf, lw]; decide)
        have S₁₀ : St (f :: B') env [("found", .val (.ref f)), ("less", .int (lessOf p j : Nat)), ("j", .int (j : Nat)), ("parts", .list (vs.map .val)), ("parts", .tks p), ("rising", .list ((risOf p p.length).map ent)), ("turned", .list ((turnedOf p).map .str)), ("words", d)] s₀ h₁₀ tk₁₀ := S₉.up u₁₀ g₁₀
        have nm := it_ne_ns S₁₀ (plain_nm acc₁₀)
        have acc₁₁ : h₁₁.PlainList f ((fs ++ ws) ++ [c]).toArray := by simpa using acc₁₁
        have S₁₁ := S₁₀.butN (.head _) sb₁₁.extBut nm.1 nm.2 s0f (by obtain ⟨n, e⟩ := acc₁₁; exact ⟨_, e⟩) (Nat.le_refl _)
        have kf₁₁ : Kf f B' h₅ h₁₁ := (kf₉.trans (Le.kf u₁₀)).trans (kf_own sb₁₁.extBut)
        have hall : HasAll B' h₁₁ ((fs ++ ws) ++ [c]) (nts (foundOf p j)) := by
          have f1 : HasAll B' h₁₁ fs [.int (bis ((risOf p p.length).map (·.1)) (p.getD j []) 0 (risOf p p.length).length : Nat), .int (bis (turnedOf p) (p.getD j []) 0 (turnedOf p).length : Nat)] := by
            obtain ⟨a, b, rfl, ha, hb⟩ := hasAll_two hvf
            exact .cons (ha.flat rfl) (.cons (hb.flat rfl) .nil)
          have f2 : HasAll B' h₁₁ ws [.int (bis (turnedOf p) (p.getD j []) 0 j : Nat), .int (bis (turnedOf p) (p.getD j []) j (turnedOf p).length : Nat)] := by
            obtain ⟨a, b, rfl, ha, hb⟩ := hasAll_two hws
            exact .cons (ha.flat rfl) (.cons (hb.flat rfl) .nil)
          exact (f1.append f2).append (.one (hc1.flat rfl))
        have Sf : St B' env [("found", .list (nts (foundOf p j))), ("found", .val (.ref f)), ("less", .int (lessOf p j : Nat)), ("j", .int (j : Nat)), ("parts", .list (vs.map .val)), ("parts", .tks p), ("rising", .list ((risOf p p.length).map ent)), ("turned", .list ((turnedOf p).map .str)), ("words", d)] s₀ h₁₁ tk₁₀ := (S₁₁.sub (B := B') fun b m => .tail _ m).view (mem_at 0 rfl) (.list fB acc₁₁ hall)
        have minc : ∀ a b : Nat, (min (a : Int) (b : Int)) = ((min a b : Nat) : Int) := fun a b => by omega
        have maxc : ∀ a b : Nat, (max (a : Int) (b : Int)) = ((max a b : Nat) : Int) := fun a b => by omega
        show Run w A env _ _ _ (stAt s₀ h₁₁ tk₁₀)
        refine run_if (c := false) F' Sf (ts_cmp (a := .list (nts (foundOf p j))) (b := .list (nts (dueOf p j))) (ev_var (mem_at 0 rfl)) ?_ (cp_neD (by omega) (py_nts _) (py_nts _) (shaped_nts _) (shaped_nts _) (c := true) (by rw [okj]; exact eqv_self (py_nts _)))) fun h₁₂ tk₁₂ S₁₂ u₁₂ g₁₂ => run_nil (run_nil ?_)
        · refine Ev.cast (d := .list [.int (lessOf p j : Nat), .int (lessOf p j : Nat), .int (min (lessOf p j) j : Nat), .int (max (lessOf p j) j : Nat), .int (sameOf p j : Nat)]) ?_ rfl
          refine ev_list (ds := [.int (lessOf p j : Nat), .int (lessOf p j : Nat), .int (min (lessOf p j) j : Nat), .int (max (lessOf p j) j : Nat), .int (sameOf p j : Nat)])
            (.cons (ev_var (mem_at 2 rfl)) rfl (.cons (ev_var (mem_at 2 rfl)) rfl (.cons ?_ rfl
              (.cons ?_ rfl
              (.cons ?_ rfl .nil))))) (by show 5 ≤ 1000000; decide)
          · exact Ev.cast (ev_call (ev_built (kd_glob hsc (by kernel_rfl!)) (fun P => by kernel_rfl!) (by kernel_rfl!)) kp_builtin (.cons (ev_var (mem_at 2 rfl)) rfl (.cons (ev_var (mem_at 3 rfl)) rfl .nil)) fn_min2) (congrArg D.int (minc _ _))
          · exact Ev.cast (ev_call (ev_built (kd_glob hsc (by kernel_rfl!)) (fun P => by kernel_rfl!) (by kernel_rfl!)) kp_builtin (.cons (ev_var (mem_at 2 rfl)) rfl (.cons (ev_var (mem_at 3 rfl)) rfl .nil)) fn_max2) (congrArg D.int (maxc _ _))
          · refine Ev.cast (d := .int (((p.filter fun x => x == p.getD j []).map D.str).length : Nat)) ?_ (by rw [List.length_map]; rfl)
            exact (ev_call (ev_built (kd_glob hsc (by kernel_rfl!)) (fun P => by kernel_rfl!) (by kernel_rfl!)) kp_builtin (.cons (ev_comp (os := (p.filter fun x => x == p.getD j []).map .str) [("j", .int (j : Nat)), ("parts", .tks p)] ["part"] ⟨by kernel_rfl!, by kernel_rfl!, by rw [hsc]; kernel_rfl!, by kernel_rfl!, by kernel_rfl!, fun e m => by
                    rcases List.mem_cons.mp m with e' | m
                    · rw [e']; exact mem_at 3 rfl
                    · rw [List.mem_singleton.mp m]; exact mem_at 5 rfl⟩ (ev_var (mem_at 5 rfl)) rfl trivial (fun g' m => by rw [List.mem_singleton.mp m]; exact ⟨rfl, fun _ _ => rfl⟩)
                  (fun cenv ok hcs => turns_filter (by kernel_rfl!) (by kernel_rfl!) (by decide) (by decide) fun x mx => ts_cmp (ev_var (mem_at 0 rfl)) (ev_weak (ev_sub (ev_var (mem_at 2 rfl)) (ev_var (mem_at 1 rfl)) (gi_tks (j := j) ⟨by omega, by omega⟩ (seqIndex_nat hj) hpj))) cp_eqS)
                  (by rw [List.length_map]; have := List.length_filter_le (fun x => x == p.getD j []) p; omega)) rfl .nil) (fn_len (by rw [List.length_map]; have := List.length_filter_le (fun x => x == p.getD j []) p; omega)))
        have kf : Kf f B' h₅ h₁₂ := kf₁₁.trans (Le.kf u₁₂)
        exact ⟨h₁₂, tk₁₂, rfl, S₁₂.pick [4, 5, 6, 7, 8], sp₆.trans (kf.sp' nf), kd₆.trans (kf.kd' nf)⟩
    · intro h' tk' S' sp' kd'
      exact run_nil (q h' tk' (S'.pick [4]) (sp₄.trans sp') (kd₄.trans kd'))
end
end Mine

set_option maxRecDepth 100000
set_option linter.unusedVariables false
namespace Mine
open PySem PySem.W PyProof.Rows
abbrev placesL : List Nat := [1, 10, 100, 1000, 10000]
abbrev baseL : List Nat := [10102, 11, 301010, 121020]
noncomputable def cellOf (ns : List Int) (i : Nat) : Nat := (((baseL.getD i 0 : Nat) + (pickL ns (some (i : Int)) none (some 4)).sum : Int).fmod 1000000).toNat
noncomputable def firstOf (c : Nat) : List Nat := placesL.map fun pl => letters.getD (c / pl % 10 % 3) 0
noncomputable def drawStep (c : Nat) (a : List Nat × List Nat) (pl : Nat) : List Nat × List Nat :=
  (a.1.take (c / pl % 10 % a.1.length) ++ a.1.drop (c / pl % 10 % a.1.length + 1), a.2 ++ [a.1.getD (c / pl % 10 % a.1.length) 0])
noncomputable def drawn (c : Nat) (u : List Nat) (i : Nat) : List Nat × List Nat := (placesL.take i).foldl (drawStep c) (u, [])
noncomputable def secondOf (c : Nat) (u : List Nat) : List Nat := (drawn c u 5).2
theorem drawn_succ (c : Nat) (u : List Nat) (i : Nat) (h : i < 5) : drawn c u (i + 1) = drawStep c (drawn c u i) (placesL.getD i 1) := by
  have hi : i < placesL.length := h
  unfold drawn
  rw [List.take_add_one, List.getElem?_eq_getElem hi, List.foldl_append, List.getD_eq_getElem?_getD, List.getElem?_eq_getElem hi]; rfl
theorem draw_perm {c : Nat} {a : List Nat × List Nat} {pl : Nat} (h : 0 < a.1.length) : ((drawStep c a pl).1 ++ (drawStep c a pl).2).Perm (a.1 ++ a.2) ∧ (drawStep c a pl).1.length + 1 = a.1.length ∧ (drawStep c a pl).2.length = a.2.length + 1 := by
  obtain ⟨l, s⟩ := a
  unfold drawStep
  simp only []
  generalize hi : c / pl % 10 % l.length = i
  have hil : i < l.length := by rw [← hi]; exact Nat.mod_lt _ h
  have e : l.getD i 0 = l[i] := by rw [List.getD_eq_getElem?_getD, List.getElem?_eq_getElem hil]; rfl
  rw [e]
  refine ⟨?_, ?_, by simp⟩
  · have e2 : l = l.take i ++ l[i] :: l.drop (i + 1) := by
      rw [List.getElem_cons_drop, List.take_append_drop]
    conv => rhs; rw [e2]
    rw [List.append_assoc, List.append_assoc]
    refine List.Perm.append_left _ ?_
    rw [← List.append_assoc, List.cons_append]
    exact List.perm_append_singleton _ _
  · rw [List.length_append, List.length_take, List.length_drop]
    omega
theorem drawn_ok (c : Nat) {u : List Nat} (hu : u.length = 5) : ∀ i, i ≤ 5 → ((drawn c u i).1 ++ (drawn c u i).2).Perm u ∧ (drawn c u i).1.length + i = 5 ∧ (drawn c u i).2.length = i := by
  intro i
  induction i with
  | zero => intro _; exact ⟨by show (u ++ []).Perm u; simp, by show u.length + 0 = 5; omega, rfl⟩
  | succ i ih =>
    intro hi
    obtain ⟨a, b, d⟩ := ih (by omega)
    rw [drawn_succ c u i (by omega)]
    obtain ⟨p, q, r⟩ := draw_perm (c := c) (a := drawn c u i) (pl := placesL.getD i 1) (by omega)
    exact ⟨p.trans a, by omega, by omega⟩
theorem second_perm (c : Nat) {u : List Nat} (hu : u.length = 5) : (secondOf c u).Perm u := by
  obtain ⟨a, b, d⟩ := drawn_ok c hu 5 (Nat.le_refl _)
  have : (drawn c u 5).1 = [] := List.eq_nil_of_length_eq_zero (by omega)
  rw [this, List.nil_append] at a
  exact a
section
variable {w : World} {k : Nat} {A : Around} {B : List Addr} {env : Env} {N : List Str} {σ : Sg} {s₀ s : Shared} {h : Heap} {tk : Nat} {E : Value → Shared → Prop}
theorem turns_two2 {a b : Str} {pa pb pt : Pos} {ka : Nat} {it elt : Expr} {x1 y1 x2 y2 o1 o2 : D} (h1 : N.contains a = true) (h2 : N.contains b = true) (q1 : (σ.all fun e => e.1 != a) = true) (q2 : ∀ d : D, (((a, d) :: σ).all fun e => e.1 != b) = true)
    (e1 : EvE w k env ((b, y1) :: (a, x1) :: σ) elt o1) (e2 : EvE w k env ((b, y2) :: (a, x2) :: σ) elt o2) :
    Turns w k env N (Emit w k env N elt []) ⟨.Tuple [.Name a pa, .Name b pb] ka pt, it, [], 0⟩ σ [.tup [x1, y1], .tup [x2, y2]] [o1, o2] := by
  refine turns_of (fun i => [if i = 0 then o1 else o2]) rfl fun i di hd => ?_
  match i, hd with
  | 0, hd => cases hd; exact ⟨(b, y1) :: (a, x1) :: σ, true, asg_pair (.inl rfl) h1 h2 (fun e m => m) q1 (q2 _), fun e m => .tail _ (.tail _ m), rfl, fun _ => emit_one e1, fun e => by cases e⟩
  | 1, hd => cases hd; exact ⟨(b, y2) :: (a, x2) :: σ, true, asg_pair (.inl rfl) h1 h2 (fun e m => m) q1 (q2 _), fun e m => .tail _ (.tail _ m), rfl, fun _ => emit_one e2, fun e => by cases e⟩
  | (n + 2), hd => cases hd

set_option maxHeartbeats 1000000 in
theorem law_B {u v : List Nat} (ok : POk u v) {Q : Flow → Shared → Prop} (hsc : env.scope = fnScope 28) (F : Frm w (k + 40) A B env lawN s₀) (S : St B env [("cuts", .list [.tks (cut u), .tks (cut v)]), ("words", .list [.nstr u, .nstr v])] s₀ h tk)
    (q : ∀ f h' tk', Le s₀.heap h' → s₀.toks ≤ tk' → Has B h' (match f with | .ret v => v | _ => .none) (.bool true) → Q f (stAt s₀ h' tk')) : Run w A env (lawB 10) Q E (stAt s₀ h tk) := by
  obtain ⟨pt, pi, p, e⟩ : ∃ pt pi p, lawB 10 = .For (.Name "parts" pt) (.Name "cuts" pi) cutsBody [] p :: lawB 11 := by with_unfolding_all exact ⟨_, _, _, rfl⟩
  rw [e]
  refine run_for (σI := fun _ => [("words", .list [.nstr u, .nstr v])]) (τI := fun i => [("parts", .tks (if i = 0 then cut u else cut v)), ("words", .list [.nstr u, .nstr v])]) F S (ev_var (mem_at 0 rfl)) rfl trivial (fun e m => by rw [List.mem_singleton.mp m]; exact mem_at 1 rfl) (fun i di hd => ?_) ?_ ?_
  · match i, hd with
    | 0, hd => cases hd; exact asg_name (by kernel_rfl!) (fun e m => m) (by kernel_rfl!)
    | 1, hd => cases hd; exact asg_name (by kernel_rfl!) (fun e m => m) (by kernel_rfl!)
    | (n + 2), hd => cases hd
  · intro i di B' h₁ tk₁ E' hd sub F' S₁
    refine law_turn (p := if i = 0 then cut u else cut v) (by split; exact ok.wu.parts; exact ok.wv.parts) hsc F' S₁ fun h' tk' S' sp kd => ⟨h', tk', rfl, S', sp, kd⟩
  · intro h' tk' S' sp
    exact law_C ok hsc F S' q
end
end Mine

set_option maxRecDepth 100000
set_option linter.unusedVariables false
namespace Mine
open PySem PySem.W PyProof.Rows
noncomputable def PlainLaw : Prop := ∀ u v : List Nat, u.length = 5 → v.length = 5 → (∀ c ∈ u, c = 102 ∨ c = 105 ∨ c = 108) → (∀ c ∈ v, c = 102 ∨ c = 105 ∨ c = 108) → v.Perm u → POk u v
noncomputable def PrepLaw : Prop := ∀ (u : List Nat) (x : Nat), u.length = 5 → (∀ c ∈ u, c = 102 ∨ c = 105 ∨ c = 108) → prep (typedOf u x) = u ++ [lastOf x]
theorem letters_at (n : Nat) (h : n < 3) : letters.getD n 0 = 102 ∨ letters.getD n 0 = 105 ∨ letters.getD n 0 = 108 := by
  have : ∀ i, i < 3 → letters.getD i 0 = 102 ∨ letters.getD i 0 = 105 ∨ letters.getD i 0 = 108 := by decide
  exact this n h
theorem first_abc (c : Nat) : ∀ x ∈ firstOf c, x = 102 ∨ x = 105 ∨ x = 108 := fun x m => by
  obtain ⟨pl, _, rfl⟩ := List.mem_map.mp m
  exact letters_at _ (Nat.mod_lt _ (by decide))
theorem last_small (x : Nat) : lastOf x < 0x110000 := by
  have : ∀ i, i < 16 → besL.getD i 0 < 0x110000 := by decide
  exact this _ (Nat.mod_lt _ (by decide))
theorem places_at {pl : Nat} (m : pl ∈ placesL) : 0 < pl ∧ pl < 1073741824 := by
  have : ∀ i ∈ placesL, 0 < i ∧ i < 1073741824 := by decide
  exact this pl m
section
variable {w : World} {k : Nat} {A : Around} {B : List Addr} {env : Env} {N : List Str} {σ : Sg} {s₀ s : Shared} {h : Heap} {tk : Nat} {E : Value → Shared → Prop}
set_option maxHeartbeats 4000000 in
theorem law_A2 {u v tu tv : List Nat} {bu bv : Nat} (ok : POk u v) (pu : prep tu = u ++ [bu]) (pv : prep tv = v ++ [bv]) (lu : bu < 0x110000) (lv : bv < 0x110000) {Q : Flow → Shared → Prop} (hsc : env.scope = fnScope 28) (F : Frm w (k + 40) A B env lawN s₀)
    (S : St B env [("typed", .list [.tup [.str tu, .str (u ++ [bu])], .tup [.str tv, .str (v ++ [bv])]])] s₀ h tk)
    (q : ∀ f h' tk', Le s₀.heap h' → s₀.toks ≤ tk' → Has B h' (match f with | .ret v => v | _ => .none) (.bool true) → Q f (stAt s₀ h' tk')) : Run w A env (lawB 5) Q E (stAt s₀ h tk) := by
  generalize hb : lawB 5 = b
  with_unfolding_all conv at hb => lhs; whnf
  subst hb
  have ul := ok.wu.len
  have vl := ok.wv.len
  have uc := ok.wu.abc
  have vc := ok.wv.abc
  have gm : ∀ g : Comprehension, g.is_async = 0 → (∀ (env : Env) x, foldedSetIterable g.iter env x = pure x) → ∀ g' ∈ [g], g'.is_async = 0 ∧ ∀ (env : Env) x, foldedSetIterable g'.iter env x = pure x := fun g a b g' m => by rw [List.mem_singleton.mp m]; exact ⟨a, b⟩
  refine run_assignC (os := [.str (u ++ [bu]), .str (v ++ [bv])]) (ρ := pick _ [0]) F S [] ["text", "due"] ⟨by kernel_rfl!, by kernel_rfl!, by rw [hsc]; kernel_rfl!, by kernel_rfl!, by kernel_rfl!, fun e m => nomatch m⟩ (ev_var (mem_at 0 rfl)) rfl trivial (gm _ rfl fun _ _ => rfl)
    (fun cenv ok hcs => turns_two2 (by kernel_rfl!) (by kernel_rfl!) (by kernel_rfl!) (fun d => by kernel_rfl!)
      (Ev.cast (ev_call (ev_glob (kd_globC hcs (by kernel_rfl!)) (fun P => by kernel_rfl!)) (FnAt.kp fx_law_prepared) (.cons (ev_var (mem_at 1 rfl)) rfl .nil) (fn_prepared (by rw [pu, List.length_append]; show u.length + 1 ≤ 100000; omega))) (congrArg D.str pu))
      (Ev.cast (ev_call (ev_glob (kd_globC hcs (by kernel_rfl!)) (fun P => by kernel_rfl!)) (FnAt.kp fx_law_prepared) (.cons (ev_var (mem_at 1 rfl)) rfl .nil) (fn_prepared (by rw [pv, List.length_append]; show v.length + 1 ≤ 100000; omega))) (congrArg D.str pv)))
    (by show 2 ≤ 1000000; decide) pick_sub (by kernel_rfl!) (by kernel_rfl!) (swW hsc fun e => by kernel_rfl!) fun h₁ tk₁ S₁ sp₁ kd₁ g₁ => ?_
  have pyT : (D.list [.str (u ++ [bu]), .str (v ++ [bv])]).py = some (.list [.str ⟨(u ++ [bu]).toArray⟩, .str ⟨(v ++ [bv]).toArray⟩]) := rfl
  have okL : ∀ (u : List Nat) (b : Nat), (∀ c ∈ u, c = 102 ∨ c = 105 ∨ c = 108) → b < 0x110000 → PyData.strOk ⟨(u ++ [b]).toArray⟩ = true := fun u b hu hb => strOk_of (List.all_eq_true.mpr fun c m => by
    rcases List.mem_append.mp m with m | m
    · have := hu c m; simp; omega
    · rw [List.mem_singleton.mp m]; simpa using hb)
  have shT : SeqAt.shaped (.list [.str ⟨(u ++ [bu]).toArray⟩, .str ⟨(v ++ [bv]).toArray⟩]) = true := shaped_list (n := 0) (fun z m => by
      rcases List.mem_cons.mp m with e | m
      · rw [e]; exact ⟨by rw [PyData.canLay0]; exact okL u bu uc lu, by simp [PyData.depth]⟩
      · rw [List.mem_singleton.mp m]; exact ⟨by rw [PyData.canLay0]; exact okL v bv vc lv, by simp [PyData.depth]⟩) (by decide)
  refine run_if (c := false) F S₁ (ts_cmp (ev_var (mem_at 0 rfl)) (ev_comp (os := [.str (u ++ [bu]), .str (v ++ [bv])]) [] ["text", "due"] ⟨by kernel_rfl!, by kernel_rfl!, by rw [hsc]; kernel_rfl!, by kernel_rfl!, by kernel_rfl!, fun e m => nomatch m⟩ (ev_var (mem_at 1 rfl)) rfl trivial (gm _ rfl fun _ _ => rfl)
      (fun cenv ok hcs => turns_two2 (by kernel_rfl!) (by kernel_rfl!) (by kernel_rfl!) (fun d => by kernel_rfl!) (ev_var (mem_at 0 rfl)) (ev_var (mem_at 0 rfl))) (by show 2 ≤ 1000000; decide)) (cp_neD (by omega) pyT pyT shT shT (c := true) (eqv_self pyT))) fun h₂ tk₂ S₂ u₂ g₂ => run_nil ?_
  have pc : ∀ (u : List Nat) (b : Nat), u.length = 5 → piece (u ++ [b]) none (some ((5 : Nat) : Int)) = u := fun u b hu => by
    rw [piece_to, List.take_append_of_le_length (by omega), List.take_of_length_le (by omega)]
  refine run_assignC (os := [.nstr u, .nstr v]) (ρ := []) F S₂ [] ["kept"] ⟨by kernel_rfl!, by kernel_rfl!, by rw [hsc]; kernel_rfl!, by kernel_rfl!, by kernel_rfl!, fun e m => nomatch m⟩ (ev_var (mem_at 0 rfl)) rfl trivial (gm _ rfl fun _ _ => rfl)
    (fun cenv ok hcs => turns_two (by kernel_rfl!) (by kernel_rfl!)
      (Ev.cast (ev_slC (ev_var (mem_at 0 rfl)) .none (.some (ev_nat (n := 5))) (by rw [List.length_append]; show u.length + 1 ≤ _; omega) (by rw [pc u bu ul, List.length_append]; show u.length ≠ u.length + 1; omega)) (congrArg D.nstr (pc u bu ul)))
      (Ev.cast (ev_slC (ev_var (mem_at 0 rfl)) .none (.some (ev_nat (n := 5))) (by rw [List.length_append]; show v.length + 1 ≤ _; omega) (by rw [pc v bv vl, List.length_append]; show v.length ≠ v.length + 1; omega)) (congrArg D.nstr (pc v bv vl))))
    (by show 2 ≤ 1000000; decide) (fun e m => nomatch m) (by kernel_rfl!) (by kernel_rfl!) (swW hsc fun e => by kernel_rfl!) fun h₃ tk₃ S₃ sp₃ kd₃ g₃ => ?_
  refine run_assignC (os := [.tks (cut u), .tks (cut v)]) (ρ := pick _ [0]) F S₃ [] ["word"] ⟨by kernel_rfl!, by kernel_rfl!, by rw [hsc]; kernel_rfl!, by kernel_rfl!, by kernel_rfl!, fun e m => nomatch m⟩ (ev_var (mem_at 0 rfl)) rfl trivial (gm _ rfl fun _ _ => rfl)
    (fun cenv ok hcs => turns_two (by kernel_rfl!) (by kernel_rfl!)
      (ev_call (ev_glob (kd_globC hcs (by kernel_rfl!)) (fun P => by kernel_rfl!)) (FnAt.kp fx_law_cut) (.cons (ev_var (mem_at 0 rfl)) rfl .nil) (fn_cut (by omega)))
      (ev_call (ev_glob (kd_globC hcs (by kernel_rfl!)) (fun P => by kernel_rfl!)) (FnAt.kp fx_law_cut) (.cons (ev_var (mem_at 0 rfl)) rfl .nil) (fn_cut (by omega))))
    (by show 2 ≤ 1000000; decide) pick_sub (by kernel_rfl!) (by kernel_rfl!) (swW hsc fun e => by kernel_rfl!) fun h₄ tk₄ S₄ sp₄ kd₄ g₄ => ?_
  have fall : ∀ p : List (List Nat), partsOk p = true → p.length ≤ 5 ∧ (∀ x ∈ p, x.length ≤ 5) ∧ ∀ j, j + 1 < p.length → decide (p.getD j [] < p.getD (j + 1) []) = false := fun p h => by
    unfold partsOk at h
    simp only [Bool.and_eq_true, decide_eq_true_eq] at h
    obtain ⟨⟨⟨⟨⟨o1, o2⟩, o3⟩, _⟩, _⟩, _⟩ := h
    refine ⟨o1, fun x m => ?_, fun j hj => ?_⟩
    · have := List.all_eq_true.mp o2 x m
      rw [Bool.and_eq_true] at this
      exact of_decide_eq_true this.1
    · have := List.all_eq_true.mp o3 j (List.mem_range.mpr (by omega))
      simpa using this
  have fu := fall _ ok.wu.parts
  have fv := fall _ ok.wv.parts
  refine run_if (c := false) F S₄ (ts_cmp (ev_comp (os := []) [] ["parts", "j"] ⟨by kernel_rfl!, by kernel_rfl!, by rw [hsc]; kernel_rfl!, by kernel_rfl!, by kernel_rfl!, fun e m => nomatch m⟩ (ev_var (mem_at 0 rfl)) rfl trivial
      (fun g' m => by
        rcases List.mem_cons.mp m with e | m
        · rw [e]; exact ⟨rfl, fun _ _ => rfl⟩
        · rw [List.mem_singleton.mp m]; exact ⟨rfl, fun _ _ => rfl⟩)
      (fun cenv ok2 hcs => ?_) (by decide)) (ev_list .nil (by decide)) (cp_neD (by omega) (p := .list []) (q := .list []) rfl rfl (by decide) (by decide) (c := true) (by decide))) fun h₅ tk₅ S₅ u₅ g₅ => run_nil ?_
  · refine turns_of (fun _ => []) (flat_nil _).symm fun i di hd => ?_
    have hd : ([cut u, cut v].map D.tks)[i]? = some di := hd
    obtain ⟨p, hp, rfl⟩ := map_at hd
    have fp : p.length ≤ 5 ∧ (∀ x ∈ p, x.length ≤ 5) ∧ ∀ j, j + 1 < p.length → decide (p.getD j [] < p.getD (j + 1) []) = false := by
      have m := List.mem_of_getElem? hp
      rcases List.mem_cons.mp m with e | m
      · rw [e]; exact fu
      · rw [List.mem_singleton.mp m]; exact fv
    obtain ⟨f1, f2, f3⟩ := fp
    refine ⟨[("parts", .tks p)], true, asg_name (by kernel_rfl!) (fun e m => m) (by kernel_rfl!), fun e m => .tail _ m, rfl, fun _ => ?_, fun e => nomatch e⟩
    refine ⟨_, _, ev_call (ev_built (kd_globC hcs (by kernel_rfl!)) (fun P => by kernel_rfl!) (by kernel_rfl!)) kp_type (.cons (ev_nat (n := 1)) rfl (.cons (ev_call (ev_built (kd_globC hcs (by kernel_rfl!)) (fun P => by kernel_rfl!) (by kernel_rfl!)) kp_builtin (.cons (ev_var (mem_at 0 rfl)) rfl .nil) (fn_lenT (by omega))) rfl .nil)) fn_range2, rfl, ⟨by decide, by decide, by omega, by omega⟩, ?_⟩
    refine turns_of (fun _ => []) (flat_nil _).symm fun j dj hdj => ?_
    obtain ⟨hj, rfl⟩ := range_at hdj
    have e1 : (((1 : Nat) : Int) + ((j : Nat) : Int)) = ((j + 1 : Nat) : Int) := by omega
    rw [e1]
    have hj : j + 1 < p.length := by omega
    have a1 : p[j]? = some (p.getD j []) := by rw [List.getD_eq_getElem?_getD, List.getElem?_eq_getElem (by omega)]; rfl
    have a2 : p[j + 1]? = some (p.getD (j + 1) []) := by rw [List.getD_eq_getElem?_getD, List.getElem?_eq_getElem hj]; rfl
    refine ⟨[("j", .int ((j + 1 : Nat))), ("parts", .tks p)], false, asg_name (by kernel_rfl!) (fun e m => m) (by kernel_rfl!), fun e m => .tail _ m, ?_, (fun e => nomatch e), fun _ => rfl⟩
    exact Ts.cast (ts_cmp (ev_call (ev_glob (kd_globC hcs (by kernel_rfl!)) (fun P => by kernel_rfl!)) (FnAt.kp fx_lt) (.cons (ev_weak (ev_sub (ev_var (mem_at 1 rfl)) (ev_subN (ev_var (mem_at 0 rfl)) (ev_nat (n := 1)) (by omega)) (gi_tks (j := j) ⟨by omega, by omega⟩ (by rw [Nat.add_sub_cancel]; exact seqIndex_nat (by omega)) a1))) rfl (.cons (ev_weak (ev_sub (ev_var (mem_at 1 rfl)) (ev_var (mem_at 0 rfl)) (gi_tks (j := j + 1) ⟨by omega, by omega⟩ (seqIndex_nat hj) a2))) rfl .nil)) fn_lt) ev_bool cp_isNotB) (by rw [f3 j hj]; rfl)
  · with_unfolding_all exact law_B ok hsc F S₅ q
end
end Mine

set_option maxRecDepth 100000
set_option linter.unusedVariables false
namespace Mine
open PySem PySem.W PyProof.Rows
section
variable {w : World} {k : Nat} {A : Around} {B : List Addr} {env : Env} {N : List Str} {σ : Sg} {s₀ s : Shared} {h : Heap} {tk : Nat} {E : Value → Shared → Prop}
noncomputable def natsT (e : Expr) : Option (List Nat) := (tupE e).bind natsOf
theorem ev_tnats {e : Expr} {l : List Nat} (h : natsT e = some l) (hl : l.length ≤ 1000000) : EvE w k env σ e (.tup (nts l)) := by
  obtain ⟨es, h1, h2⟩ := Option.bind_eq_some_iff.mp h
  obtain ⟨n, p, rfl⟩ := tupE_some h1
  exact ev_tuple (evL_nats h2) (by rw [List.length_map]; exact hl)
theorem fold_tnats {e : Expr} {l : List Nat} (h : natsT e = some l) (env : Env) (x : Value) : foldedSetIterable e env x = pure x := by
  obtain ⟨es, h1, h2⟩ := Option.bind_eq_some_iff.mp h
  obtain ⟨n, p, rfl⟩ := tupE_some h1
  rfl
set_option maxHeartbeats 4000000 in
theorem bd_law (hp : PlainLaw) (hq : PrepLaw) {ns : List Int} (hns : ns.length ≤ 63) : Bd w (k + 40) 28 lawN [("script", .ils ns)] (.bool true) := by
  intro A B env s₀ h tk E Q hsc F S q
  generalize hb : fnBody 28 = b
  with_unfolding_all conv at hb => lhs; whnf
  subst hb
  generalize ha : Expr.List [_, _, _, _] _ = ea
  have ha' : natsE ea = some baseL := by subst ha; kernel_rfl!
  clear ha
  generalize hb1 : Expr.Tuple [_, _, _, _, _] _ _ = et
  have ht : natsT et = some placesL := by subst hb1; kernel_rfl!
  clear hb1
  generalize hb2 : Expr.Tuple [_, _, _, _, _] _ _ = et2
  have ht2 : natsT et2 = some placesL := by subst hb2; kernel_rfl!
  clear hb2
  -- cells
  refine run_assign (d := .list (nts [cellOf ns 0, cellOf ns 1, cellOf ns 2, cellOf ns 3])) (ρ := []) F S (ev_comp (os := nts [cellOf ns 0, cellOf ns 1, cellOf ns 2, cellOf ns 3]) [("script", .ils ns)] ["k"] ⟨by kernel_rfl!, by kernel_rfl!, by rw [hsc]; kernel_rfl!, by kernel_rfl!, by kernel_rfl!, fun e m => m⟩
      (ev_call (ev_built (kd_glob hsc (by kernel_rfl!)) (fun P => by kernel_rfl!) (by kernel_rfl!)) kp_type (.cons ev_int rfl .nil) fn_range1) rfl ⟨by decide, by decide, by decide, by decide⟩ (fun g' m => by rw [List.mem_singleton.mp m]; exact ⟨rfl, fun _ _ => rfl⟩)
      (fun cenv ok hcs => turns_of (fun i => [.int (cellOf ns i : Nat)]) rfl fun i di hd => ?_) (by show 4 ≤ 1000000; decide)) (fun e m => nomatch m) (by kernel_rfl!) (by kernel_rfl!) (swW hsc fun e => by kernel_rfl!) fun h₁ tk₁ S₁ sp₁ kd₁ g₁ => ?_
  · obtain ⟨hi, rfl⟩ := range_at hd
    rw [Int.zero_add]
    have hi : i < 4 := by omega
    refine ⟨[("k", .int (i : Nat)), ("script", .ils ns)], true, asg_name (by kernel_rfl!) (fun e m => m) (by kernel_rfl!), fun e m => .tail _ m, rfl, fun _ => emit_one ?_, fun e => nomatch e⟩
    refine Ev.cast (ev_bin (ev_bin (ev_sub (ev_nats ha' (by decide)) (ev_var (mem_at 0 rfl)) (gi_intN (l := baseL) hi (by decide))) (ev_call (ev_built (kd_globC hcs (by kernel_rfl!)) (fun P => by kernel_rfl!) (by kernel_rfl!)) kp_builtin (.cons (ev_slI (ev_var (mem_at 1 rfl)) (.some (ev_var (mem_at 0 rfl))) .none (.some ev_int) (by decide) (by omega)) rfl .nil) fn_sum) op_add) ev_int (op_mod (by decide))) ?_
    unfold cellOf
    rw [Int.toNat_of_nonneg (Int.fmod_nonneg_of_pos _ (by decide))]
  · generalize cellOf ns 0 = c0 at S₁
    generalize cellOf ns 1 = c1 at S₁
    generalize cellOf ns 2 = c2 at S₁
    generalize cellOf ns 3 = c3 at S₁
    let lt : Nat → Nat := fun pl => letters.getD (c0 / pl % 10 % 3) 0
    refine run_assign (d := .str (firstOf c0)) (ρ := [("cells", .list (nts [c0, c1, c2, c3]))]) F S₁ (ev_join (a := lt 1) (b := lt 10) (c := lt 100) (d := lt 1000) (f := lt 10000) (ev_str (by kernel_rfl!)) (ev_comp (os := [.str [lt 1], .str [lt 10], .str [lt 100], .str [lt 1000], .str [lt 10000]]) [("cells", .list (nts [c0, c1, c2, c3]))] ["place"] ⟨by kernel_rfl!, by kernel_rfl!, by rw [hsc]; kernel_rfl!, by kernel_rfl!, by kernel_rfl!, fun e m => m⟩
        (ev_tnats ht (by decide)) rfl trivial (fun g' m => by rw [List.mem_singleton.mp m]; exact ⟨rfl, fold_tnats ht⟩)
        (fun cenv ok hcs => turns_of (fun i => [.str [lt (placesL.getD i 1)]]) rfl fun i di hd => ?_) (by show 5 ≤ 1000000; decide))) (fun e m => m) (by kernel_rfl!) (by kernel_rfl!) (swW hsc fun e => by kernel_rfl!) fun h₂ tk₂ S₂ sp₂ kd₂ g₂ => ?_
    · obtain ⟨pl, hpl, rfl⟩ := map_at hd
      rw [getD_of hpl]
      obtain ⟨p0, p1⟩ := places_at (List.mem_of_getElem? hpl)
      refine ⟨[("place", .int (pl : Nat)), ("cells", .list (nts [c0, c1, c2, c3]))], true, asg_name (by kernel_rfl!) (fun e m => m) (by kernel_rfl!), fun e m => .tail _ m, rfl, fun _ => emit_one ?_, fun e => nomatch e⟩
      exact ev_weak (ev_sub (ev_str (l := letters) (by kernel_rfl!)) (ev_modN (ev_modN (ev_fdivN (ev_sub (ev_var (mem_at 1 rfl)) (ev_nat (n := 0)) (gi_intN (l := [c0, c1, c2, c3]) (by show 0 < 4; decide) (by show 4 < 2 ^ 40; decide))) (ev_var (mem_at 0 rfl)) p0 p1) (ev_nat (n := 10)) (by decide)) (ev_nat (n := 3)) (by decide)) (gi_strN (Nat.mod_lt _ (by decide)) (by decide)))
    · have hu := first_abc c0
      have hul : (firstOf c0).length = 5 := rfl
      generalize firstOf c0 = u at S₂ hu hul
      refine run_assignS (a := .str u) (b := .str []) (ρ := pick _ [0, 1]) F S₂ (ev_tuple (.cons (ev_var (mem_at 0 rfl)) rfl (.cons (ev_str (by kernel_rfl!)) rfl .nil)) (by show 2 ≤ 1000000; decide)) (by kernel_rfl!) (by kernel_rfl!) pick_sub (by kernel_rfl!) (by kernel_rfl!) rfl (swS hsc fun e => by kernel_rfl!) fun h₃ tk₃ S₃ sp₃ kd₃ g₃ => ?_
      let σI : Nat → Sg := fun i => [("left", .str (drawn c1 u i).1), ("second", .str (drawn c1 u i).2), ("first", .str u), ("cells", .list (nts [c0, c1, c2, c3]))]
      refine run_for (σI := σI) (τI := fun i => ("place", .int (placesL.getD i 1 : Nat)) :: σI i) F S₃ (ev_tnats ht2 (by decide)) rfl trivial (fun e m => m) (fun i di hd => ?_) ?_ ?_ (fold_tnats ht2 env)
      · obtain ⟨pl, hpl, rfl⟩ := map_at hd
        rw [getD_of hpl]
        exact asg_name (by kernel_rfl!) (fun e m => m) (by kernel_rfl!)
      · intro i di B' h₄ tk₄ E' hd sub F' S₄
        obtain ⟨pl, hpl, rfl⟩ := map_at hd
        have hi : i < 5 := (List.getElem?_eq_some_iff.mp hpl).1
        obtain ⟨p0, p1⟩ := places_at (List.mem_of_getElem? hpl)
        have S₄' : St B' env [("place", .int (pl : Nat)), ("left", .str (drawn c1 u i).1), ("second", .str (drawn c1 u i).2), ("first", .str u), ("cells", .list (nts [c0, c1, c2, c3]))] s₀ h₄ tk₄ := by
          have := S₄
          rw [getD_of hpl] at this
          exact this
        obtain ⟨_, d1, d2⟩ := drawn_ok c1 hul i (by omega)
        have st := drawn_succ c1 u i hi
        rw [getD_of hpl] at st
        have st' : drawStep c1 (drawn c1 u i) pl = ((drawn c1 u i).1.take (c1 / pl % 10 % (drawn c1 u i).1.length) ++ (drawn c1 u i).1.drop (c1 / pl % 10 % (drawn c1 u i).1.length + 1), (drawn c1 u i).2 ++ [(drawn c1 u i).1.getD (c1 / pl % 10 % (drawn c1 u i).1.length) 0]) := rfl
        rw [st'] at st
        generalize (drawn c1 u i).1 = l at S₄' d1 st
        generalize (drawn c1 u i).2 = t at S₄' d2 st
        have hl0 : 0 < l.length := by omega
        refine run_assign (d := .int (c1 / pl % 10 % l.length : Nat)) (ρ := pick _ [1, 2, 3, 4]) F' S₄' (ev_modN (ev_modN (ev_fdivN (ev_sub (ev_var (mem_at 4 rfl)) (ev_nat (n := 1)) (gi_intN (l := [c0, c1, c2, c3]) (by show 1 < 4; decide) (by show 4 < 2 ^ 40; decide))) (ev_var (mem_at 0 rfl)) p0 p1) (ev_nat (n := 10)) (by decide)) (ev_call (ev_built (kd_glob hsc (by kernel_rfl!)) (fun P => by kernel_rfl!) (by kernel_rfl!)) kp_builtin (.cons (ev_var (mem_at 1 rfl)) rfl .nil) (fn_lenS (by omega))) hl0) pick_sub (by kernel_rfl!) (by kernel_rfl!) rfl fun h₅ tk₅ S₅ sp₅ kd₅ g₅ => ?_
        have hspl : c1 / pl % 10 % l.length < l.length := Nat.mod_lt _ hl0
        generalize c1 / pl % 10 % l.length = sp at S₅ hspl st
        refine run_assign (d := .str (t ++ [l.getD sp 0])) (ρ := pick _ [0, 1, 3, 4]) F' S₅ (ev_bin (ev_var (mem_at 2 rfl)) (ev_weak (ev_sub (ev_var (mem_at 1 rfl)) (ev_var (mem_at 0 rfl)) (gi_strN hspl (by omega)))) (op_addS (by show t.length + 1 ≤ 1000000; omega))) pick_sub (by kernel_rfl!) (by kernel_rfl!) rfl fun h₆ tk₆ S₆ sp₆ kd₆ g₆ => ?_
        refine run_assign (d := .str (l.take sp ++ l.drop (sp + 1))) (ρ := pick _ [0, 3, 4]) F' S₆ (ev_bin (a := .str (l.take sp)) (b := .str (l.drop (sp + 1))) ?_ ?_ (op_addS (by rw [List.length_take, List.length_drop]; omega))) pick_sub (by kernel_rfl!) (by kernel_rfl!) rfl fun h₇ tk₇ S₇ sp₇ kd₇ g₇ => run_nil ?_
        · exact Ev.cast (ev_slS (ev_var (mem_at 2 rfl)) .none (.some (ev_var (mem_at 1 rfl))) (by omega)) (congrArg D.str (piece_to _ _))
        · exact Ev.cast (ev_slS (ev_var (mem_at 2 rfl)) (.some (ev_addN (ev_var (mem_at 1 rfl)) (ev_nat (n := 1)))) .none (by omega)) (congrArg D.str (piece_from _ _))
        · refine ⟨h₇, tk₇, rfl, ?_, (sp₅.trans sp₆).trans sp₇, (kd₅.trans kd₆).trans kd₇⟩
          show St B' env [("left", .str (drawn c1 u (i + 1)).1), ("second", .str (drawn c1 u (i + 1)).2), _, _] _ _ _
          rw [st]
          exact S₇
      · intro h₄ tk₄ S₄ sp₄
        have hv := second_perm c1 hul
        have hvl : (secondOf c1 u).length = 5 := hv.length_eq.trans hul
        have S₄' : St B env [("second", .str (secondOf c1 u)), ("first", .str u), ("cells", .list (nts [c0, c1, c2, c3]))] s₀ h₄ tk₄ := S₄.pick [1, 2, 3]
        generalize secondOf c1 u = v at S₄' hv hvl
        have hvc : ∀ c ∈ v, c = 102 ∨ c = 105 ∨ c = 108 := fun c m => hu c (hv.mem_iff.mp m)
        have ok := hp u v hul hvl hu hvc hv
        have pu := hq u c2 hul hu
        have pv := hq v c3 hvl hvc
        have lu := last_small c2
        have lv := last_small c3
        refine run_assign (d := .list [.tup [.str (typedOf u c2), .str (u ++ [lastOf c2])], .tup [.str (typedOf v c3), .str (v ++ [lastOf c3])]]) (ρ := []) F S₄' (ev_list (.cons (ev_call (ev_glob (kd_glob hsc (by kernel_rfl!)) (fun P => by kernel_rfl!)) (FnAt.kp fx_law_typed) (.cons (ev_var (mem_at 1 rfl)) rfl (.cons (ev_sub (ev_var (mem_at 2 rfl)) (ev_nat (n := 2)) (gi_intN (l := [c0, c1, c2, c3]) (by show 2 < 4; decide) (by show 4 < 2 ^ 40; decide))) rfl .nil)) (fn_typed hu (by omega))) rfl
          (.cons (ev_call (ev_glob (kd_glob hsc (by kernel_rfl!)) (fun P => by kernel_rfl!)) (FnAt.kp fx_law_typed) (.cons (ev_var (mem_at 0 rfl)) rfl (.cons (ev_sub (ev_var (mem_at 2 rfl)) (ev_nat (n := 3)) (gi_intN (l := [c0, c1, c2, c3]) (by show 3 < 4; decide) (by show 4 < 2 ^ 40; decide))) rfl .nil)) (fn_typed hvc (by omega))) rfl .nil)) (by show 2 ≤ 1000000; decide)) (fun e m => nomatch m) (by kernel_rfl!) (by kernel_rfl!) rfl fun h₅ tk₅ S₅ sp₅ kd₅ g₅ => ?_
        generalize typedOf u c2 = tu at S₅ pu
        generalize typedOf v c3 = tv at S₅ pv
        generalize lastOf c2 = bu at S₅ pu lu
        generalize lastOf c3 = bv at S₅ pv lv
        with_unfolding_all exact law_A2 ok pu pv lu lv hsc F S₅ q
end
end Mine

set_option maxRecDepth 100000
set_option linter.unusedVariables false
namespace Mine
open PySem PySem.W PyProof.Rows
theorem fn_law {w : World} (hp : PlainLaw) (hq : PrepLaw) {ns : List Int} (hns : ns.length ≤ 63) : Fn w 41 (.ref 219) [.ils ns] [] [] (.bool true) :=
  fn_of (N := lawN) (ns := ["script"]) (fun P => (fx_law P).to) (bd_law (k := 0) hp hq hns) (fun P vs e => by match vs, e with | [u], _ => kernel_rfl!) (by decide) rfl (by kernel_rfl!) (fun L => by kernel_rfl!) ⟨by kernel_rfl!, by kernel_rfl!, by kernel_rfl!⟩
theorem walk (hp : PlainLaw) (hq : PrepLaw) : Walk := by
  intro w s hg F l vs ns hl hi hn _ ht
  refine fn_law hp hq hn callerA [] s (fun _ _ => False) _ [.ref l] [] ⟨rfl, by decide, by decide⟩ F (fun b m => nomatch m) (.one (.ils (fun m => nomatch m) hl hi)) .nil ht fun v h' tk u g hv => ?_
  exact ⟨hv.bool_inv, u, rfl, hg⟩
end Mine

set_option maxRecDepth 100000
set_option linter.unusedVariables false
namespace Mine
open PySem PySem.W PyProof.Rows
theorem pp_sign : ((List.range 12).all fun d => letters.all fun c => decide (prep [sign0 d c] = [c])) = true := by decide +kernel
theorem pp_lig : (lgs.all fun e => decide (prep [e.1] = e.2)) = true := by decide +kernel
theorem pp_veil : ((List.range 27).all fun j => decide (prep [velL.getD j 0] = [])) = true := by decide +kernel
theorem pp_bes : ((List.range 16).all fun j => decide (prep [besL.getD j 0] = [besL.getD j 0])) = true := by decide +kernel
theorem prep_sign {d c : Nat} (hd : d < 12) (hc : c = 102 ∨ c = 105 ∨ c = 108) : prep [sign0 d c] = [c] := by
  have h := List.all_eq_true.mp pp_sign d (List.mem_range.mpr hd)
  have := List.all_eq_true.mp h c (by rcases hc with rfl | rfl | rfl <;> decide)
  exact of_decide_eq_true this
theorem prep_veil (x spot : Nat) : prep (veil x spot) = [] := by
  unfold veil
  split
  · have hh : hidOf x spot < 28 := Nat.mod_lt _ (by decide)
    exact of_decide_eq_true (List.all_eq_true.mp pp_veil (hidOf x spot - 1) (List.mem_range.mpr (by omega)))
  · rfl
theorem prep_last (x : Nat) : prep [lastOf x] = [lastOf x] := of_decide_eq_true (List.all_eq_true.mp pp_bes (x % 16) (List.mem_range.mpr (Nat.mod_lt _ (by decide))))
theorem tst_ok {word : List Nat} {x spot : Nat} (hw : ∀ c ∈ word, c = 102 ∨ c = 105 ∨ c = 108) (hs : spot < word.length) :
    prep (tst word x spot).1 = (word.drop spot).take (tst word x spot).2 ∧ 1 ≤ (tst word x spot).2 ∧ spot + (tst word x spot).2 ≤ word.length := by
  have gen : ∀ (es : List (Nat × List Nat)) (a : List Nat × Nat), (∀ e ∈ es, prep [e.1] = e.2 ∧ 1 ≤ e.2.length) → (prep a.1 = (word.drop spot).take a.2 ∧ 1 ≤ a.2 ∧ spot + a.2 ≤ word.length) →
      prep (es.foldl (ligS word x spot) a).1 = (word.drop spot).take (es.foldl (ligS word x spot) a).2 ∧ 1 ≤ (es.foldl (ligS word x spot) a).2 ∧ spot + (es.foldl (ligS word x spot) a).2 ≤ word.length := by
    intro es
    induction es with
    | nil => intro a _ h; exact h
    | cons e es ih =>
      intro a he ha
      refine ih _ (fun e' m => he e' (.tail _ m)) ?_
      unfold ligS
      split
      · rename_i hc
        rw [Bool.and_eq_true] at hc
        have h2 : (word.take (spot + e.2.length)).drop spot = e.2 := by simpa using hc.2
        obtain ⟨p1, p2⟩ := he e (.head _)
        have h3 := congrArg List.length h2
        rw [List.length_drop, List.length_take] at h3
        refine ⟨?_, p2, by show spot + e.2.length ≤ _; omega⟩
        show prep [e.1] = (word.drop spot).take e.2.length
        rw [p1]
        conv => lhs; rw [← h2]
        rw [List.drop_take, Nat.add_sub_cancel_left]
      · exact ha
  have e : word.getD spot 0 = word[spot] := by rw [List.getD_eq_getElem?_getD, List.getElem?_eq_getElem hs]; rfl
  refine gen lgs _ (fun e m => ⟨of_decide_eq_true (List.all_eq_true.mp pp_lig e m), ?_⟩) ⟨?_, Nat.le_refl _, by show spot + 1 ≤ _; omega⟩
  · have : ∀ e ∈ lgs, 1 ≤ e.2.length := by decide
    exact this e m
  · show prep [sign0 (dressOf x spot) (word.getD spot 0)] = (word.drop spot).take 1
    have hd : dressOf x spot < 12 := Nat.mod_lt _ (by decide)
    have hcc : word.getD spot 0 = 102 ∨ word.getD spot 0 = 105 ∨ word.getD spot 0 = 108 := by rw [e]; exact hw _ (List.getElem_mem hs)
    rw [prep_sign hd hcc, e, List.drop_eq_getElem_cons hs]
    rfl
theorem go_ok {word : List Nat} {x : Nat} (hw : ∀ c ∈ word, c = 102 ∨ c = 105 ∨ c = 108) : ∀ (n spot : Nat) (text : List Nat), word.length - spot ≤ n → prep (typedGo word x n spot text) = prep text ++ word.drop spot
  | 0, spot, text, h => by rw [typedGo, List.drop_of_length_le (by omega), List.append_nil]
  | n + 1, spot, text, h => by
      rw [typedGo]
      split
      · rename_i hs
        obtain ⟨a, b, c⟩ := tst_ok (x := x) hw hs
        rw [go_ok hw n _ _ (by omega), prep_app, prep_app, prep_veil, List.append_nil, a, List.append_assoc]
        congr 1
        rw [← List.drop_drop, List.take_append_drop]
      · rw [List.drop_of_length_le (by omega), List.append_nil]
theorem prepLaw : PrepLaw := fun u x hl hu => by
  unfold typedOf
  rw [prep_app, go_ok hu _ _ _ (by omega), prep_last]
  rfl
end Mine

set_option maxRecDepth 100000
set_option linter.unusedVariables false
namespace Mine
open PySem PySem.W PyProof.Rows
noncomputable def eqb : List Nat → List Nat → Bool
  | [], [] => true
  | a :: x, b :: y => if Nat.beq a b then eqb x y else false
  | _, _ => false
theorem eqb_iff : ∀ x y : List Nat, eqb x y = true ↔ x = y
  | [], [] => by simp [eqb]
  | a :: x, b :: y => by
      rw [eqb]
      by_cases h : a = b
      · subst h; simp [eqb_iff x y]
      · have : Nat.beq a b = false := by
          cases hb : Nat.beq a b with
          | false => rfl
          | true => exact absurd (Nat.eq_of_beq_eq_true hb) h
        simp [this, h]
  | [], b :: y => by simp [eqb]
  | a :: x, [] => by simp [eqb]
noncomputable def lookW (x : List Nat) : Sh → Int
  | [] => 0
  | q :: r => if eqb q.1 x then q.2 else lookW x r
noncomputable def mF (bs sh : Sh) : Int := bs.foldl (fun t p => t + p.2 * lookW p.1 sh) 0
noncomputable def sortedB : List (List Nat) → Bool
  | [] => true
  | a :: l => (l.all fun b => decide (a < b)) && sortedB l
theorem sorted_at : ∀ {l : List (List Nat)}, sortedB l = true → ∀ i j, i < j → j < l.length → l.getD i [] < l.getD j []
  | [], _, i, j, _, h => by simp at h
  | a :: l, hs, 0, j + 1, _, hj => by
      rw [sortedB, Bool.and_eq_true] at hs
      have hj : j < l.length := by simpa using hj
      have e : (a :: l).getD (j + 1) [] = l[j] := by simp [List.getElem?_eq_getElem hj]
      rw [e]
      exact of_decide_eq_true (List.all_eq_true.mp hs.1 _ (List.getElem_mem hj))
  | a :: l, hs, i + 1, j + 1, hij, hj => by
      rw [sortedB, Bool.and_eq_true] at hs
      have := sorted_at hs.2 i j (by omega) (by simpa using hj)
      simpa using this
theorem lt_tr {a b c : List Nat} (h : a < b) (k : b < c) : a < c := List.lt_trans h k
theorem lt_ir (a : List Nat) : ¬ a < a := List.lt_irrefl a
theorem bis_bd {ks : List (List Nat)} {x : List Nat} (mono : ∀ i j, i ≤ j → j < ks.length → ks.getD j [] < x → ks.getD i [] < x) : ∀ (n lo hi : Nat), hi ≤ ks.length → hi - lo ≤ n → lo ≤ hi →
    (∀ i, lo ≤ i → i < bisF ks x n lo hi → ks.getD i [] < x) ∧ (∀ i, bisF ks x n lo hi ≤ i → i < hi → ¬ ks.getD i [] < x)
  | 0, lo, hi, h1, h2, h3 => ⟨fun i a b => by rw [bisF] at b; omega, fun i a b => by rw [bisF] at a; omega⟩
  | n + 1, lo, hi, h1, h2, h3 => by
      rw [bisF]
      by_cases hlt : lo < hi
      · rw [if_pos hlt]
        by_cases hk : ks.getD ((lo + hi) / 2) [] < x
        · rw [if_pos hk]
          obtain ⟨a, b⟩ := bis_bd mono n ((lo + hi) / 2 + 1) hi h1 (by omega) (by omega)
          refine ⟨fun i h4 h5 => ?_, b⟩
          by_cases h6 : i ≤ (lo + hi) / 2
          · exact mono i _ h6 (by omega) hk
          · exact a i (by omega) h5
        · rw [if_neg hk]
          obtain ⟨a, b⟩ := bis_bd mono n lo ((lo + hi) / 2) (by omega) (by omega) (by omega)
          refine ⟨a, fun i h4 h5 h6 => ?_⟩
          by_cases h7 : i < (lo + hi) / 2
          · exact b i h4 h7 h6
          · exact hk (mono _ i (by omega) (by omega) h6)
      · rw [if_neg hlt]
        exact ⟨fun i a b => by omega, fun i a b => by omega⟩
theorem look_none {x : List Nat} : ∀ {sh : Sh}, (∀ p ∈ sh, p.1 ≠ x) → lookW x sh = 0
  | [], _ => rfl
  | p :: sh, h => by
      rw [lookW, if_neg (by rw [eqb_iff]; exact h p (.head _))]
      exact look_none fun q m => h q (.tail _ m)
theorem look_at {x : List Nat} : ∀ {sh : Sh} {r : Nat}, r < sh.length → (∀ i, i < r → (sh.getD i ([], 0)).1 ≠ x) → (sh.getD r ([], 0)).1 = x → lookW x sh = (sh.getD r ([], 0)).2
  | [], r, h, _, _ => by simp at h
  | p :: sh, 0, h, _, e => by
      have e : p.1 = x := by simpa using e
      rw [lookW, if_pos ((eqb_iff _ _).mpr e)]
      simp
  | p :: sh, r + 1, h, hn, e => by
      have h0 : p.1 ≠ x := by simpa using hn 0 (by omega)
      rw [lookW, if_neg (by rw [eqb_iff]; exact h0)]
      have := look_at (sh := sh) (r := r) (by simpa using h) (fun i hi => by simpa using hn (i + 1) (by omega)) (by simpa using e)
      rw [this]; simp
theorem meas1_eq {sh : Sh} (hs : sortedB (sh.map (·.1)) = true) (t : Int) (p : List Nat × Int) : meas1 sh t p = t + p.2 * lookW p.1 sh := by
  have srt := sorted_at hs
  have kl : (sh.map (·.1)).length = sh.length := List.length_map ..
  have kg : ∀ i, i < sh.length → (sh.map (·.1)).getD i [] = (sh.getD i ([], 0)).1 := fun i hi => by
    rw [List.getD_eq_getElem?_getD, List.getD_eq_getElem?_getD, List.getElem?_map, List.getElem?_eq_getElem hi]; rfl
  have bd := bis_bd (ks := sh.map (·.1)) (x := p.1) (fun i j hij hj h => by
    rcases Nat.lt_or_eq_of_le hij with h' | rfl
    · exact lt_tr (srt i j h' hj) h
    · exact h) (sh.map (·.1)).length 0 sh.length (by rw [kl]; exact Nat.le_refl _) (by rw [kl]; omega) (Nat.zero_le _)
  have hm : meas1 sh t p = if (decide (bis (sh.map (·.1)) p.1 0 sh.length < sh.length) && p.1 == (sh.getD (bis (sh.map (·.1)) p.1 0 sh.length) ([], 0)).1) = true then t + p.2 * (sh.getD (bis (sh.map (·.1)) p.1 0 sh.length) ([], 0)).2 else t := rfl
  rw [hm]
  have hr : bisF (sh.map (·.1)) p.1 (sh.map (·.1)).length 0 sh.length = bis (sh.map (·.1)) p.1 0 sh.length := rfl
  rw [hr] at bd
  generalize bis (sh.map (·.1)) p.1 0 sh.length = r at bd
  obtain ⟨b1, b2⟩ := bd
  by_cases hc : (decide (r < sh.length) && p.1 == (sh.getD r ([], 0)).1) = true
  · rw [if_pos hc]
    rw [Bool.and_eq_true, decide_eq_true_eq] at hc
    obtain ⟨hr1, hr2⟩ := hc
    have hr2 : (sh.getD r ([], 0)).1 = p.1 := by have := eq_of_beq hr2; exact this.symm
    rw [look_at hr1 (fun i hi e => ?_) hr2]
    have := b1 i (Nat.zero_le _) hi
    rw [kg i (by omega), e] at this
    exact lt_ir _ this
  · rw [if_neg hc]
    rw [look_none, Int.mul_zero, Int.add_zero]
    intro q m e
    obtain ⟨i, hi, rfl⟩ := List.getElem_of_mem m
    have hgi : (sh.map (·.1)).getD i [] = p.1 := by rw [kg i hi, List.getD_eq_getElem?_getD, List.getElem?_eq_getElem hi]; exact e
    have hri : r ≤ i := by
      by_cases h : i < r
      · have := b1 i (Nat.zero_le _) h
        rw [hgi] at this
        exact absurd this (lt_ir _)
      · omega
    have hrl : r < sh.length := by omega
    have hne : (sh.getD r ([], 0)).1 ≠ p.1 := fun e' => hc (by rw [e']; simp [hrl])
    have hlt : r < i := by
      rcases Nat.lt_or_eq_of_le hri with h | rfl
      · exact h
      · rw [← kg r hi, hgi] at hne; exact absurd rfl hne
    have := srt r i hlt (by rw [kl]; exact hi)
    rw [hgi] at this
    exact b2 r (Nat.le_refl _) hrl this
theorem meas_eq {bs sh : Sh} (hs : sortedB (sh.map (·.1)) = true) : meas bs sh = mF bs sh := by
  unfold meas mF
  congr 1
  funext t p
  exact meas1_eq hs t p

abbrev Row := List Nat × Sh × Sh
noncomputable def rowOk (r : Row) : Bool :=
  partsOk (cut r.1) && (brkOk 6 r.1 && shfOk 7 r.1) && decide (brk 6 r.1 = r.2.1) && decide (shf 7 r.1 = r.2.2) && (small r.2.1 && small r.2.2) && decide (r.2.1[0]? = some (r.1, 1)) && decide (r.2.2[r.2.2.length - 1]? = some (r.1, 1)) && sortedB (r.2.2.map (·.1))
noncomputable def pairF (r q : Row) : Bool := decide (mF r.2.1 q.2.2 = if eqb r.1 q.1 then 1 else 0)
theorem mem_words : ∀ (n : Nat) (l : List Nat), l.length = n → (∀ c ∈ l, c = 102 ∨ c = 105 ∨ c = 108) → l ∈ wordsN n
  | 0, [], _, _ => .head _
  | n + 1, c :: l, h, hc => by
      rw [wordsN]
      refine List.mem_flatMap.mpr ⟨c, ?_, List.mem_map.mpr ⟨l, mem_words n l (by simpa using h) fun d m => hc d (.tail _ m), rfl⟩⟩
      rcases hc c (.head _) with e | e | e <;> rw [e] <;> decide
theorem row_wok {r : Row} (h : rowOk r = true) (hl : r.1.length = 5) (hc : ∀ c ∈ r.1, c = 102 ∨ c = 105 ∨ c = 108) : WOk r.1 ∧ brk 6 r.1 = r.2.1 ∧ shf 7 r.1 = r.2.2 ∧ sortedB (r.2.2.map (·.1)) = true := by
  unfold rowOk at h
  simp only [Bool.and_eq_true, decide_eq_true_eq] at h
  obtain ⟨⟨⟨⟨⟨⟨⟨h1, h2, h3⟩, h4⟩, h5⟩, h6, h7⟩, h8⟩, h9⟩, h10⟩ := h
  exact ⟨⟨h1, h2, h3, h4 ▸ h6, h5 ▸ h7, h4 ▸ h8, h5 ▸ h9, hl, hc⟩, h4, h5, h10⟩
theorem row_pok {r q : Row} (hr : rowOk r = true) (hq : rowOk q = true) (p1 : pairF r r = true) (p2 : pairF r q = true) (p3 : pairF q r = true) (p4 : pairF q q = true) (hl : r.1.length = 5) (hl' : q.1.length = 5)
    (hc : ∀ c ∈ r.1, c = 102 ∨ c = 105 ∨ c = 108) (hc' : ∀ c ∈ q.1, c = 102 ∨ c = 105 ∨ c = 108) : POk r.1 q.1 := by
  obtain ⟨a1, a2, a3, a4⟩ := row_wok hr hl hc
  obtain ⟨b1, b2, b3, b4⟩ := row_wok hq hl' hc'
  have self : ∀ x : List Nat, eqb x x = true := fun x => (eqb_iff x x).mpr rfl
  have m : ∀ {x y : Row}, pairF x y = true → mF x.2.1 y.2.2 = if eqb x.1 y.1 then 1 else 0 := fun h => of_decide_eq_true h
  have bq : ∀ x y : List Nat, (x == y) = eqb x y := fun x y => by
    rw [Bool.eq_iff_iff, eqb_iff]; exact beq_iff_eq
  have sym : eqb q.1 r.1 = eqb r.1 q.1 := by rw [Bool.eq_iff_iff, eqb_iff, eqb_iff]; exact eq_comm
  refine ⟨a1, b1, ?_, ?_, ?_, ?_⟩
  · rw [a2, a3, meas_eq a4, m p1, self, if_pos rfl]
  · rw [a2, b3, meas_eq b4, m p2, bq]
  · rw [b2, a3, meas_eq a4, m p3, bq, sym]
  · rw [b2, b3, meas_eq b4, m p4, self, if_pos rfl]
theorem ok_nil : ∀ r ∈ ([] : List Row), rowOk r = true := fun r m => nomatch m
theorem ok_cons {r : Row} {l : List Row} (h : rowOk r = true) (k : ∀ q ∈ l, rowOk q = true) : ∀ q ∈ r :: l, rowOk q = true := fun q m => by
  rcases List.mem_cons.mp m with e | m
  · rw [e]; exact h
  · exact k q m
theorem pr_nil {c : List Row} : ∀ r ∈ ([] : List Row), ∀ q ∈ c, pairF r q = true := fun r m => nomatch m
theorem pr_cons {c : List Row} {r : Row} {l : List Row} (h : (c.all fun q => pairF r q) = true) (k : ∀ r ∈ l, ∀ q ∈ c, pairF r q = true) : ∀ r' ∈ r :: l, ∀ q ∈ c, pairF r' q = true := fun r' m q mq => by
  rcases List.mem_cons.mp m with e | m
  · rw [e]; exact List.all_eq_true.mp h q mq
  · exact k r' m q mq
theorem tab_nil : ∀ c ∈ ([] : List (List Row)), (∀ r ∈ c, rowOk r = true) ∧ ∀ r ∈ c, ∀ q ∈ c, pairF r q = true := fun c m => nomatch m
theorem tab_cons {d : List Row} {t : List (List Row)} (h : ∀ r ∈ d, rowOk r = true) (p : ∀ r ∈ d, ∀ q ∈ d, pairF r q = true) (k : ∀ c ∈ t, (∀ r ∈ c, rowOk r = true) ∧ ∀ r ∈ c, ∀ q ∈ c, pairF r q = true) :
    ∀ c ∈ d :: t, (∀ r ∈ c, rowOk r = true) ∧ ∀ r ∈ c, ∀ q ∈ c, pairF r q = true := fun c m => by
  rcases List.mem_cons.mp m with e | m
  · rw [e]; exact ⟨h, p⟩
  · exact k c m
noncomputable def cls (u : List Nat) : Nat := 6 * u.count 102 + u.count 105
end Mine

set_option maxRecDepth 100000
namespace Mine
noncomputable def row0x0 : Row := ([108,108,108,108,108],[([108,108,108,108,108],1)],[([108,108,108,108,108],1)])
noncomputable def kls0 : List Row := [row0x0]
theorem rok0x0 : rowOk row0x0 = true := by decide +kernel
theorem rpr0x0 : (kls0.all fun q => pairF row0x0 q) = true := by decide +kernel
theorem klsok0 : ∀ r ∈ kls0, rowOk r = true := (ok_cons rok0x0 ok_nil)
theorem klspr0 : ∀ r ∈ kls0, ∀ q ∈ kls0, pairF r q = true := (pr_cons rpr0x0 pr_nil)
noncomputable def row1x0 : Row := ([105,108,108,108,108],[([105,108,108,108,108],1),([108,105,108,108,108],-4),([108,108,105,108,108],6),([108,108,108,105,108],-4),([108,108,108,108,105],1)],[([105,108,108,108,108],1)])
noncomputable def row1x1 : Row := ([108,105,108,108,108],[([108,105,108,108,108],1),([108,108,105,108,108],-3),([108,108,108,105,108],3),([108,108,108,108,105],-1)],[([105,108,108,108,108],4),([108,105,108,108,108],1)])
noncomputable def row1x2 : Row := ([108,108,105,108,108],[([108,108,105,108,108],1),([108,108,108,105,108],-2),([108,108,108,108,105],1)],[([105,108,108,108,108],6),([108,105,108,108,108],3),([108,108,105,108,108],1)])
noncomputable def row1x3 : Row := ([108,108,108,105,108],[([108,108,108,105,108],1),([108,108,108,108,105],-1)],[([105,108,108,108,108],4),([108,105,108,108,108],3),([108,108,105,108,108],2),([108,108,108,105,108],1)])
noncomputable def row1x4 : Row := ([108,108,108,108,105],[([108,108,108,108,105],1)],[([105,108,108,108,108],1),([108,105,108,108,108],1),([108,108,105,108,108],1),([108,108,108,105,108],1),([108,108,108,108,105],1)])
noncomputable def kls1 : List Row := [row1x0, row1x1, row1x2, row1x3, row1x4]
theorem rok1x0 : rowOk row1x0 = true := by decide +kernel
theorem rpr1x0 : (kls1.all fun q => pairF row1x0 q) = true := by decide +kernel
theorem rok1x1 : rowOk row1x1 = true := by decide +kernel
theorem rpr1x1 : (kls1.all fun q => pairF row1x1 q) = true := by decide +kernel
theorem rok1x2 : rowOk row1x2 = true := by decide +kernel
theorem rpr1x2 : (kls1.all fun q => pairF row1x2 q) = true := by decide +kernel
theorem rok1x3 : rowOk row1x3 = true := by decide +kernel
theorem rpr1x3 : (kls1.all fun q => pairF row1x3 q) = true := by decide +kernel
theorem rok1x4 : rowOk row1x4 = true := by decide +kernel
theorem rpr1x4 : (kls1.all fun q => pairF row1x4 q) = true := by decide +kernel
theorem klsok1 : ∀ r ∈ kls1, rowOk r = true := (ok_cons rok1x0 (ok_cons rok1x1 (ok_cons rok1x2 (ok_cons rok1x3 (ok_cons rok1x4 ok_nil)))))
theorem klspr1 : ∀ r ∈ kls1, ∀ q ∈ kls1, pairF r q = true := (pr_cons rpr1x0 (pr_cons rpr1x1 (pr_cons rpr1x2 (pr_cons rpr1x3 (pr_cons rpr1x4 pr_nil)))))
noncomputable def row2x0 : Row := ([105,105,108,108,108],[([105,105,108,108,108],1),([105,108,105,108,108],-3),([105,108,108,105,108],3),([105,108,108,108,105],-2),([108,105,108,108,105],3),([108,108,105,108,105],-3),([108,108,108,105,105],1)],[([105,105,108,108,108],1)])
noncomputable def row2x1 : Row := ([105,108,105,108,108],[([105,108,105,108,108],1),([105,108,108,105,108],-3),([105,108,108,108,105],2),([108,105,105,108,108],-1),([108,105,108,105,108],4),([108,105,108,108,105],-3),([108,108,105,105,108],-1),([108,108,105,108,105],1)],[([105,105,108,108,108],3),([105,108,105,108,108],1)])
noncomputable def row2x2 : Row := ([105,108,108,105,108],[([105,108,108,105,108],1),([105,108,108,108,105],-1),([108,105,108,105,108],-2),([108,105,108,108,105],2),([108,108,105,105,108],1),([108,108,105,108,105],-1)],[([105,105,108,108,108],6),([105,108,105,108,108],3),([105,108,108,105,108],1)])
noncomputable def row2x3 : Row := ([105,108,108,108,105],[([105,108,108,108,105],1),([108,105,108,108,105],-3),([108,108,105,108,105],3),([108,108,108,105,105],-1)],[([105,105,108,108,108],2),([105,108,105,108,108],1),([105,108,108,105,108],1),([105,108,108,108,105],1)])
noncomputable def row2x4 : Row := ([108,105,105,108,108],[([108,105,105,108,108],1),([108,105,108,105,108],-2),([108,105,108,108,105],0),([108,108,105,108,105],2),([108,108,108,105,105],-1)],[([105,105,108,108,108],3),([105,108,105,108,108],1),([108,105,105,108,108],1)])
noncomputable def row2x5 : Row := ([108,105,108,105,108],[([108,105,108,105,108],1),([108,105,108,108,105],-1),([108,108,105,105,108],-1),([108,108,105,108,105],1)],[([105,105,108,108,108],6),([105,108,105,108,108],4),([105,108,108,105,108],2),([108,105,105,108,108],2),([108,105,108,105,108],1)])
noncomputable def row2x6 : Row := ([108,105,108,108,105],[([108,105,108,108,105],1),([108,108,105,108,105],-2),([108,108,108,105,105],1)],[([105,105,108,108,108],6),([105,108,105,108,108],4),([105,108,108,105,108],3),([105,108,108,108,105],3),([108,105,105,108,108],2),([108,105,108,105,108],1),([108,105,108,108,105],1)])
noncomputable def row2x7 : Row := ([108,108,105,105,108],[([108,108,105,105,108],1),([108,108,105,108,105],-2),([108,108,108,105,105],1)],[([105,105,108,108,108],3),([105,108,105,108,108],2),([105,108,108,105,108],1),([108,105,105,108,108],2),([108,105,108,105,108],1),([108,108,105,105,108],1)])
noncomputable def row2x8 : Row := ([108,108,105,108,105],[([108,108,105,108,105],1),([108,108,108,105,105],-1)],[([105,105,108,108,108],6),([105,108,105,108,108],5),([105,108,108,105,108],4),([105,108,108,108,105],3),([108,105,105,108,108],4),([108,105,108,105,108],3),([108,105,108,108,105],2),([108,108,105,105,108],2),([108,108,105,108,105],1)])
noncomputable def row2x9 : Row := ([108,108,108,105,105],[([108,108,108,105,105],1)],[([105,105,108,108,108],1),([105,108,105,108,108],1),([105,108,108,105,108],1),([105,108,108,108,105],1),([108,105,105,108,108],1),([108,105,108,105,108],1),([108,105,108,108,105],1),([108,108,105,105,108],1),([108,108,105,108,105],1),([108,108,108,105,105],1)])
noncomputable def kls2 : List Row := [row2x0, row2x1, row2x2, row2x3, row2x4, row2x5, row2x6, row2x7, row2x8, row2x9]
theorem rok2x0 : rowOk row2x0 = true := by decide +kernel
theorem rpr2x0 : (kls2.all fun q => pairF row2x0 q) = true := by decide +kernel
theorem rok2x1 : rowOk row2x1 = true := by decide +kernel
theorem rpr2x1 : (kls2.all fun q => pairF row2x1 q) = true := by decide +kernel
theorem rok2x2 : rowOk row2x2 = true := by decide +kernel
theorem rpr2x2 : (kls2.all fun q => pairF row2x2 q) = true := by decide +kernel
theorem rok2x3 : rowOk row2x3 = true := by decide +kernel
theorem rpr2x3 : (kls2.all fun q => pairF row2x3 q) = true := by decide +kernel
theorem rok2x4 : rowOk row2x4 = true := by decide +kernel
theorem rpr2x4 : (kls2.all fun q => pairF row2x4 q) = true := by decide +kernel
theorem rok2x5 : rowOk row2x5 = true := by decide +kernel
theorem rpr2x5 : (kls2.all fun q => pairF row2x5 q) = true := by decide +kernel
theorem rok2x6 : rowOk row2x6 = true := by decide +kernel
theorem rpr2x6 : (kls2.all fun q => pairF row2x6 q) = true := by decide +kernel
theorem rok2x7 : rowOk row2x7 = true := by decide +kernel
theorem rpr2x7 : (kls2.all fun q => pairF row2x7 q) = true := by decide +kernel
theorem rok2x8 : rowOk row2x8 = true := by decide +kernel
theorem rpr2x8 : (kls2.all fun q => pairF row2x8 q) = true := by decide +kernel
theorem rok2x9 : rowOk row2x9 = true := by decide +kernel
theorem rpr2x9 : (kls2.all fun q => pairF row2x9 q) = true := by decide +kernel
theorem klsok2 : ∀ r ∈ kls2, rowOk r = true := (ok_cons rok2x0 (ok_cons rok2x1 (ok_cons rok2x2 (ok_cons rok2x3 (ok_cons rok2x4 (ok_cons rok2x5 (ok_cons rok2x6 (ok_cons rok2x7 (ok_cons rok2x8 (ok_cons rok2x9 ok_nil))))))))))
theorem klspr2 : ∀ r ∈ kls2, ∀ q ∈ kls2, pairF r q = true := (pr_cons rpr2x0 (pr_cons rpr2x1 (pr_cons rpr2x2 (pr_cons rpr2x3 (pr_cons rpr2x4 (pr_cons rpr2x5 (pr_cons rpr2x6 (pr_cons rpr2x7 (pr_cons rpr2x8 (pr_cons rpr2x9 pr_nil))))))))))
noncomputable def row3x0 : Row := ([105,105,105,108,108],[([105,105,105,108,108],1),([105,105,108,105,108],-2),([105,105,108,108,105],-1),([105,108,105,108,105],4),([105,108,108,105,105],-1),([108,105,108,105,105],-2),([108,108,105,105,105],1)],[([105,105,105,108,108],1)])
noncomputable def row3x1 : Row := ([105,105,108,105,108],[([105,105,108,105,108],1),([105,105,108,108,105],-1),([105,108,105,105,108],-3),([105,108,105,108,105],4),([105,108,108,105,105],-1),([108,105,105,105,108],2),([108,105,105,108,105],-3),([108,105,108,105,105],1)],[([105,105,105,108,108],2),([105,105,108,105,108],1)])
noncomputable def row3x2 : Row := ([105,105,108,108,105],[([105,105,108,108,105],1),([105,108,105,108,105],-2),([105,108,108,105,105],0),([108,105,108,105,105],2),([108,108,105,105,105],-1)],[([105,105,105,108,108],3),([105,105,108,105,108],1),([105,105,108,108,105],1)])
noncomputable def row3x3 : Row := ([105,108,105,105,108],[([105,108,105,105,108],1),([105,108,105,108,105],-2),([105,108,108,105,105],1),([108,105,105,105,108],-1),([108,105,105,108,105],2),([108,105,108,105,105],-1)],[([105,105,105,108,108],6),([105,105,108,105,108],3),([105,108,105,105,108],1)])
noncomputable def row3x4 : Row := ([105,108,105,108,105],[([105,108,105,108,105],1),([105,108,108,105,105],-1),([108,105,105,108,105],-1),([108,105,108,105,105],1)],[([105,105,105,108,108],6),([105,105,108,105,108],4),([105,105,108,108,105],2),([105,108,105,105,108],2),([105,108,105,108,105],1)])
noncomputable def row3x5 : Row := ([105,108,108,105,105],[([105,108,108,105,105],1),([108,105,108,105,105],-2),([108,108,105,105,105],1)],[([105,105,105,108,108],3),([105,105,108,105,108],2),([105,105,108,108,105],2),([105,108,105,105,108],1),([105,108,105,108,105],1),([105,108,108,105,105],1)])
noncomputable def row3x6 : Row := ([108,105,105,105,108],[([108,105,105,105,108],1),([108,105,105,108,105],-3),([108,105,108,105,105],3),([108,108,105,105,105],-1)],[([105,105,105,108,108],2),([105,105,108,105,108],1),([105,108,105,105,108],1),([108,105,105,105,108],1)])
noncomputable def row3x7 : Row := ([108,105,105,108,105],[([108,105,105,108,105],1),([108,105,108,105,105],-2),([108,108,105,105,105],1)],[([105,105,105,108,108],6),([105,105,108,105,108],4),([105,105,108,108,105],2),([105,108,105,105,108],3),([105,108,105,108,105],1),([108,105,105,105,108],3),([108,105,105,108,105],1)])
noncomputable def row3x8 : Row := ([108,105,108,105,105],[([108,105,108,105,105],1),([108,108,105,105,105],-1)],[([105,105,105,108,108],6),([105,105,108,105,108],5),([105,105,108,108,105],4),([105,108,105,105,108],4),([105,108,105,108,105],3),([105,108,108,105,105],2),([108,105,105,105,108],3),([108,105,105,108,105],2),([108,105,108,105,105],1)])
noncomputable def row3x9 : Row := ([108,108,105,105,105],[([108,108,105,105,105],1)],[([105,105,105,108,108],1),([105,105,108,105,108],1),([105,105,108,108,105],1),([105,108,105,105,108],1),([105,108,105,108,105],1),([105,108,108,105,105],1),([108,105,105,105,108],1),([108,105,105,108,105],1),([108,105,108,105,105],1),([108,108,105,105,105],1)])
noncomputable def kls3 : List Row := [row3x0, row3x1, row3x2, row3x3, row3x4, row3x5, row3x6, row3x7, row3x8, row3x9]
theorem rok3x0 : rowOk row3x0 = true := by decide +kernel
theorem rpr3x0 : (kls3.all fun q => pairF row3x0 q) = true := by decide +kernel
theorem rok3x1 : rowOk row3x1 = true := by decide +kernel
theorem rpr3x1 : (kls3.all fun q => pairF row3x1 q) = true := by decide +kernel
theorem rok3x2 : rowOk row3x2 = true := by decide +kernel
theorem rpr3x2 : (kls3.all fun q => pairF row3x2 q) = true := by decide +kernel
theorem rok3x3 : rowOk row3x3 = true := by decide +kernel
theorem rpr3x3 : (kls3.all fun q => pairF row3x3 q) = true := by decide +kernel
theorem rok3x4 : rowOk row3x4 = true := by decide +kernel
theorem rpr3x4 : (kls3.all fun q => pairF row3x4 q) = true := by decide +kernel
theorem rok3x5 : rowOk row3x5 = true := by decide +kernel
theorem rpr3x5 : (kls3.all fun q => pairF row3x5 q) = true := by decide +kernel
theorem rok3x6 : rowOk row3x6 = true := by decide +kernel
theorem rpr3x6 : (kls3.all fun q => pairF row3x6 q) = true := by decide +kernel
theorem rok3x7 : rowOk row3x7 = true := by decide +kernel
theorem rpr3x7 : (kls3.all fun q => pairF row3x7 q) = true := by decide +kernel
theorem rok3x8 : rowOk row3x8 = true := by decide +kernel
theorem rpr3x8 : (kls3.all fun q => pairF row3x8 q) = true := by decide +kernel
theorem rok3x9 : rowOk row3x9 = true := by decide +kernel
theorem rpr3x9 : (kls3.all fun q => pairF row3x9 q) = true := by decide +kernel
theorem klsok3 : ∀ r ∈ kls3, rowOk r = true := (ok_cons rok3x0 (ok_cons rok3x1 (ok_cons rok3x2 (ok_cons rok3x3 (ok_cons rok3x4 (ok_cons rok3x5 (ok_cons rok3x6 (ok_cons rok3x7 (ok_cons rok3x8 (ok_cons rok3x9 ok_nil))))))))))
theorem klspr3 : ∀ r ∈ kls3, ∀ q ∈ kls3, pairF r q = true := (pr_cons rpr3x0 (pr_cons rpr3x1 (pr_cons rpr3x2 (pr_cons rpr3x3 (pr_cons rpr3x4 (pr_cons rpr3x5 (pr_cons rpr3x6 (pr_cons rpr3x7 (pr_cons rpr3x8 (pr_cons rpr3x9 pr_nil))))))))))
noncomputable def row4x0 : Row := ([105,105,105,105,108],[([105,105,105,105,108],1),([105,105,105,108,105],-4),([105,105,108,105,105],6),([105,108,105,105,105],-4),([108,105,105,105,105],1)],[([105,105,105,105,108],1)])
noncomputable def row4x1 : Row := ([105,105,105,108,105],[([105,105,105,108,105],1),([105,105,108,105,105],-3),([105,108,105,105,105],3),([108,105,105,105,105],-1)],[([105,105,105,105,108],4),([105,105,105,108,105],1)])
noncomputable def row4x2 : Row := ([105,105,108,105,105],[([105,105,108,105,105],1),([105,108,105,105,105],-2),([108,105,105,105,105],1)],[([105,105,105,105,108],6),([105,105,105,108,105],3),([105,105,108,105,105],1)])
noncomputable def row4x3 : Row := ([105,108,105,105,105],[([105,108,105,105,105],1),([108,105,105,105,105],-1)],[([105,105,105,105,108],4),([105,105,105,108,105],3),([105,105,108,105,105],2),([105,108,105,105,105],1)])
noncomputable def row4x4 : Row := ([108,105,105,105,105],[([108,105,105,105,105],1)],[([105,105,105,105,108],1),([105,105,105,108,105],1),([105,105,108,105,105],1),([105,108,105,105,105],1),([108,105,105,105,105],1)])
noncomputable def kls4 : List Row := [row4x0, row4x1, row4x2, row4x3, row4x4]
theorem rok4x0 : rowOk row4x0 = true := by decide +kernel
theorem rpr4x0 : (kls4.all fun q => pairF row4x0 q) = true := by decide +kernel
theorem rok4x1 : rowOk row4x1 = true := by decide +kernel
theorem rpr4x1 : (kls4.all fun q => pairF row4x1 q) = true := by decide +kernel
theorem rok4x2 : rowOk row4x2 = true := by decide +kernel
theorem rpr4x2 : (kls4.all fun q => pairF row4x2 q) = true := by decide +kernel
theorem rok4x3 : rowOk row4x3 = true := by decide +kernel
theorem rpr4x3 : (kls4.all fun q => pairF row4x3 q) = true := by decide +kernel
theorem rok4x4 : rowOk row4x4 = true := by decide +kernel
theorem rpr4x4 : (kls4.all fun q => pairF row4x4 q) = true := by decide +kernel
theorem klsok4 : ∀ r ∈ kls4, rowOk r = true := (ok_cons rok4x0 (ok_cons rok4x1 (ok_cons rok4x2 (ok_cons rok4x3 (ok_cons rok4x4 ok_nil)))))
theorem klspr4 : ∀ r ∈ kls4, ∀ q ∈ kls4, pairF r q = true := (pr_cons rpr4x0 (pr_cons rpr4x1 (pr_cons rpr4x2 (pr_cons rpr4x3 (pr_cons rpr4x4 pr_nil)))))
noncomputable def row5x0 : Row := ([105,105,105,105,105],[([105,105,105,105,105],1)],[([105,105,105,105,105],1)])
noncomputable def kls5 : List Row := [row5x0]
theorem rok5x0 : rowOk row5x0 = true := by decide +kernel
theorem rpr5x0 : (kls5.all fun q => pairF row5x0 q) = true := by decide +kernel
theorem klsok5 : ∀ r ∈ kls5, rowOk r = true := (ok_cons rok5x0 ok_nil)
theorem klspr5 : ∀ r ∈ kls5, ∀ q ∈ kls5, pairF r q = true := (pr_cons rpr5x0 pr_nil)
noncomputable def row6x0 : Row := ([102,108,108,108,108],[([102,108,108,108,108],1),([108,102,108,108,108],-4),([108,108,102,108,108],6),([108,108,108,102,108],-4),([108,108,108,108,102],1)],[([102,108,108,108,108],1)])
noncomputable def row6x1 : Row := ([108,102,108,108,108],[([108,102,108,108,108],1),([108,108,102,108,108],-3),([108,108,108,102,108],3),([108,108,108,108,102],-1)],[([102,108,108,108,108],4),([108,102,108,108,108],1)])
noncomputable def row6x2 : Row := ([108,108,102,108,108],[([108,108,102,108,108],1),([108,108,108,102,108],-2),([108,108,108,108,102],1)],[([102,108,108,108,108],6),([108,102,108,108,108],3),([108,108,102,108,108],1)])
noncomputable def row6x3 : Row := ([108,108,108,102,108],[([108,108,108,102,108],1),([108,108,108,108,102],-1)],[([102,108,108,108,108],4),([108,102,108,108,108],3),([108,108,102,108,108],2),([108,108,108,102,108],1)])
noncomputable def row6x4 : Row := ([108,108,108,108,102],[([108,108,108,108,102],1)],[([102,108,108,108,108],1),([108,102,108,108,108],1),([108,108,102,108,108],1),([108,108,108,102,108],1),([108,108,108,108,102],1)])
noncomputable def kls6 : List Row := [row6x0, row6x1, row6x2, row6x3, row6x4]
theorem rok6x0 : rowOk row6x0 = true := by decide +kernel
theorem rpr6x0 : (kls6.all fun q => pairF row6x0 q) = true := by decide +kernel
theorem rok6x1 : rowOk row6x1 = true := by decide +kernel
theorem rpr6x1 : (kls6.all fun q => pairF row6x1 q) = true := by decide +kernel
theorem rok6x2 : rowOk row6x2 = true := by decide +kernel
theorem rpr6x2 : (kls6.all fun q => pairF row6x2 q) = true := by decide +kernel
theorem rok6x3 : rowOk row6x3 = true := by decide +kernel
theorem rpr6x3 : (kls6.all fun q => pairF row6x3 q) = true := by decide +kernel
theorem rok6x4 : rowOk row6x4 = true := by decide +kernel
theorem rpr6x4 : (kls6.all fun q => pairF row6x4 q) = true := by decide +kernel
theorem klsok6 : ∀ r ∈ kls6, rowOk r = true := (ok_cons rok6x0 (ok_cons rok6x1 (ok_cons rok6x2 (ok_cons rok6x3 (ok_cons rok6x4 ok_nil)))))
theorem klspr6 : ∀ r ∈ kls6, ∀ q ∈ kls6, pairF r q = true := (pr_cons rpr6x0 (pr_cons rpr6x1 (pr_cons rpr6x2 (pr_cons rpr6x3 (pr_cons rpr6x4 pr_nil)))))
noncomputable def row7x0 : Row := ([102,105,108,108,108],[([102,105,108,108,108],1),([102,108,105,108,108],-3),([102,108,108,105,108],3),([102,108,108,108,105],-1),([105,108,108,108,102],-1),([108,105,108,108,102],3),([108,108,105,108,102],-3),([108,108,108,105,102],1)],[([102,105,108,108,108],1)])
noncomputable def row7x1 : Row := ([102,108,105,108,108],[([102,108,105,108,108],1),([102,108,108,105,108],-2),([102,108,108,108,105],1),([105,108,108,102,108],-1),([105,108,108,108,102],1),([108,102,105,108,108],-1),([108,102,108,105,108],2),([108,102,108,108,105],-1),([108,105,108,102,108],2),([108,105,108,108,102],-2),([108,108,105,102,108],-1),([108,108,105,108,102],1)],[([102,105,108,108,108],3),([102,108,105,108,108],1)])
noncomputable def row7x2 : Row := ([102,108,108,105,108],[([102,108,108,105,108],1),([102,108,108,108,105],-1),([105,108,102,108,108],-1),([105,108,108,102,108],2),([105,108,108,108,102],-1),([108,102,108,105,108],-2),([108,102,108,108,105],2),([108,105,102,108,108],1),([108,105,108,102,108],-2),([108,105,108,108,102],1),([108,108,102,105,108],1),([108,108,102,108,105],-1)],[([102,105,108,108,108],3),([102,108,105,108,108],2),([102,108,108,105,108],1)])
noncomputable def row7x3 : Row := ([102,108,108,108,105],[([102,108,108,108,105],1),([105,102,108,108,108],-1),([105,108,102,108,108],3),([105,108,108,102,108],-3),([105,108,108,108,102],1),([108,102,108,108,105],-3),([108,108,102,108,105],3),([108,108,108,102,105],-1)],[([102,105,108,108,108],1),([102,108,105,108,108],1),([102,108,108,105,108],1),([102,108,108,108,105],1)])
noncomputable def row7x4 : Row := ([105,102,108,108,108],[([105,102,108,108,108],1),([105,108,102,108,108],-3),([105,108,108,102,108],3),([105,108,108,108,102],-1)],[([102,105,108,108,108],1),([102,108,105,108,108],1),([102,108,108,105,108],1),([102,108,108,108,105],1),([105,102,108,108,108],1)])
noncomputable def row7x5 : Row := ([105,108,102,108,108],[([105,108,102,108,108],1),([105,108,108,102,108],-2),([105,108,108,108,102],1),([108,105,102,108,108],-1),([108,105,108,102,108],2),([108,105,108,108,102],-1)],[([102,105,108,108,108],3),([102,108,105,108,108],2),([102,108,108,105,108],1),([105,102,108,108,108],3),([105,108,102,108,108],1)])
noncomputable def row7x6 : Row := ([105,108,108,102,108],[([105,108,108,102,108],1),([105,108,108,108,102],-1),([108,105,108,102,108],-2),([108,105,108,108,102],2),([108,108,105,102,108],1),([108,108,105,108,102],-1)],[([102,105,108,108,108],3),([102,108,105,108,108],1),([105,102,108,108,108],3),([105,108,102,108,108],2),([105,108,108,102,108],1)])
noncomputable def row7x7 : Row := ([105,108,108,108,102],[([105,108,108,108,102],1),([108,105,108,108,102],-3),([108,108,105,108,102],3),([108,108,108,105,102],-1)],[([102,105,108,108,108],1),([105,102,108,108,108],1),([105,108,102,108,108],1),([105,108,108,102,108],1),([105,108,108,108,102],1)])
noncomputable def row7x8 : Row := ([108,102,105,108,108],[([108,102,105,108,108],1),([108,102,108,105,108],-2),([108,102,108,108,105],1),([108,105,108,108,102],-1),([108,108,105,108,102],2),([108,108,108,105,102],-1)],[([102,105,108,108,108],3),([102,108,105,108,108],1),([108,102,105,108,108],1)])
noncomputable def row7x9 : Row := ([108,102,108,105,108],[([108,102,108,105,108],1),([108,102,108,108,105],-1),([108,105,108,102,108],-1),([108,105,108,108,102],1),([108,108,102,105,108],-1),([108,108,102,108,105],1),([108,108,105,102,108],1),([108,108,105,108,102],-1)],[([102,105,108,108,108],6),([102,108,105,108,108],4),([102,108,108,105,108],2),([108,102,105,108,108],2),([108,102,108,105,108],1)])
noncomputable def row7x10 : Row := ([108,102,108,108,105],[([108,102,108,108,105],1),([108,105,102,108,108],-1),([108,105,108,102,108],2),([108,105,108,108,102],-1),([108,108,102,108,105],-2),([108,108,108,102,105],1)],[([102,105,108,108,108],3),([102,108,105,108,108],3),([102,108,108,105,108],3),([102,108,108,108,105],3),([108,102,105,108,108],1),([108,102,108,105,108],1),([108,102,108,108,105],1)])
noncomputable def row7x11 : Row := ([108,105,102,108,108],[([108,105,102,108,108],1),([108,105,108,102,108],-2),([108,105,108,108,102],1)],[([102,105,108,108,108],3),([102,108,105,108,108],3),([102,108,108,105,108],3),([102,108,108,108,105],3),([105,102,108,108,108],3),([105,108,102,108,108],1),([108,102,105,108,108],1),([108,102,108,105,108],1),([108,102,108,108,105],1),([108,105,102,108,108],1)])
noncomputable def row7x12 : Row := ([108,105,108,102,108],[([108,105,108,102,108],1),([108,105,108,108,102],-1),([108,108,105,102,108],-1),([108,108,105,108,102],1)],[([102,105,108,108,108],6),([102,108,105,108,108],4),([102,108,108,105,108],2),([105,102,108,108,108],6),([105,108,102,108,108],4),([105,108,108,102,108],2),([108,102,105,108,108],2),([108,102,108,105,108],1),([108,105,102,108,108],2),([108,105,108,102,108],1)])
noncomputable def row7x13 : Row := ([108,105,108,108,102],[([108,105,108,108,102],1),([108,108,105,108,102],-2),([108,108,108,105,102],1)],[([102,105,108,108,108],3),([102,108,105,108,108],1),([105,102,108,108,108],3),([105,108,102,108,108],3),([105,108,108,102,108],3),([105,108,108,108,102],3),([108,102,105,108,108],1),([108,105,102,108,108],1),([108,105,108,102,108],1),([108,105,108,108,102],1)])
noncomputable def row7x14 : Row := ([108,108,102,105,108],[([108,108,102,105,108],1),([108,108,102,108,105],-1),([108,108,105,108,102],-1),([108,108,108,105,102],1)],[([102,105,108,108,108],3),([102,108,105,108,108],2),([102,108,108,105,108],1),([108,102,105,108,108],2),([108,102,108,105,108],1),([108,108,102,105,108],1)])
noncomputable def row7x15 : Row := ([108,108,102,108,105],[([108,108,102,108,105],1),([108,108,105,102,108],-1),([108,108,105,108,102],1),([108,108,108,102,105],-1)],[([102,105,108,108,108],3),([102,108,105,108,108],3),([102,108,108,105,108],3),([102,108,108,108,105],3),([108,102,105,108,108],2),([108,102,108,105,108],2),([108,102,108,108,105],2),([108,108,102,105,108],1),([108,108,102,108,105],1)])
noncomputable def row7x16 : Row := ([108,108,105,102,108],[([108,108,105,102,108],1),([108,108,105,108,102],-1)],[([102,105,108,108,108],3),([102,108,105,108,108],3),([102,108,108,105,108],3),([102,108,108,108,105],3),([105,102,108,108,108],3),([105,108,102,108,108],2),([105,108,108,102,108],1),([108,102,105,108,108],2),([108,102,108,105,108],2),([108,102,108,108,105],2),([108,105,102,108,108],2),([108,105,108,102,108],1),([108,108,102,105,108],1),([108,108,102,108,105],1),([108,108,105,102,108],1)])
noncomputable def row7x17 : Row := ([108,108,105,108,102],[([108,108,105,108,102],1),([108,108,108,105,102],-1)],[([102,105,108,108,108],3),([102,108,105,108,108],2),([102,108,108,105,108],1),([105,102,108,108,108],3),([105,108,102,108,108],3),([105,108,108,102,108],3),([105,108,108,108,102],3),([108,102,105,108,108],2),([108,102,108,105,108],1),([108,105,102,108,108],2),([108,105,108,102,108],2),([108,105,108,108,102],2),([108,108,102,105,108],1),([108,108,105,102,108],1),([108,108,105,108,102],1)])
noncomputable def row7x18 : Row := ([108,108,108,102,105],[([108,108,108,102,105],1),([108,108,108,105,102],-1)],[([102,105,108,108,108],1),([102,108,105,108,108],1),([102,108,108,105,108],1),([102,108,108,108,105],1),([108,102,105,108,108],1),([108,102,108,105,108],1),([108,102,108,108,105],1),([108,108,102,105,108],1),([108,108,102,108,105],1),([108,108,108,102,105],1)])
noncomputable def row7x19 : Row := ([108,108,108,105,102],[([108,108,108,105,102],1)],[([102,105,108,108,108],1),([102,108,105,108,108],1),([102,108,108,105,108],1),([102,108,108,108,105],1),([105,102,108,108,108],1),([105,108,102,108,108],1),([105,108,108,102,108],1),([105,108,108,108,102],1),([108,102,105,108,108],1),([108,102,108,105,108],1),([108,102,108,108,105],1),([108,105,102,108,108],1),([108,105,108,102,108],1),([108,105,108,108,102],1),([108,108,102,105,108],1),([108,108,102,108,105],1),([108,108,105,102,108],1),([108,108,105,108,102],1),([108,108,108,102,105],1),([108,108,108,105,102],1)])
noncomputable def kls7 : List Row := [row7x0, row7x1, row7x2, row7x3, row7x4, row7x5, row7x6, row7x7, row7x8, row7x9, row7x10, row7x11, row7x12, row7x13, row7x14, row7x15, row7x16, row7x17, row7x18, row7x19]
theorem rok7x0 : rowOk row7x0 = true := by decide +kernel
theorem rpr7x0 : (kls7.all fun q => pairF row7x0 q) = true := by decide +kernel
theorem rok7x1 : rowOk row7x1 = true := by decide +kernel
theorem rpr7x1 : (kls7.all fun q => pairF row7x1 q) = true := by decide +kernel
theorem rok7x2 : rowOk row7x2 = true := by decide +kernel
theorem rpr7x2 : (kls7.all fun q => pairF row7x2 q) = true := by decide +kernel
theorem rok7x3 : rowOk row7x3 = true := by decide +kernel
theorem rpr7x3 : (kls7.all fun q => pairF row7x3 q) = true := by decide +kernel
theorem rok7x4 : rowOk row7x4 = true := by decide +kernel
theorem rpr7x4 : (kls7.all fun q => pairF row7x4 q) = true := by decide +kernel
theorem rok7x5 : rowOk row7x5 = true := by decide +kernel
theorem rpr7x5 : (kls7.all fun q => pairF row7x5 q) = true := by decide +kernel
theorem rok7x6 : rowOk row7x6 = true := by decide +kernel
theorem rpr7x6 : (kls7.all fun q => pairF row7x6 q) = true := by decide +kernel
theorem rok7x7 : rowOk row7x7 = true := by decide +kernel
theorem rpr7x7 : (kls7.all fun q => pairF row7x7 q) = true := by decide +kernel
theorem rok7x8 : rowOk row7x8 = true := by decide +kernel
theorem rpr7x8 : (kls7.all fun q => pairF row7x8 q) = true := by decide +kernel
theorem rok7x9 : rowOk row7x9 = true := by decide +kernel
theorem rpr7x9 : (kls7.all fun q => pairF row7x9 q) = true := by decide +kernel
theorem rok7x10 : rowOk row7x10 = true := by decide +kernel
theorem rpr7x10 : (kls7.all fun q => pairF row7x10 q) = true := by decide +kernel
theorem rok7x11 : rowOk row7x11 = true := by decide +kernel
theorem rpr7x11 : (kls7.all fun q => pairF row7x11 q) = true := by decide +kernel
theorem rok7x12 : rowOk row7x12 = true := by decide +kernel
theorem rpr7x12 : (kls7.all fun q => pairF row7x12 q) = true := by decide +kernel
theorem rok7x13 : rowOk row7x13 = true := by decide +kernel
theorem rpr7x13 : (kls7.all fun q => pairF row7x13 q) = true := by decide +kernel
theorem rok7x14 : rowOk row7x14 = true := by decide +kernel
theorem rpr7x14 : (kls7.all fun q => pairF row7x14 q) = true := by decide +kernel
theorem rok7x15 : rowOk row7x15 = true := by decide +kernel
theorem rpr7x15 : (kls7.all fun q => pairF row7x15 q) = true := by decide +kernel
theorem rok7x16 : rowOk row7x16 = true := by decide +kernel
theorem rpr7x16 : (kls7.all fun q => pairF row7x16 q) = true := by decide +kernel
theorem rok7x17 : rowOk row7x17 = true := by decide +kernel
theorem rpr7x17 : (kls7.all fun q => pairF row7x17 q) = true := by decide +kernel
theorem rok7x18 : rowOk row7x18 = true := by decide +kernel
theorem rpr7x18 : (kls7.all fun q => pairF row7x18 q) = true := by decide +kernel
theorem rok7x19 : rowOk row7x19 = true := by decide +kernel
theorem rpr7x19 : (kls7.all fun q => pairF row7x19 q) = true := by decide +kernel
theorem klsok7 : ∀ r ∈ kls7, rowOk r = true := (ok_cons rok7x0 (ok_cons rok7x1 (ok_cons rok7x2 (ok_cons rok7x3 (ok_cons rok7x4 (ok_cons rok7x5 (ok_cons rok7x6 (ok_cons rok7x7 (ok_cons rok7x8 (ok_cons rok7x9 (ok_cons rok7x10 (ok_cons rok7x11 (ok_cons rok7x12 (ok_cons rok7x13 (ok_cons rok7x14 (ok_cons rok7x15 (ok_cons rok7x16 (ok_cons rok7x17 (ok_cons rok7x18 (ok_cons rok7x19 ok_nil))))))))))))))))))))
theorem klspr7 : ∀ r ∈ kls7, ∀ q ∈ kls7, pairF r q = true := (pr_cons rpr7x0 (pr_cons rpr7x1 (pr_cons rpr7x2 (pr_cons rpr7x3 (pr_cons rpr7x4 (pr_cons rpr7x5 (pr_cons rpr7x6 (pr_cons rpr7x7 (pr_cons rpr7x8 (pr_cons rpr7x9 (pr_cons rpr7x10 (pr_cons rpr7x11 (pr_cons rpr7x12 (pr_cons rpr7x13 (pr_cons rpr7x14 (pr_cons rpr7x15 (pr_cons rpr7x16 (pr_cons rpr7x17 (pr_cons rpr7x18 (pr_cons rpr7x19 pr_nil))))))))))))))))))))
noncomputable def row8x0 : Row := ([102,105,105,108,108],[([102,105,105,108,108],1),([102,105,108,105,108],-2),([102,105,108,108,105],0),([102,108,105,108,105],2),([102,108,108,105,105],-1),([105,105,108,108,102],-1),([105,108,105,108,102],2),([105,108,108,105,102],0),([108,105,108,105,102],-2),([108,108,105,105,102],1)],[([102,105,105,108,108],1)])
noncomputable def row8x1 : Row := ([102,105,108,105,108],[([102,105,108,105,108],1),([102,105,108,108,105],-1),([102,108,105,105,108],-1),([102,108,105,108,105],1),([105,108,102,105,108],-2),([105,108,102,108,105],2),([105,108,105,108,102],1),([105,108,108,105,102],-1),([108,105,102,105,108],2),([108,105,102,108,105],-2),([108,105,105,108,102],-1),([108,105,108,105,102],1)],[([102,105,105,108,108],2),([102,105,108,105,108],1)])
noncomputable def row8x2 : Row := ([102,105,108,108,105],[([102,105,108,108,105],1),([102,108,105,108,105],-2),([102,108,108,105,105],1),([105,102,105,108,108],-1),([105,102,108,105,108],2),([105,102,108,108,105],-1),([105,105,108,108,102],1),([105,108,105,108,102],-2),([105,108,108,102,105],-1),([105,108,108,105,102],1),([108,105,108,102,105],2),([108,108,105,102,105],-1)],[([102,105,105,108,108],2),([102,105,108,105,108],1),([102,105,108,108,105],1)])
noncomputable def row8x3 : Row := ([102,108,105,105,108],[([102,108,105,105,108],1),([102,108,105,108,105],-2),([102,108,108,105,105],1),([105,105,108,102,108],-1),([105,105,108,108,102],1),([105,108,105,102,108],2),([105,108,105,108,102],-2),([108,102,105,105,108],-1),([108,102,105,108,105],2),([108,102,108,105,105],-1),([108,105,105,102,108],-1),([108,105,105,108,102],1)],[([102,105,105,108,108],2),([102,105,108,105,108],1),([102,108,105,105,108],1)])
noncomputable def row8x4 : Row := ([102,108,105,108,105],[([102,108,105,108,105],1),([102,108,108,105,105],-1),([105,102,108,105,108],-1),([105,102,108,108,105],1),([105,105,108,102,108],1),([105,105,108,108,102],-1),([105,108,102,105,108],1),([105,108,102,108,105],-2),([105,108,105,102,108],-1),([105,108,105,108,102],1),([105,108,108,102,105],1),([108,102,105,108,105],-1),([108,102,108,105,105],1),([108,105,102,108,105],1),([108,105,108,102,105],-1)],[([102,105,105,108,108],4),([102,105,108,105,108],3),([102,105,108,108,105],2),([102,108,105,105,108],2),([102,108,105,108,105],1)])
noncomputable def row8x5 : Row := ([102,108,108,105,105],[([102,108,108,105,105],1),([105,102,108,108,105],-2),([105,105,102,108,108],1),([105,105,108,102,108],-2),([105,105,108,108,102],1),([105,108,102,108,105],4),([105,108,108,102,105],-2),([108,102,108,105,105],-2),([108,108,102,105,105],1)],[([102,105,105,108,108],1),([102,105,108,105,108],1),([102,105,108,108,105],1),([102,108,105,105,108],1),([102,108,105,108,105],1),([102,108,108,105,105],1)])
noncomputable def row8x6 : Row := ([105,102,105,108,108],[([105,102,105,108,108],1),([105,102,108,105,108],-2),([105,102,108,108,105],1),([105,105,108,108,102],-1),([105,108,105,108,102],2),([105,108,108,105,102],-1)],[([102,105,105,108,108],2),([102,105,108,105,108],1),([102,105,108,108,105],1),([105,102,105,108,108],1)])
noncomputable def row8x7 : Row := ([105,102,108,105,108],[([105,102,108,105,108],1),([105,102,108,108,105],-1),([105,105,108,102,108],-1),([105,105,108,108,102],1),([105,108,102,105,108],-1),([105,108,102,108,105],1),([105,108,105,102,108],1),([105,108,105,108,102],-1)],[([102,105,105,108,108],4),([102,105,108,105,108],3),([102,105,108,108,105],2),([102,108,105,105,108],2),([102,108,105,108,105],1),([105,102,105,108,108],2),([105,102,108,105,108],1)])
noncomputable def row8x8 : Row := ([105,102,108,108,105],[([105,102,108,108,105],1),([105,105,102,108,108],-1),([105,105,108,102,108],2),([105,105,108,108,102],-1),([105,108,102,108,105],-2),([105,108,108,102,105],1)],[([102,105,105,108,108],2),([102,105,108,105,108],2),([102,105,108,108,105],2),([102,108,105,105,108],2),([102,108,105,108,105],2),([102,108,108,105,105],2),([105,102,105,108,108],1),([105,102,108,105,108],1),([105,102,108,108,105],1)])
noncomputable def row8x9 : Row := ([105,105,102,108,108],[([105,105,102,108,108],1),([105,105,108,102,108],-2),([105,105,108,108,102],1)],[([102,105,105,108,108],1),([102,105,108,105,108],1),([102,105,108,108,105],1),([102,108,105,105,108],1),([102,108,105,108,105],1),([102,108,108,105,105],1),([105,102,105,108,108],1),([105,102,108,105,108],1),([105,102,108,108,105],1),([105,105,102,108,108],1)])
noncomputable def row8x10 : Row := ([105,105,108,102,108],[([105,105,108,102,108],1),([105,105,108,108,102],-1),([105,108,105,102,108],-2),([105,108,105,108,102],2),([108,105,105,102,108],1),([108,105,105,108,102],-1)],[([102,105,105,108,108],2),([102,105,108,105,108],1),([102,108,105,105,108],1),([105,102,105,108,108],2),([105,102,108,105,108],1),([105,105,102,108,108],2),([105,105,108,102,108],1)])
noncomputable def row8x11 : Row := ([105,105,108,108,102],[([105,105,108,108,102],1),([105,108,105,108,102],-2),([105,108,108,105,102],0),([108,105,108,105,102],2),([108,108,105,105,102],-1)],[([102,105,105,108,108],1),([105,102,105,108,108],1),([105,105,102,108,108],1),([105,105,108,102,108],1),([105,105,108,108,102],1)])
noncomputable def row8x12 : Row := ([105,108,102,105,108],[([105,108,102,105,108],1),([105,108,102,108,105],-1),([105,108,105,108,102],-1),([105,108,108,105,102],1),([108,105,102,105,108],-1),([108,105,102,108,105],1),([108,105,105,108,102],1),([108,105,108,105,102],-1)],[([102,105,105,108,108],4),([102,105,108,105,108],2),([105,102,105,108,108],2),([105,102,108,105,108],1),([105,108,102,105,108],1)])
noncomputable def row8x13 : Row := ([105,108,102,108,105],[([105,108,102,108,105],1),([105,108,105,102,108],-1),([105,108,105,108,102],1),([105,108,108,102,105],-1),([108,105,102,108,105],-1),([108,105,105,102,108],1),([108,105,105,108,102],-1),([108,105,108,102,105],1)],[([102,105,105,108,108],4),([102,105,108,105,108],3),([102,105,108,108,105],2),([102,108,105,105,108],2),([102,108,105,108,105],1),([105,102,105,108,108],2),([105,102,108,105,108],2),([105,102,108,108,105],2),([105,108,102,105,108],1),([105,108,102,108,105],1)])
noncomputable def row8x14 : Row := ([105,108,105,102,108],[([105,108,105,102,108],1),([105,108,105,108,102],-1),([108,105,105,102,108],-1),([108,105,105,108,102],1)],[([102,105,105,108,108],4),([102,105,108,105,108],3),([102,105,108,108,105],2),([102,108,105,105,108],2),([102,108,105,108,105],1),([105,102,105,108,108],4),([105,102,108,105,108],3),([105,102,108,108,105],2),([105,105,102,108,108],4),([105,105,108,102,108],2),([105,108,102,105,108],1),([105,108,102,108,105],1),([105,108,105,102,108],1)])
noncomputable def row8x15 : Row := ([105,108,105,108,102],[([105,108,105,108,102],1),([105,108,108,105,102],-1),([108,105,105,108,102],-1),([108,105,108,105,102],1)],[([102,105,105,108,108],2),([102,105,108,105,108],1),([105,102,105,108,108],2),([105,102,108,105,108],1),([105,105,102,108,108],2),([105,105,108,102,108],2),([105,105,108,108,102],2),([105,108,102,105,108],1),([105,108,105,102,108],1),([105,108,105,108,102],1)])
noncomputable def row8x16 : Row := ([105,108,108,102,105],[([105,108,108,102,105],1),([105,108,108,105,102],-1),([108,105,108,102,105],-2),([108,105,108,105,102],2),([108,108,105,102,105],1),([108,108,105,105,102],-1)],[([102,105,105,108,108],2),([102,105,108,105,108],1),([102,105,108,108,105],1),([105,102,105,108,108],1),([105,102,108,105,108],1),([105,102,108,108,105],1),([105,108,102,105,108],1),([105,108,102,108,105],1),([105,108,108,102,105],1)])
noncomputable def row8x17 : Row := ([105,108,108,105,102],[([105,108,108,105,102],1),([108,105,108,105,102],-2),([108,108,105,105,102],1)],[([102,105,105,108,108],2),([102,105,108,105,108],1),([102,105,108,108,105],1),([105,102,105,108,108],2),([105,102,108,105,108],1),([105,102,108,108,105],1),([105,105,102,108,108],2),([105,105,108,102,108],2),([105,105,108,108,102],2),([105,108,102,105,108],1),([105,108,102,108,105],1),([105,108,105,102,108],1),([105,108,105,108,102],1),([105,108,108,102,105],1),([105,108,108,105,102],1)])
noncomputable def row8x18 : Row := ([108,102,105,105,108],[([108,102,105,105,108],1),([108,102,105,108,105],-2),([108,102,108,105,105],1),([108,105,105,108,102],-1),([108,105,108,105,102],2),([108,108,105,105,102],-1)],[([102,105,105,108,108],2),([102,105,108,105,108],1),([102,108,105,105,108],1),([108,102,105,105,108],1)])
noncomputable def row8x19 : Row := ([108,102,105,108,105],[([108,102,105,108,105],1),([108,102,108,105,105],-1),([108,105,102,105,108],-1),([108,105,102,108,105],1),([108,105,105,108,102],1),([108,105,108,102,105],-1),([108,105,108,105,102],-1),([108,108,105,102,105],1)],[([102,105,105,108,108],4),([102,105,108,105,108],3),([102,105,108,108,105],2),([102,108,105,105,108],2),([102,108,105,108,105],1),([108,102,105,105,108],2),([108,102,105,108,105],1)])
noncomputable def row8x20 : Row := ([108,102,108,105,105],[([108,102,108,105,105],1),([108,105,102,108,105],-2),([108,105,105,102,108],1),([108,105,105,108,102],-1),([108,105,108,102,105],2),([108,108,102,105,105],-1)],[([102,105,105,108,108],2),([102,105,108,105,108],2),([102,105,108,108,105],2),([102,108,105,105,108],2),([102,108,105,108,105],2),([102,108,108,105,105],2),([108,102,105,105,108],1),([108,102,105,108,105],1),([108,102,108,105,105],1)])
noncomputable def row8x21 : Row := ([108,105,102,105,108],[([108,105,102,105,108],1),([108,105,102,108,105],-1),([108,105,105,108,102],-1),([108,105,108,105,102],1)],[([102,105,105,108,108],4),([102,105,108,105,108],3),([102,105,108,108,105],2),([102,108,105,105,108],2),([102,108,105,108,105],1),([105,102,105,108,108],2),([105,102,108,105,108],1),([105,108,102,105,108],1),([108,102,105,105,108],2),([108,102,105,108,105],1),([108,105,102,105,108],1)])
noncomputable def row8x22 : Row := ([108,105,102,108,105],[([108,105,102,108,105],1),([108,105,105,102,108],-1),([108,105,105,108,102],1),([108,105,108,102,105],-1)],[([102,105,105,108,108],4),([102,105,108,105,108],4),([102,105,108,108,105],4),([102,108,105,105,108],4),([102,108,105,108,105],4),([102,108,108,105,105],4),([105,102,105,108,108],2),([105,102,108,105,108],2),([105,102,108,108,105],2),([105,108,102,105,108],1),([105,108,102,108,105],1),([108,102,105,105,108],2),([108,102,105,108,105],2),([108,102,108,105,105],2),([108,105,102,105,108],1),([108,105,102,108,105],1)])
noncomputable def row8x23 : Row := ([108,105,105,102,108],[([108,105,105,102,108],1),([108,105,105,108,102],-1)],[([102,105,105,108,108],2),([102,105,108,105,108],2),([102,105,108,108,105],2),([102,108,105,105,108],2),([102,108,105,108,105],2),([102,108,108,105,105],2),([105,102,105,108,108],2),([105,102,108,105,108],2),([105,102,108,108,105],2),([105,105,102,108,108],2),([105,105,108,102,108],1),([105,108,102,105,108],1),([105,108,102,108,105],1),([105,108,105,102,108],1),([108,102,105,105,108],1),([108,102,105,108,105],1),([108,102,108,105,105],1),([108,105,102,105,108],1),([108,105,102,108,105],1),([108,105,105,102,108],1)])
noncomputable def row8x24 : Row := ([108,105,105,108,102],[([108,105,105,108,102],1),([108,105,108,105,102],-2),([108,108,105,105,102],1)],[([102,105,105,108,108],2),([102,105,108,105,108],1),([102,108,105,105,108],1),([105,102,105,108,108],2),([105,102,108,105,108],1),([105,105,102,108,108],2),([105,105,108,102,108],2),([105,105,108,108,102],2),([105,108,102,105,108],1),([105,108,105,102,108],1),([105,108,105,108,102],1),([108,102,105,105,108],1),([108,105,102,105,108],1),([108,105,105,102,108],1),([108,105,105,108,102],1)])
noncomputable def row8x25 : Row := ([108,105,108,102,105],[([108,105,108,102,105],1),([108,105,108,105,102],-1),([108,108,105,102,105],-1),([108,108,105,105,102],1)],[([102,105,105,108,108],4),([102,105,108,105,108],3),([102,105,108,108,105],2),([102,108,105,105,108],2),([102,108,105,108,105],1),([105,102,105,108,108],2),([105,102,108,105,108],2),([105,102,108,108,105],2),([105,108,102,105,108],2),([105,108,102,108,105],2),([105,108,108,102,105],2),([108,102,105,105,108],2),([108,102,105,108,105],1),([108,105,102,105,108],1),([108,105,102,108,105],1),([108,105,108,102,105],1)])
noncomputable def row8x26 : Row := ([108,105,108,105,102],[([108,105,108,105,102],1),([108,108,105,105,102],-1)],[([102,105,105,108,108],4),([102,105,108,105,108],3),([102,105,108,108,105],2),([102,108,105,105,108],2),([102,108,105,108,105],1),([105,102,105,108,108],4),([105,102,108,105,108],3),([105,102,108,108,105],2),([105,105,102,108,108],4),([105,105,108,102,108],4),([105,105,108,108,102],4),([105,108,102,105,108],3),([105,108,102,108,105],2),([105,108,105,102,108],3),([105,108,105,108,102],3),([105,108,108,102,105],2),([105,108,108,105,102],2),([108,102,105,105,108],2),([108,102,105,108,105],1),([108,105,102,105,108],2),([108,105,102,108,105],1),([108,105,105,102,108],2),([108,105,105,108,102],2),([108,105,108,102,105],1),([108,105,108,105,102],1)])
noncomputable def row8x27 : Row := ([108,108,102,105,105],[([108,108,102,105,105],1),([108,108,105,102,105],-2),([108,108,105,105,102],1)],[([102,105,105,108,108],1),([102,105,108,105,108],1),([102,105,108,108,105],1),([102,108,105,105,108],1),([102,108,105,108,105],1),([102,108,108,105,105],1),([108,102,105,105,108],1),([108,102,105,108,105],1),([108,102,108,105,105],1),([108,108,102,105,105],1)])
noncomputable def row8x28 : Row := ([108,108,105,102,105],[([108,108,105,102,105],1),([108,108,105,105,102],-1)],[([102,105,105,108,108],2),([102,105,108,105,108],2),([102,105,108,108,105],2),([102,108,105,105,108],2),([102,108,105,108,105],2),([102,108,108,105,105],2),([105,102,105,108,108],1),([105,102,108,105,108],1),([105,102,108,108,105],1),([105,108,102,105,108],1),([105,108,102,108,105],1),([105,108,108,102,105],1),([108,102,105,105,108],2),([108,102,105,108,105],2),([108,102,108,105,105],2),([108,105,102,105,108],1),([108,105,102,108,105],1),([108,105,108,102,105],1),([108,108,102,105,105],2),([108,108,105,102,105],1)])
noncomputable def row8x29 : Row := ([108,108,105,105,102],[([108,108,105,105,102],1)],[([102,105,105,108,108],1),([102,105,108,105,108],1),([102,105,108,108,105],1),([102,108,105,105,108],1),([102,108,105,108,105],1),([102,108,108,105,105],1),([105,102,105,108,108],1),([105,102,108,105,108],1),([105,102,108,108,105],1),([105,105,102,108,108],1),([105,105,108,102,108],1),([105,105,108,108,102],1),([105,108,102,105,108],1),([105,108,102,108,105],1),([105,108,105,102,108],1),([105,108,105,108,102],1),([105,108,108,102,105],1),([105,108,108,105,102],1),([108,102,105,105,108],1),([108,102,105,108,105],1),([108,102,108,105,105],1),([108,105,102,105,108],1),([108,105,102,108,105],1),([108,105,105,102,108],1),([108,105,105,108,102],1),([108,105,108,102,105],1),([108,105,108,105,102],1),([108,108,102,105,105],1),([108,108,105,102,105],1),([108,108,105,105,102],1)])
noncomputable def kls8 : List Row := [row8x0, row8x1, row8x2, row8x3, row8x4, row8x5, row8x6, row8x7, row8x8, row8x9, row8x10, row8x11, row8x12, row8x13, row8x14, row8x15, row8x16, row8x17, row8x18, row8x19, row8x20, row8x21, row8x22, row8x23, row8x24, row8x25, row8x26, row8x27, row8x28, row8x29]
theorem rok8x0 : rowOk row8x0 = true := by decide +kernel
theorem rpr8x0 : (kls8.all fun q => pairF row8x0 q) = true := by decide +kernel
theorem rok8x1 : rowOk row8x1 = true := by decide +kernel
theorem rpr8x1 : (kls8.all fun q => pairF row8x1 q) = true := by decide +kernel
theorem rok8x2 : rowOk row8x2 = true := by decide +kernel
theorem rpr8x2 : (kls8.all fun q => pairF row8x2 q) = true := by decide +kernel
theorem rok8x3 : rowOk row8x3 = true := by decide +kernel
theorem rpr8x3 : (kls8.all fun q => pairF row8x3 q) = true := by decide +kernel
theorem rok8x4 : rowOk row8x4 = true := by decide +kernel
theorem rpr8x4 : (kls8.all fun q => pairF row8x4 q) = true := by decide +kernel
theorem rok8x5 : rowOk row8x5 = true := by decide +kernel
theorem rpr8x5 : (kls8.all fun q => pairF row8x5 q) = true := by decide +kernel
theorem rok8x6 : rowOk row8x6 = true := by decide +kernel
theorem rpr8x6 : (kls8.all fun q => pairF row8x6 q) = true := by decide +kernel
theorem rok8x7 : rowOk row8x7 = true := by decide +kernel
theorem rpr8x7 : (kls8.all fun q => pairF row8x7 q) = true := by decide +kernel
theorem rok8x8 : rowOk row8x8 = true := by decide +kernel
theorem rpr8x8 : (kls8.all fun q => pairF row8x8 q) = true := by decide +kernel
theorem rok8x9 : rowOk row8x9 = true := by decide +kernel
theorem rpr8x9 : (kls8.all fun q => pairF row8x9 q) = true := by decide +kernel
theorem rok8x10 : rowOk row8x10 = true := by decide +kernel
theorem rpr8x10 : (kls8.all fun q => pairF row8x10 q) = true := by decide +kernel
theorem rok8x11 : rowOk row8x11 = true := by decide +kernel
theorem rpr8x11 : (kls8.all fun q => pairF row8x11 q) = true := by decide +kernel
theorem rok8x12 : rowOk row8x12 = true := by decide +kernel
theorem rpr8x12 : (kls8.all fun q => pairF row8x12 q) = true := by decide +kernel
theorem rok8x13 : rowOk row8x13 = true := by decide +kernel
theorem rpr8x13 : (kls8.all fun q => pairF row8x13 q) = true := by decide +kernel
theorem rok8x14 : rowOk row8x14 = true := by decide +kernel
theorem rpr8x14 : (kls8.all fun q => pairF row8x14 q) = true := by decide +kernel
theorem rok8x15 : rowOk row8x15 = true := by decide +kernel
theorem rpr8x15 : (kls8.all fun q => pairF row8x15 q) = true := by decide +kernel
theorem rok8x16 : rowOk row8x16 = true := by decide +kernel
theorem rpr8x16 : (kls8.all fun q => pairF row8x16 q) = true := by decide +kernel
theorem rok8x17 : rowOk row8x17 = true := by decide +kernel
theorem rpr8x17 : (kls8.all fun q => pairF row8x17 q) = true := by decide +kernel
theorem rok8x18 : rowOk row8x18 = true := by decide +kernel
theorem rpr8x18 : (kls8.all fun q => pairF row8x18 q) = true := by decide +kernel
theorem rok8x19 : rowOk row8x19 = true := by decide +kernel
theorem rpr8x19 : (kls8.all fun q => pairF row8x19 q) = true := by decide +kernel
theorem rok8x20 : rowOk row8x20 = true := by decide +kernel
theorem rpr8x20 : (kls8.all fun q => pairF row8x20 q) = true := by decide +kernel
theorem rok8x21 : rowOk row8x21 = true := by decide +kernel
theorem rpr8x21 : (kls8.all fun q => pairF row8x21 q) = true := by decide +kernel
theorem rok8x22 : rowOk row8x22 = true := by decide +kernel
theorem rpr8x22 : (kls8.all fun q => pairF row8x22 q) = true := by decide +kernel
theorem rok8x23 : rowOk row8x23 = true := by decide +kernel
theorem rpr8x23 : (kls8.all fun q => pairF row8x23 q) = true := by decide +kernel
theorem rok8x24 : rowOk row8x24 = true := by decide +kernel
theorem rpr8x24 : (kls8.all fun q => pairF row8x24 q) = true := by decide +kernel
theorem rok8x25 : rowOk row8x25 = true := by decide +kernel
theorem rpr8x25 : (kls8.all fun q => pairF row8x25 q) = true := by decide +kernel
theorem rok8x26 : rowOk row8x26 = true := by decide +kernel
theorem rpr8x26 : (kls8.all fun q => pairF row8x26 q) = true := by decide +kernel
theorem rok8x27 : rowOk row8x27 = true := by decide +kernel
theorem rpr8x27 : (kls8.all fun q => pairF row8x27 q) = true := by decide +kernel
theorem rok8x28 : rowOk row8x28 = true := by decide +kernel
theorem rpr8x28 : (kls8.all fun q => pairF row8x28 q) = true := by decide +kernel
theorem rok8x29 : rowOk row8x29 = true := by decide +kernel
theorem rpr8x29 : (kls8.all fun q => pairF row8x29 q) = true := by decide +kernel
theorem klsok8 : ∀ r ∈ kls8, rowOk r = true := (ok_cons rok8x0 (ok_cons rok8x1 (ok_cons rok8x2 (ok_cons rok8x3 (ok_cons rok8x4 (ok_cons rok8x5 (ok_cons rok8x6 (ok_cons rok8x7 (ok_cons rok8x8 (ok_cons rok8x9 (ok_cons rok8x10 (ok_cons rok8x11 (ok_cons rok8x12 (ok_cons rok8x13 (ok_cons rok8x14 (ok_cons rok8x15 (ok_cons rok8x16 (ok_cons rok8x17 (ok_cons rok8x18 (ok_cons rok8x19 (ok_cons rok8x20 (ok_cons rok8x21 (ok_cons rok8x22 (ok_cons rok8x23 (ok_cons rok8x24 (ok_cons rok8x25 (ok_cons rok8x26 (ok_cons rok8x27 (ok_cons rok8x28 (ok_cons rok8x29 ok_nil))))))))))))))))))))))))))))))
theorem klspr8 : ∀ r ∈ kls8, ∀ q ∈ kls8, pairF r q = true := (pr_cons rpr8x0 (pr_cons rpr8x1 (pr_cons rpr8x2 (pr_cons rpr8x3 (pr_cons rpr8x4 (pr_cons rpr8x5 (pr_cons rpr8x6 (pr_cons rpr8x7 (pr_cons rpr8x8 (pr_cons rpr8x9 (pr_cons rpr8x10 (pr_cons rpr8x11 (pr_cons rpr8x12 (pr_cons rpr8x13 (pr_cons rpr8x14 (pr_cons rpr8x15 (pr_cons rpr8x16 (pr_cons rpr8x17 (pr_cons rpr8x18 (pr_cons rpr8x19 (pr_cons rpr8x20 (pr_cons rpr8x21 (pr_cons rpr8x22 (pr_cons rpr8x23 (pr_cons rpr8x24 (pr_cons rpr8x25 (pr_cons rpr8x26 (pr_cons rpr8x27 (pr_cons rpr8x28 (pr_cons rpr8x29 pr_nil))))))))))))))))))))))))))))))
noncomputable def row9x0 : Row := ([102,105,105,105,108],[([102,105,105,105,108],1),([102,105,105,108,105],-3),([102,105,108,105,105],3),([102,108,105,105,105],-1),([105,105,105,108,102],-1),([105,105,108,105,102],3),([105,108,105,105,102],-3),([108,105,105,105,102],1)],[([102,105,105,105,108],1)])
noncomputable def row9x1 : Row := ([102,105,105,108,105],[([102,105,105,108,105],1),([102,105,108,105,105],-2),([102,108,105,105,105],1),([105,102,105,105,108],-1),([105,102,105,108,105],2),([105,102,108,105,105],-1),([105,105,105,108,102],1),([105,105,108,102,105],-1),([105,105,108,105,102],-2),([105,108,105,102,105],2),([105,108,105,105,102],1),([108,105,105,102,105],-1)],[([102,105,105,105,108],3),([102,105,105,108,105],1)])
noncomputable def row9x2 : Row := ([102,105,108,105,105],[([102,105,108,105,105],1),([102,108,105,105,105],-1),([105,102,105,108,105],-2),([105,102,108,105,105],2),([105,105,102,105,108],1),([105,105,102,108,105],-1),([105,105,105,108,102],-1),([105,105,108,102,105],2),([105,105,108,105,102],1),([105,108,102,105,105],-1),([105,108,105,102,105],-2),([108,105,102,105,105],1)],[([102,105,105,105,108],3),([102,105,105,108,105],2),([102,105,108,105,105],1)])
noncomputable def row9x3 : Row := ([102,108,105,105,105],[([102,108,105,105,105],1),([105,102,108,105,105],-3),([105,105,102,108,105],3),([105,105,105,102,108],-1),([105,105,105,108,102],1),([105,105,108,102,105],-3),([105,108,102,105,105],3),([108,102,105,105,105],-1)],[([102,105,105,105,108],1),([102,105,105,108,105],1),([102,105,108,105,105],1),([102,108,105,105,105],1)])
noncomputable def row9x4 : Row := ([105,102,105,105,108],[([105,102,105,105,108],1),([105,102,105,108,105],-2),([105,102,108,105,105],1),([105,105,105,108,102],-1),([105,105,108,105,102],2),([105,108,105,105,102],-1)],[([102,105,105,105,108],3),([102,105,105,108,105],1),([105,102,105,105,108],1)])
noncomputable def row9x5 : Row := ([105,102,105,108,105],[([105,102,105,108,105],1),([105,102,108,105,105],-1),([105,105,102,105,108],-1),([105,105,102,108,105],1),([105,105,105,108,102],1),([105,105,108,102,105],-1),([105,105,108,105,102],-1),([105,108,105,102,105],1)],[([102,105,105,105,108],6),([102,105,105,108,105],4),([102,105,108,105,105],2),([105,102,105,105,108],2),([105,102,105,108,105],1)])
noncomputable def row9x6 : Row := ([105,102,108,105,105],[([105,102,108,105,105],1),([105,105,102,108,105],-2),([105,105,105,102,108],1),([105,105,105,108,102],-1),([105,105,108,102,105],2),([105,108,102,105,105],-1)],[([102,105,105,105,108],3),([102,105,105,108,105],3),([102,105,108,105,105],3),([102,108,105,105,105],3),([105,102,105,105,108],1),([105,102,105,108,105],1),([105,102,108,105,105],1)])
noncomputable def row9x7 : Row := ([105,105,102,105,108],[([105,105,102,105,108],1),([105,105,102,108,105],-1),([105,105,105,108,102],-1),([105,105,108,105,102],1)],[([102,105,105,105,108],3),([102,105,105,108,105],2),([102,105,108,105,105],1),([105,102,105,105,108],2),([105,102,105,108,105],1),([105,105,102,105,108],1)])
noncomputable def row9x8 : Row := ([105,105,102,108,105],[([105,105,102,108,105],1),([105,105,105,102,108],-1),([105,105,105,108,102],1),([105,105,108,102,105],-1)],[([102,105,105,105,108],3),([102,105,105,108,105],3),([102,105,108,105,105],3),([102,108,105,105,105],3),([105,102,105,105,108],2),([105,102,105,108,105],2),([105,102,108,105,105],2),([105,105,102,105,108],1),([105,105,102,108,105],1)])
noncomputable def row9x9 : Row := ([105,105,105,102,108],[([105,105,105,102,108],1),([105,105,105,108,102],-1)],[([102,105,105,105,108],1),([102,105,105,108,105],1),([102,105,108,105,105],1),([102,108,105,105,105],1),([105,102,105,105,108],1),([105,102,105,108,105],1),([105,102,108,105,105],1),([105,105,102,105,108],1),([105,105,102,108,105],1),([105,105,105,102,108],1)])
noncomputable def row9x10 : Row := ([105,105,105,108,102],[([105,105,105,108,102],1),([105,105,108,105,102],-3),([105,108,105,105,102],3),([108,105,105,105,102],-1)],[([102,105,105,105,108],1),([105,102,105,105,108],1),([105,105,102,105,108],1),([105,105,105,102,108],1),([105,105,105,108,102],1)])
noncomputable def row9x11 : Row := ([105,105,108,102,105],[([105,105,108,102,105],1),([105,105,108,105,102],-1),([105,108,105,102,105],-2),([105,108,105,105,102],2),([108,105,105,102,105],1),([108,105,105,105,102],-1)],[([102,105,105,105,108],3),([102,105,105,108,105],1),([105,102,105,105,108],2),([105,102,105,108,105],1),([105,105,102,105,108],1),([105,105,102,108,105],1),([105,105,108,102,105],1)])
noncomputable def row9x12 : Row := ([105,105,108,105,102],[([105,105,108,105,102],1),([105,108,105,105,102],-2),([108,105,105,105,102],1)],[([102,105,105,105,108],3),([102,105,105,108,105],1),([105,102,105,105,108],3),([105,102,105,108,105],1),([105,105,102,105,108],3),([105,105,102,108,105],1),([105,105,105,102,108],3),([105,105,105,108,102],3),([105,105,108,102,105],1),([105,105,108,105,102],1)])
noncomputable def row9x13 : Row := ([105,108,102,105,105],[([105,108,102,105,105],1),([105,108,105,102,105],-2),([105,108,105,105,102],1),([108,105,102,105,105],-1),([108,105,105,102,105],2),([108,105,105,105,102],-1)],[([102,105,105,105,108],3),([102,105,105,108,105],2),([102,105,108,105,105],1),([105,102,105,105,108],1),([105,102,105,108,105],1),([105,102,108,105,105],1),([105,108,102,105,105],1)])
noncomputable def row9x14 : Row := ([105,108,105,102,105],[([105,108,105,102,105],1),([105,108,105,105,102],-1),([108,105,105,102,105],-1),([108,105,105,105,102],1)],[([102,105,105,105,108],6),([102,105,105,108,105],4),([102,105,108,105,105],2),([105,102,105,105,108],4),([105,102,105,108,105],3),([105,102,108,105,105],2),([105,105,102,105,108],2),([105,105,102,108,105],2),([105,105,108,102,105],2),([105,108,102,105,105],2),([105,108,105,102,105],1)])
noncomputable def row9x15 : Row := ([105,108,105,105,102],[([105,108,105,105,102],1),([108,105,105,105,102],-1)],[([102,105,105,105,108],3),([102,105,105,108,105],2),([102,105,108,105,105],1),([105,102,105,105,108],3),([105,102,105,108,105],2),([105,102,108,105,105],1),([105,105,102,105,108],3),([105,105,102,108,105],2),([105,105,105,102,108],3),([105,105,105,108,102],3),([105,105,108,102,105],2),([105,105,108,105,102],2),([105,108,102,105,105],1),([105,108,105,102,105],1),([105,108,105,105,102],1)])
noncomputable def row9x16 : Row := ([108,102,105,105,105],[([108,102,105,105,105],1),([108,105,102,105,105],-3),([108,105,105,102,105],3),([108,105,105,105,102],-1)],[([102,105,105,105,108],1),([102,105,105,108,105],1),([102,105,108,105,105],1),([102,108,105,105,105],1),([108,102,105,105,105],1)])
noncomputable def row9x17 : Row := ([108,105,102,105,105],[([108,105,102,105,105],1),([108,105,105,102,105],-2),([108,105,105,105,102],1)],[([102,105,105,105,108],3),([102,105,105,108,105],3),([102,105,108,105,105],3),([102,108,105,105,105],3),([105,102,105,105,108],1),([105,102,105,108,105],1),([105,102,108,105,105],1),([105,108,102,105,105],1),([108,102,105,105,105],3),([108,105,102,105,105],1)])
noncomputable def row9x18 : Row := ([108,105,105,102,105],[([108,105,105,102,105],1),([108,105,105,105,102],-1)],[([102,105,105,105,108],3),([102,105,105,108,105],3),([102,105,108,105,105],3),([102,108,105,105,105],3),([105,102,105,105,108],2),([105,102,105,108,105],2),([105,102,108,105,105],2),([105,105,102,105,108],1),([105,105,102,108,105],1),([105,105,108,102,105],1),([105,108,102,105,105],2),([105,108,105,102,105],1),([108,102,105,105,105],3),([108,105,102,105,105],2),([108,105,105,102,105],1)])
noncomputable def row9x19 : Row := ([108,105,105,105,102],[([108,105,105,105,102],1)],[([102,105,105,105,108],1),([102,105,105,108,105],1),([102,105,108,105,105],1),([102,108,105,105,105],1),([105,102,105,105,108],1),([105,102,105,108,105],1),([105,102,108,105,105],1),([105,105,102,105,108],1),([105,105,102,108,105],1),([105,105,105,102,108],1),([105,105,105,108,102],1),([105,105,108,102,105],1),([105,105,108,105,102],1),([105,108,102,105,105],1),([105,108,105,102,105],1),([105,108,105,105,102],1),([108,102,105,105,105],1),([108,105,102,105,105],1),([108,105,105,102,105],1),([108,105,105,105,102],1)])
noncomputable def kls9 : List Row := [row9x0, row9x1, row9x2, row9x3, row9x4, row9x5, row9x6, row9x7, row9x8, row9x9, row9x10, row9x11, row9x12, row9x13, row9x14, row9x15, row9x16, row9x17, row9x18, row9x19]
theorem rok9x0 : rowOk row9x0 = true := by decide +kernel
theorem rpr9x0 : (kls9.all fun q => pairF row9x0 q) = true := by decide +kernel
theorem rok9x1 : rowOk row9x1 = true := by decide +kernel
theorem rpr9x1 : (kls9.all fun q => pairF row9x1 q) = true := by decide +kernel
theorem rok9x2 : rowOk row9x2 = true := by decide +kernel
theorem rpr9x2 : (kls9.all fun q => pairF row9x2 q) = true := by decide +kernel
theorem rok9x3 : rowOk row9x3 = true := by decide +kernel
theorem rpr9x3 : (kls9.all fun q => pairF row9x3 q) = true := by decide +kernel
theorem rok9x4 : rowOk row9x4 = true := by decide +kernel
theorem rpr9x4 : (kls9.all fun q => pairF row9x4 q) = true := by decide +kernel
theorem rok9x5 : rowOk row9x5 = true := by decide +kernel
theorem rpr9x5 : (kls9.all fun q => pairF row9x5 q) = true := by decide +kernel
theorem rok9x6 : rowOk row9x6 = true := by decide +kernel
theorem rpr9x6 : (kls9.all fun q => pairF row9x6 q) = true := by decide +kernel
theorem rok9x7 : rowOk row9x7 = true := by decide +kernel
theorem rpr9x7 : (kls9.all fun q => pairF row9x7 q) = true := by decide +kernel
theorem rok9x8 : rowOk row9x8 = true := by decide +kernel
theorem rpr9x8 : (kls9.all fun q => pairF row9x8 q) = true := by decide +kernel
theorem rok9x9 : rowOk row9x9 = true := by decide +kernel
theorem rpr9x9 : (kls9.all fun q => pairF row9x9 q) = true := by decide +kernel
theorem rok9x10 : rowOk row9x10 = true := by decide +kernel
theorem rpr9x10 : (kls9.all fun q => pairF row9x10 q) = true := by decide +kernel
theorem rok9x11 : rowOk row9x11 = true := by decide +kernel
theorem rpr9x11 : (kls9.all fun q => pairF row9x11 q) = true := by decide +kernel
theorem rok9x12 : rowOk row9x12 = true := by decide +kernel
theorem rpr9x12 : (kls9.all fun q => pairF row9x12 q) = true := by decide +kernel
theorem rok9x13 : rowOk row9x13 = true := by decide +kernel
theorem rpr9x13 : (kls9.all fun q => pairF row9x13 q) = true := by decide +kernel
theorem rok9x14 : rowOk row9x14 = true := by decide +kernel
theorem rpr9x14 : (kls9.all fun q => pairF row9x14 q) = true := by decide +kernel
theorem rok9x15 : rowOk row9x15 = true := by decide +kernel
theorem rpr9x15 : (kls9.all fun q => pairF row9x15 q) = true := by decide +kernel
theorem rok9x16 : rowOk row9x16 = true := by decide +kernel
theorem rpr9x16 : (kls9.all fun q => pairF row9x16 q) = true := by decide +kernel
theorem rok9x17 : rowOk row9x17 = true := by decide +kernel
theorem rpr9x17 : (kls9.all fun q => pairF row9x17 q) = true := by decide +kernel
theorem rok9x18 : rowOk row9x18 = true := by decide +kernel
theorem rpr9x18 : (kls9.all fun q => pairF row9x18 q) = true := by decide +kernel
theorem rok9x19 : rowOk row9x19 = true := by decide +kernel
theorem rpr9x19 : (kls9.all fun q => pairF row9x19 q) = true := by decide +kernel
theorem klsok9 : ∀ r ∈ kls9, rowOk r = true := (ok_cons rok9x0 (ok_cons rok9x1 (ok_cons rok9x2 (ok_cons rok9x3 (ok_cons rok9x4 (ok_cons rok9x5 (ok_cons rok9x6 (ok_cons rok9x7 (ok_cons rok9x8 (ok_cons rok9x9 (ok_cons rok9x10 (ok_cons rok9x11 (ok_cons rok9x12 (ok_cons rok9x13 (ok_cons rok9x14 (ok_cons rok9x15 (ok_cons rok9x16 (ok_cons rok9x17 (ok_cons rok9x18 (ok_cons rok9x19 ok_nil))))))))))))))))))))
theorem klspr9 : ∀ r ∈ kls9, ∀ q ∈ kls9, pairF r q = true := (pr_cons rpr9x0 (pr_cons rpr9x1 (pr_cons rpr9x2 (pr_cons rpr9x3 (pr_cons rpr9x4 (pr_cons rpr9x5 (pr_cons rpr9x6 (pr_cons rpr9x7 (pr_cons rpr9x8 (pr_cons rpr9x9 (pr_cons rpr9x10 (pr_cons rpr9x11 (pr_cons rpr9x12 (pr_cons rpr9x13 (pr_cons rpr9x14 (pr_cons rpr9x15 (pr_cons rpr9x16 (pr_cons rpr9x17 (pr_cons rpr9x18 (pr_cons rpr9x19 pr_nil))))))))))))))))))))
noncomputable def row10x0 : Row := ([102,105,105,105,105],[([102,105,105,105,105],1),([105,102,105,105,105],-4),([105,105,102,105,105],6),([105,105,105,102,105],-4),([105,105,105,105,102],1)],[([102,105,105,105,105],1)])
noncomputable def row10x1 : Row := ([105,102,105,105,105],[([105,102,105,105,105],1),([105,105,102,105,105],-3),([105,105,105,102,105],3),([105,105,105,105,102],-1)],[([102,105,105,105,105],4),([105,102,105,105,105],1)])
noncomputable def row10x2 : Row := ([105,105,102,105,105],[([105,105,102,105,105],1),([105,105,105,102,105],-2),([105,105,105,105,102],1)],[([102,105,105,105,105],6),([105,102,105,105,105],3),([105,105,102,105,105],1)])
noncomputable def row10x3 : Row := ([105,105,105,102,105],[([105,105,105,102,105],1),([105,105,105,105,102],-1)],[([102,105,105,105,105],4),([105,102,105,105,105],3),([105,105,102,105,105],2),([105,105,105,102,105],1)])
noncomputable def row10x4 : Row := ([105,105,105,105,102],[([105,105,105,105,102],1)],[([102,105,105,105,105],1),([105,102,105,105,105],1),([105,105,102,105,105],1),([105,105,105,102,105],1),([105,105,105,105,102],1)])
noncomputable def kls10 : List Row := [row10x0, row10x1, row10x2, row10x3, row10x4]
theorem rok10x0 : rowOk row10x0 = true := by decide +kernel
theorem rpr10x0 : (kls10.all fun q => pairF row10x0 q) = true := by decide +kernel
theorem rok10x1 : rowOk row10x1 = true := by decide +kernel
theorem rpr10x1 : (kls10.all fun q => pairF row10x1 q) = true := by decide +kernel
theorem rok10x2 : rowOk row10x2 = true := by decide +kernel
theorem rpr10x2 : (kls10.all fun q => pairF row10x2 q) = true := by decide +kernel
theorem rok10x3 : rowOk row10x3 = true := by decide +kernel
theorem rpr10x3 : (kls10.all fun q => pairF row10x3 q) = true := by decide +kernel
theorem rok10x4 : rowOk row10x4 = true := by decide +kernel
theorem rpr10x4 : (kls10.all fun q => pairF row10x4 q) = true := by decide +kernel
theorem klsok10 : ∀ r ∈ kls10, rowOk r = true := (ok_cons rok10x0 (ok_cons rok10x1 (ok_cons rok10x2 (ok_cons rok10x3 (ok_cons rok10x4 ok_nil)))))
theorem klspr10 : ∀ r ∈ kls10, ∀ q ∈ kls10, pairF r q = true := (pr_cons rpr10x0 (pr_cons rpr10x1 (pr_cons rpr10x2 (pr_cons rpr10x3 (pr_cons rpr10x4 pr_nil)))))
noncomputable def row12x0 : Row := ([102,102,108,108,108],[([102,102,108,108,108],1),([102,108,102,108,108],-3),([102,108,108,102,108],3),([102,108,108,108,102],-2),([108,102,108,108,102],3),([108,108,102,108,102],-3),([108,108,108,102,102],1)],[([102,102,108,108,108],1)])
noncomputable def row12x1 : Row := ([102,108,102,108,108],[([102,108,102,108,108],1),([102,108,108,102,108],-3),([102,108,108,108,102],2),([108,102,102,108,108],-1),([108,102,108,102,108],4),([108,102,108,108,102],-3),([108,108,102,102,108],-1),([108,108,102,108,102],1)],[([102,102,108,108,108],3),([102,108,102,108,108],1)])
noncomputable def row12x2 : Row := ([102,108,108,102,108],[([102,108,108,102,108],1),([102,108,108,108,102],-1),([108,102,108,102,108],-2),([108,102,108,108,102],2),([108,108,102,102,108],1),([108,108,102,108,102],-1)],[([102,102,108,108,108],6),([102,108,102,108,108],3),([102,108,108,102,108],1)])
noncomputable def row12x3 : Row := ([102,108,108,108,102],[([102,108,108,108,102],1),([108,102,108,108,102],-3),([108,108,102,108,102],3),([108,108,108,102,102],-1)],[([102,102,108,108,108],2),([102,108,102,108,108],1),([102,108,108,102,108],1),([102,108,108,108,102],1)])
noncomputable def row12x4 : Row := ([108,102,102,108,108],[([108,102,102,108,108],1),([108,102,108,102,108],-2),([108,102,108,108,102],0),([108,108,102,108,102],2),([108,108,108,102,102],-1)],[([102,102,108,108,108],3),([102,108,102,108,108],1),([108,102,102,108,108],1)])
noncomputable def row12x5 : Row := ([108,102,108,102,108],[([108,102,108,102,108],1),([108,102,108,108,102],-1),([108,108,102,102,108],-1),([108,108,102,108,102],1)],[([102,102,108,108,108],6),([102,108,102,108,108],4),([102,108,108,102,108],2),([108,102,102,108,108],2),([108,102,108,102,108],1)])
noncomputable def row12x6 : Row := ([108,102,108,108,102],[([108,102,108,108,102],1),([108,108,102,108,102],-2),([108,108,108,102,102],1)],[([102,102,108,108,108],6),([102,108,102,108,108],4),([102,108,108,102,108],3),([102,108,108,108,102],3),([108,102,102,108,108],2),([108,102,108,102,108],1),([108,102,108,108,102],1)])
noncomputable def row12x7 : Row := ([108,108,102,102,108],[([108,108,102,102,108],1),([108,108,102,108,102],-2),([108,108,108,102,102],1)],[([102,102,108,108,108],3),([102,108,102,108,108],2),([102,108,108,102,108],1),([108,102,102,108,108],2),([108,102,108,102,108],1),([108,108,102,102,108],1)])
noncomputable def row12x8 : Row := ([108,108,102,108,102],[([108,108,102,108,102],1),([108,108,108,102,102],-1)],[([102,102,108,108,108],6),([102,108,102,108,108],5),([102,108,108,102,108],4),([102,108,108,108,102],3),([108,102,102,108,108],4),([108,102,108,102,108],3),([108,102,108,108,102],2),([108,108,102,102,108],2),([108,108,102,108,102],1)])
noncomputable def row12x9 : Row := ([108,108,108,102,102],[([108,108,108,102,102],1)],[([102,102,108,108,108],1),([102,108,102,108,108],1),([102,108,108,102,108],1),([102,108,108,108,102],1),([108,102,102,108,108],1),([108,102,108,102,108],1),([108,102,108,108,102],1),([108,108,102,102,108],1),([108,108,102,108,102],1),([108,108,108,102,102],1)])
noncomputable def kls12 : List Row := [row12x0, row12x1, row12x2, row12x3, row12x4, row12x5, row12x6, row12x7, row12x8, row12x9]
theorem rok12x0 : rowOk row12x0 = true := by decide +kernel
theorem rpr12x0 : (kls12.all fun q => pairF row12x0 q) = true := by decide +kernel
theorem rok12x1 : rowOk row12x1 = true := by decide +kernel
theorem rpr12x1 : (kls12.all fun q => pairF row12x1 q) = true := by decide +kernel
theorem rok12x2 : rowOk row12x2 = true := by decide +kernel
theorem rpr12x2 : (kls12.all fun q => pairF row12x2 q) = true := by decide +kernel
theorem rok12x3 : rowOk row12x3 = true := by decide +kernel
theorem rpr12x3 : (kls12.all fun q => pairF row12x3 q) = true := by decide +kernel
theorem rok12x4 : rowOk row12x4 = true := by decide +kernel
theorem rpr12x4 : (kls12.all fun q => pairF row12x4 q) = true := by decide +kernel
theorem rok12x5 : rowOk row12x5 = true := by decide +kernel
theorem rpr12x5 : (kls12.all fun q => pairF row12x5 q) = true := by decide +kernel
theorem rok12x6 : rowOk row12x6 = true := by decide +kernel
theorem rpr12x6 : (kls12.all fun q => pairF row12x6 q) = true := by decide +kernel
theorem rok12x7 : rowOk row12x7 = true := by decide +kernel
theorem rpr12x7 : (kls12.all fun q => pairF row12x7 q) = true := by decide +kernel
theorem rok12x8 : rowOk row12x8 = true := by decide +kernel
theorem rpr12x8 : (kls12.all fun q => pairF row12x8 q) = true := by decide +kernel
theorem rok12x9 : rowOk row12x9 = true := by decide +kernel
theorem rpr12x9 : (kls12.all fun q => pairF row12x9 q) = true := by decide +kernel
theorem klsok12 : ∀ r ∈ kls12, rowOk r = true := (ok_cons rok12x0 (ok_cons rok12x1 (ok_cons rok12x2 (ok_cons rok12x3 (ok_cons rok12x4 (ok_cons rok12x5 (ok_cons rok12x6 (ok_cons rok12x7 (ok_cons rok12x8 (ok_cons rok12x9 ok_nil))))))))))
theorem klspr12 : ∀ r ∈ kls12, ∀ q ∈ kls12, pairF r q = true := (pr_cons rpr12x0 (pr_cons rpr12x1 (pr_cons rpr12x2 (pr_cons rpr12x3 (pr_cons rpr12x4 (pr_cons rpr12x5 (pr_cons rpr12x6 (pr_cons rpr12x7 (pr_cons rpr12x8 (pr_cons rpr12x9 pr_nil))))))))))
noncomputable def row13x0 : Row := ([102,102,105,108,108],[([102,102,105,108,108],1),([102,102,108,105,108],-2),([102,102,108,108,105],1),([102,105,108,108,102],-2),([102,108,105,108,102],4),([102,108,108,105,102],-2),([105,108,108,102,102],1),([108,105,108,102,102],-2),([108,108,105,102,102],1)],[([102,102,105,108,108],1)])
noncomputable def row13x1 : Row := ([102,102,108,105,108],[([102,102,108,105,108],1),([102,102,108,108,105],-1),([102,105,108,102,108],-1),([102,105,108,108,102],1),([102,108,102,105,108],-1),([102,108,102,108,105],1),([102,108,105,102,108],1),([102,108,105,108,102],-2),([102,108,108,105,102],1),([105,108,102,108,102],1),([105,108,108,102,102],-1),([108,102,105,108,102],1),([108,102,108,105,102],-1),([108,105,102,108,102],-1),([108,105,108,102,102],1)],[([102,102,105,108,108],2),([102,102,108,105,108],1)])
noncomputable def row13x2 : Row := ([102,102,108,108,105],[([102,102,108,108,105],1),([102,105,102,108,108],-1),([102,105,108,102,108],2),([102,105,108,108,102],-1),([102,108,102,108,105],-2),([102,108,108,102,105],1),([102,108,108,105,102],-1),([105,102,108,108,102],1),([105,108,102,108,102],-2),([105,108,108,102,102],1),([108,102,108,105,102],2),([108,108,102,105,102],-1)],[([102,102,105,108,108],1),([102,102,108,105,108],1),([102,102,108,108,105],1)])
noncomputable def row13x3 : Row := ([102,105,102,108,108],[([102,105,102,108,108],1),([102,105,108,102,108],-2),([102,105,108,108,102],1),([102,108,108,102,105],-1),([102,108,108,105,102],1),([105,102,102,108,108],-1),([105,102,108,102,108],2),([105,102,108,108,102],-1),([108,102,108,102,105],2),([108,102,108,105,102],-2),([108,108,102,102,105],-1),([108,108,102,105,102],1)],[([102,102,105,108,108],1),([102,102,108,105,108],1),([102,102,108,108,105],1),([102,105,102,108,108],1)])
noncomputable def row13x4 : Row := ([102,105,108,102,108],[([102,105,108,102,108],1),([102,105,108,108,102],-1),([102,108,102,105,108],-1),([102,108,102,108,105],1),([102,108,105,102,108],-1),([102,108,105,108,102],2),([102,108,108,105,102],-1),([105,108,102,102,108],-1),([105,108,102,108,102],1),([108,102,102,105,108],1),([108,102,102,108,105],-1),([108,102,105,108,102],-1),([108,102,108,105,102],1),([108,105,102,102,108],1),([108,105,102,108,102],-1)],[([102,102,105,108,108],2),([102,102,108,105,108],1),([102,105,102,108,108],2),([102,105,108,102,108],1)])
noncomputable def row13x5 : Row := ([102,105,108,108,102],[([102,105,108,108,102],1),([102,108,105,108,102],-2),([102,108,108,105,102],1),([105,108,108,102,102],-1),([108,105,108,102,102],2),([108,108,105,102,102],-1)],[([102,102,105,108,108],2),([102,105,102,108,108],1),([102,105,108,102,108],1),([102,105,108,108,102],1)])
noncomputable def row13x6 : Row := ([102,108,102,105,108],[([102,108,102,105,108],1),([102,108,102,108,105],-1),([102,108,105,108,102],-1),([102,108,108,105,102],1),([108,102,102,105,108],-1),([108,102,102,108,105],1),([108,102,105,108,102],1),([108,102,108,105,102],-1)],[([102,102,105,108,108],4),([102,102,108,105,108],2),([102,105,102,108,108],2),([102,105,108,102,108],1),([102,108,102,105,108],1)])
noncomputable def row13x7 : Row := ([102,108,102,108,105],[([102,108,102,108,105],1),([102,108,105,102,108],-2),([102,108,105,108,102],2),([102,108,108,102,105],-1),([105,102,108,102,108],1),([105,102,108,108,102],-1),([105,108,102,102,108],-1),([105,108,102,108,102],1),([108,102,102,108,105],-1),([108,102,105,102,108],2),([108,102,105,108,102],-2),([108,102,108,102,105],1)],[([102,102,105,108,108],2),([102,102,108,105,108],2),([102,102,108,108,105],2),([102,108,102,105,108],1),([102,108,102,108,105],1)])
noncomputable def row13x8 : Row := ([102,108,105,102,108],[([102,108,105,102,108],1),([102,108,105,108,102],-1),([105,102,108,102,108],-1),([105,102,108,108,102],1),([105,108,102,102,108],1),([105,108,102,108,102],-1),([108,102,105,102,108],-1),([108,102,105,108,102],1)],[([102,102,105,108,108],4),([102,102,108,105,108],4),([102,102,108,108,105],4),([102,105,102,108,108],2),([102,105,108,102,108],1),([102,108,102,105,108],2),([102,108,102,108,105],2),([102,108,105,102,108],1)])
noncomputable def row13x9 : Row := ([102,108,105,108,102],[([102,108,105,108,102],1),([102,108,108,105,102],-1),([105,108,102,108,102],-1),([105,108,108,102,102],1),([108,102,105,108,102],-1),([108,102,108,105,102],1),([108,105,102,108,102],1),([108,105,108,102,102],-1)],[([102,102,105,108,108],4),([102,102,108,105,108],2),([102,105,102,108,108],2),([102,105,108,102,108],2),([102,105,108,108,102],2),([102,108,102,105,108],1),([102,108,105,102,108],1),([102,108,105,108,102],1)])
noncomputable def row13x10 : Row := ([102,108,108,102,105],[([102,108,108,102,105],1),([102,108,108,105,102],-1),([108,102,108,102,105],-2),([108,102,108,105,102],2),([108,108,102,102,105],1),([108,108,102,105,102],-1)],[([102,102,105,108,108],2),([102,102,108,105,108],2),([102,102,108,108,105],2),([102,105,102,108,108],1),([102,108,102,105,108],1),([102,108,102,108,105],1),([102,108,108,102,105],1)])
noncomputable def row13x11 : Row := ([102,108,108,105,102],[([102,108,108,105,102],1),([105,102,108,108,102],-1),([105,108,102,108,102],2),([105,108,108,102,102],-1),([108,102,108,105,102],-2),([108,108,102,105,102],1)],[([102,102,105,108,108],2),([102,102,108,105,108],2),([102,102,108,108,105],2),([102,105,102,108,108],1),([102,105,108,102,108],1),([102,105,108,108,102],1),([102,108,102,105,108],1),([102,108,102,108,105],1),([102,108,105,102,108],1),([102,108,105,108,102],1),([102,108,108,102,105],1),([102,108,108,105,102],1)])
noncomputable def row13x12 : Row := ([105,102,102,108,108],[([105,102,102,108,108],1),([105,102,108,102,108],-2),([105,102,108,108,102],0),([105,108,102,108,102],2),([105,108,108,102,102],-1)],[([102,102,105,108,108],1),([102,102,108,105,108],1),([102,102,108,108,105],1),([102,105,102,108,108],1),([105,102,102,108,108],1)])
noncomputable def row13x13 : Row := ([105,102,108,102,108],[([105,102,108,102,108],1),([105,102,108,108,102],-1),([105,108,102,102,108],-1),([105,108,102,108,102],1)],[([102,102,105,108,108],2),([102,102,108,105,108],2),([102,102,108,108,105],2),([102,105,102,108,108],2),([102,105,108,102,108],1),([102,108,102,105,108],1),([102,108,102,108,105],1),([102,108,105,102,108],1),([105,102,102,108,108],2),([105,102,108,102,108],1)])
noncomputable def row13x14 : Row := ([105,102,108,108,102],[([105,102,108,108,102],1),([105,108,102,108,102],-2),([105,108,108,102,102],1)],[([102,102,105,108,108],2),([102,102,108,105,108],2),([102,102,108,108,105],2),([102,105,102,108,108],2),([102,105,108,102,108],1),([102,105,108,108,102],1),([102,108,102,105,108],1),([102,108,102,108,105],1),([102,108,105,102,108],1),([102,108,105,108,102],1),([102,108,108,102,105],1),([102,108,108,105,102],1),([105,102,102,108,108],2),([105,102,108,102,108],1),([105,102,108,108,102],1)])
noncomputable def row13x15 : Row := ([105,108,102,102,108],[([105,108,102,102,108],1),([105,108,102,108,102],-2),([105,108,108,102,102],1),([108,105,102,102,108],-1),([108,105,102,108,102],2),([108,105,108,102,102],-1)],[([102,102,105,108,108],2),([102,102,108,105,108],1),([102,105,102,108,108],2),([102,105,108,102,108],1),([105,102,102,108,108],2),([105,102,108,102,108],1),([105,108,102,102,108],1)])
noncomputable def row13x16 : Row := ([105,108,102,108,102],[([105,108,102,108,102],1),([105,108,108,102,102],-1),([108,105,102,108,102],-1),([108,105,108,102,102],1)],[([102,102,105,108,108],4),([102,102,108,105,108],2),([102,105,102,108,108],4),([102,105,108,102,108],3),([102,105,108,108,102],2),([102,108,102,105,108],1),([102,108,105,102,108],1),([102,108,105,108,102],1),([105,102,102,108,108],4),([105,102,108,102,108],3),([105,102,108,108,102],2),([105,108,102,102,108],2),([105,108,102,108,102],1)])
noncomputable def row13x17 : Row := ([105,108,108,102,102],[([105,108,108,102,102],1),([108,105,108,102,102],-2),([108,108,105,102,102],1)],[([102,102,105,108,108],1),([102,105,102,108,108],1),([102,105,108,102,108],1),([102,105,108,108,102],1),([105,102,102,108,108],1),([105,102,108,102,108],1),([105,102,108,108,102],1),([105,108,102,102,108],1),([105,108,102,108,102],1),([105,108,108,102,102],1)])
noncomputable def row13x18 : Row := ([108,102,102,105,108],[([108,102,102,105,108],1),([108,102,102,108,105],-1),([108,102,105,108,102],-2),([108,102,108,105,102],2),([108,105,108,102,102],1),([108,108,105,102,102],-1)],[([102,102,105,108,108],2),([102,102,108,105,108],1),([102,108,102,105,108],1),([108,102,102,105,108],1)])
noncomputable def row13x19 : Row := ([108,102,102,108,105],[([108,102,102,108,105],1),([108,102,105,102,108],-1),([108,102,105,108,102],1),([108,102,108,102,105],-1),([108,102,108,105,102],-1),([108,105,102,108,102],1),([108,105,108,102,102],-1),([108,108,102,105,102],1)],[([102,102,105,108,108],2),([102,102,108,105,108],2),([102,102,108,108,105],2),([102,108,102,105,108],1),([102,108,102,108,105],1),([108,102,102,105,108],1),([108,102,102,108,105],1)])
noncomputable def row13x20 : Row := ([108,102,105,102,108],[([108,102,105,102,108],1),([108,102,105,108,102],-1),([108,102,108,102,105],-1),([108,102,108,105,102],1),([108,105,102,102,108],-1),([108,105,102,108,102],1),([108,108,102,102,105],1),([108,108,102,105,102],-1)],[([102,102,105,108,108],2),([102,102,108,105,108],2),([102,102,108,108,105],2),([102,105,102,108,108],2),([102,105,108,102,108],1),([102,108,102,105,108],1),([102,108,102,108,105],1),([102,108,105,102,108],1),([108,102,102,105,108],1),([108,102,102,108,105],1),([108,102,105,102,108],1)])
noncomputable def row13x21 : Row := ([108,102,105,108,102],[([108,102,105,108,102],1),([108,102,108,105,102],-1),([108,105,108,102,102],-1),([108,108,105,102,102],1)],[([102,102,105,108,108],4),([102,102,108,105,108],2),([102,105,102,108,108],2),([102,105,108,102,108],2),([102,105,108,108,102],2),([102,108,102,105,108],2),([102,108,105,102,108],1),([102,108,105,108,102],1),([108,102,102,105,108],2),([108,102,105,102,108],1),([108,102,105,108,102],1)])
noncomputable def row13x22 : Row := ([108,102,108,102,105],[([108,102,108,102,105],1),([108,102,108,105,102],-1),([108,108,102,102,105],-1),([108,108,102,105,102],1)],[([102,102,105,108,108],4),([102,102,108,105,108],4),([102,102,108,108,105],4),([102,105,102,108,108],2),([102,105,108,102,108],1),([102,108,102,105,108],3),([102,108,102,108,105],3),([102,108,105,102,108],1),([102,108,108,102,105],2),([108,102,102,105,108],2),([108,102,102,108,105],2),([108,102,105,102,108],1),([108,102,108,102,105],1)])
noncomputable def row13x23 : Row := ([108,102,108,105,102],[([108,102,108,105,102],1),([108,105,102,108,102],-1),([108,105,108,102,102],1),([108,108,102,105,102],-1)],[([102,102,105,108,108],4),([102,102,108,105,108],4),([102,102,108,108,105],4),([102,105,102,108,108],2),([102,105,108,102,108],2),([102,105,108,108,102],2),([102,108,102,105,108],3),([102,108,102,108,105],3),([102,108,105,102,108],2),([102,108,105,108,102],2),([102,108,108,102,105],2),([102,108,108,105,102],2),([108,102,102,105,108],2),([108,102,102,108,105],2),([108,102,105,102,108],1),([108,102,105,108,102],1),([108,102,108,102,105],1),([108,102,108,105,102],1)])
noncomputable def row13x24 : Row := ([108,105,102,102,108],[([108,105,102,102,108],1),([108,105,102,108,102],-2),([108,105,108,102,102],1)],[([102,102,105,108,108],2),([102,102,108,105,108],2),([102,102,108,108,105],2),([102,105,102,108,108],2),([102,105,108,102,108],1),([102,108,102,105,108],1),([102,108,102,108,105],1),([102,108,105,102,108],1),([105,102,102,108,108],2),([105,102,108,102,108],1),([105,108,102,102,108],1),([108,102,102,105,108],1),([108,102,102,108,105],1),([108,102,105,102,108],1),([108,105,102,102,108],1)])
noncomputable def row13x25 : Row := ([108,105,102,108,102],[([108,105,102,108,102],1),([108,105,108,102,102],-1)],[([102,102,105,108,108],4),([102,102,108,105,108],4),([102,102,108,108,105],4),([102,105,102,108,108],4),([102,105,108,102,108],3),([102,105,108,108,102],2),([102,108,102,105,108],3),([102,108,102,108,105],3),([102,108,105,102,108],3),([102,108,105,108,102],2),([102,108,108,102,105],2),([102,108,108,105,102],2),([105,102,102,108,108],4),([105,102,108,102,108],3),([105,102,108,108,102],2),([105,108,102,102,108],2),([105,108,102,108,102],1),([108,102,102,105,108],2),([108,102,102,108,105],2),([108,102,105,102,108],2),([108,102,105,108,102],1),([108,102,108,102,105],1),([108,102,108,105,102],1),([108,105,102,102,108],2),([108,105,102,108,102],1)])
noncomputable def row13x26 : Row := ([108,105,108,102,102],[([108,105,108,102,102],1),([108,108,105,102,102],-1)],[([102,102,105,108,108],2),([102,102,108,105,108],1),([102,105,102,108,108],2),([102,105,108,102,108],2),([102,105,108,108,102],2),([102,108,102,105,108],1),([102,108,105,102,108],1),([102,108,105,108,102],1),([105,102,102,108,108],2),([105,102,108,102,108],2),([105,102,108,108,102],2),([105,108,102,102,108],2),([105,108,102,108,102],2),([105,108,108,102,102],2),([108,102,102,105,108],1),([108,102,105,102,108],1),([108,102,105,108,102],1),([108,105,102,102,108],1),([108,105,102,108,102],1),([108,105,108,102,102],1)])
noncomputable def row13x27 : Row := ([108,108,102,102,105],[([108,108,102,102,105],1),([108,108,102,105,102],-2),([108,108,105,102,102],1)],[([102,102,105,108,108],1),([102,102,108,105,108],1),([102,102,108,108,105],1),([102,108,102,105,108],1),([102,108,102,108,105],1),([102,108,108,102,105],1),([108,102,102,105,108],1),([108,102,102,108,105],1),([108,102,108,102,105],1),([108,108,102,102,105],1)])
noncomputable def row13x28 : Row := ([108,108,102,105,102],[([108,108,102,105,102],1),([108,108,105,102,102],-1)],[([102,102,105,108,108],2),([102,102,108,105,108],2),([102,102,108,108,105],2),([102,105,102,108,108],1),([102,105,108,102,108],1),([102,105,108,108,102],1),([102,108,102,105,108],2),([102,108,102,108,105],2),([102,108,105,102,108],1),([102,108,105,108,102],1),([102,108,108,102,105],2),([102,108,108,105,102],1),([108,102,102,105,108],2),([108,102,102,108,105],2),([108,102,105,102,108],1),([108,102,105,108,102],1),([108,102,108,102,105],2),([108,102,108,105,102],1),([108,108,102,102,105],2),([108,108,102,105,102],1)])
noncomputable def row13x29 : Row := ([108,108,105,102,102],[([108,108,105,102,102],1)],[([102,102,105,108,108],1),([102,102,108,105,108],1),([102,102,108,108,105],1),([102,105,102,108,108],1),([102,105,108,102,108],1),([102,105,108,108,102],1),([102,108,102,105,108],1),([102,108,102,108,105],1),([102,108,105,102,108],1),([102,108,105,108,102],1),([102,108,108,102,105],1),([102,108,108,105,102],1),([105,102,102,108,108],1),([105,102,108,102,108],1),([105,102,108,108,102],1),([105,108,102,102,108],1),([105,108,102,108,102],1),([105,108,108,102,102],1),([108,102,102,105,108],1),([108,102,102,108,105],1),([108,102,105,102,108],1),([108,102,105,108,102],1),([108,102,108,102,105],1),([108,102,108,105,102],1),([108,105,102,102,108],1),([108,105,102,108,102],1),([108,105,108,102,102],1),([108,108,102,102,105],1),([108,108,102,105,102],1),([108,108,105,102,102],1)])
noncomputable def kls13 : List Row := [row13x0, row13x1, row13x2, row13x3, row13x4, row13x5, row13x6, row13x7, row13x8, row13x9, row13x10, row13x11, row13x12, row13x13, row13x14, row13x15, row13x16, row13x17, row13x18, row13x19, row13x20, row13x21, row13x22, row13x23, row13x24, row13x25, row13x26, row13x27, row13x28, row13x29]
theorem rok13x0 : rowOk row13x0 = true := by decide +kernel
theorem rpr13x0 : (kls13.all fun q => pairF row13x0 q) = true := by decide +kernel
theorem rok13x1 : rowOk row13x1 = true := by decide +kernel
theorem rpr13x1 : (kls13.all fun q => pairF row13x1 q) = true := by decide +kernel
theorem rok13x2 : rowOk row13x2 = true := by decide +kernel
theorem rpr13x2 : (kls13.all fun q => pairF row13x2 q) = true := by decide +kernel
theorem rok13x3 : rowOk row13x3 = true := by decide +kernel
theorem rpr13x3 : (kls13.all fun q => pairF row13x3 q) = true := by decide +kernel
theorem rok13x4 : rowOk row13x4 = true := by decide +kernel
theorem rpr13x4 : (kls13.all fun q => pairF row13x4 q) = true := by decide +kernel
theorem rok13x5 : rowOk row13x5 = true := by decide +kernel
theorem rpr13x5 : (kls13.all fun q => pairF row13x5 q) = true := by decide +kernel
theorem rok13x6 : rowOk row13x6 = true := by decide +kernel
theorem rpr13x6 : (kls13.all fun q => pairF row13x6 q) = true := by decide +kernel
theorem rok13x7 : rowOk row13x7 = true := by decide +kernel
theorem rpr13x7 : (kls13.all fun q => pairF row13x7 q) = true := by decide +kernel
theorem rok13x8 : rowOk row13x8 = true := by decide +kernel
theorem rpr13x8 : (kls13.all fun q => pairF row13x8 q) = true := by decide +kernel
theorem rok13x9 : rowOk row13x9 = true := by decide +kernel
theorem rpr13x9 : (kls13.all fun q => pairF row13x9 q) = true := by decide +kernel
theorem rok13x10 : rowOk row13x10 = true := by decide +kernel
theorem rpr13x10 : (kls13.all fun q => pairF row13x10 q) = true := by decide +kernel
theorem rok13x11 : rowOk row13x11 = true := by decide +kernel
theorem rpr13x11 : (kls13.all fun q => pairF row13x11 q) = true := by decide +kernel
theorem rok13x12 : rowOk row13x12 = true := by decide +kernel
theorem rpr13x12 : (kls13.all fun q => pairF row13x12 q) = true := by decide +kernel
theorem rok13x13 : rowOk row13x13 = true := by decide +kernel
theorem rpr13x13 : (kls13.all fun q => pairF row13x13 q) = true := by decide +kernel
theorem rok13x14 : rowOk row13x14 = true := by decide +kernel
theorem rpr13x14 : (kls13.all fun q => pairF row13x14 q) = true := by decide +kernel
theorem rok13x15 : rowOk row13x15 = true := by decide +kernel
theorem rpr13x15 : (kls13.all fun q => pairF row13x15 q) = true := by decide +kernel
theorem rok13x16 : rowOk row13x16 = true := by decide +kernel
theorem rpr13x16 : (kls13.all fun q => pairF row13x16 q) = true := by decide +kernel
theorem rok13x17 : rowOk row13x17 = true := by decide +kernel
theorem rpr13x17 : (kls13.all fun q => pairF row13x17 q) = true := by decide +kernel
theorem rok13x18 : rowOk row13x18 = true := by decide +kernel
theorem rpr13x18 : (kls13.all fun q => pairF row13x18 q) = true := by decide +kernel
theorem rok13x19 : rowOk row13x19 = true := by decide +kernel
theorem rpr13x19 : (kls13.all fun q => pairF row13x19 q) = true := by decide +kernel
theorem rok13x20 : rowOk row13x20 = true := by decide +kernel
theorem rpr13x20 : (kls13.all fun q => pairF row13x20 q) = true := by decide +kernel
theorem rok13x21 : rowOk row13x21 = true := by decide +kernel
theorem rpr13x21 : (kls13.all fun q => pairF row13x21 q) = true := by decide +kernel
theorem rok13x22 : rowOk row13x22 = true := by decide +kernel
theorem rpr13x22 : (kls13.all fun q => pairF row13x22 q) = true := by decide +kernel
theorem rok13x23 : rowOk row13x23 = true := by decide +kernel
theorem rpr13x23 : (kls13.all fun q => pairF row13x23 q) = true := by decide +kernel
theorem rok13x24 : rowOk row13x24 = true := by decide +kernel
theorem rpr13x24 : (kls13.all fun q => pairF row13x24 q) = true := by decide +kernel
theorem rok13x25 : rowOk row13x25 = true := by decide +kernel
theorem rpr13x25 : (kls13.all fun q => pairF row13x25 q) = true := by decide +kernel
theorem rok13x26 : rowOk row13x26 = true := by decide +kernel
theorem rpr13x26 : (kls13.all fun q => pairF row13x26 q) = true := by decide +kernel
theorem rok13x27 : rowOk row13x27 = true := by decide +kernel
theorem rpr13x27 : (kls13.all fun q => pairF row13x27 q) = true := by decide +kernel
theorem rok13x28 : rowOk row13x28 = true := by decide +kernel
theorem rpr13x28 : (kls13.all fun q => pairF row13x28 q) = true := by decide +kernel
theorem rok13x29 : rowOk row13x29 = true := by decide +kernel
theorem rpr13x29 : (kls13.all fun q => pairF row13x29 q) = true := by decide +kernel
theorem klsok13 : ∀ r ∈ kls13, rowOk r = true := (ok_cons rok13x0 (ok_cons rok13x1 (ok_cons rok13x2 (ok_cons rok13x3 (ok_cons rok13x4 (ok_cons rok13x5 (ok_cons rok13x6 (ok_cons rok13x7 (ok_cons rok13x8 (ok_cons rok13x9 (ok_cons rok13x10 (ok_cons rok13x11 (ok_cons rok13x12 (ok_cons rok13x13 (ok_cons rok13x14 (ok_cons rok13x15 (ok_cons rok13x16 (ok_cons rok13x17 (ok_cons rok13x18 (ok_cons rok13x19 (ok_cons rok13x20 (ok_cons rok13x21 (ok_cons rok13x22 (ok_cons rok13x23 (ok_cons rok13x24 (ok_cons rok13x25 (ok_cons rok13x26 (ok_cons rok13x27 (ok_cons rok13x28 (ok_cons rok13x29 ok_nil))))))))))))))))))))))))))))))
theorem klspr13 : ∀ r ∈ kls13, ∀ q ∈ kls13, pairF r q = true := (pr_cons rpr13x0 (pr_cons rpr13x1 (pr_cons rpr13x2 (pr_cons rpr13x3 (pr_cons rpr13x4 (pr_cons rpr13x5 (pr_cons rpr13x6 (pr_cons rpr13x7 (pr_cons rpr13x8 (pr_cons rpr13x9 (pr_cons rpr13x10 (pr_cons rpr13x11 (pr_cons rpr13x12 (pr_cons rpr13x13 (pr_cons rpr13x14 (pr_cons rpr13x15 (pr_cons rpr13x16 (pr_cons rpr13x17 (pr_cons rpr13x18 (pr_cons rpr13x19 (pr_cons rpr13x20 (pr_cons rpr13x21 (pr_cons rpr13x22 (pr_cons rpr13x23 (pr_cons rpr13x24 (pr_cons rpr13x25 (pr_cons rpr13x26 (pr_cons rpr13x27 (pr_cons rpr13x28 (pr_cons rpr13x29 pr_nil))))))))))))))))))))))))))))))
noncomputable def row14x0 : Row := ([102,102,105,105,108],[([102,102,105,105,108],1),([102,102,105,108,105],-2),([102,102,108,105,105],1),([102,105,105,108,102],-2),([102,105,108,105,102],4),([102,108,105,105,102],-2),([105,105,108,102,102],1),([105,108,105,102,102],-2),([108,105,105,102,102],1)],[([102,102,105,105,108],1)])
noncomputable def row14x1 : Row := ([102,102,105,108,105],[([102,102,105,108,105],1),([102,102,108,105,105],-1),([102,105,102,105,108],-1),([102,105,102,108,105],1),([102,105,105,108,102],1),([102,105,108,102,105],-1),([102,105,108,105,102],-2),([102,108,105,102,105],1),([102,108,105,105,102],1),([105,102,105,108,102],1),([105,102,108,105,102],-1),([105,105,108,102,102],-1),([105,108,102,105,102],1),([105,108,105,102,102],1),([108,105,102,105,102],-1)],[([102,102,105,105,108],2),([102,102,105,108,105],1)])
noncomputable def row14x2 : Row := ([102,102,108,105,105],[([102,102,108,105,105],1),([102,105,102,108,105],-2),([102,105,105,102,108],1),([102,105,105,108,102],-1),([102,105,108,102,105],2),([102,108,102,105,105],-1),([102,108,105,105,102],-1),([105,102,108,105,102],2),([105,105,102,108,102],-1),([105,105,108,102,102],1),([105,108,102,105,102],-2),([108,102,105,105,102],1)],[([102,102,105,105,108],1),([102,102,105,108,105],1),([102,102,108,105,105],1)])
noncomputable def row14x3 : Row := ([102,105,102,105,108],[([102,105,102,105,108],1),([102,105,102,108,105],-1),([102,105,105,108,102],-1),([102,105,108,102,105],-1),([102,105,108,105,102],2),([102,108,105,102,105],1),([102,108,105,105,102],-1),([105,102,102,105,108],-1),([105,102,102,108,105],1),([105,102,105,108,102],1),([105,102,108,105,102],-1),([105,108,102,102,105],1),([105,108,102,105,102],-1),([108,105,102,102,105],-1),([108,105,102,105,102],1)],[([102,102,105,105,108],2),([102,102,105,108,105],1),([102,105,102,105,108],1)])
noncomputable def row14x4 : Row := ([102,105,102,108,105],[([102,105,102,108,105],1),([102,105,105,102,108],-1),([102,105,105,108,102],1),([102,105,108,102,105],-1),([102,108,105,102,105],-1),([102,108,105,105,102],1),([105,102,102,108,105],-1),([105,102,105,102,108],1),([105,102,105,108,102],-1),([105,102,108,102,105],2),([105,102,108,105,102],-1),([105,108,102,102,105],-1),([105,108,102,105,102],1),([108,102,105,102,105],1),([108,102,105,105,102],-1)],[([102,102,105,105,108],2),([102,102,105,108,105],2),([102,102,108,105,105],2),([102,105,102,105,108],1),([102,105,102,108,105],1)])
noncomputable def row14x5 : Row := ([102,105,105,102,108],[([102,105,105,102,108],1),([102,105,105,108,102],-1),([102,108,102,105,105],-1),([102,108,105,102,105],2),([102,108,105,105,102],-1),([105,102,105,102,108],-2),([105,102,105,108,102],2),([105,105,102,102,108],1),([105,105,102,108,102],-1),([108,102,102,105,105],1),([108,102,105,102,105],-2),([108,102,105,105,102],1)],[([102,102,105,105,108],1),([102,102,105,108,105],1),([102,102,108,105,105],1),([102,105,102,105,108],1),([102,105,102,108,105],1),([102,105,105,102,108],1)])
noncomputable def row14x6 : Row := ([102,105,105,108,102],[([102,105,105,108,102],1),([102,105,108,105,102],-2),([102,108,105,105,102],1),([105,105,108,102,102],-1),([105,108,105,102,102],2),([108,105,105,102,102],-1)],[([102,102,105,105,108],2),([102,105,102,105,108],1),([102,105,105,102,108],1),([102,105,105,108,102],1)])
noncomputable def row14x7 : Row := ([102,105,108,102,105],[([102,105,108,102,105],1),([102,105,108,105,102],-1),([102,108,105,102,105],-1),([102,108,105,105,102],1),([105,108,102,102,105],-1),([105,108,102,105,102],1),([108,105,102,102,105],1),([108,105,102,105,102],-1)],[([102,102,105,105,108],4),([102,102,105,108,105],2),([102,105,102,105,108],2),([102,105,102,108,105],1),([102,105,108,102,105],1)])
noncomputable def row14x8 : Row := ([102,105,108,105,102],[([102,105,108,105,102],1),([102,108,105,105,102],-1),([105,102,105,108,102],-1),([105,102,108,105,102],1),([105,105,108,102,102],1),([105,108,102,105,102],-1),([105,108,105,102,102],-1),([108,105,102,105,102],1)],[([102,102,105,105,108],4),([102,102,105,108,105],2),([102,105,102,105,108],2),([102,105,102,108,105],1),([102,105,105,102,108],2),([102,105,105,108,102],2),([102,105,108,102,105],1),([102,105,108,105,102],1)])
noncomputable def row14x9 : Row := ([102,108,102,105,105],[([102,108,102,105,105],1),([102,108,105,102,105],-2),([102,108,105,105,102],1),([108,102,102,105,105],-1),([108,102,105,102,105],2),([108,102,105,105,102],-1)],[([102,102,105,105,108],2),([102,102,105,108,105],2),([102,102,108,105,105],2),([102,105,102,105,108],1),([102,105,102,108,105],1),([102,105,105,102,108],1),([102,108,102,105,105],1)])
noncomputable def row14x10 : Row := ([102,108,105,102,105],[([102,108,105,102,105],1),([102,108,105,105,102],-1),([105,102,108,102,105],-1),([105,102,108,105,102],1),([105,108,102,102,105],1),([105,108,102,105,102],-1),([108,102,105,102,105],-1),([108,102,105,105,102],1)],[([102,102,105,105,108],4),([102,102,105,108,105],4),([102,102,108,105,105],4),([102,105,102,105,108],2),([102,105,102,108,105],2),([102,105,108,102,105],1),([102,108,102,105,105],2),([102,108,105,102,105],1)])
noncomputable def row14x11 : Row := ([102,108,105,105,102],[([102,108,105,105,102],1),([105,102,108,105,102],-2),([105,105,102,108,102],1),([105,105,108,102,102],-1),([105,108,102,105,102],2),([108,102,105,105,102],-1)],[([102,102,105,105,108],2),([102,102,105,108,105],2),([102,102,108,105,105],2),([102,105,102,105,108],1),([102,105,102,108,105],1),([102,105,105,102,108],1),([102,105,105,108,102],1),([102,105,108,102,105],1),([102,105,108,105,102],1),([102,108,102,105,105],1),([102,108,105,102,105],1),([102,108,105,105,102],1)])
noncomputable def row14x12 : Row := ([105,102,102,105,108],[([105,102,102,105,108],1),([105,102,102,108,105],-1),([105,102,105,108,102],-2),([105,102,108,105,102],2),([105,105,108,102,102],1),([105,108,105,102,102],-1)],[([102,102,105,105,108],2),([102,102,105,108,105],1),([102,105,102,105,108],1),([105,102,102,105,108],1)])
noncomputable def row14x13 : Row := ([105,102,102,108,105],[([105,102,102,108,105],1),([105,102,105,102,108],-1),([105,102,105,108,102],1),([105,102,108,102,105],-1),([105,102,108,105,102],-1),([105,105,102,108,102],1),([105,105,108,102,102],-1),([105,108,102,105,102],1)],[([102,102,105,105,108],2),([102,102,105,108,105],2),([102,102,108,105,105],2),([102,105,102,105,108],1),([102,105,102,108,105],1),([105,102,102,105,108],1),([105,102,102,108,105],1)])
noncomputable def row14x14 : Row := ([105,102,105,102,108],[([105,102,105,102,108],1),([105,102,105,108,102],-1),([105,102,108,102,105],-1),([105,102,108,105,102],1),([105,105,102,102,108],-1),([105,105,102,108,102],1),([105,108,102,102,105],1),([105,108,102,105,102],-1)],[([102,102,105,105,108],2),([102,102,105,108,105],2),([102,102,108,105,105],2),([102,105,102,105,108],2),([102,105,102,108,105],2),([102,105,105,102,108],2),([105,102,102,105,108],1),([105,102,102,108,105],1),([105,102,105,102,108],1)])
noncomputable def row14x15 : Row := ([105,102,105,108,102],[([105,102,105,108,102],1),([105,102,108,105,102],-1),([105,105,108,102,102],-1),([105,108,105,102,102],1)],[([102,102,105,105,108],4),([102,102,105,108,105],2),([102,105,102,105,108],3),([102,105,102,108,105],1),([102,105,105,102,108],2),([102,105,105,108,102],2),([102,105,108,102,105],1),([102,105,108,105,102],1),([105,102,102,105,108],2),([105,102,105,102,108],1),([105,102,105,108,102],1)])
noncomputable def row14x16 : Row := ([105,102,108,102,105],[([105,102,108,102,105],1),([105,102,108,105,102],-1),([105,108,102,102,105],-1),([105,108,102,105,102],1)],[([102,102,105,105,108],4),([102,102,105,108,105],4),([102,102,108,105,105],4),([102,105,102,105,108],3),([102,105,102,108,105],3),([102,105,105,102,108],2),([102,105,108,102,105],1),([102,108,102,105,105],2),([102,108,105,102,105],1),([105,102,102,105,108],2),([105,102,102,108,105],2),([105,102,105,102,108],1),([105,102,108,102,105],1)])
noncomputable def row14x17 : Row := ([105,102,108,105,102],[([105,102,108,105,102],1),([105,105,102,108,102],-1),([105,105,108,102,102],1),([105,108,102,105,102],-1)],[([102,102,105,105,108],4),([102,102,105,108,105],4),([102,102,108,105,105],4),([102,105,102,105,108],3),([102,105,102,108,105],3),([102,105,105,102,108],2),([102,105,105,108,102],2),([102,105,108,102,105],2),([102,105,108,105,102],2),([102,108,102,105,105],2),([102,108,105,102,105],2),([102,108,105,105,102],2),([105,102,102,105,108],2),([105,102,102,108,105],2),([105,102,105,102,108],1),([105,102,105,108,102],1),([105,102,108,102,105],1),([105,102,108,105,102],1)])
noncomputable def row14x18 : Row := ([105,105,102,102,108],[([105,105,102,102,108],1),([105,105,102,108,102],-2),([105,105,108,102,102],1)],[([102,102,105,105,108],1),([102,102,105,108,105],1),([102,102,108,105,105],1),([102,105,102,105,108],1),([102,105,102,108,105],1),([102,105,105,102,108],1),([105,102,102,105,108],1),([105,102,102,108,105],1),([105,102,105,102,108],1),([105,105,102,102,108],1)])
noncomputable def row14x19 : Row := ([105,105,102,108,102],[([105,105,102,108,102],1),([105,105,108,102,102],-1)],[([102,102,105,105,108],2),([102,102,105,108,105],2),([102,102,108,105,105],2),([102,105,102,105,108],2),([102,105,102,108,105],2),([102,105,105,102,108],2),([102,105,105,108,102],1),([102,105,108,102,105],1),([102,105,108,105,102],1),([102,108,102,105,105],1),([102,108,105,102,105],1),([102,108,105,105,102],1),([105,102,102,105,108],2),([105,102,102,108,105],2),([105,102,105,102,108],2),([105,102,105,108,102],1),([105,102,108,102,105],1),([105,102,108,105,102],1),([105,105,102,102,108],2),([105,105,102,108,102],1)])
noncomputable def row14x20 : Row := ([105,105,108,102,102],[([105,105,108,102,102],1),([105,108,105,102,102],-2),([108,105,105,102,102],1)],[([102,102,105,105,108],1),([102,105,102,105,108],1),([102,105,105,102,108],1),([102,105,105,108,102],1),([105,102,102,105,108],1),([105,102,105,102,108],1),([105,102,105,108,102],1),([105,105,102,102,108],1),([105,105,102,108,102],1),([105,105,108,102,102],1)])
noncomputable def row14x21 : Row := ([105,108,102,102,105],[([105,108,102,102,105],1),([105,108,102,105,102],-2),([105,108,105,102,102],1),([108,105,102,102,105],-1),([108,105,102,105,102],2),([108,105,105,102,102],-1)],[([102,102,105,105,108],2),([102,102,105,108,105],1),([102,105,102,105,108],1),([102,105,102,108,105],1),([102,105,108,102,105],1),([105,102,102,105,108],1),([105,102,102,108,105],1),([105,102,108,102,105],1),([105,108,102,102,105],1)])
noncomputable def row14x22 : Row := ([105,108,102,105,102],[([105,108,102,105,102],1),([105,108,105,102,102],-1),([108,105,102,105,102],-1),([108,105,105,102,102],1)],[([102,102,105,105,108],4),([102,102,105,108,105],2),([102,105,102,105,108],3),([102,105,102,108,105],2),([102,105,105,102,108],2),([102,105,105,108,102],2),([102,105,108,102,105],2),([102,105,108,105,102],1),([105,102,102,105,108],2),([105,102,102,108,105],2),([105,102,105,102,108],1),([105,102,105,108,102],1),([105,102,108,102,105],2),([105,102,108,105,102],1),([105,108,102,102,105],2),([105,108,102,105,102],1)])
noncomputable def row14x23 : Row := ([105,108,105,102,102],[([105,108,105,102,102],1),([108,105,105,102,102],-1)],[([102,102,105,105,108],2),([102,102,105,108,105],1),([102,105,102,105,108],2),([102,105,102,108,105],1),([102,105,105,102,108],2),([102,105,105,108,102],2),([102,105,108,102,105],1),([102,105,108,105,102],1),([105,102,102,105,108],2),([105,102,102,108,105],1),([105,102,105,102,108],2),([105,102,105,108,102],2),([105,102,108,102,105],1),([105,102,108,105,102],1),([105,105,102,102,108],2),([105,105,102,108,102],2),([105,105,108,102,102],2),([105,108,102,102,105],1),([105,108,102,105,102],1),([105,108,105,102,102],1)])
noncomputable def row14x24 : Row := ([108,102,102,105,105],[([108,102,102,105,105],1),([108,102,105,102,105],-2),([108,102,105,105,102],0),([108,105,102,105,102],2),([108,105,105,102,102],-1)],[([102,102,105,105,108],1),([102,102,105,108,105],1),([102,102,108,105,105],1),([102,108,102,105,105],1),([108,102,102,105,105],1)])
noncomputable def row14x25 : Row := ([108,102,105,102,105],[([108,102,105,102,105],1),([108,102,105,105,102],-1),([108,105,102,102,105],-1),([108,105,102,105,102],1)],[([102,102,105,105,108],2),([102,102,105,108,105],2),([102,102,108,105,105],2),([102,105,102,105,108],1),([102,105,102,108,105],1),([102,105,108,102,105],1),([102,108,102,105,105],2),([102,108,105,102,105],1),([108,102,102,105,105],2),([108,102,105,102,105],1)])
noncomputable def row14x26 : Row := ([108,102,105,105,102],[([108,102,105,105,102],1),([108,105,102,105,102],-2),([108,105,105,102,102],1)],[([102,102,105,105,108],2),([102,102,105,108,105],2),([102,102,108,105,105],2),([102,105,102,105,108],1),([102,105,102,108,105],1),([102,105,105,102,108],1),([102,105,105,108,102],1),([102,105,108,102,105],1),([102,105,108,105,102],1),([102,108,102,105,105],2),([102,108,105,102,105],1),([102,108,105,105,102],1),([108,102,102,105,105],2),([108,102,105,102,105],1),([108,102,105,105,102],1)])
noncomputable def row14x27 : Row := ([108,105,102,102,105],[([108,105,102,102,105],1),([108,105,102,105,102],-2),([108,105,105,102,102],1)],[([102,102,105,105,108],2),([102,102,105,108,105],2),([102,102,108,105,105],2),([102,105,102,105,108],1),([102,105,102,108,105],1),([102,105,108,102,105],1),([102,108,102,105,105],2),([102,108,105,102,105],1),([105,102,102,105,108],1),([105,102,102,108,105],1),([105,102,108,102,105],1),([105,108,102,102,105],1),([108,102,102,105,105],2),([108,102,105,102,105],1),([108,105,102,102,105],1)])
noncomputable def row14x28 : Row := ([108,105,102,105,102],[([108,105,102,105,102],1),([108,105,105,102,102],-1)],[([102,102,105,105,108],4),([102,102,105,108,105],4),([102,102,108,105,105],4),([102,105,102,105,108],3),([102,105,102,108,105],3),([102,105,105,102,108],2),([102,105,105,108,102],2),([102,105,108,102,105],3),([102,105,108,105,102],2),([102,108,102,105,105],4),([102,108,105,102,105],3),([102,108,105,105,102],2),([105,102,102,105,108],2),([105,102,102,108,105],2),([105,102,105,102,108],1),([105,102,105,108,102],1),([105,102,108,102,105],2),([105,102,108,105,102],1),([105,108,102,102,105],2),([105,108,102,105,102],1),([108,102,102,105,105],4),([108,102,105,102,105],3),([108,102,105,105,102],2),([108,105,102,102,105],2),([108,105,102,105,102],1)])
noncomputable def row14x29 : Row := ([108,105,105,102,102],[([108,105,105,102,102],1)],[([102,102,105,105,108],1),([102,102,105,108,105],1),([102,102,108,105,105],1),([102,105,102,105,108],1),([102,105,102,108,105],1),([102,105,105,102,108],1),([102,105,105,108,102],1),([102,105,108,102,105],1),([102,105,108,105,102],1),([102,108,102,105,105],1),([102,108,105,102,105],1),([102,108,105,105,102],1),([105,102,102,105,108],1),([105,102,102,108,105],1),([105,102,105,102,108],1),([105,102,105,108,102],1),([105,102,108,102,105],1),([105,102,108,105,102],1),([105,105,102,102,108],1),([105,105,102,108,102],1),([105,105,108,102,102],1),([105,108,102,102,105],1),([105,108,102,105,102],1),([105,108,105,102,102],1),([108,102,102,105,105],1),([108,102,105,102,105],1),([108,102,105,105,102],1),([108,105,102,102,105],1),([108,105,102,105,102],1),([108,105,105,102,102],1)])
noncomputable def kls14 : List Row := [row14x0, row14x1, row14x2, row14x3, row14x4, row14x5, row14x6, row14x7, row14x8, row14x9, row14x10, row14x11, row14x12, row14x13, row14x14, row14x15, row14x16, row14x17, row14x18, row14x19, row14x20, row14x21, row14x22, row14x23, row14x24, row14x25, row14x26, row14x27, row14x28, row14x29]
theorem rok14x0 : rowOk row14x0 = true := by decide +kernel
theorem rpr14x0 : (kls14.all fun q => pairF row14x0 q) = true := by decide +kernel
theorem rok14x1 : rowOk row14x1 = true := by decide +kernel
theorem rpr14x1 : (kls14.all fun q => pairF row14x1 q) = true := by decide +kernel
theorem rok14x2 : rowOk row14x2 = true := by decide +kernel
theorem rpr14x2 : (kls14.all fun q => pairF row14x2 q) = true := by decide +kernel
theorem rok14x3 : rowOk row14x3 = true := by decide +kernel
theorem rpr14x3 : (kls14.all fun q => pairF row14x3 q) = true := by decide +kernel
theorem rok14x4 : rowOk row14x4 = true := by decide +kernel
theorem rpr14x4 : (kls14.all fun q => pairF row14x4 q) = true := by decide +kernel
theorem rok14x5 : rowOk row14x5 = true := by decide +kernel
theorem rpr14x5 : (kls14.all fun q => pairF row14x5 q) = true := by decide +kernel
theorem rok14x6 : rowOk row14x6 = true := by decide +kernel
theorem rpr14x6 : (kls14.all fun q => pairF row14x6 q) = true := by decide +kernel
theorem rok14x7 : rowOk row14x7 = true := by decide +kernel
theorem rpr14x7 : (kls14.all fun q => pairF row14x7 q) = true := by decide +kernel
theorem rok14x8 : rowOk row14x8 = true := by decide +kernel
theorem rpr14x8 : (kls14.all fun q => pairF row14x8 q) = true := by decide +kernel
theorem rok14x9 : rowOk row14x9 = true := by decide +kernel
theorem rpr14x9 : (kls14.all fun q => pairF row14x9 q) = true := by decide +kernel
theorem rok14x10 : rowOk row14x10 = true := by decide +kernel
theorem rpr14x10 : (kls14.all fun q => pairF row14x10 q) = true := by decide +kernel
theorem rok14x11 : rowOk row14x11 = true := by decide +kernel
theorem rpr14x11 : (kls14.all fun q => pairF row14x11 q) = true := by decide +kernel
theorem rok14x12 : rowOk row14x12 = true := by decide +kernel
theorem rpr14x12 : (kls14.all fun q => pairF row14x12 q) = true := by decide +kernel
theorem rok14x13 : rowOk row14x13 = true := by decide +kernel
theorem rpr14x13 : (kls14.all fun q => pairF row14x13 q) = true := by decide +kernel
theorem rok14x14 : rowOk row14x14 = true := by decide +kernel
theorem rpr14x14 : (kls14.all fun q => pairF row14x14 q) = true := by decide +kernel
theorem rok14x15 : rowOk row14x15 = true := by decide +kernel
theorem rpr14x15 : (kls14.all fun q => pairF row14x15 q) = true := by decide +kernel
theorem rok14x16 : rowOk row14x16 = true := by decide +kernel
theorem rpr14x16 : (kls14.all fun q => pairF row14x16 q) = true := by decide +kernel
theorem rok14x17 : rowOk row14x17 = true := by decide +kernel
theorem rpr14x17 : (kls14.all fun q => pairF row14x17 q) = true := by decide +kernel
theorem rok14x18 : rowOk row14x18 = true := by decide +kernel
theorem rpr14x18 : (kls14.all fun q => pairF row14x18 q) = true := by decide +kernel
theorem rok14x19 : rowOk row14x19 = true := by decide +kernel
theorem rpr14x19 : (kls14.all fun q => pairF row14x19 q) = true := by decide +kernel
theorem rok14x20 : rowOk row14x20 = true := by decide +kernel
theorem rpr14x20 : (kls14.all fun q => pairF row14x20 q) = true := by decide +kernel
theorem rok14x21 : rowOk row14x21 = true := by decide +kernel
theorem rpr14x21 : (kls14.all fun q => pairF row14x21 q) = true := by decide +kernel
theorem rok14x22 : rowOk row14x22 = true := by decide +kernel
theorem rpr14x22 : (kls14.all fun q => pairF row14x22 q) = true := by decide +kernel
theorem rok14x23 : rowOk row14x23 = true := by decide +kernel
theorem rpr14x23 : (kls14.all fun q => pairF row14x23 q) = true := by decide +kernel
theorem rok14x24 : rowOk row14x24 = true := by decide +kernel
theorem rpr14x24 : (kls14.all fun q => pairF row14x24 q) = true := by decide +kernel
theorem rok14x25 : rowOk row14x25 = true := by decide +kernel
theorem rpr14x25 : (kls14.all fun q => pairF row14x25 q) = true := by decide +kernel
theorem rok14x26 : rowOk row14x26 = true := by decide +kernel
theorem rpr14x26 : (kls14.all fun q => pairF row14x26 q) = true := by decide +kernel
theorem rok14x27 : rowOk row14x27 = true := by decide +kernel
theorem rpr14x27 : (kls14.all fun q => pairF row14x27 q) = true := by decide +kernel
theorem rok14x28 : rowOk row14x28 = true := by decide +kernel
theorem rpr14x28 : (kls14.all fun q => pairF row14x28 q) = true := by decide +kernel
theorem rok14x29 : rowOk row14x29 = true := by decide +kernel
theorem rpr14x29 : (kls14.all fun q => pairF row14x29 q) = true := by decide +kernel
theorem klsok14 : ∀ r ∈ kls14, rowOk r = true := (ok_cons rok14x0 (ok_cons rok14x1 (ok_cons rok14x2 (ok_cons rok14x3 (ok_cons rok14x4 (ok_cons rok14x5 (ok_cons rok14x6 (ok_cons rok14x7 (ok_cons rok14x8 (ok_cons rok14x9 (ok_cons rok14x10 (ok_cons rok14x11 (ok_cons rok14x12 (ok_cons rok14x13 (ok_cons rok14x14 (ok_cons rok14x15 (ok_cons rok14x16 (ok_cons rok14x17 (ok_cons rok14x18 (ok_cons rok14x19 (ok_cons rok14x20 (ok_cons rok14x21 (ok_cons rok14x22 (ok_cons rok14x23 (ok_cons rok14x24 (ok_cons rok14x25 (ok_cons rok14x26 (ok_cons rok14x27 (ok_cons rok14x28 (ok_cons rok14x29 ok_nil))))))))))))))))))))))))))))))
theorem klspr14 : ∀ r ∈ kls14, ∀ q ∈ kls14, pairF r q = true := (pr_cons rpr14x0 (pr_cons rpr14x1 (pr_cons rpr14x2 (pr_cons rpr14x3 (pr_cons rpr14x4 (pr_cons rpr14x5 (pr_cons rpr14x6 (pr_cons rpr14x7 (pr_cons rpr14x8 (pr_cons rpr14x9 (pr_cons rpr14x10 (pr_cons rpr14x11 (pr_cons rpr14x12 (pr_cons rpr14x13 (pr_cons rpr14x14 (pr_cons rpr14x15 (pr_cons rpr14x16 (pr_cons rpr14x17 (pr_cons rpr14x18 (pr_cons rpr14x19 (pr_cons rpr14x20 (pr_cons rpr14x21 (pr_cons rpr14x22 (pr_cons rpr14x23 (pr_cons rpr14x24 (pr_cons rpr14x25 (pr_cons rpr14x26 (pr_cons rpr14x27 (pr_cons rpr14x28 (pr_cons rpr14x29 pr_nil))))))))))))))))))))))))))))))
noncomputable def row15x0 : Row := ([102,102,105,105,105],[([102,102,105,105,105],1),([102,105,102,105,105],-3),([102,105,105,102,105],3),([102,105,105,105,102],-2),([105,102,105,105,102],3),([105,105,102,105,102],-3),([105,105,105,102,102],1)],[([102,102,105,105,105],1)])
noncomputable def row15x1 : Row := ([102,105,102,105,105],[([102,105,102,105,105],1),([102,105,105,102,105],-3),([102,105,105,105,102],2),([105,102,102,105,105],-1),([105,102,105,102,105],4),([105,102,105,105,102],-3),([105,105,102,102,105],-1),([105,105,102,105,102],1)],[([102,102,105,105,105],3),([102,105,102,105,105],1)])
noncomputable def row15x2 : Row := ([102,105,105,102,105],[([102,105,105,102,105],1),([102,105,105,105,102],-1),([105,102,105,102,105],-2),([105,102,105,105,102],2),([105,105,102,102,105],1),([105,105,102,105,102],-1)],[([102,102,105,105,105],6),([102,105,102,105,105],3),([102,105,105,102,105],1)])
noncomputable def row15x3 : Row := ([102,105,105,105,102],[([102,105,105,105,102],1),([105,102,105,105,102],-3),([105,105,102,105,102],3),([105,105,105,102,102],-1)],[([102,102,105,105,105],2),([102,105,102,105,105],1),([102,105,105,102,105],1),([102,105,105,105,102],1)])
noncomputable def row15x4 : Row := ([105,102,102,105,105],[([105,102,102,105,105],1),([105,102,105,102,105],-2),([105,102,105,105,102],0),([105,105,102,105,102],2),([105,105,105,102,102],-1)],[([102,102,105,105,105],3),([102,105,102,105,105],1),([105,102,102,105,105],1)])
noncomputable def row15x5 : Row := ([105,102,105,102,105],[([105,102,105,102,105],1),([105,102,105,105,102],-1),([105,105,102,102,105],-1),([105,105,102,105,102],1)],[([102,102,105,105,105],6),([102,105,102,105,105],4),([102,105,105,102,105],2),([105,102,102,105,105],2),([105,102,105,102,105],1)])
noncomputable def row15x6 : Row := ([105,102,105,105,102],[([105,102,105,105,102],1),([105,105,102,105,102],-2),([105,105,105,102,102],1)],[([102,102,105,105,105],6),([102,105,102,105,105],4),([102,105,105,102,105],3),([102,105,105,105,102],3),([105,102,102,105,105],2),([105,102,105,102,105],1),([105,102,105,105,102],1)])
noncomputable def row15x7 : Row := ([105,105,102,102,105],[([105,105,102,102,105],1),([105,105,102,105,102],-2),([105,105,105,102,102],1)],[([102,102,105,105,105],3),([102,105,102,105,105],2),([102,105,105,102,105],1),([105,102,102,105,105],2),([105,102,105,102,105],1),([105,105,102,102,105],1)])
noncomputable def row15x8 : Row := ([105,105,102,105,102],[([105,105,102,105,102],1),([105,105,105,102,102],-1)],[([102,102,105,105,105],6),([102,105,102,105,105],5),([102,105,105,102,105],4),([102,105,105,105,102],3),([105,102,102,105,105],4),([105,102,105,102,105],3),([105,102,105,105,102],2),([105,105,102,102,105],2),([105,105,102,105,102],1)])
noncomputable def row15x9 : Row := ([105,105,105,102,102],[([105,105,105,102,102],1)],[([102,102,105,105,105],1),([102,105,102,105,105],1),([102,105,105,102,105],1),([102,105,105,105,102],1),([105,102,102,105,105],1),([105,102,105,102,105],1),([105,102,105,105,102],1),([105,105,102,102,105],1),([105,105,102,105,102],1),([105,105,105,102,102],1)])
noncomputable def kls15 : List Row := [row15x0, row15x1, row15x2, row15x3, row15x4, row15x5, row15x6, row15x7, row15x8, row15x9]
theorem rok15x0 : rowOk row15x0 = true := by decide +kernel
theorem rpr15x0 : (kls15.all fun q => pairF row15x0 q) = true := by decide +kernel
theorem rok15x1 : rowOk row15x1 = true := by decide +kernel
theorem rpr15x1 : (kls15.all fun q => pairF row15x1 q) = true := by decide +kernel
theorem rok15x2 : rowOk row15x2 = true := by decide +kernel
theorem rpr15x2 : (kls15.all fun q => pairF row15x2 q) = true := by decide +kernel
theorem rok15x3 : rowOk row15x3 = true := by decide +kernel
theorem rpr15x3 : (kls15.all fun q => pairF row15x3 q) = true := by decide +kernel
theorem rok15x4 : rowOk row15x4 = true := by decide +kernel
theorem rpr15x4 : (kls15.all fun q => pairF row15x4 q) = true := by decide +kernel
theorem rok15x5 : rowOk row15x5 = true := by decide +kernel
theorem rpr15x5 : (kls15.all fun q => pairF row15x5 q) = true := by decide +kernel
theorem rok15x6 : rowOk row15x6 = true := by decide +kernel
theorem rpr15x6 : (kls15.all fun q => pairF row15x6 q) = true := by decide +kernel
theorem rok15x7 : rowOk row15x7 = true := by decide +kernel
theorem rpr15x7 : (kls15.all fun q => pairF row15x7 q) = true := by decide +kernel
theorem rok15x8 : rowOk row15x8 = true := by decide +kernel
theorem rpr15x8 : (kls15.all fun q => pairF row15x8 q) = true := by decide +kernel
theorem rok15x9 : rowOk row15x9 = true := by decide +kernel
theorem rpr15x9 : (kls15.all fun q => pairF row15x9 q) = true := by decide +kernel
theorem klsok15 : ∀ r ∈ kls15, rowOk r = true := (ok_cons rok15x0 (ok_cons rok15x1 (ok_cons rok15x2 (ok_cons rok15x3 (ok_cons rok15x4 (ok_cons rok15x5 (ok_cons rok15x6 (ok_cons rok15x7 (ok_cons rok15x8 (ok_cons rok15x9 ok_nil))))))))))
theorem klspr15 : ∀ r ∈ kls15, ∀ q ∈ kls15, pairF r q = true := (pr_cons rpr15x0 (pr_cons rpr15x1 (pr_cons rpr15x2 (pr_cons rpr15x3 (pr_cons rpr15x4 (pr_cons rpr15x5 (pr_cons rpr15x6 (pr_cons rpr15x7 (pr_cons rpr15x8 (pr_cons rpr15x9 pr_nil))))))))))
noncomputable def row18x0 : Row := ([102,102,102,108,108],[([102,102,102,108,108],1),([102,102,108,102,108],-2),([102,102,108,108,102],-1),([102,108,102,108,102],4),([102,108,108,102,102],-1),([108,102,108,102,102],-2),([108,108,102,102,102],1)],[([102,102,102,108,108],1)])
noncomputable def row18x1 : Row := ([102,102,108,102,108],[([102,102,108,102,108],1),([102,102,108,108,102],-1),([102,108,102,102,108],-3),([102,108,102,108,102],4),([102,108,108,102,102],-1),([108,102,102,102,108],2),([108,102,102,108,102],-3),([108,102,108,102,102],1)],[([102,102,102,108,108],2),([102,102,108,102,108],1)])
noncomputable def row18x2 : Row := ([102,102,108,108,102],[([102,102,108,108,102],1),([102,108,102,108,102],-2),([102,108,108,102,102],0),([108,102,108,102,102],2),([108,108,102,102,102],-1)],[([102,102,102,108,108],3),([102,102,108,102,108],1),([102,102,108,108,102],1)])
noncomputable def row18x3 : Row := ([102,108,102,102,108],[([102,108,102,102,108],1),([102,108,102,108,102],-2),([102,108,108,102,102],1),([108,102,102,102,108],-1),([108,102,102,108,102],2),([108,102,108,102,102],-1)],[([102,102,102,108,108],6),([102,102,108,102,108],3),([102,108,102,102,108],1)])
noncomputable def row18x4 : Row := ([102,108,102,108,102],[([102,108,102,108,102],1),([102,108,108,102,102],-1),([108,102,102,108,102],-1),([108,102,108,102,102],1)],[([102,102,102,108,108],6),([102,102,108,102,108],4),([102,102,108,108,102],2),([102,108,102,102,108],2),([102,108,102,108,102],1)])
noncomputable def row18x5 : Row := ([102,108,108,102,102],[([102,108,108,102,102],1),([108,102,108,102,102],-2),([108,108,102,102,102],1)],[([102,102,102,108,108],3),([102,102,108,102,108],2),([102,102,108,108,102],2),([102,108,102,102,108],1),([102,108,102,108,102],1),([102,108,108,102,102],1)])
noncomputable def row18x6 : Row := ([108,102,102,102,108],[([108,102,102,102,108],1),([108,102,102,108,102],-3),([108,102,108,102,102],3),([108,108,102,102,102],-1)],[([102,102,102,108,108],2),([102,102,108,102,108],1),([102,108,102,102,108],1),([108,102,102,102,108],1)])
noncomputable def row18x7 : Row := ([108,102,102,108,102],[([108,102,102,108,102],1),([108,102,108,102,102],-2),([108,108,102,102,102],1)],[([102,102,102,108,108],6),([102,102,108,102,108],4),([102,102,108,108,102],2),([102,108,102,102,108],3),([102,108,102,108,102],1),([108,102,102,102,108],3),([108,102,102,108,102],1)])
noncomputable def row18x8 : Row := ([108,102,108,102,102],[([108,102,108,102,102],1),([108,108,102,102,102],-1)],[([102,102,102,108,108],6),([102,102,108,102,108],5),([102,102,108,108,102],4),([102,108,102,102,108],4),([102,108,102,108,102],3),([102,108,108,102,102],2),([108,102,102,102,108],3),([108,102,102,108,102],2),([108,102,108,102,102],1)])
noncomputable def row18x9 : Row := ([108,108,102,102,102],[([108,108,102,102,102],1)],[([102,102,102,108,108],1),([102,102,108,102,108],1),([102,102,108,108,102],1),([102,108,102,102,108],1),([102,108,102,108,102],1),([102,108,108,102,102],1),([108,102,102,102,108],1),([108,102,102,108,102],1),([108,102,108,102,102],1),([108,108,102,102,102],1)])
noncomputable def kls18 : List Row := [row18x0, row18x1, row18x2, row18x3, row18x4, row18x5, row18x6, row18x7, row18x8, row18x9]
theorem rok18x0 : rowOk row18x0 = true := by decide +kernel
theorem rpr18x0 : (kls18.all fun q => pairF row18x0 q) = true := by decide +kernel
theorem rok18x1 : rowOk row18x1 = true := by decide +kernel
theorem rpr18x1 : (kls18.all fun q => pairF row18x1 q) = true := by decide +kernel
theorem rok18x2 : rowOk row18x2 = true := by decide +kernel
theorem rpr18x2 : (kls18.all fun q => pairF row18x2 q) = true := by decide +kernel
theorem rok18x3 : rowOk row18x3 = true := by decide +kernel
theorem rpr18x3 : (kls18.all fun q => pairF row18x3 q) = true := by decide +kernel
theorem rok18x4 : rowOk row18x4 = true := by decide +kernel
theorem rpr18x4 : (kls18.all fun q => pairF row18x4 q) = true := by decide +kernel
theorem rok18x5 : rowOk row18x5 = true := by decide +kernel
theorem rpr18x5 : (kls18.all fun q => pairF row18x5 q) = true := by decide +kernel
theorem rok18x6 : rowOk row18x6 = true := by decide +kernel
theorem rpr18x6 : (kls18.all fun q => pairF row18x6 q) = true := by decide +kernel
theorem rok18x7 : rowOk row18x7 = true := by decide +kernel
theorem rpr18x7 : (kls18.all fun q => pairF row18x7 q) = true := by decide +kernel
theorem rok18x8 : rowOk row18x8 = true := by decide +kernel
theorem rpr18x8 : (kls18.all fun q => pairF row18x8 q) = true := by decide +kernel
theorem rok18x9 : rowOk row18x9 = true := by decide +kernel
theorem rpr18x9 : (kls18.all fun q => pairF row18x9 q) = true := by decide +kernel
theorem klsok18 : ∀ r ∈ kls18, rowOk r = true := (ok_cons rok18x0 (ok_cons rok18x1 (ok_cons rok18x2 (ok_cons rok18x3 (ok_cons rok18x4 (ok_cons rok18x5 (ok_cons rok18x6 (ok_cons rok18x7 (ok_cons rok18x8 (ok_cons rok18x9 ok_nil))))))))))
theorem klspr18 : ∀ r ∈ kls18, ∀ q ∈ kls18, pairF r q = true := (pr_cons rpr18x0 (pr_cons rpr18x1 (pr_cons rpr18x2 (pr_cons rpr18x3 (pr_cons rpr18x4 (pr_cons rpr18x5 (pr_cons rpr18x6 (pr_cons rpr18x7 (pr_cons rpr18x8 (pr_cons rpr18x9 pr_nil))))))))))
noncomputable def row19x0 : Row := ([102,102,102,105,108],[([102,102,102,105,108],1),([102,102,102,108,105],-1),([102,102,105,108,102],-3),([102,102,108,105,102],3),([102,105,108,102,102],3),([102,108,105,102,102],-3),([105,108,102,102,102],-1),([108,105,102,102,102],1)],[([102,102,102,105,108],1)])
noncomputable def row19x1 : Row := ([102,102,102,108,105],[([102,102,102,108,105],1),([102,102,105,102,108],-1),([102,102,105,108,102],1),([102,102,108,102,105],-1),([102,102,108,105,102],-2),([102,105,102,108,102],2),([102,105,108,102,102],-2),([102,108,102,105,102],2),([102,108,105,102,102],1),([105,102,108,102,102],-1),([105,108,102,102,102],1),([108,102,105,102,102],-1)],[([102,102,102,105,108],1),([102,102,102,108,105],1)])
noncomputable def row19x2 : Row := ([102,102,105,102,108],[([102,102,105,102,108],1),([102,102,105,108,102],-1),([102,102,108,102,105],-1),([102,102,108,105,102],1),([102,105,102,102,108],-1),([102,105,102,108,102],0),([102,105,108,102,102],1),([102,108,102,102,105],1),([102,108,102,105,102],0),([102,108,105,102,102],-1),([105,102,102,108,102],1),([105,102,108,102,102],-1),([108,102,102,105,102],-1),([108,102,105,102,102],1)],[([102,102,102,105,108],1),([102,102,102,108,105],1),([102,102,105,102,108],1)])
noncomputable def row19x3 : Row := ([102,102,105,108,102],[([102,102,105,108,102],1),([102,102,108,105,102],-1),([102,105,108,102,102],-2),([102,108,105,102,102],2),([105,108,102,102,102],1),([108,105,102,102,102],-1)],[([102,102,102,105,108],3),([102,102,105,102,108],1),([102,102,105,108,102],1)])
noncomputable def row19x4 : Row := ([102,102,108,102,105],[([102,102,108,102,105],1),([102,102,108,105,102],-1),([102,105,102,102,108],-1),([102,105,102,108,102],2),([102,105,108,102,102],-1),([102,108,102,102,105],-2),([102,108,102,105,102],2),([105,102,102,102,108],1),([105,102,102,108,102],-2),([105,102,108,102,102],1),([108,102,102,102,105],1),([108,102,102,105,102],-1)],[([102,102,102,105,108],2),([102,102,102,108,105],2),([102,102,105,102,108],1),([102,102,108,102,105],1)])
noncomputable def row19x5 : Row := ([102,102,108,105,102],[([102,102,108,105,102],1),([102,105,102,108,102],-1),([102,105,108,102,102],1),([102,108,102,105,102],-1),([102,108,105,102,102],-1),([105,102,108,102,102],1),([105,108,102,102,102],-1),([108,102,105,102,102],1)],[([102,102,102,105,108],3),([102,102,102,108,105],3),([102,102,105,102,108],1),([102,102,105,108,102],1),([102,102,108,102,105],1),([102,102,108,105,102],1)])
noncomputable def row19x6 : Row := ([102,105,102,102,108],[([102,105,102,102,108],1),([102,105,102,108,102],-2),([102,105,108,102,102],1),([105,102,102,102,108],-1),([105,102,102,108,102],2),([105,102,108,102,102],-1)],[([102,102,102,105,108],3),([102,102,102,108,105],3),([102,102,105,102,108],2),([102,102,108,102,105],1),([102,105,102,102,108],1)])
noncomputable def row19x7 : Row := ([102,105,102,108,102],[([102,105,102,108,102],1),([102,105,108,102,102],-1),([102,108,102,105,102],-1),([102,108,105,102,102],1),([105,102,102,108,102],-1),([105,102,108,102,102],1),([108,102,102,105,102],1),([108,102,105,102,102],-1)],[([102,102,102,105,108],3),([102,102,102,108,105],3),([102,102,105,102,108],3),([102,102,105,108,102],1),([102,102,108,102,105],1),([102,102,108,105,102],1),([102,105,102,102,108],2),([102,105,102,108,102],1)])
noncomputable def row19x8 : Row := ([102,105,108,102,102],[([102,105,108,102,102],1),([102,108,105,102,102],-1),([105,108,102,102,102],-1),([108,105,102,102,102],1)],[([102,102,102,105,108],3),([102,102,105,102,108],2),([102,102,105,108,102],2),([102,105,102,102,108],1),([102,105,102,108,102],1),([102,105,108,102,102],1)])
noncomputable def row19x9 : Row := ([102,108,102,102,105],[([102,108,102,102,105],1),([102,108,102,105,102],-2),([102,108,105,102,102],1),([108,102,102,102,105],-1),([108,102,102,105,102],2),([108,102,105,102,102],-1)],[([102,102,102,105,108],3),([102,102,102,108,105],3),([102,102,105,102,108],1),([102,102,108,102,105],2),([102,108,102,102,105],1)])
noncomputable def row19x10 : Row := ([102,108,102,105,102],[([102,108,102,105,102],1),([102,108,105,102,102],-1),([108,102,102,105,102],-1),([108,102,105,102,102],1)],[([102,102,102,105,108],6),([102,102,102,108,105],6),([102,102,105,102,108],4),([102,102,105,108,102],2),([102,102,108,102,105],4),([102,102,108,105,102],2),([102,105,102,102,108],2),([102,105,102,108,102],1),([102,108,102,102,105],2),([102,108,102,105,102],1)])
noncomputable def row19x11 : Row := ([102,108,105,102,102],[([102,108,105,102,102],1),([105,102,108,102,102],-1),([105,108,102,102,102],1),([108,102,105,102,102],-1)],[([102,102,102,105,108],3),([102,102,102,108,105],3),([102,102,105,102,108],2),([102,102,105,108,102],2),([102,102,108,102,105],2),([102,102,108,105,102],2),([102,105,102,102,108],1),([102,105,102,108,102],1),([102,105,108,102,102],1),([102,108,102,102,105],1),([102,108,102,105,102],1),([102,108,105,102,102],1)])
noncomputable def row19x12 : Row := ([105,102,102,102,108],[([105,102,102,102,108],1),([105,102,102,108,102],-3),([105,102,108,102,102],3),([105,108,102,102,102],-1)],[([102,102,102,105,108],1),([102,102,102,108,105],1),([102,102,105,102,108],1),([102,105,102,102,108],1),([105,102,102,102,108],1)])
noncomputable def row19x13 : Row := ([105,102,102,108,102],[([105,102,102,108,102],1),([105,102,108,102,102],-2),([105,108,102,102,102],1)],[([102,102,102,105,108],3),([102,102,102,108,105],3),([102,102,105,102,108],3),([102,102,105,108,102],1),([102,102,108,102,105],1),([102,102,108,105,102],1),([102,105,102,102,108],3),([102,105,102,108,102],1),([105,102,102,102,108],3),([105,102,102,108,102],1)])
noncomputable def row19x14 : Row := ([105,102,108,102,102],[([105,102,108,102,102],1),([105,108,102,102,102],-1)],[([102,102,102,105,108],3),([102,102,102,108,105],3),([102,102,105,102,108],3),([102,102,105,108,102],2),([102,102,108,102,105],2),([102,102,108,105,102],2),([102,105,102,102,108],3),([102,105,102,108,102],2),([102,105,108,102,102],1),([102,108,102,102,105],1),([102,108,102,105,102],1),([102,108,105,102,102],1),([105,102,102,102,108],3),([105,102,102,108,102],2),([105,102,108,102,102],1)])
noncomputable def row19x15 : Row := ([105,108,102,102,102],[([105,108,102,102,102],1),([108,105,102,102,102],-1)],[([102,102,102,105,108],1),([102,102,105,102,108],1),([102,102,105,108,102],1),([102,105,102,102,108],1),([102,105,102,108,102],1),([102,105,108,102,102],1),([105,102,102,102,108],1),([105,102,102,108,102],1),([105,102,108,102,102],1),([105,108,102,102,102],1)])
noncomputable def row19x16 : Row := ([108,102,102,102,105],[([108,102,102,102,105],1),([108,102,102,105,102],-3),([108,102,105,102,102],3),([108,105,102,102,102],-1)],[([102,102,102,105,108],1),([102,102,102,108,105],1),([102,102,108,102,105],1),([102,108,102,102,105],1),([108,102,102,102,105],1)])
noncomputable def row19x17 : Row := ([108,102,102,105,102],[([108,102,102,105,102],1),([108,102,105,102,102],-2),([108,105,102,102,102],1)],[([102,102,102,105,108],3),([102,102,102,108,105],3),([102,102,105,102,108],1),([102,102,105,108,102],1),([102,102,108,102,105],3),([102,102,108,105,102],1),([102,108,102,102,105],3),([102,108,102,105,102],1),([108,102,102,102,105],3),([108,102,102,105,102],1)])
noncomputable def row19x18 : Row := ([108,102,105,102,102],[([108,102,105,102,102],1),([108,105,102,102,102],-1)],[([102,102,102,105,108],3),([102,102,102,108,105],3),([102,102,105,102,108],2),([102,102,105,108,102],2),([102,102,108,102,105],3),([102,102,108,105,102],2),([102,105,102,102,108],1),([102,105,102,108,102],1),([102,105,108,102,102],1),([102,108,102,102,105],3),([102,108,102,105,102],2),([102,108,105,102,102],1),([108,102,102,102,105],3),([108,102,102,105,102],2),([108,102,105,102,102],1)])
noncomputable def row19x19 : Row := ([108,105,102,102,102],[([108,105,102,102,102],1)],[([102,102,102,105,108],1),([102,102,102,108,105],1),([102,102,105,102,108],1),([102,102,105,108,102],1),([102,102,108,102,105],1),([102,102,108,105,102],1),([102,105,102,102,108],1),([102,105,102,108,102],1),([102,105,108,102,102],1),([102,108,102,102,105],1),([102,108,102,105,102],1),([102,108,105,102,102],1),([105,102,102,102,108],1),([105,102,102,108,102],1),([105,102,108,102,102],1),([105,108,102,102,102],1),([108,102,102,102,105],1),([108,102,102,105,102],1),([108,102,105,102,102],1),([108,105,102,102,102],1)])
noncomputable def kls19 : List Row := [row19x0, row19x1, row19x2, row19x3, row19x4, row19x5, row19x6, row19x7, row19x8, row19x9, row19x10, row19x11, row19x12, row19x13, row19x14, row19x15, row19x16, row19x17, row19x18, row19x19]
theorem rok19x0 : rowOk row19x0 = true := by decide +kernel
theorem rpr19x0 : (kls19.all fun q => pairF row19x0 q) = true := by decide +kernel
theorem rok19x1 : rowOk row19x1 = true := by decide +kernel
theorem rpr19x1 : (kls19.all fun q => pairF row19x1 q) = true := by decide +kernel
theorem rok19x2 : rowOk row19x2 = true := by decide +kernel
theorem rpr19x2 : (kls19.all fun q => pairF row19x2 q) = true := by decide +kernel
theorem rok19x3 : rowOk row19x3 = true := by decide +kernel
theorem rpr19x3 : (kls19.all fun q => pairF row19x3 q) = true := by decide +kernel
theorem rok19x4 : rowOk row19x4 = true := by decide +kernel
theorem rpr19x4 : (kls19.all fun q => pairF row19x4 q) = true := by decide +kernel
theorem rok19x5 : rowOk row19x5 = true := by decide +kernel
theorem rpr19x5 : (kls19.all fun q => pairF row19x5 q) = true := by decide +kernel
theorem rok19x6 : rowOk row19x6 = true := by decide +kernel
theorem rpr19x6 : (kls19.all fun q => pairF row19x6 q) = true := by decide +kernel
theorem rok19x7 : rowOk row19x7 = true := by decide +kernel
theorem rpr19x7 : (kls19.all fun q => pairF row19x7 q) = true := by decide +kernel
theorem rok19x8 : rowOk row19x8 = true := by decide +kernel
theorem rpr19x8 : (kls19.all fun q => pairF row19x8 q) = true := by decide +kernel
theorem rok19x9 : rowOk row19x9 = true := by decide +kernel
theorem rpr19x9 : (kls19.all fun q => pairF row19x9 q) = true := by decide +kernel
theorem rok19x10 : rowOk row19x10 = true := by decide +kernel
theorem rpr19x10 : (kls19.all fun q => pairF row19x10 q) = true := by decide +kernel
theorem rok19x11 : rowOk row19x11 = true := by decide +kernel
theorem rpr19x11 : (kls19.all fun q => pairF row19x11 q) = true := by decide +kernel
theorem rok19x12 : rowOk row19x12 = true := by decide +kernel
theorem rpr19x12 : (kls19.all fun q => pairF row19x12 q) = true := by decide +kernel
theorem rok19x13 : rowOk row19x13 = true := by decide +kernel
theorem rpr19x13 : (kls19.all fun q => pairF row19x13 q) = true := by decide +kernel
theorem rok19x14 : rowOk row19x14 = true := by decide +kernel
theorem rpr19x14 : (kls19.all fun q => pairF row19x14 q) = true := by decide +kernel
theorem rok19x15 : rowOk row19x15 = true := by decide +kernel
theorem rpr19x15 : (kls19.all fun q => pairF row19x15 q) = true := by decide +kernel
theorem rok19x16 : rowOk row19x16 = true := by decide +kernel
theorem rpr19x16 : (kls19.all fun q => pairF row19x16 q) = true := by decide +kernel
theorem rok19x17 : rowOk row19x17 = true := by decide +kernel
theorem rpr19x17 : (kls19.all fun q => pairF row19x17 q) = true := by decide +kernel
theorem rok19x18 : rowOk row19x18 = true := by decide +kernel
theorem rpr19x18 : (kls19.all fun q => pairF row19x18 q) = true := by decide +kernel
theorem rok19x19 : rowOk row19x19 = true := by decide +kernel
theorem rpr19x19 : (kls19.all fun q => pairF row19x19 q) = true := by decide +kernel
theorem klsok19 : ∀ r ∈ kls19, rowOk r = true := (ok_cons rok19x0 (ok_cons rok19x1 (ok_cons rok19x2 (ok_cons rok19x3 (ok_cons rok19x4 (ok_cons rok19x5 (ok_cons rok19x6 (ok_cons rok19x7 (ok_cons rok19x8 (ok_cons rok19x9 (ok_cons rok19x10 (ok_cons rok19x11 (ok_cons rok19x12 (ok_cons rok19x13 (ok_cons rok19x14 (ok_cons rok19x15 (ok_cons rok19x16 (ok_cons rok19x17 (ok_cons rok19x18 (ok_cons rok19x19 ok_nil))))))))))))))))))))
theorem klspr19 : ∀ r ∈ kls19, ∀ q ∈ kls19, pairF r q = true := (pr_cons rpr19x0 (pr_cons rpr19x1 (pr_cons rpr19x2 (pr_cons rpr19x3 (pr_cons rpr19x4 (pr_cons rpr19x5 (pr_cons rpr19x6 (pr_cons rpr19x7 (pr_cons rpr19x8 (pr_cons rpr19x9 (pr_cons rpr19x10 (pr_cons rpr19x11 (pr_cons rpr19x12 (pr_cons rpr19x13 (pr_cons rpr19x14 (pr_cons rpr19x15 (pr_cons rpr19x16 (pr_cons rpr19x17 (pr_cons rpr19x18 (pr_cons rpr19x19 pr_nil))))))))))))))))))))
noncomputable def row20x0 : Row := ([102,102,102,105,105],[([102,102,102,105,105],1),([102,102,105,102,105],-2),([102,102,105,105,102],-1),([102,105,102,105,102],4),([102,105,105,102,102],-1),([105,102,105,102,102],-2),([105,105,102,102,102],1)],[([102,102,102,105,105],1)])
noncomputable def row20x1 : Row := ([102,102,105,102,105],[([102,102,105,102,105],1),([102,102,105,105,102],-1),([102,105,102,102,105],-3),([102,105,102,105,102],4),([102,105,105,102,102],-1),([105,102,102,102,105],2),([105,102,102,105,102],-3),([105,102,105,102,102],1)],[([102,102,102,105,105],2),([102,102,105,102,105],1)])
noncomputable def row20x2 : Row := ([102,102,105,105,102],[([102,102,105,105,102],1),([102,105,102,105,102],-2),([102,105,105,102,102],0),([105,102,105,102,102],2),([105,105,102,102,102],-1)],[([102,102,102,105,105],3),([102,102,105,102,105],1),([102,102,105,105,102],1)])
noncomputable def row20x3 : Row := ([102,105,102,102,105],[([102,105,102,102,105],1),([102,105,102,105,102],-2),([102,105,105,102,102],1),([105,102,102,102,105],-1),([105,102,102,105,102],2),([105,102,105,102,102],-1)],[([102,102,102,105,105],6),([102,102,105,102,105],3),([102,105,102,102,105],1)])
noncomputable def row20x4 : Row := ([102,105,102,105,102],[([102,105,102,105,102],1),([102,105,105,102,102],-1),([105,102,102,105,102],-1),([105,102,105,102,102],1)],[([102,102,102,105,105],6),([102,102,105,102,105],4),([102,102,105,105,102],2),([102,105,102,102,105],2),([102,105,102,105,102],1)])
noncomputable def row20x5 : Row := ([102,105,105,102,102],[([102,105,105,102,102],1),([105,102,105,102,102],-2),([105,105,102,102,102],1)],[([102,102,102,105,105],3),([102,102,105,102,105],2),([102,102,105,105,102],2),([102,105,102,102,105],1),([102,105,102,105,102],1),([102,105,105,102,102],1)])
noncomputable def row20x6 : Row := ([105,102,102,102,105],[([105,102,102,102,105],1),([105,102,102,105,102],-3),([105,102,105,102,102],3),([105,105,102,102,102],-1)],[([102,102,102,105,105],2),([102,102,105,102,105],1),([102,105,102,102,105],1),([105,102,102,102,105],1)])
noncomputable def row20x7 : Row := ([105,102,102,105,102],[([105,102,102,105,102],1),([105,102,105,102,102],-2),([105,105,102,102,102],1)],[([102,102,102,105,105],6),([102,102,105,102,105],4),([102,102,105,105,102],2),([102,105,102,102,105],3),([102,105,102,105,102],1),([105,102,102,102,105],3),([105,102,102,105,102],1)])
noncomputable def row20x8 : Row := ([105,102,105,102,102],[([105,102,105,102,102],1),([105,105,102,102,102],-1)],[([102,102,102,105,105],6),([102,102,105,102,105],5),([102,102,105,105,102],4),([102,105,102,102,105],4),([102,105,102,105,102],3),([102,105,105,102,102],2),([105,102,102,102,105],3),([105,102,102,105,102],2),([105,102,105,102,102],1)])
noncomputable def row20x9 : Row := ([105,105,102,102,102],[([105,105,102,102,102],1)],[([102,102,102,105,105],1),([102,102,105,102,105],1),([102,102,105,105,102],1),([102,105,102,102,105],1),([102,105,102,105,102],1),([102,105,105,102,102],1),([105,102,102,102,105],1),([105,102,102,105,102],1),([105,102,105,102,102],1),([105,105,102,102,102],1)])
noncomputable def kls20 : List Row := [row20x0, row20x1, row20x2, row20x3, row20x4, row20x5, row20x6, row20x7, row20x8, row20x9]
theorem rok20x0 : rowOk row20x0 = true := by decide +kernel
theorem rpr20x0 : (kls20.all fun q => pairF row20x0 q) = true := by decide +kernel
theorem rok20x1 : rowOk row20x1 = true := by decide +kernel
theorem rpr20x1 : (kls20.all fun q => pairF row20x1 q) = true := by decide +kernel
theorem rok20x2 : rowOk row20x2 = true := by decide +kernel
theorem rpr20x2 : (kls20.all fun q => pairF row20x2 q) = true := by decide +kernel
theorem rok20x3 : rowOk row20x3 = true := by decide +kernel
theorem rpr20x3 : (kls20.all fun q => pairF row20x3 q) = true := by decide +kernel
theorem rok20x4 : rowOk row20x4 = true := by decide +kernel
theorem rpr20x4 : (kls20.all fun q => pairF row20x4 q) = true := by decide +kernel
theorem rok20x5 : rowOk row20x5 = true := by decide +kernel
theorem rpr20x5 : (kls20.all fun q => pairF row20x5 q) = true := by decide +kernel
theorem rok20x6 : rowOk row20x6 = true := by decide +kernel
theorem rpr20x6 : (kls20.all fun q => pairF row20x6 q) = true := by decide +kernel
theorem rok20x7 : rowOk row20x7 = true := by decide +kernel
theorem rpr20x7 : (kls20.all fun q => pairF row20x7 q) = true := by decide +kernel
theorem rok20x8 : rowOk row20x8 = true := by decide +kernel
theorem rpr20x8 : (kls20.all fun q => pairF row20x8 q) = true := by decide +kernel
theorem rok20x9 : rowOk row20x9 = true := by decide +kernel
theorem rpr20x9 : (kls20.all fun q => pairF row20x9 q) = true := by decide +kernel
theorem klsok20 : ∀ r ∈ kls20, rowOk r = true := (ok_cons rok20x0 (ok_cons rok20x1 (ok_cons rok20x2 (ok_cons rok20x3 (ok_cons rok20x4 (ok_cons rok20x5 (ok_cons rok20x6 (ok_cons rok20x7 (ok_cons rok20x8 (ok_cons rok20x9 ok_nil))))))))))
theorem klspr20 : ∀ r ∈ kls20, ∀ q ∈ kls20, pairF r q = true := (pr_cons rpr20x0 (pr_cons rpr20x1 (pr_cons rpr20x2 (pr_cons rpr20x3 (pr_cons rpr20x4 (pr_cons rpr20x5 (pr_cons rpr20x6 (pr_cons rpr20x7 (pr_cons rpr20x8 (pr_cons rpr20x9 pr_nil))))))))))
noncomputable def row24x0 : Row := ([102,102,102,102,108],[([102,102,102,102,108],1),([102,102,102,108,102],-4),([102,102,108,102,102],6),([102,108,102,102,102],-4),([108,102,102,102,102],1)],[([102,102,102,102,108],1)])
noncomputable def row24x1 : Row := ([102,102,102,108,102],[([102,102,102,108,102],1),([102,102,108,102,102],-3),([102,108,102,102,102],3),([108,102,102,102,102],-1)],[([102,102,102,102,108],4),([102,102,102,108,102],1)])
noncomputable def row24x2 : Row := ([102,102,108,102,102],[([102,102,108,102,102],1),([102,108,102,102,102],-2),([108,102,102,102,102],1)],[([102,102,102,102,108],6),([102,102,102,108,102],3),([102,102,108,102,102],1)])
noncomputable def row24x3 : Row := ([102,108,102,102,102],[([102,108,102,102,102],1),([108,102,102,102,102],-1)],[([102,102,102,102,108],4),([102,102,102,108,102],3),([102,102,108,102,102],2),([102,108,102,102,102],1)])
noncomputable def row24x4 : Row := ([108,102,102,102,102],[([108,102,102,102,102],1)],[([102,102,102,102,108],1),([102,102,102,108,102],1),([102,102,108,102,102],1),([102,108,102,102,102],1),([108,102,102,102,102],1)])
noncomputable def kls24 : List Row := [row24x0, row24x1, row24x2, row24x3, row24x4]
theorem rok24x0 : rowOk row24x0 = true := by decide +kernel
theorem rpr24x0 : (kls24.all fun q => pairF row24x0 q) = true := by decide +kernel
theorem rok24x1 : rowOk row24x1 = true := by decide +kernel
theorem rpr24x1 : (kls24.all fun q => pairF row24x1 q) = true := by decide +kernel
theorem rok24x2 : rowOk row24x2 = true := by decide +kernel
theorem rpr24x2 : (kls24.all fun q => pairF row24x2 q) = true := by decide +kernel
theorem rok24x3 : rowOk row24x3 = true := by decide +kernel
theorem rpr24x3 : (kls24.all fun q => pairF row24x3 q) = true := by decide +kernel
theorem rok24x4 : rowOk row24x4 = true := by decide +kernel
theorem rpr24x4 : (kls24.all fun q => pairF row24x4 q) = true := by decide +kernel
theorem klsok24 : ∀ r ∈ kls24, rowOk r = true := (ok_cons rok24x0 (ok_cons rok24x1 (ok_cons rok24x2 (ok_cons rok24x3 (ok_cons rok24x4 ok_nil)))))
theorem klspr24 : ∀ r ∈ kls24, ∀ q ∈ kls24, pairF r q = true := (pr_cons rpr24x0 (pr_cons rpr24x1 (pr_cons rpr24x2 (pr_cons rpr24x3 (pr_cons rpr24x4 pr_nil)))))
noncomputable def row25x0 : Row := ([102,102,102,102,105],[([102,102,102,102,105],1),([102,102,102,105,102],-4),([102,102,105,102,102],6),([102,105,102,102,102],-4),([105,102,102,102,102],1)],[([102,102,102,102,105],1)])
noncomputable def row25x1 : Row := ([102,102,102,105,102],[([102,102,102,105,102],1),([102,102,105,102,102],-3),([102,105,102,102,102],3),([105,102,102,102,102],-1)],[([102,102,102,102,105],4),([102,102,102,105,102],1)])
noncomputable def row25x2 : Row := ([102,102,105,102,102],[([102,102,105,102,102],1),([102,105,102,102,102],-2),([105,102,102,102,102],1)],[([102,102,102,102,105],6),([102,102,102,105,102],3),([102,102,105,102,102],1)])
noncomputable def row25x3 : Row := ([102,105,102,102,102],[([102,105,102,102,102],1),([105,102,102,102,102],-1)],[([102,102,102,102,105],4),([102,102,102,105,102],3),([102,102,105,102,102],2),([102,105,102,102,102],1)])
noncomputable def row25x4 : Row := ([105,102,102,102,102],[([105,102,102,102,102],1)],[([102,102,102,102,105],1),([102,102,102,105,102],1),([102,102,105,102,102],1),([102,105,102,102,102],1),([105,102,102,102,102],1)])
noncomputable def kls25 : List Row := [row25x0, row25x1, row25x2, row25x3, row25x4]
theorem rok25x0 : rowOk row25x0 = true := by decide +kernel
theorem rpr25x0 : (kls25.all fun q => pairF row25x0 q) = true := by decide +kernel
theorem rok25x1 : rowOk row25x1 = true := by decide +kernel
theorem rpr25x1 : (kls25.all fun q => pairF row25x1 q) = true := by decide +kernel
theorem rok25x2 : rowOk row25x2 = true := by decide +kernel
theorem rpr25x2 : (kls25.all fun q => pairF row25x2 q) = true := by decide +kernel
theorem rok25x3 : rowOk row25x3 = true := by decide +kernel
theorem rpr25x3 : (kls25.all fun q => pairF row25x3 q) = true := by decide +kernel
theorem rok25x4 : rowOk row25x4 = true := by decide +kernel
theorem rpr25x4 : (kls25.all fun q => pairF row25x4 q) = true := by decide +kernel
theorem klsok25 : ∀ r ∈ kls25, rowOk r = true := (ok_cons rok25x0 (ok_cons rok25x1 (ok_cons rok25x2 (ok_cons rok25x3 (ok_cons rok25x4 ok_nil)))))
theorem klspr25 : ∀ r ∈ kls25, ∀ q ∈ kls25, pairF r q = true := (pr_cons rpr25x0 (pr_cons rpr25x1 (pr_cons rpr25x2 (pr_cons rpr25x3 (pr_cons rpr25x4 pr_nil)))))
noncomputable def row30x0 : Row := ([102,102,102,102,102],[([102,102,102,102,102],1)],[([102,102,102,102,102],1)])
noncomputable def kls30 : List Row := [row30x0]
theorem rok30x0 : rowOk row30x0 = true := by decide +kernel
theorem rpr30x0 : (kls30.all fun q => pairF row30x0 q) = true := by decide +kernel
theorem klsok30 : ∀ r ∈ kls30, rowOk r = true := (ok_cons rok30x0 ok_nil)
theorem klspr30 : ∀ r ∈ kls30, ∀ q ∈ kls30, pairF r q = true := (pr_cons rpr30x0 pr_nil)
noncomputable def tab : List (List Row) := [kls0, kls1, kls2, kls3, kls4, kls5, kls6, kls7, kls8, kls9, kls10, [], kls12, kls13, kls14, kls15, [], [], kls18, kls19, kls20, [], [], [], kls24, kls25, [], [], [], [], kls30]
theorem tab_ok : ∀ c ∈ tab, (∀ r ∈ c, rowOk r = true) ∧ ∀ r ∈ c, ∀ q ∈ c, pairF r q = true := (tab_cons klsok0 klspr0 (tab_cons klsok1 klspr1 (tab_cons klsok2 klspr2 (tab_cons klsok3 klspr3 (tab_cons klsok4 klspr4 (tab_cons klsok5 klspr5 (tab_cons klsok6 klspr6 (tab_cons klsok7 klspr7 (tab_cons klsok8 klspr8 (tab_cons klsok9 klspr9 (tab_cons klsok10 klspr10 (tab_cons ok_nil (fun r m => nomatch m) (tab_cons klsok12 klspr12 (tab_cons klsok13 klspr13 (tab_cons klsok14 klspr14 (tab_cons klsok15 klspr15 (tab_cons ok_nil (fun r m => nomatch m) (tab_cons ok_nil (fun r m => nomatch m) (tab_cons klsok18 klspr18 (tab_cons klsok19 klspr19 (tab_cons klsok20 klspr20 (tab_cons ok_nil (fun r m => nomatch m) (tab_cons ok_nil (fun r m => nomatch m) (tab_cons ok_nil (fun r m => nomatch m) (tab_cons klsok24 klspr24 (tab_cons klsok25 klspr25 (tab_cons ok_nil (fun r m => nomatch m) (tab_cons ok_nil (fun r m => nomatch m) (tab_cons ok_nil (fun r m => nomatch m) (tab_cons ok_nil (fun r m => nomatch m) (tab_cons klsok30 klspr30 tab_nil)))))))))))))))))))))))))))))))
theorem tab_has : (words5.all fun u => (tab.getD (cls u) []).any fun r => eqb r.1 u) = true := by decide +kernel
end Mine

set_option maxRecDepth 100000
namespace Mine
theorem cls_perm {u v : List Nat} (h : v.Perm u) : cls v = cls u := by unfold cls; rw [h.count_eq, h.count_eq]
theorem plainLaw : PlainLaw := by
  intro u v hu hv cu cv hp
  have mu := mem_words 5 u hu cu
  have mv := mem_words 5 v hv cv
  have a1 := List.all_eq_true.mp tab_has u mu
  have a2 := List.all_eq_true.mp tab_has v mv
  rw [cls_perm hp] at a2
  rw [List.getD_eq_getElem?_getD] at a1 a2
  cases hc : tab[cls u]? with
  | none => rw [hc] at a1; cases a1
  | some c =>
    rw [hc] at a1 a2
    obtain ⟨r, mr, er⟩ := List.any_eq_true.mp a1
    obtain ⟨q, mq, eq⟩ := List.any_eq_true.mp a2
    have er := (eqb_iff _ _).mp er
    have eq := (eqb_iff _ _).mp eq
    obtain ⟨k1, k2⟩ := tab_ok c (List.mem_of_getElem? hc)
    have := row_pok (k1 r mr) (k1 q mq) (k2 r mr r mr) (k2 r mr q mq) (k2 q mq r mr) (k2 q mq q mq) (er ▸ hu) (eq ▸ hv) (er ▸ cu) (eq ▸ cv)
    rw [er, eq] at this
    exact this
end Mine

theorem PySem.Challenge.cw_uc0026_01_holds : PySem.Challenge.rw_uc0026_01.Holds := by
  exact Mine.holds_of_walk (Mine.walk Mine.plainLaw Mine.prepLaw)
