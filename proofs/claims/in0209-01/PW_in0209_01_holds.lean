import PyProof.Rows.All
import Wide.All
import OpenK.AllK
import Wide.FinOn
import PyProof.TupleIter
import PyProof.MinMaxWalk
import PyProof.CollectWalk
import PyProof.EnumStmt
import PyProof.EnumMake
import PyProof.EqAt
import PyProof.StrOps
import PyProof.ZipIter
import PyProof.TupleOfGen
import PyProof.SetRoads
import Wide.Seal
import KE.KSlice
import PySem.Challenge.RW_in0209_01
set_option Elab.async false
set_option compiler.extract_closed false
section partHa
open PySem PySem.W PyProof.Rows
set_option Elab.async false
namespace Mine
set_option maxRecDepth 100000
set_option maxHeartbeats 8000000
/-- the text's program, its statements, the function objects that its defs make -/
abbrev PW : Program := PySem.Challenge.pw_in0209_01
noncomputable def fF (c : Value) (s : Stmt) (qn : Str) (g : Addr) (cl : List (Str × Addr)) (d k doc pm : Value) (an : Option Addr) (cd ct : Value) (bi : Addr) : Obj := match s with
  | .FunctionDef name args body _ _ _ scope _ _ _ => ⟨c, none, .func ⟨name, qn, args, .stmts body, scope, g, cl, d, k, doc, pm, an, cd, ct, bi⟩, #[]⟩
  | _ => default
noncomputable abbrev fO := fF (.type "function")
noncomputable abbrev fC := fF .none
noncomputable abbrev en (P : Params) (x : Str) (t : Nat) (v : Value) : DictEntry := ⟨PyData.keyHash P x, .str x t, v⟩
noncomputable def L0 : {s : Stmt // PW.main.body[0]? = some s} := ⟨_, rfl⟩
noncomputable def L2 : {s : Stmt // PW.main.body[2]? = some s} := ⟨_, rfl⟩
noncomputable def L3 : {s : Stmt // PW.main.body[3]? = some s} := ⟨_, rfl⟩
noncomputable def L4 : {s : Stmt // PW.main.body[4]? = some s} := ⟨_, rfl⟩
noncomputable def L5 : {s : Stmt // PW.main.body[5]? = some s} := ⟨_, rfl⟩
noncomputable def L6 : {s : Stmt // PW.main.body[6]? = some s} := ⟨_, rfl⟩
noncomputable def L7 : {s : Stmt // PW.main.body[7]? = some s} := ⟨_, rfl⟩
noncomputable def L9 : {s : Stmt // PW.main.body[9]? = some s} := ⟨_, rfl⟩
noncomputable def L11c : {s : Stmt // PW.main.body[11]? = some s} := ⟨_, rfl⟩
noncomputable def L11_0 : {s : Stmt // (match L11c.1 with | .ClassDef _ _ _ b .. => b[0]? | _ => none) = some s} := ⟨_, rfl⟩
noncomputable def L13c : {s : Stmt // PW.main.body[13]? = some s} := ⟨_, rfl⟩
noncomputable def L13_1 : {s : Stmt // (match L13c.1 with | .ClassDef _ _ _ b .. => b[1]? | _ => none) = some s} := ⟨_, rfl⟩
noncomputable def L13_2 : {s : Stmt // (match L13c.1 with | .ClassDef _ _ _ b .. => b[2]? | _ => none) = some s} := ⟨_, rfl⟩
noncomputable def L13_0 : {s : Stmt // (match L13c.1 with | .ClassDef _ _ _ b .. => b[0]? | _ => none) = some s} := ⟨_, rfl⟩
noncomputable def L14 : {s : Stmt // PW.main.body[14]? = some s} := ⟨_, rfl⟩
noncomputable def L16 : {s : Stmt // PW.main.body[16]? = some s} := ⟨_, rfl⟩
noncomputable def L18 : {s : Stmt // PW.main.body[18]? = some s} := ⟨_, rfl⟩
noncomputable def L20 : {s : Stmt // PW.main.body[20]? = some s} := ⟨_, rfl⟩
noncomputable def L21 : {s : Stmt // PW.main.body[21]? = some s} := ⟨_, rfl⟩
noncomputable def L22 : {s : Stmt // PW.main.body[22]? = some s} := ⟨_, rfl⟩
noncomputable def L23 : {s : Stmt // PW.main.body[23]? = some s} := ⟨_, rfl⟩
noncomputable def L25 : {s : Stmt // PW.main.body[25]? = some s} := ⟨_, rfl⟩
noncomputable def L26 : {s : Stmt // PW.main.body[26]? = some s} := ⟨_, rfl⟩
noncomputable def L34 : {s : Stmt // PW.main.body[34]? = some s} := ⟨_, rfl⟩
noncomputable def L35 : {s : Stmt // PW.main.body[35]? = some s} := ⟨_, rfl⟩
noncomputable def L36 : {s : Stmt // PW.main.body[36]? = some s} := ⟨_, rfl⟩
noncomputable def L37 : {s : Stmt // PW.main.body[37]? = some s} := ⟨_, rfl⟩
noncomputable def L38 : {s : Stmt // PW.main.body[38]? = some s} := ⟨_, rfl⟩
noncomputable def L39 : {s : Stmt // PW.main.body[39]? = some s} := ⟨_, rfl⟩
noncomputable def L40 : {s : Stmt // PW.main.body[40]? = some s} := ⟨_, rfl⟩
noncomputable def L54 : {s : Stmt // PW.main.body[54]? = some s} := ⟨_, rfl⟩
noncomputable def L56 : {s : Stmt // PW.main.body[56]? = some s} := ⟨_, rfl⟩
noncomputable def L57 : {s : Stmt // PW.main.body[57]? = some s} := ⟨_, rfl⟩
noncomputable def L58 : {s : Stmt // PW.main.body[58]? = some s} := ⟨_, rfl⟩
noncomputable def L59 : {s : Stmt // PW.main.body[59]? = some s} := ⟨_, rfl⟩
noncomputable def L60 : {s : Stmt // PW.main.body[60]? = some s} := ⟨_, rfl⟩
noncomputable def L61 : {s : Stmt // PW.main.body[61]? = some s} := ⟨_, rfl⟩
noncomputable def L62 : {s : Stmt // PW.main.body[62]? = some s} := ⟨_, rfl⟩
noncomputable def L63 : {s : Stmt // PW.main.body[63]? = some s} := ⟨_, rfl⟩
noncomputable def L64 : {s : Stmt // PW.main.body[64]? = some s} := ⟨_, rfl⟩
noncomputable def L65 : {s : Stmt // PW.main.body[65]? = some s} := ⟨_, rfl⟩
noncomputable def L66 : {s : Stmt // PW.main.body[66]? = some s} := ⟨_, rfl⟩
noncomputable def L67 : {s : Stmt // PW.main.body[67]? = some s} := ⟨_, rfl⟩
noncomputable def o43 : Params → Obj := fun _ => ⟨(.type "tuple"), none, (.seq #[] 0), #[]⟩
noncomputable def o44 : Params → Obj := fun _ => ⟨.none, none, (.fields #[]), #[]⟩
noncomputable def o45 : Params → Obj := fun _ => ⟨(.type "code"), none, (.fields #[(.str "<module>" 182), (.str "<module>" 183), (.str "/claim/cut.py" 184), (.int 1 0), (.int 0 0), (.int 0 0), (.int 0 0), (.int 0 0), (.ref 11), (.bool false), (.int 181 0), (.ref 12), .none, .none, .none, .none, (.int 185 0), (.int 1 0), (.str "/claim/cut.py" 186)]), #[]⟩
noncomputable def o46 : Params → Obj := fun _ => ⟨(.type "frame"), none, .plain, #[(some (.ref 13)), (some (.ref 3)), (some (.ref 3)), none, (some (.str "__main__" 164)), none, (some (.ref 0))]⟩
noncomputable def o49 : Params → Obj := fun P => ⟨(.type "dict"), none, (.dict #[en P "__name__" 165 (.str "abc" 260), en P "__doc__" 166 .none, en P "__package__" 167 .none, en P "__loader__" 168 (.builtin "__main__.__loader__#opaque"), en P "__spec__" 169 .none, en P "__annotations__" 170 (.ref 6), en P "__builtins__" 171 (.ref 4), en P "__file__" 173 (.str "/claim/cut.py" 172), en P "__cached__" 174 .none, en P "_wall" 193 (.ref 21), en P "xor" 203 (.ref 28), en P "contains" 211 (.ref 35), en P "countOf" 221 (.ref 42), en P "getitem" 229 (.ref 49), en P "indexOf" 239 (.ref 56), en P "setitem" 248 (.ref 63), en P "_plain_name" 259 (.ref 70)] 17), #[]⟩
noncomputable def o50 : Params → Obj := fun _ => ⟨.none, none, (.fields #[(.int 1 0), (.int 0 0), (.ref 20), (.int 5 0), (.int 0 0), (.ref 27), (.int 7 0), (.int 0 0), (.ref 34), (.int 9 0), (.int 0 0), (.ref 41), (.int 15 0), (.int 0 0), (.ref 48), (.int 17 0), (.int 0 0), (.ref 55), (.int 23 0), (.int 0 0), (.ref 62), (.int 26 0), (.int 0 0), (.ref 69)]), #[]⟩
noncomputable def o51 : Params → Obj := fun _ => ⟨(.type "tuple"), none, (.seq #[] 0), #[]⟩
noncomputable def o52 : Params → Obj := fun _ => ⟨.none, none, (.fields #[]), #[]⟩
noncomputable def o53 : Params → Obj := fun _ => ⟨(.type "tuple"), none, (.seq #[(.str "k" 190)] 0), #[]⟩
noncomputable def o54 : Params → Obj := fun _ => ⟨(.type "tuple"), none, (.seq #[] 0), #[]⟩
noncomputable def o55 : Params → Obj := fun _ => fC L0.1 "_wall" 0 [] .none .none .none .none none .none .none 0
noncomputable def o56 : Params → Obj := fun _ => ⟨(.type "code"), none, (.fields #[(.str "_wall" 187), (.str "_wall" 188), (.str "/claim/cut.py" 189), (.int 1 0), (.int 1 0), (.int 0 0), (.int 0 0), (.int 3 0), (.ref 15), (.bool true), (.int 181 0), (.ref 16), .none, (.ref 17), (.ref 18), (.ref 19), (.int 191 0), (.int 1 0), (.str "/claim/cut.py" 192)]), #[]⟩
noncomputable def o57 : Params → Obj := fun _ => fO L0.1 "_wall" 3 [] .none .none .none (.str "__main__" 164) none (.ref 20) .none 0
noncomputable def o58 : Params → Obj := fun _ => ⟨(.type "tuple"), none, (.seq #[] 0), #[]⟩
noncomputable def o59 : Params → Obj := fun _ => ⟨.none, none, (.fields #[]), #[]⟩
noncomputable def o60 : Params → Obj := fun _ => ⟨(.type "tuple"), none, (.seq #[(.str "a" 199), (.str "b" 200)] 0), #[]⟩
noncomputable def o61 : Params → Obj := fun _ => ⟨(.type "tuple"), none, (.seq #[] 0), #[]⟩
noncomputable def o62 : Params → Obj := fun _ => fC L2.1 "xor" 0 [] .none .none .none .none none .none .none 0
noncomputable def o63 : Params → Obj := fun _ => ⟨(.type "code"), none, (.fields #[(.str "xor" 196), (.str "xor" 197), (.str "/claim/cut.py" 198), (.int 5 0), (.int 2 0), (.int 0 0), (.int 0 0), (.int 3 0), (.ref 22), (.bool true), (.int 181 0), (.ref 23), .none, (.ref 24), (.ref 25), (.ref 26), (.int 201 0), (.int 5 0), (.str "/claim/cut.py" 202)]), #[]⟩
noncomputable def o64 : Params → Obj := fun _ => fO L2.1 "xor" 3 [] .none .none .none (.str "cpy313.operator" 194) none (.ref 27) .none 0
noncomputable def o65 : Params → Obj := fun _ => ⟨(.type "tuple"), none, (.seq #[] 0), #[]⟩
noncomputable def o66 : Params → Obj := fun _ => ⟨.none, none, (.fields #[]), #[]⟩
noncomputable def o67 : Params → Obj := fun _ => ⟨(.type "tuple"), none, (.seq #[(.str "a" 207), (.str "b" 208)] 0), #[]⟩
noncomputable def o68 : Params → Obj := fun _ => ⟨(.type "tuple"), none, (.seq #[] 0), #[]⟩
noncomputable def o69 : Params → Obj := fun _ => fC L3.1 "contains" 0 [] .none .none .none .none none .none .none 0
noncomputable def o70 : Params → Obj := fun _ => ⟨(.type "code"), none, (.fields #[(.str "contains" 204), (.str "contains" 205), (.str "/claim/cut.py" 206), (.int 7 0), (.int 2 0), (.int 0 0), (.int 0 0), (.int 3 0), (.ref 29), (.bool true), (.int 181 0), (.ref 30), .none, (.ref 31), (.ref 32), (.ref 33), (.int 209 0), (.int 7 0), (.str "/claim/cut.py" 210)]), #[]⟩
noncomputable def o71 : Params → Obj := fun _ => fO L3.1 "contains" 3 [] .none .none .none (.str "cpy313.operator" 194) none (.ref 34) .none 0
noncomputable def o72 : Params → Obj := fun _ => ⟨(.type "tuple"), none, (.seq #[] 0), #[]⟩
noncomputable def o73 : Params → Obj := fun _ => ⟨.none, none, (.fields #[]), #[]⟩
noncomputable def o74 : Params → Obj := fun _ => ⟨(.type "tuple"), none, (.seq #[(.str "a" 215), (.str "b" 216), (.str "count" 217), (.str "i" 218)] 0), #[]⟩
noncomputable def o75 : Params → Obj := fun _ => ⟨(.type "tuple"), none, (.seq #[] 0), #[]⟩
noncomputable def o76 : Params → Obj := fun _ => fC L4.1 "countOf" 0 [] .none .none .none .none none .none .none 0
noncomputable def o77 : Params → Obj := fun _ => ⟨(.type "code"), none, (.fields #[(.str "countOf" 212), (.str "countOf" 213), (.str "/claim/cut.py" 214), (.int 9 0), (.int 2 0), (.int 0 0), (.int 0 0), (.int 3 0), (.ref 36), (.bool true), (.int 181 0), (.ref 37), .none, (.ref 38), (.ref 39), (.ref 40), (.int 219 0), (.int 9 0), (.str "/claim/cut.py" 220)]), #[]⟩
noncomputable def o78 : Params → Obj := fun _ => fO L4.1 "countOf" 3 [] .none .none .none (.str "cpy313.operator" 194) none (.ref 41) .none 0
noncomputable def o79 : Params → Obj := fun _ => ⟨(.type "tuple"), none, (.seq #[] 0), #[]⟩
noncomputable def o80 : Params → Obj := fun _ => ⟨.none, none, (.fields #[]), #[]⟩
noncomputable def o81 : Params → Obj := fun _ => ⟨(.type "tuple"), none, (.seq #[(.str "a" 225), (.str "b" 226)] 0), #[]⟩
noncomputable def o82 : Params → Obj := fun _ => ⟨(.type "tuple"), none, (.seq #[] 0), #[]⟩
noncomputable def o83 : Params → Obj := fun _ => fC L5.1 "getitem" 0 [] .none .none .none .none none .none .none 0
noncomputable def o84 : Params → Obj := fun _ => ⟨(.type "code"), none, (.fields #[(.str "getitem" 222), (.str "getitem" 223), (.str "/claim/cut.py" 224), (.int 15 0), (.int 2 0), (.int 0 0), (.int 0 0), (.int 3 0), (.ref 43), (.bool true), (.int 181 0), (.ref 44), .none, (.ref 45), (.ref 46), (.ref 47), (.int 227 0), (.int 15 0), (.str "/claim/cut.py" 228)]), #[]⟩
noncomputable def o85 : Params → Obj := fun _ => fO L5.1 "getitem" 3 [] .none .none .none (.str "cpy313.operator" 194) none (.ref 48) .none 0
noncomputable def o86 : Params → Obj := fun _ => ⟨(.type "tuple"), none, (.seq #[] 0), #[]⟩
noncomputable def o87 : Params → Obj := fun _ => ⟨.none, none, (.fields #[]), #[]⟩
noncomputable def o88 : Params → Obj := fun _ => ⟨(.type "tuple"), none, (.seq #[(.str "a" 233), (.str "b" 234), (.str "i" 235), (.str "j" 236)] 0), #[]⟩
noncomputable def o89 : Params → Obj := fun _ => ⟨(.type "tuple"), none, (.seq #[] 0), #[]⟩
noncomputable def o90 : Params → Obj := fun _ => fC L6.1 "indexOf" 0 [] .none .none .none .none none .none .none 0
noncomputable def o91 : Params → Obj := fun _ => ⟨(.type "code"), none, (.fields #[(.str "indexOf" 230), (.str "indexOf" 231), (.str "/claim/cut.py" 232), (.int 17 0), (.int 2 0), (.int 0 0), (.int 0 0), (.int 3 0), (.ref 50), (.bool true), (.int 181 0), (.ref 51), .none, (.ref 52), (.ref 53), (.ref 54), (.int 237 0), (.int 17 0), (.str "/claim/cut.py" 238)]), #[]⟩
noncomputable def o92 : Params → Obj := fun _ => fO L6.1 "indexOf" 3 [] .none .none .none (.str "cpy313.operator" 194) none (.ref 55) .none 0
noncomputable def o93 : Params → Obj := fun _ => ⟨(.type "tuple"), none, (.seq #[] 0), #[]⟩
noncomputable def o94 : Params → Obj := fun _ => ⟨.none, none, (.fields #[]), #[]⟩
noncomputable def o95 : Params → Obj := fun _ => ⟨(.type "tuple"), none, (.seq #[(.str "a" 243), (.str "b" 244), (.str "c" 245)] 0), #[]⟩
noncomputable def o96 : Params → Obj := fun _ => ⟨(.type "tuple"), none, (.seq #[] 0), #[]⟩
noncomputable def o97 : Params → Obj := fun _ => fC L7.1 "setitem" 0 [] .none .none .none .none none .none .none 0
noncomputable def o98 : Params → Obj := fun _ => ⟨(.type "code"), none, (.fields #[(.str "setitem" 240), (.str "setitem" 241), (.str "/claim/cut.py" 242), (.int 23 0), (.int 3 0), (.int 0 0), (.int 0 0), (.int 3 0), (.ref 57), (.bool true), (.int 181 0), (.ref 58), .none, (.ref 59), (.ref 60), (.ref 61), (.int 246 0), (.int 23 0), (.str "/claim/cut.py" 247)]), #[]⟩
noncomputable def o99 : Params → Obj := fun _ => fO L7.1 "setitem" 3 [] .none .none .none (.str "cpy313.operator" 194) none (.ref 62) .none 0
noncomputable def o100 : Params → Obj := fun _ => ⟨(.type "tuple"), none, (.seq #[] 0), #[]⟩
noncomputable def o101 : Params → Obj := fun _ => ⟨.none, none, (.fields #[]), #[]⟩
noncomputable def o102 : Params → Obj := fun _ => ⟨(.type "tuple"), none, (.seq #[(.str "x" 254), (.str "what" 255), (.str "kind" 256)] 0), #[]⟩
noncomputable def o103 : Params → Obj := fun _ => ⟨(.type "tuple"), none, (.seq #[] 0), #[]⟩
noncomputable def o104 : Params → Obj := fun _ => fC L9.1 "_plain_name" 0 [] .none .none .none .none none .none .none 0
noncomputable def o105 : Params → Obj := fun _ => ⟨(.type "code"), none, (.fields #[(.str "_plain_name" 251), (.str "_plain_name" 252), (.str "/claim/cut.py" 253), (.int 26 0), (.int 2 0), (.int 0 0), (.int 0 0), (.int 3 0), (.ref 64), (.bool true), (.int 181 0), (.ref 65), .none, (.ref 66), (.ref 67), (.ref 68), (.int 257 0), (.int 26 0), (.str "/claim/cut.py" 258)]), #[]⟩
noncomputable def o106 : Params → Obj := fun _ => fO L9.1 "_plain_name" 3 [] .none .none .none (.str "os" 249) none (.ref 69) .none 0
noncomputable def o107 : Params → Obj := fun P => ⟨(.type "dict"), none, (.dict #[en P "__name__" 165 (.str "collections.abc" 286), en P "__doc__" 166 .none, en P "__package__" 167 .none, en P "__loader__" 168 (.builtin "__main__.__loader__#opaque"), en P "__spec__" 169 .none, en P "__annotations__" 170 (.ref 6), en P "__builtins__" 171 (.ref 4), en P "__file__" 173 (.str "/claim/cut.py" 172), en P "__cached__" 174 .none, en P "_wall" 193 (.ref 21), en P "xor" 203 (.ref 28), en P "contains" 211 (.ref 35), en P "countOf" 221 (.ref 42), en P "getitem" 229 (.ref 49), en P "indexOf" 239 (.ref 56), en P "setitem" 248 (.ref 63), en P "_plain_name" 259 (.ref 70), en P "ABCMeta" 285 (.ref 87)] 18), #[]⟩
noncomputable def o108 : Params → Obj := fun _ => ⟨.none, none, (.fields #[(.int 1 0), (.int 0 0), (.ref 20), (.int 5 0), (.int 0 0), (.ref 27), (.int 7 0), (.int 0 0), (.ref 34), (.int 9 0), (.int 0 0), (.ref 41), (.int 15 0), (.int 0 0), (.ref 48), (.int 17 0), (.int 0 0), (.ref 55), (.int 23 0), (.int 0 0), (.ref 62), (.int 26 0), (.int 0 0), (.ref 69), (.int 32 0), (.int 0 0), (.ref 76)]), #[]⟩
noncomputable def o109 : Params → Obj := fun _ => ⟨(.type "tuple"), none, (.seq #[(.type "type")] 0), #[]⟩
noncomputable def o110 : Params → Obj := fun _ => ⟨(.type "builtin_function_or_method"), none, (.fields #[(.builtin "type.__prepare__"), (.type "type")]), #[]⟩
noncomputable def o111 : Params → Obj := fun P => ⟨(.type "dict"), none, (.dict #[en P "__module__" 269 (.str "abc" 260), en P "__qualname__" 271 (.str "ABCMeta" 270), en P "__firstlineno__" 273 (.int 32 272), en P "register" 281 (.ref 84), en P "__static_attributes__" 282 (.ref 85)] 5), #[]⟩
noncomputable def o112 : Params → Obj := fun _ => ⟨(.type "tuple"), none, (.seq #[] 0), #[]⟩
noncomputable def o113 : Params → Obj := fun _ => ⟨.none, none, (.fields #[(.int 34 0), (.int 4 0), (.ref 83)]), #[]⟩
noncomputable def o114 : Params → Obj := fun _ => ⟨(.type "code"), none, (.fields #[(.str "ABCMeta" 264), (.str "ABCMeta" 265), (.str "/claim/cut.py" 266), (.int 32 0), (.int 0 0), (.int 0 0), (.int 0 0), (.int 0 0), (.ref 74), (.bool false), (.int 181 0), (.ref 75), .none, .none, .none, .none, (.int 267 0), (.int 32 0), (.str "/claim/cut.py" 268)]), #[]⟩
noncomputable def o115 : Params → Obj := fun _ => ⟨(.type "frame"), none, .plain, #[(some (.ref 76)), (some (.ref 3)), (some (.ref 73)), none, (some (.str "abc" 260)), none, (some (.ref 0))]⟩
noncomputable def o116 : Params → Obj := fun _ => ⟨(.type "tuple"), none, (.seq #[] 0), #[]⟩
noncomputable def o117 : Params → Obj := fun _ => ⟨.none, none, (.fields #[]), #[]⟩
noncomputable def o118 : Params → Obj := fun _ => ⟨(.type "tuple"), none, (.seq #[(.str "cls" 277), (.str "subclass" 278)] 0), #[]⟩
noncomputable def o119 : Params → Obj := fun _ => ⟨(.type "tuple"), none, (.seq #[] 0), #[]⟩
noncomputable def o120 : Params → Obj := fun _ => fC L11_0.1 "ABCMeta.register" 0 [] .none .none .none .none none .none .none 0
noncomputable def o121 : Params → Obj := fun _ => ⟨(.type "code"), none, (.fields #[(.str "register" 274), (.str "ABCMeta.register" 275), (.str "/claim/cut.py" 276), (.int 34 0), (.int 2 0), (.int 0 0), (.int 0 0), (.int 3 0), (.ref 78), (.bool true), (.int 181 0), (.ref 79), .none, (.ref 80), (.ref 81), (.ref 82), (.int 279 0), (.int 34 0), (.str "/claim/cut.py" 280)]), #[]⟩
noncomputable def o122 : Params → Obj := fun _ => fO L11_0.1 "ABCMeta.register" 3 [] .none .none .none (.str "abc" 260) none (.ref 83) .none 0
noncomputable def o123 : Params → Obj := fun _ => ⟨(.type "tuple"), none, (.seq #[] 0), #[]⟩
noncomputable def o124 : Params → Obj := fun P => ⟨(.type "dict"), none, (.dict #[en P "__module__" 269 (.str "abc" 260), en P "__firstlineno__" 273 (.int 32 272), en P "register" 281 (.ref 84), en P "__static_attributes__" 282 (.ref 85), en P "__doc__" 283 .none] 2), #[]⟩
noncomputable def o125 : Params → Obj := fun _ => ⟨(.type "type"), none, (.cls ⟨"ABCMeta", [(.type "type")], [(.ref 87), (.type "type"), (.type "object")], 86, "ABCMeta", true, [], [], false, none, false⟩), #[(some (.ref 71)), none, (some (.str "ABCMeta" 262)), (some (.str "ABCMeta" 270)), (some (.builtin "type.__new__")), (some (.bool true))]⟩
noncomputable def o126 : Params → Obj := fun _ => ⟨(.type "super"), none, (.fields #[(.ref 87), (.ref 87), (.ref 87)]), #[]⟩
noncomputable def o127 : Params → Obj := fun _ => ⟨(.type "builtin_function_or_method"), none, (.fields #[(.builtin "object.__init_subclass__"), (.ref 87)]), #[]⟩
noncomputable def o128 : Params → Obj := fun P => ⟨(.type "dict"), none, (.dict #[en P "__name__" 165 (.str "cpy313.genericpath" 348), en P "__doc__" 166 .none, en P "__package__" 167 .none, en P "__loader__" 168 (.builtin "__main__.__loader__#opaque"), en P "__spec__" 169 .none, en P "__annotations__" 170 (.ref 6), en P "__builtins__" 171 (.ref 4), en P "__file__" 173 (.str "/claim/cut.py" 172), en P "__cached__" 174 .none, en P "_wall" 193 (.ref 21), en P "xor" 203 (.ref 28), en P "contains" 211 (.ref 35), en P "countOf" 221 (.ref 42), en P "getitem" 229 (.ref 49), en P "indexOf" 239 (.ref 56), en P "setitem" 248 (.ref 63), en P "_plain_name" 259 (.ref 70), en P "ABCMeta" 285 (.ref 87), en P "_ABCLike" 328 (.ref 120), en P "_abc_plain_meta" 335 (.ref 129), en P "fspath" 347 (.ref 136)] 21), #[]⟩
noncomputable def o129 : Params → Obj := fun _ => ⟨.none, none, (.fields #[(.int 1 0), (.int 0 0), (.ref 20), (.int 5 0), (.int 0 0), (.ref 27), (.int 7 0), (.int 0 0), (.ref 34), (.int 9 0), (.int 0 0), (.ref 41), (.int 15 0), (.int 0 0), (.ref 48), (.int 17 0), (.int 0 0), (.ref 55), (.int 23 0), (.int 0 0), (.ref 62), (.int 26 0), (.int 0 0), (.ref 69), (.int 32 0), (.int 0 0), (.ref 76), (.int 37 0), (.int 0 0), (.ref 95), (.int 52 0), (.int 0 0), (.ref 128), (.int 56 0), (.int 0 0), (.ref 135)]), #[]⟩
noncomputable def o130 : Params → Obj := fun _ => ⟨(.type "type"), none, (.cls ⟨"ABCMeta", [(.type "type")], [(.ref 87), (.type "type"), (.type "object")], 86, "ABCMeta", true, [], [(.ref 120)], false, none, false⟩), #[(some (.ref 71)), none, (some (.str "ABCMeta" 262)), (some (.str "ABCMeta" 270)), (some (.builtin "type.__new__")), (some (.bool true))]⟩
noncomputable def o131 : Params → Obj := fun _ => ⟨(.type "tuple"), none, (.seq #[(.ref 87)] 0), #[]⟩
noncomputable def o132 : Params → Obj := fun _ => ⟨(.type "builtin_function_or_method"), none, (.fields #[(.builtin "type.__prepare__"), (.type "type")]), #[]⟩
noncomputable def o133 : Params → Obj := fun P => ⟨(.type "dict"), none, (.dict #[en P "__module__" 295 (.str "collections.abc" 286), en P "__qualname__" 297 (.str "_ABCLike" 296), en P "__firstlineno__" 299 (.int 37 298), en P "__instancecheck__" 308 (.ref 103), en P "__subclasscheck__" 316 (.ref 110), en P "register" 324 (.ref 117), en P "__static_attributes__" 325 (.ref 118)] 7), #[]⟩
noncomputable def o134 : Params → Obj := fun _ => ⟨(.type "tuple"), none, (.seq #[] 0), #[]⟩
noncomputable def o135 : Params → Obj := fun _ => ⟨.none, none, (.fields #[(.int 39 0), (.int 4 0), (.ref 102), (.int 45 0), (.int 4 0), (.ref 109), (.int 50 0), (.int 4 0), (.ref 116)]), #[]⟩
noncomputable def o136 : Params → Obj := fun _ => ⟨(.type "code"), none, (.fields #[(.str "_ABCLike" 290), (.str "_ABCLike" 291), (.str "/claim/cut.py" 292), (.int 37 0), (.int 0 0), (.int 0 0), (.int 0 0), (.int 0 0), (.ref 93), (.bool false), (.int 181 0), (.ref 94), .none, .none, .none, .none, (.int 293 0), (.int 37 0), (.str "/claim/cut.py" 294)]), #[]⟩
noncomputable def o137 : Params → Obj := fun _ => ⟨(.type "frame"), none, .plain, #[(some (.ref 95)), (some (.ref 3)), (some (.ref 92)), none, (some (.str "collections.abc" 286)), none, (some (.ref 0))]⟩
noncomputable def o138 : Params → Obj := fun _ => ⟨(.type "tuple"), none, (.seq #[] 0), #[]⟩
noncomputable def o139 : Params → Obj := fun _ => ⟨.none, none, (.fields #[]), #[]⟩
noncomputable def o140 : Params → Obj := fun _ => ⟨(.type "tuple"), none, (.seq #[(.str "cls" 303), (.str "instance" 304), (.str "C" 305)] 0), #[]⟩
noncomputable def o141 : Params → Obj := fun _ => ⟨(.type "tuple"), none, (.seq #[] 0), #[]⟩
noncomputable def o142 : Params → Obj := fun _ => fC L13_0.1 "_ABCLike.__instancecheck__" 0 [] .none .none .none .none none .none .none 0
noncomputable def o143 : Params → Obj := fun _ => ⟨(.type "code"), none, (.fields #[(.str "__instancecheck__" 300), (.str "_ABCLike.__instancecheck__" 301), (.str "/claim/cut.py" 302), (.int 39 0), (.int 2 0), (.int 0 0), (.int 0 0), (.int 3 0), (.ref 97), (.bool true), (.int 181 0), (.ref 98), .none, (.ref 99), (.ref 100), (.ref 101), (.int 306 0), (.int 39 0), (.str "/claim/cut.py" 307)]), #[]⟩
noncomputable def o144 : Params → Obj := fun _ => fO L13_0.1 "_ABCLike.__instancecheck__" 3 [] .none .none .none (.str "collections.abc" 286) none (.ref 102) .none 0
noncomputable def o145 : Params → Obj := fun _ => ⟨(.type "tuple"), none, (.seq #[] 0), #[]⟩
noncomputable def o146 : Params → Obj := fun _ => ⟨.none, none, (.fields #[]), #[]⟩
noncomputable def o147 : Params → Obj := fun _ => ⟨(.type "tuple"), none, (.seq #[(.str "cls" 312), (.str "C" 313)] 0), #[]⟩
noncomputable def o148 : Params → Obj := fun _ => ⟨(.type "tuple"), none, (.seq #[] 0), #[]⟩
noncomputable def o149 : Params → Obj := fun _ => fC L13_1.1 "_ABCLike.__subclasscheck__" 0 [] .none .none .none .none none .none .none 0
noncomputable def o150 : Params → Obj := fun _ => ⟨(.type "code"), none, (.fields #[(.str "__subclasscheck__" 309), (.str "_ABCLike.__subclasscheck__" 310), (.str "/claim/cut.py" 311), (.int 45 0), (.int 2 0), (.int 0 0), (.int 0 0), (.int 3 0), (.ref 104), (.bool true), (.int 181 0), (.ref 105), .none, (.ref 106), (.ref 107), (.ref 108), (.int 314 0), (.int 45 0), (.str "/claim/cut.py" 315)]), #[]⟩
noncomputable def o151 : Params → Obj := fun _ => fO L13_1.1 "_ABCLike.__subclasscheck__" 3 [] .none .none .none (.str "collections.abc" 286) none (.ref 109) .none 0
noncomputable def o152 : Params → Obj := fun _ => ⟨(.type "tuple"), none, (.seq #[] 0), #[]⟩
noncomputable def o153 : Params → Obj := fun _ => ⟨.none, none, (.fields #[]), #[]⟩
noncomputable def o154 : Params → Obj := fun _ => ⟨(.type "tuple"), none, (.seq #[(.str "cls" 320), (.str "subclass" 321)] 0), #[]⟩
noncomputable def o155 : Params → Obj := fun _ => ⟨(.type "tuple"), none, (.seq #[] 0), #[]⟩
noncomputable def o156 : Params → Obj := fun _ => fC L13_2.1 "_ABCLike.register" 0 [] .none .none .none .none none .none .none 0
noncomputable def o157 : Params → Obj := fun _ => ⟨(.type "code"), none, (.fields #[(.str "register" 317), (.str "_ABCLike.register" 318), (.str "/claim/cut.py" 319), (.int 50 0), (.int 2 0), (.int 0 0), (.int 0 0), (.int 3 0), (.ref 111), (.bool true), (.int 181 0), (.ref 112), .none, (.ref 113), (.ref 114), (.ref 115), (.int 322 0), (.int 50 0), (.str "/claim/cut.py" 323)]), #[]⟩
noncomputable def o158 : Params → Obj := fun _ => fO L13_2.1 "_ABCLike.register" 3 [] .none .none .none (.str "collections.abc" 286) none (.ref 116) .none 0
noncomputable def o159 : Params → Obj := fun _ => ⟨(.type "tuple"), none, (.seq #[] 0), #[]⟩
noncomputable def o160 : Params → Obj := fun P => ⟨(.type "dict"), none, (.dict #[en P "__module__" 295 (.str "collections.abc" 286), en P "__firstlineno__" 299 (.int 37 298), en P "__instancecheck__" 308 (.ref 103), en P "__subclasscheck__" 316 (.ref 110), en P "register" 324 (.ref 117), en P "__static_attributes__" 325 (.ref 118), en P "__doc__" 326 .none] 2), #[]⟩
noncomputable def o161 : Params → Obj := fun _ => ⟨(.type "type"), none, (.cls ⟨"_ABCLike", [(.ref 87)], [(.ref 120), (.ref 87), (.type "type"), (.type "object")], 119, "_ABCLike", true, [], [], false, none, false⟩), #[(some (.ref 90)), none, (some (.str "_ABCLike" 288)), (some (.str "_ABCLike" 296)), (some (.builtin "type.__new__")), (some (.bool true))]⟩
noncomputable def o162 : Params → Obj := fun _ => ⟨(.type "super"), none, (.fields #[(.ref 120), (.ref 120), (.ref 120)]), #[]⟩
noncomputable def o163 : Params → Obj := fun _ => ⟨(.type "builtin_function_or_method"), none, (.fields #[(.builtin "object.__init_subclass__"), (.ref 120)]), #[]⟩
noncomputable def o164 : Params → Obj := fun _ => ⟨(.type "tuple"), none, (.seq #[] 0), #[]⟩
noncomputable def o165 : Params → Obj := fun _ => ⟨.none, none, (.fields #[]), #[]⟩
noncomputable def o166 : Params → Obj := fun _ => ⟨(.type "tuple"), none, (.seq #[(.str "C" 332)] 0), #[]⟩
noncomputable def o167 : Params → Obj := fun _ => ⟨(.type "tuple"), none, (.seq #[] 0), #[]⟩
noncomputable def o168 : Params → Obj := fun _ => fC L14.1 "_abc_plain_meta" 0 [] .none .none .none .none none .none .none 0
noncomputable def o169 : Params → Obj := fun _ => ⟨(.type "code"), none, (.fields #[(.str "_abc_plain_meta" 329), (.str "_abc_plain_meta" 330), (.str "/claim/cut.py" 331), (.int 52 0), (.int 1 0), (.int 0 0), (.int 0 0), (.int 3 0), (.ref 123), (.bool true), (.int 181 0), (.ref 124), .none, (.ref 125), (.ref 126), (.ref 127), (.int 333 0), (.int 52 0), (.str "/claim/cut.py" 334)]), #[]⟩
noncomputable def o170 : Params → Obj := fun _ => fO L14.1 "_abc_plain_meta" 3 [] .none .none .none (.str "collections.abc" 286) none (.ref 128) .none 0
noncomputable def o171 : Params → Obj := fun _ => ⟨(.type "tuple"), none, (.seq #[] 0), #[]⟩
noncomputable def o172 : Params → Obj := fun _ => ⟨.none, none, (.fields #[]), #[]⟩
noncomputable def o173 : Params → Obj := fun _ => ⟨(.type "tuple"), none, (.seq #[(.str "path" 341), (.str "kind" 342), (.str "hook" 343), (.str "given" 344)] 0), #[]⟩
noncomputable def o174 : Params → Obj := fun _ => ⟨(.type "tuple"), none, (.seq #[] 0), #[]⟩
noncomputable def o175 : Params → Obj := fun _ => fC L16.1 "fspath" 0 [] .none .none .none .none none .none .none 0
noncomputable def o176 : Params → Obj := fun _ => ⟨(.type "code"), none, (.fields #[(.str "fspath" 338), (.str "fspath" 339), (.str "/claim/cut.py" 340), (.int 56 0), (.int 1 0), (.int 0 0), (.int 0 0), (.int 3 0), (.ref 130), (.bool true), (.int 181 0), (.ref 131), .none, (.ref 132), (.ref 133), (.ref 134), (.int 345 0), (.int 56 0), (.str "/claim/cut.py" 346)]), #[]⟩
noncomputable def o177 : Params → Obj := fun _ => fO L16.1 "fspath" 3 [] .none .none .none (.str "os" 336) none (.ref 135) .none 0
noncomputable def o178 : Params → Obj := fun P => ⟨(.type "dict"), none, (.dict #[en P "__name__" 165 (.str "cpy313.stat" 397), en P "__doc__" 166 .none, en P "__package__" 167 .none, en P "__loader__" 168 (.builtin "__main__.__loader__#opaque"), en P "__spec__" 169 .none, en P "__annotations__" 170 (.ref 6), en P "__builtins__" 171 (.ref 4), en P "__file__" 173 (.str "/claim/cut.py" 172), en P "__cached__" 174 .none, en P "_wall" 193 (.ref 21), en P "xor" 203 (.ref 28), en P "contains" 211 (.ref 35), en P "countOf" 221 (.ref 42), en P "getitem" 229 (.ref 49), en P "indexOf" 239 (.ref 56), en P "setitem" 248 (.ref 63), en P "_plain_name" 259 (.ref 70), en P "ABCMeta" 285 (.ref 87), en P "_ABCLike" 328 (.ref 120), en P "_abc_plain_meta" 335 (.ref 129), en P "fspath" 347 (.ref 136), en P "_check_arg_types" 360 (.ref 143), en P "_get_sep" 369 (.ref 150), en P "join" 380 (.ref 157), en P "dirname" 390 (.ref 164), en P "commonpath" 396 (.ref 169), en P "S_IMODE" 405 (.ref 176), en P "S_IFMT" 412 (.ref 183), en P "S_IFDIR" 414 (.int 16384 413), en P "S_IFCHR" 416 (.int 8192 415), en P "S_IFBLK" 418 (.int 24576 417), en P "S_IFREG" 420 (.int 32768 419), en P "S_IFIFO" 422 (.int 4096 421), en P "S_IFLNK" 424 (.int 40960 423), en P "S_IFSOCK" 426 (.int 49152 425), en P "S_ISDIR" 433 (.ref 190), en P "S_ISCHR" 440 (.ref 197), en P "S_ISBLK" 447 (.ref 204)] 38), #[]⟩
noncomputable def o179 : Params → Obj := fun _ => ⟨.none, none, (.fields #[(.int 1 0), (.int 0 0), (.ref 20), (.int 5 0), (.int 0 0), (.ref 27), (.int 7 0), (.int 0 0), (.ref 34), (.int 9 0), (.int 0 0), (.ref 41), (.int 15 0), (.int 0 0), (.ref 48), (.int 17 0), (.int 0 0), (.ref 55), (.int 23 0), (.int 0 0), (.ref 62), (.int 26 0), (.int 0 0), (.ref 69), (.int 32 0), (.int 0 0), (.ref 76), (.int 37 0), (.int 0 0), (.ref 95), (.int 52 0), (.int 0 0), (.ref 128), (.int 56 0), (.int 0 0), (.ref 135), (.int 73 0), (.int 0 0), (.ref 142), (.int 85 0), (.int 0 0), (.ref 149), (.int 90 0), (.int 0 0), (.ref 156), (.int 107 0), (.int 0 0), (.ref 163), (.int 115 0), (.int 0 0), (.ref 168), (.int 145 0), (.int 0 0), (.ref 175), (.int 147 0), (.int 0 0), (.ref 182), (.int 156 0), (.int 0 0), (.ref 189), (.int 158 0), (.int 0 0), (.ref 196), (.int 160 0), (.int 0 0), (.ref 203)]), #[]⟩
noncomputable def o180 : Params → Obj := fun _ => ⟨(.type "tuple"), none, (.seq #[] 0), #[]⟩
noncomputable def o181 : Params → Obj := fun _ => ⟨.none, none, (.fields #[]), #[]⟩
noncomputable def o182 : Params → Obj := fun _ => ⟨(.type "tuple"), none, (.seq #[(.str "funcname" 353), (.str "args" 354), (.str "hasstr" 355), (.str "hasbytes" 356), (.str "s" 357)] 0), #[]⟩
noncomputable def o183 : Params → Obj := fun _ => ⟨(.type "tuple"), none, (.seq #[] 0), #[]⟩
noncomputable def o184 : Params → Obj := fun _ => fC L18.1 "_check_arg_types" 0 [] .none .none .none .none none .none .none 0
noncomputable def o185 : Params → Obj := fun _ => ⟨(.type "code"), none, (.fields #[(.str "_check_arg_types" 350), (.str "_check_arg_types" 351), (.str "/claim/cut.py" 352), (.int 73 0), (.int 1 0), (.int 0 0), (.int 0 0), (.int 7 0), (.ref 137), (.bool true), (.int 181 0), (.ref 138), .none, (.ref 139), (.ref 140), (.ref 141), (.int 358 0), (.int 73 0), (.str "/claim/cut.py" 359)]), #[]⟩
noncomputable def o186 : Params → Obj := fun _ => fO L18.1 "_check_arg_types" 3 [] .none .none .none (.str "cpy313.genericpath" 348) none (.ref 142) .none 0
noncomputable def o187 : Params → Obj := fun _ => ⟨(.type "tuple"), none, (.seq #[] 0), #[]⟩
noncomputable def o188 : Params → Obj := fun _ => ⟨.none, none, (.fields #[]), #[]⟩
noncomputable def o189 : Params → Obj := fun _ => ⟨(.type "tuple"), none, (.seq #[(.str "path" 366)] 0), #[]⟩
noncomputable def o190 : Params → Obj := fun _ => ⟨(.type "tuple"), none, (.seq #[] 0), #[]⟩
noncomputable def o191 : Params → Obj := fun _ => fC L20.1 "_get_sep" 0 [] .none .none .none .none none .none .none 0
noncomputable def o192 : Params → Obj := fun _ => ⟨(.type "code"), none, (.fields #[(.str "_get_sep" 363), (.str "_get_sep" 364), (.str "/claim/cut.py" 365), (.int 85 0), (.int 1 0), (.int 0 0), (.int 0 0), (.int 3 0), (.ref 144), (.bool true), (.int 181 0), (.ref 145), .none, (.ref 146), (.ref 147), (.ref 148), (.int 367 0), (.int 85 0), (.str "/claim/cut.py" 368)]), #[]⟩
noncomputable def o193 : Params → Obj := fun _ => fO L20.1 "_get_sep" 3 [] .none .none .none (.str "cpy313.posixpath" 361) none (.ref 149) .none 0
noncomputable def o194 : Params → Obj := fun _ => ⟨(.type "tuple"), none, (.seq #[] 0), #[]⟩
noncomputable def o195 : Params → Obj := fun _ => ⟨.none, none, (.fields #[]), #[]⟩
noncomputable def o196 : Params → Obj := fun _ => ⟨(.type "tuple"), none, (.seq #[(.str "a" 373), (.str "p" 374), (.str "sep" 375), (.str "path" 376), (.str "b" 377)] 0), #[]⟩
noncomputable def o197 : Params → Obj := fun _ => ⟨(.type "tuple"), none, (.seq #[] 0), #[]⟩
noncomputable def o198 : Params → Obj := fun _ => fC L21.1 "join" 0 [] .none .none .none .none none .none .none 0
noncomputable def o199 : Params → Obj := fun _ => ⟨(.type "code"), none, (.fields #[(.str "join" 370), (.str "join" 371), (.str "/claim/cut.py" 372), (.int 90 0), (.int 1 0), (.int 0 0), (.int 0 0), (.int 7 0), (.ref 151), (.bool true), (.int 181 0), (.ref 152), .none, (.ref 153), (.ref 154), (.ref 155), (.int 378 0), (.int 90 0), (.str "/claim/cut.py" 379)]), #[]⟩
noncomputable def o200 : Params → Obj := fun _ => fO L21.1 "join" 3 [] .none .none .none (.str "cpy313.posixpath" 361) none (.ref 156) .none 0
noncomputable def o201 : Params → Obj := fun _ => ⟨(.type "tuple"), none, (.seq #[] 0), #[]⟩
noncomputable def o202 : Params → Obj := fun _ => ⟨.none, none, (.fields #[]), #[]⟩
noncomputable def o203 : Params → Obj := fun _ => ⟨(.type "tuple"), none, (.seq #[(.str "p" 384), (.str "sep" 385), (.str "i" 386), (.str "head" 387)] 0), #[]⟩
noncomputable def o204 : Params → Obj := fun _ => ⟨(.type "tuple"), none, (.seq #[] 0), #[]⟩
noncomputable def o205 : Params → Obj := fun _ => fC L22.1 "dirname" 0 [] .none .none .none .none none .none .none 0
noncomputable def o206 : Params → Obj := fun _ => ⟨(.type "code"), none, (.fields #[(.str "dirname" 381), (.str "dirname" 382), (.str "/claim/cut.py" 383), (.int 107 0), (.int 1 0), (.int 0 0), (.int 0 0), (.int 3 0), (.ref 158), (.bool true), (.int 181 0), (.ref 159), .none, (.ref 160), (.ref 161), (.ref 162), (.int 388 0), (.int 107 0), (.str "/claim/cut.py" 389)]), #[]⟩
noncomputable def o207 : Params → Obj := fun _ => fO L22.1 "dirname" 3 [] .none .none .none (.str "cpy313.posixpath" 361) none (.ref 163) .none 0
noncomputable def o208 : Params → Obj := fun _ => ⟨(.type "tuple"), none, (.seq #[] 0), #[]⟩
noncomputable def o209 : Params → Obj := fun _ => ⟨.none, none, (.fields #[]), #[]⟩
noncomputable def o210 : Params → Obj := fun _ => fC L23.1 "commonpath" 0 [] .none .none .none .none none .none .none 0
noncomputable def o211 : Params → Obj := fun _ => ⟨(.type "code"), none, (.fields #[(.str "commonpath" 391), (.str "commonpath" 392), (.str "/claim/cut.py" 393), (.int 115 0), (.int 1 0), (.int 0 0), (.int 0 0), (.int 3 0), (.ref 165), (.bool true), (.int 181 0), (.ref 166), .none, .none, .none, (.ref 167), (.int 394 0), (.int 115 0), (.str "/claim/cut.py" 395)]), #[]⟩
noncomputable def o212 : Params → Obj := fun _ => fO L23.1 "commonpath" 3 [] .none .none .none (.str "cpy313.posixpath" 361) none (.ref 168) .none 0
noncomputable def o213 : Params → Obj := fun _ => ⟨(.type "tuple"), none, (.seq #[] 0), #[]⟩
noncomputable def o214 : Params → Obj := fun _ => ⟨.none, none, (.fields #[]), #[]⟩
noncomputable def o215 : Params → Obj := fun _ => ⟨(.type "tuple"), none, (.seq #[(.str "mode" 402)] 0), #[]⟩
noncomputable def o216 : Params → Obj := fun _ => ⟨(.type "tuple"), none, (.seq #[] 0), #[]⟩
noncomputable def o217 : Params → Obj := fun _ => fC L25.1 "S_IMODE" 0 [] .none .none .none .none none .none .none 0
noncomputable def o218 : Params → Obj := fun _ => ⟨(.type "code"), none, (.fields #[(.str "S_IMODE" 399), (.str "S_IMODE" 400), (.str "/claim/cut.py" 401), (.int 145 0), (.int 1 0), (.int 0 0), (.int 0 0), (.int 3 0), (.ref 170), (.bool true), (.int 181 0), (.ref 171), .none, (.ref 172), (.ref 173), (.ref 174), (.int 403 0), (.int 145 0), (.str "/claim/cut.py" 404)]), #[]⟩
noncomputable def o219 : Params → Obj := fun _ => fO L25.1 "S_IMODE" 3 [] .none .none .none (.str "cpy313.stat" 397) none (.ref 175) .none 0
noncomputable def o220 : Params → Obj := fun _ => ⟨(.type "tuple"), none, (.seq #[] 0), #[]⟩
noncomputable def o221 : Params → Obj := fun _ => ⟨.none, none, (.fields #[]), #[]⟩
noncomputable def o222 : Params → Obj := fun _ => ⟨(.type "tuple"), none, (.seq #[(.str "mode" 409)] 0), #[]⟩
noncomputable def o223 : Params → Obj := fun _ => ⟨(.type "tuple"), none, (.seq #[] 0), #[]⟩
noncomputable def o224 : Params → Obj := fun _ => fC L26.1 "S_IFMT" 0 [] .none .none .none .none none .none .none 0
noncomputable def o225 : Params → Obj := fun _ => ⟨(.type "code"), none, (.fields #[(.str "S_IFMT" 406), (.str "S_IFMT" 407), (.str "/claim/cut.py" 408), (.int 147 0), (.int 1 0), (.int 0 0), (.int 0 0), (.int 3 0), (.ref 177), (.bool true), (.int 181 0), (.ref 178), .none, (.ref 179), (.ref 180), (.ref 181), (.int 410 0), (.int 147 0), (.str "/claim/cut.py" 411)]), #[]⟩
noncomputable def o226 : Params → Obj := fun _ => fO L26.1 "S_IFMT" 3 [] .none .none .none (.str "cpy313.stat" 397) none (.ref 182) .none 0
noncomputable def o227 : Params → Obj := fun _ => ⟨(.type "tuple"), none, (.seq #[] 0), #[]⟩
noncomputable def o228 : Params → Obj := fun _ => ⟨.none, none, (.fields #[]), #[]⟩
noncomputable def o229 : Params → Obj := fun _ => ⟨(.type "tuple"), none, (.seq #[(.str "mode" 430)] 0), #[]⟩
noncomputable def o230 : Params → Obj := fun _ => ⟨(.type "tuple"), none, (.seq #[] 0), #[]⟩
noncomputable def o231 : Params → Obj := fun _ => fC L34.1 "S_ISDIR" 0 [] .none .none .none .none none .none .none 0
noncomputable def o232 : Params → Obj := fun _ => ⟨(.type "code"), none, (.fields #[(.str "S_ISDIR" 427), (.str "S_ISDIR" 428), (.str "/claim/cut.py" 429), (.int 156 0), (.int 1 0), (.int 0 0), (.int 0 0), (.int 3 0), (.ref 184), (.bool true), (.int 181 0), (.ref 185), .none, (.ref 186), (.ref 187), (.ref 188), (.int 431 0), (.int 156 0), (.str "/claim/cut.py" 432)]), #[]⟩
noncomputable def o233 : Params → Obj := fun _ => fO L34.1 "S_ISDIR" 3 [] .none .none .none (.str "cpy313.stat" 397) none (.ref 189) .none 0
noncomputable def o234 : Params → Obj := fun _ => ⟨(.type "tuple"), none, (.seq #[] 0), #[]⟩
noncomputable def o235 : Params → Obj := fun _ => ⟨.none, none, (.fields #[]), #[]⟩
noncomputable def o236 : Params → Obj := fun _ => ⟨(.type "tuple"), none, (.seq #[(.str "mode" 437)] 0), #[]⟩
noncomputable def o237 : Params → Obj := fun _ => ⟨(.type "tuple"), none, (.seq #[] 0), #[]⟩
noncomputable def o238 : Params → Obj := fun _ => fC L35.1 "S_ISCHR" 0 [] .none .none .none .none none .none .none 0
noncomputable def o239 : Params → Obj := fun _ => ⟨(.type "code"), none, (.fields #[(.str "S_ISCHR" 434), (.str "S_ISCHR" 435), (.str "/claim/cut.py" 436), (.int 158 0), (.int 1 0), (.int 0 0), (.int 0 0), (.int 3 0), (.ref 191), (.bool true), (.int 181 0), (.ref 192), .none, (.ref 193), (.ref 194), (.ref 195), (.int 438 0), (.int 158 0), (.str "/claim/cut.py" 439)]), #[]⟩
noncomputable def o240 : Params → Obj := fun _ => fO L35.1 "S_ISCHR" 3 [] .none .none .none (.str "cpy313.stat" 397) none (.ref 196) .none 0
noncomputable def o241 : Params → Obj := fun _ => ⟨(.type "tuple"), none, (.seq #[] 0), #[]⟩
noncomputable def o242 : Params → Obj := fun _ => ⟨.none, none, (.fields #[]), #[]⟩
noncomputable def o243 : Params → Obj := fun _ => ⟨(.type "tuple"), none, (.seq #[(.str "mode" 444)] 0), #[]⟩
noncomputable def o244 : Params → Obj := fun _ => ⟨(.type "tuple"), none, (.seq #[] 0), #[]⟩
noncomputable def o245 : Params → Obj := fun _ => fC L36.1 "S_ISBLK" 0 [] .none .none .none .none none .none .none 0
noncomputable def o246 : Params → Obj := fun _ => ⟨(.type "code"), none, (.fields #[(.str "S_ISBLK" 441), (.str "S_ISBLK" 442), (.str "/claim/cut.py" 443), (.int 160 0), (.int 1 0), (.int 0 0), (.int 0 0), (.int 3 0), (.ref 198), (.bool true), (.int 181 0), (.ref 199), .none, (.ref 200), (.ref 201), (.ref 202), (.int 445 0), (.int 160 0), (.str "/claim/cut.py" 446)]), #[]⟩
noncomputable def o247 : Params → Obj := fun _ => fO L36.1 "S_ISBLK" 3 [] .none .none .none (.str "cpy313.stat" 397) none (.ref 203) .none 0
noncomputable def o248 : Params → Obj := fun P => ⟨(.type "dict"), none, (.dict #[en P "__name__" 165 (.str "cpy313.stat" 397), en P "__doc__" 166 .none, en P "__package__" 167 .none, en P "__loader__" 168 (.builtin "__main__.__loader__#opaque"), en P "__spec__" 169 .none, en P "__annotations__" 170 (.ref 6), en P "__builtins__" 171 (.ref 4), en P "__file__" 173 (.str "/claim/cut.py" 172), en P "__cached__" 174 .none, en P "_wall" 193 (.ref 21), en P "xor" 203 (.ref 28), en P "contains" 211 (.ref 35), en P "countOf" 221 (.ref 42), en P "getitem" 229 (.ref 49), en P "indexOf" 239 (.ref 56), en P "setitem" 248 (.ref 63), en P "_plain_name" 259 (.ref 70), en P "ABCMeta" 285 (.ref 87), en P "_ABCLike" 328 (.ref 120), en P "_abc_plain_meta" 335 (.ref 129), en P "fspath" 347 (.ref 136), en P "_check_arg_types" 360 (.ref 143), en P "_get_sep" 369 (.ref 150), en P "join" 380 (.ref 157), en P "dirname" 390 (.ref 164), en P "commonpath" 396 (.ref 169), en P "S_IMODE" 405 (.ref 176), en P "S_IFMT" 412 (.ref 183), en P "S_IFDIR" 414 (.int 16384 413), en P "S_IFCHR" 416 (.int 8192 415), en P "S_IFBLK" 418 (.int 24576 417), en P "S_IFREG" 420 (.int 32768 419), en P "S_IFIFO" 422 (.int 4096 421), en P "S_IFLNK" 424 (.int 40960 423), en P "S_IFSOCK" 426 (.int 49152 425), en P "S_ISDIR" 433 (.ref 190), en P "S_ISCHR" 440 (.ref 197), en P "S_ISBLK" 447 (.ref 204), en P "S_ISREG" 454 (.ref 211), en P "S_ISFIFO" 461 (.ref 218), en P "S_ISLNK" 468 (.ref 225), en P "S_ISSOCK" 475 (.ref 232), en P "S_ISUID" 477 (.int 2048 476), en P "S_ISGID" 479 (.int 1024 478), en P "S_ISVTX" 481 (.int 512 480), en P "S_IRUSR" 483 (.int 256 482), en P "S_IWUSR" 485 (.int 128 484), en P "S_IXUSR" 487 (.int 64 486), en P "S_IRGRP" 489 (.int 32 488), en P "S_IWGRP" 491 (.int 16 490), en P "S_IXGRP" 493 (.int 8 492), en P "S_IROTH" 495 (.int 4 494), en P "S_IWOTH" 497 (.int 2 496), en P "S_IXOTH" 499 (.int 1 498), en P "_filemode_table" 525 (.ref 265)] 55), #[]⟩
noncomputable def o249 : Params → Obj := fun _ => ⟨.none, none, (.fields #[(.int 1 0), (.int 0 0), (.ref 20), (.int 5 0), (.int 0 0), (.ref 27), (.int 7 0), (.int 0 0), (.ref 34), (.int 9 0), (.int 0 0), (.ref 41), (.int 15 0), (.int 0 0), (.ref 48), (.int 17 0), (.int 0 0), (.ref 55), (.int 23 0), (.int 0 0), (.ref 62), (.int 26 0), (.int 0 0), (.ref 69), (.int 32 0), (.int 0 0), (.ref 76), (.int 37 0), (.int 0 0), (.ref 95), (.int 52 0), (.int 0 0), (.ref 128), (.int 56 0), (.int 0 0), (.ref 135), (.int 73 0), (.int 0 0), (.ref 142), (.int 85 0), (.int 0 0), (.ref 149), (.int 90 0), (.int 0 0), (.ref 156), (.int 107 0), (.int 0 0), (.ref 163), (.int 115 0), (.int 0 0), (.ref 168), (.int 145 0), (.int 0 0), (.ref 175), (.int 147 0), (.int 0 0), (.ref 182), (.int 156 0), (.int 0 0), (.ref 189), (.int 158 0), (.int 0 0), (.ref 196), (.int 160 0), (.int 0 0), (.ref 203), (.int 162 0), (.int 0 0), (.ref 210), (.int 164 0), (.int 0 0), (.ref 217), (.int 166 0), (.int 0 0), (.ref 224), (.int 168 0), (.int 0 0), (.ref 231)]), #[]⟩
noncomputable def o250 : Params → Obj := fun _ => ⟨(.type "tuple"), none, (.seq #[] 0), #[]⟩
noncomputable def o251 : Params → Obj := fun _ => ⟨.none, none, (.fields #[]), #[]⟩
noncomputable def o252 : Params → Obj := fun _ => ⟨(.type "tuple"), none, (.seq #[(.str "mode" 451)] 0), #[]⟩
noncomputable def o253 : Params → Obj := fun _ => ⟨(.type "tuple"), none, (.seq #[] 0), #[]⟩
noncomputable def o254 : Params → Obj := fun _ => fC L37.1 "S_ISREG" 0 [] .none .none .none .none none .none .none 0
noncomputable def o255 : Params → Obj := fun _ => ⟨(.type "code"), none, (.fields #[(.str "S_ISREG" 448), (.str "S_ISREG" 449), (.str "/claim/cut.py" 450), (.int 162 0), (.int 1 0), (.int 0 0), (.int 0 0), (.int 3 0), (.ref 205), (.bool true), (.int 181 0), (.ref 206), .none, (.ref 207), (.ref 208), (.ref 209), (.int 452 0), (.int 162 0), (.str "/claim/cut.py" 453)]), #[]⟩
noncomputable def o256 : Params → Obj := fun _ => fO L37.1 "S_ISREG" 3 [] .none .none .none (.str "cpy313.stat" 397) none (.ref 210) .none 0
noncomputable def o257 : Params → Obj := fun _ => ⟨(.type "tuple"), none, (.seq #[] 0), #[]⟩
noncomputable def o258 : Params → Obj := fun _ => ⟨.none, none, (.fields #[]), #[]⟩
noncomputable def o259 : Params → Obj := fun _ => ⟨(.type "tuple"), none, (.seq #[(.str "mode" 458)] 0), #[]⟩
noncomputable def o260 : Params → Obj := fun _ => ⟨(.type "tuple"), none, (.seq #[] 0), #[]⟩
noncomputable def o261 : Params → Obj := fun _ => fC L38.1 "S_ISFIFO" 0 [] .none .none .none .none none .none .none 0
noncomputable def o262 : Params → Obj := fun _ => ⟨(.type "code"), none, (.fields #[(.str "S_ISFIFO" 455), (.str "S_ISFIFO" 456), (.str "/claim/cut.py" 457), (.int 164 0), (.int 1 0), (.int 0 0), (.int 0 0), (.int 3 0), (.ref 212), (.bool true), (.int 181 0), (.ref 213), .none, (.ref 214), (.ref 215), (.ref 216), (.int 459 0), (.int 164 0), (.str "/claim/cut.py" 460)]), #[]⟩
noncomputable def o263 : Params → Obj := fun _ => fO L38.1 "S_ISFIFO" 3 [] .none .none .none (.str "cpy313.stat" 397) none (.ref 217) .none 0
noncomputable def o264 : Params → Obj := fun _ => ⟨(.type "tuple"), none, (.seq #[] 0), #[]⟩
noncomputable def o265 : Params → Obj := fun _ => ⟨.none, none, (.fields #[]), #[]⟩
noncomputable def o266 : Params → Obj := fun _ => ⟨(.type "tuple"), none, (.seq #[(.str "mode" 465)] 0), #[]⟩
noncomputable def o267 : Params → Obj := fun _ => ⟨(.type "tuple"), none, (.seq #[] 0), #[]⟩
noncomputable def o268 : Params → Obj := fun _ => fC L39.1 "S_ISLNK" 0 [] .none .none .none .none none .none .none 0
noncomputable def o269 : Params → Obj := fun _ => ⟨(.type "code"), none, (.fields #[(.str "S_ISLNK" 462), (.str "S_ISLNK" 463), (.str "/claim/cut.py" 464), (.int 166 0), (.int 1 0), (.int 0 0), (.int 0 0), (.int 3 0), (.ref 219), (.bool true), (.int 181 0), (.ref 220), .none, (.ref 221), (.ref 222), (.ref 223), (.int 466 0), (.int 166 0), (.str "/claim/cut.py" 467)]), #[]⟩
noncomputable def o270 : Params → Obj := fun _ => fO L39.1 "S_ISLNK" 3 [] .none .none .none (.str "cpy313.stat" 397) none (.ref 224) .none 0
noncomputable def o271 : Params → Obj := fun _ => ⟨(.type "tuple"), none, (.seq #[] 0), #[]⟩
noncomputable def o272 : Params → Obj := fun _ => ⟨.none, none, (.fields #[]), #[]⟩
noncomputable def o273 : Params → Obj := fun _ => ⟨(.type "tuple"), none, (.seq #[(.str "mode" 472)] 0), #[]⟩
noncomputable def o274 : Params → Obj := fun _ => ⟨(.type "tuple"), none, (.seq #[] 0), #[]⟩
noncomputable def o275 : Params → Obj := fun _ => fC L40.1 "S_ISSOCK" 0 [] .none .none .none .none none .none .none 0
noncomputable def o276 : Params → Obj := fun _ => ⟨(.type "code"), none, (.fields #[(.str "S_ISSOCK" 469), (.str "S_ISSOCK" 470), (.str "/claim/cut.py" 471), (.int 168 0), (.int 1 0), (.int 0 0), (.int 0 0), (.int 3 0), (.ref 226), (.bool true), (.int 181 0), (.ref 227), .none, (.ref 228), (.ref 229), (.ref 230), (.int 473 0), (.int 168 0), (.str "/claim/cut.py" 474)]), #[]⟩
noncomputable def o277 : Params → Obj := fun _ => fO L40.1 "S_ISSOCK" 3 [] .none .none .none (.str "cpy313.stat" 397) none (.ref 231) .none 0
noncomputable def o278 : Params → Obj := fun _ => ⟨(.type "tuple"), none, (.seq #[(.int 40960 423), (.str "l" 500)] 0), #[]⟩
noncomputable def o279 : Params → Obj := fun _ => ⟨(.type "tuple"), none, (.seq #[(.int 49152 425), (.str "s" 501)] 0), #[]⟩
noncomputable def o280 : Params → Obj := fun _ => ⟨(.type "tuple"), none, (.seq #[(.int 32768 419), (.str "-" 502)] 0), #[]⟩
noncomputable def o281 : Params → Obj := fun _ => ⟨(.type "tuple"), none, (.seq #[(.int 24576 417), (.str "b" 503)] 0), #[]⟩
noncomputable def o282 : Params → Obj := fun _ => ⟨(.type "tuple"), none, (.seq #[(.int 16384 413), (.str "d" 504)] 0), #[]⟩
noncomputable def o283 : Params → Obj := fun _ => ⟨(.type "tuple"), none, (.seq #[(.int 8192 415), (.str "c" 505)] 0), #[]⟩
noncomputable def o284 : Params → Obj := fun _ => ⟨(.type "tuple"), none, (.seq #[(.int 4096 421), (.str "p" 506)] 0), #[]⟩
noncomputable def o285 : Params → Obj := fun _ => ⟨(.type "tuple"), none, (.seq #[(.ref 233), (.ref 234), (.ref 235), (.ref 236), (.ref 237), (.ref 238), (.ref 239)] 0), #[]⟩
noncomputable def o286 : Params → Obj := fun _ => ⟨(.type "tuple"), none, (.seq #[(.int 256 482), (.str "r" 507)] 0), #[]⟩
noncomputable def o287 : Params → Obj := fun _ => ⟨(.type "tuple"), none, (.seq #[(.ref 241)] 0), #[]⟩
noncomputable def o288 : Params → Obj := fun _ => ⟨(.type "tuple"), none, (.seq #[(.int 128 484), (.str "w" 508)] 0), #[]⟩
noncomputable def o289 : Params → Obj := fun _ => ⟨(.type "tuple"), none, (.seq #[(.ref 243)] 0), #[]⟩
noncomputable def o290 : Params → Obj := fun _ => ⟨(.type "tuple"), none, (.seq #[(.int 2112 509), (.str "s" 510)] 0), #[]⟩
noncomputable def o291 : Params → Obj := fun _ => ⟨(.type "tuple"), none, (.seq #[(.int 2048 476), (.str "S" 511)] 0), #[]⟩
noncomputable def o292 : Params → Obj := fun _ => ⟨(.type "tuple"), none, (.seq #[(.int 64 486), (.str "x" 512)] 0), #[]⟩
noncomputable def o293 : Params → Obj := fun _ => ⟨(.type "tuple"), none, (.seq #[(.ref 245), (.ref 246), (.ref 247)] 0), #[]⟩
noncomputable def o294 : Params → Obj := fun _ => ⟨(.type "tuple"), none, (.seq #[(.int 32 488), (.str "r" 513)] 0), #[]⟩
noncomputable def o295 : Params → Obj := fun _ => ⟨(.type "tuple"), none, (.seq #[(.ref 249)] 0), #[]⟩
noncomputable def o296 : Params → Obj := fun _ => ⟨(.type "tuple"), none, (.seq #[(.int 16 490), (.str "w" 514)] 0), #[]⟩
noncomputable def o297 : Params → Obj := fun _ => ⟨(.type "tuple"), none, (.seq #[(.ref 251)] 0), #[]⟩
noncomputable def o298 : Params → Obj := fun _ => ⟨(.type "tuple"), none, (.seq #[(.int 1032 515), (.str "s" 516)] 0), #[]⟩
noncomputable def o299 : Params → Obj := fun _ => ⟨(.type "tuple"), none, (.seq #[(.int 1024 478), (.str "S" 517)] 0), #[]⟩
noncomputable def o300 : Params → Obj := fun _ => ⟨(.type "tuple"), none, (.seq #[(.int 8 492), (.str "x" 518)] 0), #[]⟩
noncomputable def o301 : Params → Obj := fun _ => ⟨(.type "tuple"), none, (.seq #[(.ref 253), (.ref 254), (.ref 255)] 0), #[]⟩
noncomputable def o302 : Params → Obj := fun _ => ⟨(.type "tuple"), none, (.seq #[(.int 4 494), (.str "r" 519)] 0), #[]⟩
noncomputable def o303 : Params → Obj := fun _ => ⟨(.type "tuple"), none, (.seq #[(.ref 257)] 0), #[]⟩
noncomputable def o304 : Params → Obj := fun _ => ⟨(.type "tuple"), none, (.seq #[(.int 2 496), (.str "w" 520)] 0), #[]⟩
noncomputable def o305 : Params → Obj := fun _ => ⟨(.type "tuple"), none, (.seq #[(.ref 259)] 0), #[]⟩
noncomputable def o306 : Params → Obj := fun _ => ⟨(.type "tuple"), none, (.seq #[(.int 513 521), (.str "t" 522)] 0), #[]⟩
noncomputable def o307 : Params → Obj := fun _ => ⟨(.type "tuple"), none, (.seq #[(.int 512 480), (.str "T" 523)] 0), #[]⟩
noncomputable def o308 : Params → Obj := fun _ => ⟨(.type "tuple"), none, (.seq #[(.int 1 498), (.str "x" 524)] 0), #[]⟩
noncomputable def o309 : Params → Obj := fun _ => ⟨(.type "tuple"), none, (.seq #[(.ref 261), (.ref 262), (.ref 263)] 0), #[]⟩
noncomputable def o310 : Params → Obj := fun _ => ⟨(.type "tuple"), none, (.seq #[(.ref 240), (.ref 242), (.ref 244), (.ref 248), (.ref 250), (.ref 252), (.ref 256), (.ref 258), (.ref 260), (.ref 264)] 0), #[]⟩
noncomputable def o311 : Params → Obj := fun P => ⟨(.type "dict"), none, (.dict #[en P "__name__" 165 (.str "law_in0209_01" 538), en P "__doc__" 166 .none, en P "__package__" 167 .none, en P "__loader__" 168 (.builtin "__main__.__loader__#opaque"), en P "__spec__" 169 .none, en P "__annotations__" 170 (.ref 6), en P "__builtins__" 171 (.ref 4), en P "__file__" 173 (.str "/claim/cut.py" 172), en P "__cached__" 174 .none, en P "_wall" 193 (.ref 21), en P "xor" 203 (.ref 28), en P "contains" 211 (.ref 35), en P "countOf" 221 (.ref 42), en P "getitem" 229 (.ref 49), en P "indexOf" 239 (.ref 56), en P "setitem" 248 (.ref 63), en P "_plain_name" 259 (.ref 70), en P "ABCMeta" 285 (.ref 87), en P "_ABCLike" 328 (.ref 120), en P "_abc_plain_meta" 335 (.ref 129), en P "fspath" 347 (.ref 136), en P "_check_arg_types" 360 (.ref 143), en P "_get_sep" 369 (.ref 150), en P "join" 380 (.ref 157), en P "dirname" 390 (.ref 164), en P "commonpath" 396 (.ref 169), en P "S_IMODE" 405 (.ref 176), en P "S_IFMT" 412 (.ref 183), en P "S_IFDIR" 414 (.int 16384 413), en P "S_IFCHR" 416 (.int 8192 415), en P "S_IFBLK" 418 (.int 24576 417), en P "S_IFREG" 420 (.int 32768 419), en P "S_IFIFO" 422 (.int 4096 421), en P "S_IFLNK" 424 (.int 40960 423), en P "S_IFSOCK" 426 (.int 49152 425), en P "S_ISDIR" 433 (.ref 190), en P "S_ISCHR" 440 (.ref 197), en P "S_ISBLK" 447 (.ref 204), en P "S_ISREG" 454 (.ref 211), en P "S_ISFIFO" 461 (.ref 218), en P "S_ISLNK" 468 (.ref 225), en P "S_ISSOCK" 475 (.ref 232), en P "S_ISUID" 477 (.int 2048 476), en P "S_ISGID" 479 (.int 1024 478), en P "S_ISVTX" 481 (.int 512 480), en P "S_IRUSR" 483 (.int 256 482), en P "S_IWUSR" 485 (.int 128 484), en P "S_IXUSR" 487 (.int 64 486), en P "S_IRGRP" 489 (.int 32 488), en P "S_IWGRP" 491 (.int 16 490), en P "S_IXGRP" 493 (.int 8 492), en P "S_IROTH" 495 (.int 4 494), en P "S_IWOTH" 497 (.int 2 496), en P "S_IXOTH" 499 (.int 1 498), en P "_filemode_table" 525 (.ref 265), en P "filemode" 537 (.ref 272), en P "_law_draw" 547 (.ref 279), en P "_law_tree" 561 (.ref 286), en P "_law_up" 570 (.ref 293), en P "_law_between" 580 (.ref 300), en P "_law_kind" 586 (.ref 305), en P "_law_rows" 592 (.ref 310), en P "_law_chain" 601 (.ref 317), en P "_law_odd" 607 (.ref 322), en P "_law_signs" 617 (.ref 329), en P "_law_worth" 623 (.ref 334), en P "_law_pair" 637 (.ref 341)] 67), #[]⟩
noncomputable def o312 : Params → Obj := fun _ => ⟨.none, none, (.fields #[(.int 1 0), (.int 0 0), (.ref 20), (.int 5 0), (.int 0 0), (.ref 27), (.int 7 0), (.int 0 0), (.ref 34), (.int 9 0), (.int 0 0), (.ref 41), (.int 15 0), (.int 0 0), (.ref 48), (.int 17 0), (.int 0 0), (.ref 55), (.int 23 0), (.int 0 0), (.ref 62), (.int 26 0), (.int 0 0), (.ref 69), (.int 32 0), (.int 0 0), (.ref 76), (.int 37 0), (.int 0 0), (.ref 95), (.int 52 0), (.int 0 0), (.ref 128), (.int 56 0), (.int 0 0), (.ref 135), (.int 73 0), (.int 0 0), (.ref 142), (.int 85 0), (.int 0 0), (.ref 149), (.int 90 0), (.int 0 0), (.ref 156), (.int 107 0), (.int 0 0), (.ref 163), (.int 115 0), (.int 0 0), (.ref 168), (.int 145 0), (.int 0 0), (.ref 175), (.int 147 0), (.int 0 0), (.ref 182), (.int 156 0), (.int 0 0), (.ref 189), (.int 158 0), (.int 0 0), (.ref 196), (.int 160 0), (.int 0 0), (.ref 203), (.int 162 0), (.int 0 0), (.ref 210), (.int 164 0), (.int 0 0), (.ref 217), (.int 166 0), (.int 0 0), (.ref 224), (.int 168 0), (.int 0 0), (.ref 231), (.int 183 0), (.int 0 0), (.ref 271), (.int 201 0), (.int 0 0), (.ref 278), (.int 203 0), (.int 0 0), (.ref 285), (.int 214 0), (.int 0 0), (.ref 292), (.int 220 0), (.int 0 0), (.ref 299), (.int 223 0), (.int 0 0), (.ref 304), (.int 230 0), (.int 0 0), (.ref 309), (.int 240 0), (.int 0 0), (.ref 316), (.int 245 0), (.int 0 0), (.ref 321), (.int 251 0), (.int 0 0), (.ref 328), (.int 256 0), (.int 0 0), (.ref 333), (.int 258 0), (.int 0 0), (.ref 340)]), #[]⟩
noncomputable def o313 : Params → Obj := fun _ => ⟨(.type "tuple"), none, (.seq #[] 0), #[]⟩
noncomputable def o314 : Params → Obj := fun _ => ⟨.none, none, (.fields #[]), #[]⟩
noncomputable def o315 : Params → Obj := fun _ => ⟨(.type "tuple"), none, (.seq #[(.str "mode" 529), (.str "perm" 530), (.str "index" 531), (.str "table" 532), (.str "bit" 533), (.str "char" 534)] 0), #[]⟩
noncomputable def o316 : Params → Obj := fun _ => ⟨(.type "tuple"), none, (.seq #[] 0), #[]⟩
noncomputable def o317 : Params → Obj := fun _ => fC L54.1 "filemode" 0 [] .none .none .none .none none .none .none 0
noncomputable def o318 : Params → Obj := fun _ => ⟨(.type "code"), none, (.fields #[(.str "filemode" 526), (.str "filemode" 527), (.str "/claim/cut.py" 528), (.int 183 0), (.int 1 0), (.int 0 0), (.int 0 0), (.int 3 0), (.ref 266), (.bool true), (.int 181 0), (.ref 267), .none, (.ref 268), (.ref 269), (.ref 270), (.int 535 0), (.int 183 0), (.str "/claim/cut.py" 536)]), #[]⟩
noncomputable def o319 : Params → Obj := fun _ => fO L54.1 "filemode" 3 [] .none .none .none (.str "cpy313.stat" 397) none (.ref 271) .none 0
noncomputable def o320 : Params → Obj := fun _ => ⟨(.type "tuple"), none, (.seq #[] 0), #[]⟩
noncomputable def o321 : Params → Obj := fun _ => ⟨.none, none, (.fields #[]), #[]⟩
noncomputable def o322 : Params → Obj := fun _ => ⟨(.type "tuple"), none, (.seq #[(.str "number" 543), (.str "size" 544)] 0), #[]⟩
noncomputable def o323 : Params → Obj := fun _ => ⟨(.type "tuple"), none, (.seq #[] 0), #[]⟩
noncomputable def o324 : Params → Obj := fun _ => fC L56.1 "_law_draw" 0 [] .none .none .none .none none .none .none 0
noncomputable def o325 : Params → Obj := fun _ => ⟨(.type "code"), none, (.fields #[(.str "_law_draw" 540), (.str "_law_draw" 541), (.str "/claim/cut.py" 542), (.int 201 0), (.int 2 0), (.int 0 0), (.int 0 0), (.int 3 0), (.ref 273), (.bool true), (.int 181 0), (.ref 274), .none, (.ref 275), (.ref 276), (.ref 277), (.int 545 0), (.int 201 0), (.str "/claim/cut.py" 546)]), #[]⟩
noncomputable def o326 : Params → Obj := fun _ => fO L56.1 "_law_draw" 3 [] .none .none .none (.str "law_in0209_01" 538) none (.ref 278) .none 0
noncomputable def o327 : Params → Obj := fun _ => ⟨(.type "tuple"), none, (.seq #[] 0), #[]⟩
noncomputable def o328 : Params → Obj := fun _ => ⟨.none, none, (.fields #[]), #[]⟩
noncomputable def o329 : Params → Obj := fun _ => ⟨(.type "tuple"), none, (.seq #[(.str "numbers" 551), (.str "ways" 552), (.str "modes" 553), (.str "number" 554), (.str "father" 555), (.str "name" 556), (.str "mode" 557), (.str "way" 558)] 0), #[]⟩
noncomputable def o330 : Params → Obj := fun _ => ⟨(.type "tuple"), none, (.seq #[] 0), #[]⟩
noncomputable def o331 : Params → Obj := fun _ => fC L57.1 "_law_tree" 0 [] .none .none .none .none none .none .none 0
noncomputable def o332 : Params → Obj := fun _ => ⟨(.type "code"), none, (.fields #[(.str "_law_tree" 548), (.str "_law_tree" 549), (.str "/claim/cut.py" 550), (.int 203 0), (.int 1 0), (.int 0 0), (.int 0 0), (.int 3 0), (.ref 280), (.bool true), (.int 181 0), (.ref 281), .none, (.ref 282), (.ref 283), (.ref 284), (.int 559 0), (.int 203 0), (.str "/claim/cut.py" 560)]), #[]⟩
noncomputable def o333 : Params → Obj := fun _ => fO L57.1 "_law_tree" 3 [] .none .none .none (.str "law_in0209_01" 538) none (.ref 285) .none 0
noncomputable def o334 : Params → Obj := fun _ => ⟨(.type "tuple"), none, (.seq #[] 0), #[]⟩
noncomputable def o335 : Params → Obj := fun _ => ⟨.none, none, (.fields #[]), #[]⟩
noncomputable def o336 : Params → Obj := fun _ => ⟨(.type "tuple"), none, (.seq #[(.str "modes" 565), (.str "way" 566), (.str "turned" 567)] 0), #[]⟩
noncomputable def o337 : Params → Obj := fun _ => ⟨(.type "tuple"), none, (.seq #[] 0), #[]⟩
noncomputable def o338 : Params → Obj := fun _ => fC L58.1 "_law_up" 0 [] .none .none .none .none none .none .none 0
noncomputable def o339 : Params → Obj := fun _ => ⟨(.type "code"), none, (.fields #[(.str "_law_up" 562), (.str "_law_up" 563), (.str "/claim/cut.py" 564), (.int 214 0), (.int 2 0), (.int 0 0), (.int 0 0), (.int 3 0), (.ref 287), (.bool true), (.int 181 0), (.ref 288), .none, (.ref 289), (.ref 290), (.ref 291), (.int 568 0), (.int 214 0), (.str "/claim/cut.py" 569)]), #[]⟩
noncomputable def o340 : Params → Obj := fun _ => fO L58.1 "_law_up" 3 [] .none .none .none (.str "law_in0209_01" 538) none (.ref 292) .none 0
noncomputable def o341 : Params → Obj := fun _ => ⟨(.type "tuple"), none, (.seq #[] 0), #[]⟩
noncomputable def o342 : Params → Obj := fun _ => ⟨.none, none, (.fields #[]), #[]⟩
noncomputable def o343 : Params → Obj := fun _ => ⟨(.type "tuple"), none, (.seq #[(.str "modes" 574), (.str "one" 575), (.str "other" 576), (.str "turned" 577)] 0), #[]⟩
noncomputable def o344 : Params → Obj := fun _ => ⟨(.type "tuple"), none, (.seq #[] 0), #[]⟩
noncomputable def o345 : Params → Obj := fun _ => fC L59.1 "_law_between" 0 [] .none .none .none .none none .none .none 0
noncomputable def o346 : Params → Obj := fun _ => ⟨(.type "code"), none, (.fields #[(.str "_law_between" 571), (.str "_law_between" 572), (.str "/claim/cut.py" 573), (.int 220 0), (.int 3 0), (.int 0 0), (.int 0 0), (.int 3 0), (.ref 294), (.bool true), (.int 181 0), (.ref 295), .none, (.ref 296), (.ref 297), (.ref 298), (.int 578 0), (.int 220 0), (.str "/claim/cut.py" 579)]), #[]⟩
noncomputable def o347 : Params → Obj := fun _ => fO L59.1 "_law_between" 3 [] .none .none .none (.str "law_in0209_01" 538) none (.ref 299) .none 0
noncomputable def o348 : Params → Obj := fun _ => ⟨(.type "tuple"), none, (.seq #[] 0), #[]⟩
noncomputable def o349 : Params → Obj := fun _ => ⟨.none, none, (.fields #[]), #[]⟩
noncomputable def o350 : Params → Obj := fun _ => fC L60.1 "_law_kind" 0 [] .none .none .none .none none .none .none 0
noncomputable def o351 : Params → Obj := fun _ => ⟨(.type "code"), none, (.fields #[(.str "_law_kind" 581), (.str "_law_kind" 582), (.str "/claim/cut.py" 583), (.int 223 0), (.int 1 0), (.int 0 0), (.int 0 0), (.int 3 0), (.ref 301), (.bool true), (.int 181 0), (.ref 302), .none, .none, .none, (.ref 303), (.int 584 0), (.int 223 0), (.str "/claim/cut.py" 585)]), #[]⟩
noncomputable def o352 : Params → Obj := fun _ => fO L60.1 "_law_kind" 3 [] .none .none .none (.str "law_in0209_01" 538) none (.ref 304) .none 0
noncomputable def o353 : Params → Obj := fun _ => ⟨(.type "tuple"), none, (.seq #[] 0), #[]⟩
noncomputable def o354 : Params → Obj := fun _ => ⟨.none, none, (.fields #[]), #[]⟩
noncomputable def o355 : Params → Obj := fun _ => fC L61.1 "_law_rows" 0 [] .none .none .none .none none .none .none 0
noncomputable def o356 : Params → Obj := fun _ => ⟨(.type "code"), none, (.fields #[(.str "_law_rows" 587), (.str "_law_rows" 588), (.str "/claim/cut.py" 589), (.int 230 0), (.int 1 0), (.int 0 0), (.int 0 0), (.int 3 0), (.ref 306), (.bool true), (.int 181 0), (.ref 307), .none, .none, .none, (.ref 308), (.int 590 0), (.int 230 0), (.str "/claim/cut.py" 591)]), #[]⟩
noncomputable def o357 : Params → Obj := fun _ => fO L61.1 "_law_rows" 3 [] .none .none .none (.str "law_in0209_01" 538) none (.ref 309) .none 0
noncomputable def o358 : Params → Obj := fun _ => ⟨(.type "tuple"), none, (.seq #[] 0), #[]⟩
noncomputable def o359 : Params → Obj := fun _ => ⟨.none, none, (.fields #[]), #[]⟩
noncomputable def o360 : Params → Obj := fun _ => ⟨(.type "tuple"), none, (.seq #[(.str "rows" 596), (.str "place" 597), (.str "chain" 598)] 0), #[]⟩
noncomputable def o361 : Params → Obj := fun _ => ⟨(.type "tuple"), none, (.seq #[] 0), #[]⟩
noncomputable def o362 : Params → Obj := fun _ => fC L62.1 "_law_chain" 0 [] .none .none .none .none none .none .none 0
noncomputable def o363 : Params → Obj := fun _ => ⟨(.type "code"), none, (.fields #[(.str "_law_chain" 593), (.str "_law_chain" 594), (.str "/claim/cut.py" 595), (.int 240 0), (.int 2 0), (.int 0 0), (.int 0 0), (.int 3 0), (.ref 311), (.bool true), (.int 181 0), (.ref 312), .none, (.ref 313), (.ref 314), (.ref 315), (.int 599 0), (.int 240 0), (.str "/claim/cut.py" 600)]), #[]⟩
noncomputable def o364 : Params → Obj := fun _ => fO L62.1 "_law_chain" 3 [] .none .none .none (.str "law_in0209_01" 538) none (.ref 316) .none 0
noncomputable def o365 : Params → Obj := fun _ => ⟨(.type "tuple"), none, (.seq #[] 0), #[]⟩
noncomputable def o366 : Params → Obj := fun _ => ⟨.none, none, (.fields #[]), #[]⟩
noncomputable def o367 : Params → Obj := fun _ => fC L63.1 "_law_odd" 0 [] .none .none .none .none none .none .none 0
noncomputable def o368 : Params → Obj := fun _ => ⟨(.type "code"), none, (.fields #[(.str "_law_odd" 602), (.str "_law_odd" 603), (.str "/claim/cut.py" 604), (.int 245 0), (.int 3 0), (.int 0 0), (.int 0 0), (.int 3 0), (.ref 318), (.bool true), (.int 181 0), (.ref 319), .none, .none, .none, (.ref 320), (.int 605 0), (.int 245 0), (.str "/claim/cut.py" 606)]), #[]⟩
noncomputable def o369 : Params → Obj := fun _ => fO L63.1 "_law_odd" 3 [] .none .none .none (.str "law_in0209_01" 538) none (.ref 321) .none 0
noncomputable def o370 : Params → Obj := fun _ => ⟨(.type "tuple"), none, (.seq #[] 0), #[]⟩
noncomputable def o371 : Params → Obj := fun _ => ⟨.none, none, (.fields #[]), #[]⟩
noncomputable def o372 : Params → Obj := fun _ => ⟨(.type "tuple"), none, (.seq #[(.str "bits" 611), (.str "text" 612), (.str "place" 613), (.str "last" 614)] 0), #[]⟩
noncomputable def o373 : Params → Obj := fun _ => ⟨(.type "tuple"), none, (.seq #[] 0), #[]⟩
noncomputable def o374 : Params → Obj := fun _ => fC L64.1 "_law_signs" 0 [] .none .none .none .none none .none .none 0
noncomputable def o375 : Params → Obj := fun _ => ⟨(.type "code"), none, (.fields #[(.str "_law_signs" 608), (.str "_law_signs" 609), (.str "/claim/cut.py" 610), (.int 251 0), (.int 1 0), (.int 0 0), (.int 0 0), (.int 3 0), (.ref 323), (.bool true), (.int 181 0), (.ref 324), .none, (.ref 325), (.ref 326), (.ref 327), (.int 615 0), (.int 251 0), (.str "/claim/cut.py" 616)]), #[]⟩
noncomputable def o376 : Params → Obj := fun _ => fO L64.1 "_law_signs" 3 [] .none .none .none (.str "law_in0209_01" 538) none (.ref 328) .none 0
noncomputable def o377 : Params → Obj := fun _ => ⟨(.type "tuple"), none, (.seq #[] 0), #[]⟩
noncomputable def o378 : Params → Obj := fun _ => ⟨.none, none, (.fields #[]), #[]⟩
noncomputable def o379 : Params → Obj := fun _ => fC L65.1 "_law_worth" 0 [] .none .none .none .none none .none .none 0
noncomputable def o380 : Params → Obj := fun _ => ⟨(.type "code"), none, (.fields #[(.str "_law_worth" 618), (.str "_law_worth" 619), (.str "/claim/cut.py" 620), (.int 256 0), (.int 1 0), (.int 0 0), (.int 0 0), (.int 3 0), (.ref 330), (.bool true), (.int 181 0), (.ref 331), .none, .none, .none, (.ref 332), (.int 621 0), (.int 256 0), (.str "/claim/cut.py" 622)]), #[]⟩
noncomputable def o381 : Params → Obj := fun _ => fO L65.1 "_law_worth" 3 [] .none .none .none (.str "law_in0209_01" 538) none (.ref 333) .none 0
noncomputable def o382 : Params → Obj := fun _ => ⟨(.type "tuple"), none, (.seq #[] 0), #[]⟩
noncomputable def o383 : Params → Obj := fun _ => ⟨.none, none, (.fields #[]), #[]⟩
noncomputable def o384 : Params → Obj := fun _ => ⟨(.type "tuple"), none, (.seq #[(.str "ways" 627), (.str "modes" 628), (.str "rows" 629), (.str "one" 630), (.str "other" 631), (.str "mode" 632), (.str "bits" 633), (.str "signs" 634)] 0), #[]⟩
noncomputable def o385 : Params → Obj := fun _ => ⟨(.type "tuple"), none, (.seq #[] 0), #[]⟩
noncomputable def o386 : Params → Obj := fun _ => fC L66.1 "_law_pair" 0 [] .none .none .none .none none .none .none 0
noncomputable def o387 : Params → Obj := fun _ => ⟨(.type "code"), none, (.fields #[(.str "_law_pair" 624), (.str "_law_pair" 625), (.str "/claim/cut.py" 626), (.int 258 0), (.int 5 0), (.int 0 0), (.int 0 0), (.int 3 0), (.ref 335), (.bool true), (.int 181 0), (.ref 336), .none, (.ref 337), (.ref 338), (.ref 339), (.int 635 0), (.int 258 0), (.str "/claim/cut.py" 636)]), #[]⟩
noncomputable def o388 : Params → Obj := fun _ => fO L66.1 "_law_pair" 3 [] .none .none .none (.str "law_in0209_01" 538) none (.ref 340) .none 0
noncomputable def o389 : Params → Obj := fun P => ⟨(.type "dict"), none, (.dict #[en P "__name__" 165 (.str "law_in0209_01" 538), en P "__doc__" 166 .none, en P "__package__" 167 .none, en P "__loader__" 168 (.builtin "__main__.__loader__#opaque"), en P "__spec__" 169 .none, en P "__annotations__" 170 (.ref 6), en P "__builtins__" 171 (.ref 4), en P "__file__" 173 (.str "/claim/cut.py" 172), en P "__cached__" 174 .none, en P "_wall" 193 (.ref 21), en P "xor" 203 (.ref 28), en P "contains" 211 (.ref 35), en P "countOf" 221 (.ref 42), en P "getitem" 229 (.ref 49), en P "indexOf" 239 (.ref 56), en P "setitem" 248 (.ref 63), en P "_plain_name" 259 (.ref 70), en P "ABCMeta" 285 (.ref 87), en P "_ABCLike" 328 (.ref 120), en P "_abc_plain_meta" 335 (.ref 129), en P "fspath" 347 (.ref 136), en P "_check_arg_types" 360 (.ref 143), en P "_get_sep" 369 (.ref 150), en P "join" 380 (.ref 157), en P "dirname" 390 (.ref 164), en P "commonpath" 396 (.ref 169), en P "S_IMODE" 405 (.ref 176), en P "S_IFMT" 412 (.ref 183), en P "S_IFDIR" 414 (.int 16384 413), en P "S_IFCHR" 416 (.int 8192 415), en P "S_IFBLK" 418 (.int 24576 417), en P "S_IFREG" 420 (.int 32768 419), en P "S_IFIFO" 422 (.int 4096 421), en P "S_IFLNK" 424 (.int 40960 423), en P "S_IFSOCK" 426 (.int 49152 425), en P "S_ISDIR" 433 (.ref 190), en P "S_ISCHR" 440 (.ref 197), en P "S_ISBLK" 447 (.ref 204), en P "S_ISREG" 454 (.ref 211), en P "S_ISFIFO" 461 (.ref 218), en P "S_ISLNK" 468 (.ref 225), en P "S_ISSOCK" 475 (.ref 232), en P "S_ISUID" 477 (.int 2048 476), en P "S_ISGID" 479 (.int 1024 478), en P "S_ISVTX" 481 (.int 512 480), en P "S_IRUSR" 483 (.int 256 482), en P "S_IWUSR" 485 (.int 128 484), en P "S_IXUSR" 487 (.int 64 486), en P "S_IRGRP" 489 (.int 32 488), en P "S_IWGRP" 491 (.int 16 490), en P "S_IXGRP" 493 (.int 8 492), en P "S_IROTH" 495 (.int 4 494), en P "S_IWOTH" 497 (.int 2 496), en P "S_IXOTH" 499 (.int 1 498), en P "_filemode_table" 525 (.ref 265), en P "filemode" 537 (.ref 272), en P "_law_draw" 547 (.ref 279), en P "_law_tree" 561 (.ref 286), en P "_law_up" 570 (.ref 293), en P "_law_between" 580 (.ref 300), en P "_law_kind" 586 (.ref 305), en P "_law_rows" 592 (.ref 310), en P "_law_chain" 601 (.ref 317), en P "_law_odd" 607 (.ref 322), en P "_law_signs" 617 (.ref 329), en P "_law_worth" 623 (.ref 334), en P "_law_pair" 637 (.ref 341), en P "law" 643 (.ref 346)] 68), #[]⟩
noncomputable def o390 : Params → Obj := fun _ => ⟨.none, none, (.fields #[(.int 1 0), (.int 0 0), (.ref 20), (.int 5 0), (.int 0 0), (.ref 27), (.int 7 0), (.int 0 0), (.ref 34), (.int 9 0), (.int 0 0), (.ref 41), (.int 15 0), (.int 0 0), (.ref 48), (.int 17 0), (.int 0 0), (.ref 55), (.int 23 0), (.int 0 0), (.ref 62), (.int 26 0), (.int 0 0), (.ref 69), (.int 32 0), (.int 0 0), (.ref 76), (.int 37 0), (.int 0 0), (.ref 95), (.int 52 0), (.int 0 0), (.ref 128), (.int 56 0), (.int 0 0), (.ref 135), (.int 73 0), (.int 0 0), (.ref 142), (.int 85 0), (.int 0 0), (.ref 149), (.int 90 0), (.int 0 0), (.ref 156), (.int 107 0), (.int 0 0), (.ref 163), (.int 115 0), (.int 0 0), (.ref 168), (.int 145 0), (.int 0 0), (.ref 175), (.int 147 0), (.int 0 0), (.ref 182), (.int 156 0), (.int 0 0), (.ref 189), (.int 158 0), (.int 0 0), (.ref 196), (.int 160 0), (.int 0 0), (.ref 203), (.int 162 0), (.int 0 0), (.ref 210), (.int 164 0), (.int 0 0), (.ref 217), (.int 166 0), (.int 0 0), (.ref 224), (.int 168 0), (.int 0 0), (.ref 231), (.int 183 0), (.int 0 0), (.ref 271), (.int 201 0), (.int 0 0), (.ref 278), (.int 203 0), (.int 0 0), (.ref 285), (.int 214 0), (.int 0 0), (.ref 292), (.int 220 0), (.int 0 0), (.ref 299), (.int 223 0), (.int 0 0), (.ref 304), (.int 230 0), (.int 0 0), (.ref 309), (.int 240 0), (.int 0 0), (.ref 316), (.int 245 0), (.int 0 0), (.ref 321), (.int 251 0), (.int 0 0), (.ref 328), (.int 256 0), (.int 0 0), (.ref 333), (.int 258 0), (.int 0 0), (.ref 340), (.int 265 0), (.int 0 0), (.ref 345)]), #[]⟩
noncomputable def o391 : Params → Obj := fun _ => ⟨(.type "tuple"), none, (.seq #[] 0), #[]⟩
noncomputable def o392 : Params → Obj := fun _ => ⟨.none, none, (.fields #[]), #[]⟩
noncomputable def o393 : Params → Obj := fun _ => fC L67.1 "law" 0 [] .none .none .none .none none .none .none 0
noncomputable def o394 : Params → Obj := fun _ => ⟨(.type "code"), none, (.fields #[(.str "law" 638), (.str "law" 639), (.str "/claim/cut.py" 640), (.int 265 0), (.int 1 0), (.int 0 0), (.int 0 0), (.int 3 0), (.ref 342), (.bool true), (.int 181 0), (.ref 343), .none, .none, .none, (.ref 344), (.int 641 0), (.int 265 0), (.str "/claim/cut.py" 642)]), #[]⟩
noncomputable def o395 : Params → Obj := fun _ => fO L67.1 "law" 3 [] .none .none .none (.str "law_in0209_01" 538) none (.ref 345) .none 0
noncomputable def heap46 : Params → Heap := fun P => ⟨#[(boot_o_0 P), (boot_o_1 P), (boot_o_2 P), (boot_o_3 P), (boot_o_4 P), (boot_o_5 P), (boot_o_6 P), (boot_o_7 P), (boot_o_8 P), (boot_o_9 P), (boot_o_10 P), (o43 P), (o44 P), (o45 P), (o46 P)], {}⟩
noncomputable def tree47 : Params → BT := fun P => (.node (boot_o_0 P) (.node (boot_o_1 P) (.node (boot_o_3 P) (.node (boot_o_7 P) .nil .nil) (.node (o43 P) .nil .nil)) (.node (boot_o_5 P) (.node (boot_o_9 P) .nil .nil) (.node (o45 P) .nil .nil))) (.node (boot_o_2 P) (.node (boot_o_4 P) (.node (boot_o_8 P) .nil .nil) (.node (o44 P) .nil .nil)) (.node (boot_o_6 P) (.node (boot_o_10 P) .nil .nil) (.node (o46 P) .nil .nil))))
noncomputable def tree106 : Params → BT := fun P => (.node (boot_o_0 P) (.node (boot_o_1 P) (.node (o49 P) (.node (boot_o_7 P) (.node (o51 P) (.node (o67 P) (.node (o99 P) .nil .nil) .nil) (.node (o83 P) .nil .nil)) (.node (o59 P) (.node (o75 P) .nil .nil) (.node (o91 P) .nil .nil))) (.node (o43 P) (.node (o55 P) (.node (o71 P) (.node (o103 P) .nil .nil) .nil) (.node (o87 P) .nil .nil)) (.node (o63 P) (.node (o79 P) .nil .nil) (.node (o95 P) .nil .nil)))) (.node (boot_o_5 P) (.node (boot_o_9 P) (.node (o53 P) (.node (o69 P) (.node (o101 P) .nil .nil) .nil) (.node (o85 P) .nil .nil)) (.node (o61 P) (.node (o77 P) .nil .nil) (.node (o93 P) .nil .nil))) (.node (o45 P) (.node (o57 P) (.node (o73 P) (.node (o105 P) .nil .nil) .nil) (.node (o89 P) .nil .nil)) (.node (o65 P) (.node (o81 P) .nil .nil) (.node (o97 P) .nil .nil))))) (.node (boot_o_2 P) (.node (boot_o_4 P) (.node (boot_o_8 P) (.node (o52 P) (.node (o68 P) (.node (o100 P) .nil .nil) .nil) (.node (o84 P) .nil .nil)) (.node (o60 P) (.node (o76 P) .nil .nil) (.node (o92 P) .nil .nil))) (.node (o50 P) (.node (o56 P) (.node (o72 P) (.node (o104 P) .nil .nil) .nil) (.node (o88 P) .nil .nil)) (.node (o64 P) (.node (o80 P) .nil .nil) (.node (o96 P) .nil .nil)))) (.node (boot_o_6 P) (.node (boot_o_10 P) (.node (o54 P) (.node (o70 P) (.node (o102 P) .nil .nil) .nil) (.node (o86 P) .nil .nil)) (.node (o62 P) (.node (o78 P) .nil .nil) (.node (o94 P) .nil .nil))) (.node (o46 P) (.node (o58 P) (.node (o74 P) (.node (o106 P) .nil .nil) .nil) (.node (o90 P) .nil .nil)) (.node (o66 P) (.node (o82 P) .nil .nil) (.node (o98 P) .nil .nil))))))
noncomputable def tree127 : Params → BT := fun P => (.node (boot_o_0 P) (.node (boot_o_1 P) (.node (o107 P) (.node (boot_o_7 P) (.node (o51 P) (.node (o67 P) (.node (o99 P) .nil .nil) .nil) (.node (o83 P) (.node (o117 P) .nil .nil) .nil)) (.node (o59 P) (.node (o75 P) (.node (o109 P) .nil .nil) .nil) (.node (o91 P) (.node (o125 P) .nil .nil) .nil))) (.node (o43 P) (.node (o55 P) (.node (o71 P) (.node (o103 P) .nil .nil) .nil) (.node (o87 P) (.node (o121 P) .nil .nil) .nil)) (.node (o63 P) (.node (o79 P) (.node (o113 P) .nil .nil) .nil) (.node (o95 P) .nil .nil)))) (.node (boot_o_5 P) (.node (boot_o_9 P) (.node (o53 P) (.node (o69 P) (.node (o101 P) .nil .nil) .nil) (.node (o85 P) (.node (o119 P) .nil .nil) .nil)) (.node (o61 P) (.node (o77 P) (.node (o111 P) .nil .nil) .nil) (.node (o93 P) (.node (o127 P) .nil .nil) .nil))) (.node (o45 P) (.node (o57 P) (.node (o73 P) (.node (o105 P) .nil .nil) .nil) (.node (o89 P) (.node (o123 P) .nil .nil) .nil)) (.node (o65 P) (.node (o81 P) (.node (o115 P) .nil .nil) .nil) (.node (o97 P) .nil .nil))))) (.node (boot_o_2 P) (.node (boot_o_4 P) (.node (boot_o_8 P) (.node (o52 P) (.node (o68 P) (.node (o100 P) .nil .nil) .nil) (.node (o84 P) (.node (o118 P) .nil .nil) .nil)) (.node (o60 P) (.node (o76 P) (.node (o110 P) .nil .nil) .nil) (.node (o92 P) (.node (o126 P) .nil .nil) .nil))) (.node (o108 P) (.node (o56 P) (.node (o72 P) (.node (o104 P) .nil .nil) .nil) (.node (o88 P) (.node (o122 P) .nil .nil) .nil)) (.node (o64 P) (.node (o80 P) (.node (o114 P) .nil .nil) .nil) (.node (o96 P) .nil .nil)))) (.node (boot_o_6 P) (.node (boot_o_10 P) (.node (o54 P) (.node (o70 P) (.node (o102 P) .nil .nil) .nil) (.node (o86 P) (.node (o120 P) .nil .nil) .nil)) (.node (o62 P) (.node (o78 P) (.node (o112 P) .nil .nil) .nil) (.node (o94 P) .nil .nil))) (.node (o46 P) (.node (o58 P) (.node (o74 P) (.node (o106 P) .nil .nil) .nil) (.node (o90 P) (.node (o124 P) .nil .nil) .nil)) (.node (o66 P) (.node (o82 P) (.node (o116 P) .nil .nil) .nil) (.node (o98 P) .nil .nil))))))
noncomputable def tree177 : Params → BT := fun P => (.node (boot_o_0 P) (.node (boot_o_1 P) (.node (o128 P) (.node (boot_o_7 P) (.node (o51 P) (.node (o67 P) (.node (o99 P) (.node (o168 P) .nil .nil) .nil) (.node (o136 P) .nil .nil)) (.node (o83 P) (.node (o117 P) .nil .nil) (.node (o152 P) .nil .nil))) (.node (o59 P) (.node (o75 P) (.node (o109 P) (.node (o176 P) .nil .nil) .nil) (.node (o144 P) .nil .nil)) (.node (o91 P) (.node (o130 P) .nil .nil) (.node (o160 P) .nil .nil)))) (.node (o43 P) (.node (o55 P) (.node (o71 P) (.node (o103 P) (.node (o172 P) .nil .nil) .nil) (.node (o140 P) .nil .nil)) (.node (o87 P) (.node (o121 P) .nil .nil) (.node (o156 P) .nil .nil))) (.node (o63 P) (.node (o79 P) (.node (o113 P) .nil .nil) (.node (o148 P) .nil .nil)) (.node (o95 P) (.node (o132 P) .nil .nil) (.node (o164 P) .nil .nil))))) (.node (boot_o_5 P) (.node (boot_o_9 P) (.node (o53 P) (.node (o69 P) (.node (o101 P) (.node (o170 P) .nil .nil) .nil) (.node (o138 P) .nil .nil)) (.node (o85 P) (.node (o119 P) .nil .nil) (.node (o154 P) .nil .nil))) (.node (o61 P) (.node (o77 P) (.node (o111 P) .nil .nil) (.node (o146 P) .nil .nil)) (.node (o93 P) (.node (o127 P) .nil .nil) (.node (o162 P) .nil .nil)))) (.node (o45 P) (.node (o57 P) (.node (o73 P) (.node (o105 P) (.node (o174 P) .nil .nil) .nil) (.node (o142 P) .nil .nil)) (.node (o89 P) (.node (o123 P) .nil .nil) (.node (o158 P) .nil .nil))) (.node (o65 P) (.node (o81 P) (.node (o115 P) .nil .nil) (.node (o150 P) .nil .nil)) (.node (o97 P) (.node (o134 P) .nil .nil) (.node (o166 P) .nil .nil)))))) (.node (boot_o_2 P) (.node (boot_o_4 P) (.node (boot_o_8 P) (.node (o52 P) (.node (o68 P) (.node (o100 P) (.node (o169 P) .nil .nil) .nil) (.node (o137 P) .nil .nil)) (.node (o84 P) (.node (o118 P) .nil .nil) (.node (o153 P) .nil .nil))) (.node (o60 P) (.node (o76 P) (.node (o110 P) (.node (o177 P) .nil .nil) .nil) (.node (o145 P) .nil .nil)) (.node (o92 P) (.node (o126 P) .nil .nil) (.node (o161 P) .nil .nil)))) (.node (o129 P) (.node (o56 P) (.node (o72 P) (.node (o104 P) (.node (o173 P) .nil .nil) .nil) (.node (o141 P) .nil .nil)) (.node (o88 P) (.node (o122 P) .nil .nil) (.node (o157 P) .nil .nil))) (.node (o64 P) (.node (o80 P) (.node (o114 P) .nil .nil) (.node (o149 P) .nil .nil)) (.node (o96 P) (.node (o133 P) .nil .nil) (.node (o165 P) .nil .nil))))) (.node (boot_o_6 P) (.node (boot_o_10 P) (.node (o54 P) (.node (o70 P) (.node (o102 P) (.node (o171 P) .nil .nil) .nil) (.node (o139 P) .nil .nil)) (.node (o86 P) (.node (o120 P) .nil .nil) (.node (o155 P) .nil .nil))) (.node (o62 P) (.node (o78 P) (.node (o112 P) .nil .nil) (.node (o147 P) .nil .nil)) (.node (o94 P) (.node (o131 P) .nil .nil) (.node (o163 P) .nil .nil)))) (.node (o46 P) (.node (o58 P) (.node (o74 P) (.node (o106 P) (.node (o175 P) .nil .nil) .nil) (.node (o143 P) .nil .nil)) (.node (o90 P) (.node (o124 P) .nil .nil) (.node (o159 P) .nil .nil))) (.node (o66 P) (.node (o82 P) (.node (o116 P) .nil .nil) (.node (o151 P) .nil .nil)) (.node (o98 P) (.node (o135 P) .nil .nil) (.node (o167 P) .nil .nil)))))))
noncomputable def tree247 : Params → BT := fun P => (.node (boot_o_0 P) (.node (boot_o_1 P) (.node (o178 P) (.node (boot_o_7 P) (.node (o51 P) (.node (o67 P) (.node (o99 P) (.node (o168 P) .nil .nil) (.node (o234 P) .nil .nil)) (.node (o136 P) (.node (o202 P) .nil .nil) .nil)) (.node (o83 P) (.node (o117 P) (.node (o186 P) .nil .nil) .nil) (.node (o152 P) (.node (o218 P) .nil .nil) .nil))) (.node (o59 P) (.node (o75 P) (.node (o109 P) (.node (o176 P) .nil .nil) (.node (o242 P) .nil .nil)) (.node (o144 P) (.node (o210 P) .nil .nil) .nil)) (.node (o91 P) (.node (o130 P) (.node (o194 P) .nil .nil) .nil) (.node (o160 P) (.node (o226 P) .nil .nil) .nil)))) (.node (o43 P) (.node (o55 P) (.node (o71 P) (.node (o103 P) (.node (o172 P) .nil .nil) (.node (o238 P) .nil .nil)) (.node (o140 P) (.node (o206 P) .nil .nil) .nil)) (.node (o87 P) (.node (o121 P) (.node (o190 P) .nil .nil) .nil) (.node (o156 P) (.node (o222 P) .nil .nil) .nil))) (.node (o63 P) (.node (o79 P) (.node (o113 P) (.node (o182 P) .nil .nil) (.node (o246 P) .nil .nil)) (.node (o148 P) (.node (o214 P) .nil .nil) .nil)) (.node (o95 P) (.node (o132 P) (.node (o198 P) .nil .nil) .nil) (.node (o164 P) (.node (o230 P) .nil .nil) .nil))))) (.node (boot_o_5 P) (.node (boot_o_9 P) (.node (o53 P) (.node (o69 P) (.node (o101 P) (.node (o170 P) .nil .nil) (.node (o236 P) .nil .nil)) (.node (o138 P) (.node (o204 P) .nil .nil) .nil)) (.node (o85 P) (.node (o119 P) (.node (o188 P) .nil .nil) .nil) (.node (o154 P) (.node (o220 P) .nil .nil) .nil))) (.node (o61 P) (.node (o77 P) (.node (o111 P) (.node (o180 P) .nil .nil) (.node (o244 P) .nil .nil)) (.node (o146 P) (.node (o212 P) .nil .nil) .nil)) (.node (o93 P) (.node (o127 P) (.node (o196 P) .nil .nil) .nil) (.node (o162 P) (.node (o228 P) .nil .nil) .nil)))) (.node (o45 P) (.node (o57 P) (.node (o73 P) (.node (o105 P) (.node (o174 P) .nil .nil) (.node (o240 P) .nil .nil)) (.node (o142 P) (.node (o208 P) .nil .nil) .nil)) (.node (o89 P) (.node (o123 P) (.node (o192 P) .nil .nil) .nil) (.node (o158 P) (.node (o224 P) .nil .nil) .nil))) (.node (o65 P) (.node (o81 P) (.node (o115 P) (.node (o184 P) .nil .nil) .nil) (.node (o150 P) (.node (o216 P) .nil .nil) .nil)) (.node (o97 P) (.node (o134 P) (.node (o200 P) .nil .nil) .nil) (.node (o166 P) (.node (o232 P) .nil .nil) .nil)))))) (.node (boot_o_2 P) (.node (boot_o_4 P) (.node (boot_o_8 P) (.node (o52 P) (.node (o68 P) (.node (o100 P) (.node (o169 P) .nil .nil) (.node (o235 P) .nil .nil)) (.node (o137 P) (.node (o203 P) .nil .nil) .nil)) (.node (o84 P) (.node (o118 P) (.node (o187 P) .nil .nil) .nil) (.node (o153 P) (.node (o219 P) .nil .nil) .nil))) (.node (o60 P) (.node (o76 P) (.node (o110 P) (.node (o177 P) .nil .nil) (.node (o243 P) .nil .nil)) (.node (o145 P) (.node (o211 P) .nil .nil) .nil)) (.node (o92 P) (.node (o126 P) (.node (o195 P) .nil .nil) .nil) (.node (o161 P) (.node (o227 P) .nil .nil) .nil)))) (.node (o179 P) (.node (o56 P) (.node (o72 P) (.node (o104 P) (.node (o173 P) .nil .nil) (.node (o239 P) .nil .nil)) (.node (o141 P) (.node (o207 P) .nil .nil) .nil)) (.node (o88 P) (.node (o122 P) (.node (o191 P) .nil .nil) .nil) (.node (o157 P) (.node (o223 P) .nil .nil) .nil))) (.node (o64 P) (.node (o80 P) (.node (o114 P) (.node (o183 P) .nil .nil) (.node (o247 P) .nil .nil)) (.node (o149 P) (.node (o215 P) .nil .nil) .nil)) (.node (o96 P) (.node (o133 P) (.node (o199 P) .nil .nil) .nil) (.node (o165 P) (.node (o231 P) .nil .nil) .nil))))) (.node (boot_o_6 P) (.node (boot_o_10 P) (.node (o54 P) (.node (o70 P) (.node (o102 P) (.node (o171 P) .nil .nil) (.node (o237 P) .nil .nil)) (.node (o139 P) (.node (o205 P) .nil .nil) .nil)) (.node (o86 P) (.node (o120 P) (.node (o189 P) .nil .nil) .nil) (.node (o155 P) (.node (o221 P) .nil .nil) .nil))) (.node (o62 P) (.node (o78 P) (.node (o112 P) (.node (o181 P) .nil .nil) (.node (o245 P) .nil .nil)) (.node (o147 P) (.node (o213 P) .nil .nil) .nil)) (.node (o94 P) (.node (o131 P) (.node (o197 P) .nil .nil) .nil) (.node (o163 P) (.node (o229 P) .nil .nil) .nil)))) (.node (o46 P) (.node (o58 P) (.node (o74 P) (.node (o106 P) (.node (o175 P) .nil .nil) (.node (o241 P) .nil .nil)) (.node (o143 P) (.node (o209 P) .nil .nil) .nil)) (.node (o90 P) (.node (o124 P) (.node (o193 P) .nil .nil) .nil) (.node (o159 P) (.node (o225 P) .nil .nil) .nil))) (.node (o66 P) (.node (o82 P) (.node (o116 P) (.node (o185 P) .nil .nil) .nil) (.node (o151 P) (.node (o217 P) .nil .nil) .nil)) (.node (o98 P) (.node (o135 P) (.node (o201 P) .nil .nil) .nil) (.node (o167 P) (.node (o233 P) .nil .nil) .nil)))))))
noncomputable def tree310 : Params → BT := fun P => (.node (boot_o_0 P) (.node (boot_o_1 P) (.node (o248 P) (.node (boot_o_7 P) (.node (o51 P) (.node (o67 P) (.node (o99 P) (.node (o168 P) (.node (o300 P) .nil .nil) .nil) (.node (o234 P) .nil .nil)) (.node (o136 P) (.node (o202 P) .nil .nil) (.node (o268 P) .nil .nil))) (.node (o83 P) (.node (o117 P) (.node (o186 P) .nil .nil) (.node (o252 P) .nil .nil)) (.node (o152 P) (.node (o218 P) .nil .nil) (.node (o284 P) .nil .nil)))) (.node (o59 P) (.node (o75 P) (.node (o109 P) (.node (o176 P) (.node (o308 P) .nil .nil) .nil) (.node (o242 P) .nil .nil)) (.node (o144 P) (.node (o210 P) .nil .nil) (.node (o276 P) .nil .nil))) (.node (o91 P) (.node (o130 P) (.node (o194 P) .nil .nil) (.node (o260 P) .nil .nil)) (.node (o160 P) (.node (o226 P) .nil .nil) (.node (o292 P) .nil .nil))))) (.node (o43 P) (.node (o55 P) (.node (o71 P) (.node (o103 P) (.node (o172 P) (.node (o304 P) .nil .nil) .nil) (.node (o238 P) .nil .nil)) (.node (o140 P) (.node (o206 P) .nil .nil) (.node (o272 P) .nil .nil))) (.node (o87 P) (.node (o121 P) (.node (o190 P) .nil .nil) (.node (o256 P) .nil .nil)) (.node (o156 P) (.node (o222 P) .nil .nil) (.node (o288 P) .nil .nil)))) (.node (o63 P) (.node (o79 P) (.node (o113 P) (.node (o182 P) .nil .nil) (.node (o246 P) .nil .nil)) (.node (o148 P) (.node (o214 P) .nil .nil) (.node (o280 P) .nil .nil))) (.node (o95 P) (.node (o132 P) (.node (o198 P) .nil .nil) (.node (o264 P) .nil .nil)) (.node (o164 P) (.node (o230 P) .nil .nil) (.node (o296 P) .nil .nil)))))) (.node (boot_o_5 P) (.node (boot_o_9 P) (.node (o53 P) (.node (o69 P) (.node (o101 P) (.node (o170 P) (.node (o302 P) .nil .nil) .nil) (.node (o236 P) .nil .nil)) (.node (o138 P) (.node (o204 P) .nil .nil) (.node (o270 P) .nil .nil))) (.node (o85 P) (.node (o119 P) (.node (o188 P) .nil .nil) (.node (o254 P) .nil .nil)) (.node (o154 P) (.node (o220 P) .nil .nil) (.node (o286 P) .nil .nil)))) (.node (o61 P) (.node (o77 P) (.node (o111 P) (.node (o180 P) (.node (o310 P) .nil .nil) .nil) (.node (o244 P) .nil .nil)) (.node (o146 P) (.node (o212 P) .nil .nil) (.node (o278 P) .nil .nil))) (.node (o93 P) (.node (o127 P) (.node (o196 P) .nil .nil) (.node (o262 P) .nil .nil)) (.node (o162 P) (.node (o228 P) .nil .nil) (.node (o294 P) .nil .nil))))) (.node (o45 P) (.node (o57 P) (.node (o73 P) (.node (o105 P) (.node (o174 P) (.node (o306 P) .nil .nil) .nil) (.node (o240 P) .nil .nil)) (.node (o142 P) (.node (o208 P) .nil .nil) (.node (o274 P) .nil .nil))) (.node (o89 P) (.node (o123 P) (.node (o192 P) .nil .nil) (.node (o258 P) .nil .nil)) (.node (o158 P) (.node (o224 P) .nil .nil) (.node (o290 P) .nil .nil)))) (.node (o65 P) (.node (o81 P) (.node (o115 P) (.node (o184 P) .nil .nil) (.node (o250 P) .nil .nil)) (.node (o150 P) (.node (o216 P) .nil .nil) (.node (o282 P) .nil .nil))) (.node (o97 P) (.node (o134 P) (.node (o200 P) .nil .nil) (.node (o266 P) .nil .nil)) (.node (o166 P) (.node (o232 P) .nil .nil) (.node (o298 P) .nil .nil))))))) (.node (boot_o_2 P) (.node (boot_o_4 P) (.node (boot_o_8 P) (.node (o52 P) (.node (o68 P) (.node (o100 P) (.node (o169 P) (.node (o301 P) .nil .nil) .nil) (.node (o235 P) .nil .nil)) (.node (o137 P) (.node (o203 P) .nil .nil) (.node (o269 P) .nil .nil))) (.node (o84 P) (.node (o118 P) (.node (o187 P) .nil .nil) (.node (o253 P) .nil .nil)) (.node (o153 P) (.node (o219 P) .nil .nil) (.node (o285 P) .nil .nil)))) (.node (o60 P) (.node (o76 P) (.node (o110 P) (.node (o177 P) (.node (o309 P) .nil .nil) .nil) (.node (o243 P) .nil .nil)) (.node (o145 P) (.node (o211 P) .nil .nil) (.node (o277 P) .nil .nil))) (.node (o92 P) (.node (o126 P) (.node (o195 P) .nil .nil) (.node (o261 P) .nil .nil)) (.node (o161 P) (.node (o227 P) .nil .nil) (.node (o293 P) .nil .nil))))) (.node (o249 P) (.node (o56 P) (.node (o72 P) (.node (o104 P) (.node (o173 P) (.node (o305 P) .nil .nil) .nil) (.node (o239 P) .nil .nil)) (.node (o141 P) (.node (o207 P) .nil .nil) (.node (o273 P) .nil .nil))) (.node (o88 P) (.node (o122 P) (.node (o191 P) .nil .nil) (.node (o257 P) .nil .nil)) (.node (o157 P) (.node (o223 P) .nil .nil) (.node (o289 P) .nil .nil)))) (.node (o64 P) (.node (o80 P) (.node (o114 P) (.node (o183 P) .nil .nil) (.node (o247 P) .nil .nil)) (.node (o149 P) (.node (o215 P) .nil .nil) (.node (o281 P) .nil .nil))) (.node (o96 P) (.node (o133 P) (.node (o199 P) .nil .nil) (.node (o265 P) .nil .nil)) (.node (o165 P) (.node (o231 P) .nil .nil) (.node (o297 P) .nil .nil)))))) (.node (boot_o_6 P) (.node (boot_o_10 P) (.node (o54 P) (.node (o70 P) (.node (o102 P) (.node (o171 P) (.node (o303 P) .nil .nil) .nil) (.node (o237 P) .nil .nil)) (.node (o139 P) (.node (o205 P) .nil .nil) (.node (o271 P) .nil .nil))) (.node (o86 P) (.node (o120 P) (.node (o189 P) .nil .nil) (.node (o255 P) .nil .nil)) (.node (o155 P) (.node (o221 P) .nil .nil) (.node (o287 P) .nil .nil)))) (.node (o62 P) (.node (o78 P) (.node (o112 P) (.node (o181 P) .nil .nil) (.node (o245 P) .nil .nil)) (.node (o147 P) (.node (o213 P) .nil .nil) (.node (o279 P) .nil .nil))) (.node (o94 P) (.node (o131 P) (.node (o197 P) .nil .nil) (.node (o263 P) .nil .nil)) (.node (o163 P) (.node (o229 P) .nil .nil) (.node (o295 P) .nil .nil))))) (.node (o46 P) (.node (o58 P) (.node (o74 P) (.node (o106 P) (.node (o175 P) (.node (o307 P) .nil .nil) .nil) (.node (o241 P) .nil .nil)) (.node (o143 P) (.node (o209 P) .nil .nil) (.node (o275 P) .nil .nil))) (.node (o90 P) (.node (o124 P) (.node (o193 P) .nil .nil) (.node (o259 P) .nil .nil)) (.node (o159 P) (.node (o225 P) .nil .nil) (.node (o291 P) .nil .nil)))) (.node (o66 P) (.node (o82 P) (.node (o116 P) (.node (o185 P) .nil .nil) (.node (o251 P) .nil .nil)) (.node (o151 P) (.node (o217 P) .nil .nil) (.node (o283 P) .nil .nil))) (.node (o98 P) (.node (o135 P) (.node (o201 P) .nil .nil) (.node (o267 P) .nil .nil)) (.node (o167 P) (.node (o233 P) .nil .nil) (.node (o299 P) .nil .nil))))))))
noncomputable def tree388 : Params → BT := fun P => (.node (boot_o_0 P) (.node (boot_o_1 P) (.node (o311 P) (.node (boot_o_7 P) (.node (o51 P) (.node (o67 P) (.node (o99 P) (.node (o168 P) (.node (o300 P) .nil .nil) .nil) (.node (o234 P) (.node (o366 P) .nil .nil) .nil)) (.node (o136 P) (.node (o202 P) (.node (o334 P) .nil .nil) .nil) (.node (o268 P) .nil .nil))) (.node (o83 P) (.node (o117 P) (.node (o186 P) (.node (o318 P) .nil .nil) .nil) (.node (o252 P) (.node (o382 P) .nil .nil) .nil)) (.node (o152 P) (.node (o218 P) (.node (o350 P) .nil .nil) .nil) (.node (o284 P) .nil .nil)))) (.node (o59 P) (.node (o75 P) (.node (o109 P) (.node (o176 P) (.node (o308 P) .nil .nil) .nil) (.node (o242 P) (.node (o374 P) .nil .nil) .nil)) (.node (o144 P) (.node (o210 P) (.node (o342 P) .nil .nil) .nil) (.node (o276 P) .nil .nil))) (.node (o91 P) (.node (o130 P) (.node (o194 P) (.node (o326 P) .nil .nil) .nil) (.node (o260 P) .nil .nil)) (.node (o160 P) (.node (o226 P) (.node (o358 P) .nil .nil) .nil) (.node (o292 P) .nil .nil))))) (.node (o43 P) (.node (o55 P) (.node (o71 P) (.node (o103 P) (.node (o172 P) (.node (o304 P) .nil .nil) .nil) (.node (o238 P) (.node (o370 P) .nil .nil) .nil)) (.node (o140 P) (.node (o206 P) (.node (o338 P) .nil .nil) .nil) (.node (o272 P) .nil .nil))) (.node (o87 P) (.node (o121 P) (.node (o190 P) (.node (o322 P) .nil .nil) .nil) (.node (o256 P) (.node (o386 P) .nil .nil) .nil)) (.node (o156 P) (.node (o222 P) (.node (o354 P) .nil .nil) .nil) (.node (o288 P) .nil .nil)))) (.node (o63 P) (.node (o79 P) (.node (o113 P) (.node (o182 P) (.node (o314 P) .nil .nil) .nil) (.node (o246 P) (.node (o378 P) .nil .nil) .nil)) (.node (o148 P) (.node (o214 P) (.node (o346 P) .nil .nil) .nil) (.node (o280 P) .nil .nil))) (.node (o95 P) (.node (o132 P) (.node (o198 P) (.node (o330 P) .nil .nil) .nil) (.node (o264 P) .nil .nil)) (.node (o164 P) (.node (o230 P) (.node (o362 P) .nil .nil) .nil) (.node (o296 P) .nil .nil)))))) (.node (boot_o_5 P) (.node (boot_o_9 P) (.node (o53 P) (.node (o69 P) (.node (o101 P) (.node (o170 P) (.node (o302 P) .nil .nil) .nil) (.node (o236 P) (.node (o368 P) .nil .nil) .nil)) (.node (o138 P) (.node (o204 P) (.node (o336 P) .nil .nil) .nil) (.node (o270 P) .nil .nil))) (.node (o85 P) (.node (o119 P) (.node (o188 P) (.node (o320 P) .nil .nil) .nil) (.node (o254 P) (.node (o384 P) .nil .nil) .nil)) (.node (o154 P) (.node (o220 P) (.node (o352 P) .nil .nil) .nil) (.node (o286 P) .nil .nil)))) (.node (o61 P) (.node (o77 P) (.node (o111 P) (.node (o180 P) (.node (o310 P) .nil .nil) .nil) (.node (o244 P) (.node (o376 P) .nil .nil) .nil)) (.node (o146 P) (.node (o212 P) (.node (o344 P) .nil .nil) .nil) (.node (o278 P) .nil .nil))) (.node (o93 P) (.node (o127 P) (.node (o196 P) (.node (o328 P) .nil .nil) .nil) (.node (o262 P) .nil .nil)) (.node (o162 P) (.node (o228 P) (.node (o360 P) .nil .nil) .nil) (.node (o294 P) .nil .nil))))) (.node (o45 P) (.node (o57 P) (.node (o73 P) (.node (o105 P) (.node (o174 P) (.node (o306 P) .nil .nil) .nil) (.node (o240 P) (.node (o372 P) .nil .nil) .nil)) (.node (o142 P) (.node (o208 P) (.node (o340 P) .nil .nil) .nil) (.node (o274 P) .nil .nil))) (.node (o89 P) (.node (o123 P) (.node (o192 P) (.node (o324 P) .nil .nil) .nil) (.node (o258 P) (.node (o388 P) .nil .nil) .nil)) (.node (o158 P) (.node (o224 P) (.node (o356 P) .nil .nil) .nil) (.node (o290 P) .nil .nil)))) (.node (o65 P) (.node (o81 P) (.node (o115 P) (.node (o184 P) (.node (o316 P) .nil .nil) .nil) (.node (o250 P) (.node (o380 P) .nil .nil) .nil)) (.node (o150 P) (.node (o216 P) (.node (o348 P) .nil .nil) .nil) (.node (o282 P) .nil .nil))) (.node (o97 P) (.node (o134 P) (.node (o200 P) (.node (o332 P) .nil .nil) .nil) (.node (o266 P) .nil .nil)) (.node (o166 P) (.node (o232 P) (.node (o364 P) .nil .nil) .nil) (.node (o298 P) .nil .nil))))))) (.node (boot_o_2 P) (.node (boot_o_4 P) (.node (boot_o_8 P) (.node (o52 P) (.node (o68 P) (.node (o100 P) (.node (o169 P) (.node (o301 P) .nil .nil) .nil) (.node (o235 P) (.node (o367 P) .nil .nil) .nil)) (.node (o137 P) (.node (o203 P) (.node (o335 P) .nil .nil) .nil) (.node (o269 P) .nil .nil))) (.node (o84 P) (.node (o118 P) (.node (o187 P) (.node (o319 P) .nil .nil) .nil) (.node (o253 P) (.node (o383 P) .nil .nil) .nil)) (.node (o153 P) (.node (o219 P) (.node (o351 P) .nil .nil) .nil) (.node (o285 P) .nil .nil)))) (.node (o60 P) (.node (o76 P) (.node (o110 P) (.node (o177 P) (.node (o309 P) .nil .nil) .nil) (.node (o243 P) (.node (o375 P) .nil .nil) .nil)) (.node (o145 P) (.node (o211 P) (.node (o343 P) .nil .nil) .nil) (.node (o277 P) .nil .nil))) (.node (o92 P) (.node (o126 P) (.node (o195 P) (.node (o327 P) .nil .nil) .nil) (.node (o261 P) .nil .nil)) (.node (o161 P) (.node (o227 P) (.node (o359 P) .nil .nil) .nil) (.node (o293 P) .nil .nil))))) (.node (o312 P) (.node (o56 P) (.node (o72 P) (.node (o104 P) (.node (o173 P) (.node (o305 P) .nil .nil) .nil) (.node (o239 P) (.node (o371 P) .nil .nil) .nil)) (.node (o141 P) (.node (o207 P) (.node (o339 P) .nil .nil) .nil) (.node (o273 P) .nil .nil))) (.node (o88 P) (.node (o122 P) (.node (o191 P) (.node (o323 P) .nil .nil) .nil) (.node (o257 P) (.node (o387 P) .nil .nil) .nil)) (.node (o157 P) (.node (o223 P) (.node (o355 P) .nil .nil) .nil) (.node (o289 P) .nil .nil)))) (.node (o64 P) (.node (o80 P) (.node (o114 P) (.node (o183 P) (.node (o315 P) .nil .nil) .nil) (.node (o247 P) (.node (o379 P) .nil .nil) .nil)) (.node (o149 P) (.node (o215 P) (.node (o347 P) .nil .nil) .nil) (.node (o281 P) .nil .nil))) (.node (o96 P) (.node (o133 P) (.node (o199 P) (.node (o331 P) .nil .nil) .nil) (.node (o265 P) .nil .nil)) (.node (o165 P) (.node (o231 P) (.node (o363 P) .nil .nil) .nil) (.node (o297 P) .nil .nil)))))) (.node (boot_o_6 P) (.node (boot_o_10 P) (.node (o54 P) (.node (o70 P) (.node (o102 P) (.node (o171 P) (.node (o303 P) .nil .nil) .nil) (.node (o237 P) (.node (o369 P) .nil .nil) .nil)) (.node (o139 P) (.node (o205 P) (.node (o337 P) .nil .nil) .nil) (.node (o271 P) .nil .nil))) (.node (o86 P) (.node (o120 P) (.node (o189 P) (.node (o321 P) .nil .nil) .nil) (.node (o255 P) (.node (o385 P) .nil .nil) .nil)) (.node (o155 P) (.node (o221 P) (.node (o353 P) .nil .nil) .nil) (.node (o287 P) .nil .nil)))) (.node (o62 P) (.node (o78 P) (.node (o112 P) (.node (o181 P) (.node (o313 P) .nil .nil) .nil) (.node (o245 P) (.node (o377 P) .nil .nil) .nil)) (.node (o147 P) (.node (o213 P) (.node (o345 P) .nil .nil) .nil) (.node (o279 P) .nil .nil))) (.node (o94 P) (.node (o131 P) (.node (o197 P) (.node (o329 P) .nil .nil) .nil) (.node (o263 P) .nil .nil)) (.node (o163 P) (.node (o229 P) (.node (o361 P) .nil .nil) .nil) (.node (o295 P) .nil .nil))))) (.node (o46 P) (.node (o58 P) (.node (o74 P) (.node (o106 P) (.node (o175 P) (.node (o307 P) .nil .nil) .nil) (.node (o241 P) (.node (o373 P) .nil .nil) .nil)) (.node (o143 P) (.node (o209 P) (.node (o341 P) .nil .nil) .nil) (.node (o275 P) .nil .nil))) (.node (o90 P) (.node (o124 P) (.node (o193 P) (.node (o325 P) .nil .nil) .nil) (.node (o259 P) .nil .nil)) (.node (o159 P) (.node (o225 P) (.node (o357 P) .nil .nil) .nil) (.node (o291 P) .nil .nil)))) (.node (o66 P) (.node (o82 P) (.node (o116 P) (.node (o185 P) (.node (o317 P) .nil .nil) .nil) (.node (o251 P) (.node (o381 P) .nil .nil) .nil)) (.node (o151 P) (.node (o217 P) (.node (o349 P) .nil .nil) .nil) (.node (o283 P) .nil .nil))) (.node (o98 P) (.node (o135 P) (.node (o201 P) (.node (o333 P) .nil .nil) .nil) (.node (o267 P) .nil .nil)) (.node (o167 P) (.node (o233 P) (.node (o365 P) .nil .nil) .nil) (.node (o299 P) .nil .nil))))))))
noncomputable def tree395 : Params → BT := fun P => (.node (boot_o_0 P) (.node (boot_o_1 P) (.node (o389 P) (.node (boot_o_7 P) (.node (o51 P) (.node (o67 P) (.node (o99 P) (.node (o168 P) (.node (o300 P) .nil .nil) .nil) (.node (o234 P) (.node (o366 P) .nil .nil) .nil)) (.node (o136 P) (.node (o202 P) (.node (o334 P) .nil .nil) .nil) (.node (o268 P) .nil .nil))) (.node (o83 P) (.node (o117 P) (.node (o186 P) (.node (o318 P) .nil .nil) .nil) (.node (o252 P) (.node (o382 P) .nil .nil) .nil)) (.node (o152 P) (.node (o218 P) (.node (o350 P) .nil .nil) .nil) (.node (o284 P) .nil .nil)))) (.node (o59 P) (.node (o75 P) (.node (o109 P) (.node (o176 P) (.node (o308 P) .nil .nil) .nil) (.node (o242 P) (.node (o374 P) .nil .nil) .nil)) (.node (o144 P) (.node (o210 P) (.node (o342 P) .nil .nil) .nil) (.node (o276 P) .nil .nil))) (.node (o91 P) (.node (o130 P) (.node (o194 P) (.node (o326 P) .nil .nil) .nil) (.node (o260 P) (.node (o392 P) .nil .nil) .nil)) (.node (o160 P) (.node (o226 P) (.node (o358 P) .nil .nil) .nil) (.node (o292 P) .nil .nil))))) (.node (o43 P) (.node (o55 P) (.node (o71 P) (.node (o103 P) (.node (o172 P) (.node (o304 P) .nil .nil) .nil) (.node (o238 P) (.node (o370 P) .nil .nil) .nil)) (.node (o140 P) (.node (o206 P) (.node (o338 P) .nil .nil) .nil) (.node (o272 P) .nil .nil))) (.node (o87 P) (.node (o121 P) (.node (o190 P) (.node (o322 P) .nil .nil) .nil) (.node (o256 P) (.node (o386 P) .nil .nil) .nil)) (.node (o156 P) (.node (o222 P) (.node (o354 P) .nil .nil) .nil) (.node (o288 P) .nil .nil)))) (.node (o63 P) (.node (o79 P) (.node (o113 P) (.node (o182 P) (.node (o314 P) .nil .nil) .nil) (.node (o246 P) (.node (o378 P) .nil .nil) .nil)) (.node (o148 P) (.node (o214 P) (.node (o346 P) .nil .nil) .nil) (.node (o280 P) .nil .nil))) (.node (o95 P) (.node (o132 P) (.node (o198 P) (.node (o330 P) .nil .nil) .nil) (.node (o264 P) .nil .nil)) (.node (o164 P) (.node (o230 P) (.node (o362 P) .nil .nil) .nil) (.node (o296 P) .nil .nil)))))) (.node (boot_o_5 P) (.node (boot_o_9 P) (.node (o53 P) (.node (o69 P) (.node (o101 P) (.node (o170 P) (.node (o302 P) .nil .nil) .nil) (.node (o236 P) (.node (o368 P) .nil .nil) .nil)) (.node (o138 P) (.node (o204 P) (.node (o336 P) .nil .nil) .nil) (.node (o270 P) .nil .nil))) (.node (o85 P) (.node (o119 P) (.node (o188 P) (.node (o320 P) .nil .nil) .nil) (.node (o254 P) (.node (o384 P) .nil .nil) .nil)) (.node (o154 P) (.node (o220 P) (.node (o352 P) .nil .nil) .nil) (.node (o286 P) .nil .nil)))) (.node (o61 P) (.node (o77 P) (.node (o111 P) (.node (o180 P) (.node (o310 P) .nil .nil) .nil) (.node (o244 P) (.node (o376 P) .nil .nil) .nil)) (.node (o146 P) (.node (o212 P) (.node (o344 P) .nil .nil) .nil) (.node (o278 P) .nil .nil))) (.node (o93 P) (.node (o127 P) (.node (o196 P) (.node (o328 P) .nil .nil) .nil) (.node (o262 P) (.node (o394 P) .nil .nil) .nil)) (.node (o162 P) (.node (o228 P) (.node (o360 P) .nil .nil) .nil) (.node (o294 P) .nil .nil))))) (.node (o45 P) (.node (o57 P) (.node (o73 P) (.node (o105 P) (.node (o174 P) (.node (o306 P) .nil .nil) .nil) (.node (o240 P) (.node (o372 P) .nil .nil) .nil)) (.node (o142 P) (.node (o208 P) (.node (o340 P) .nil .nil) .nil) (.node (o274 P) .nil .nil))) (.node (o89 P) (.node (o123 P) (.node (o192 P) (.node (o324 P) .nil .nil) .nil) (.node (o258 P) (.node (o388 P) .nil .nil) .nil)) (.node (o158 P) (.node (o224 P) (.node (o356 P) .nil .nil) .nil) (.node (o290 P) .nil .nil)))) (.node (o65 P) (.node (o81 P) (.node (o115 P) (.node (o184 P) (.node (o316 P) .nil .nil) .nil) (.node (o250 P) (.node (o380 P) .nil .nil) .nil)) (.node (o150 P) (.node (o216 P) (.node (o348 P) .nil .nil) .nil) (.node (o282 P) .nil .nil))) (.node (o97 P) (.node (o134 P) (.node (o200 P) (.node (o332 P) .nil .nil) .nil) (.node (o266 P) .nil .nil)) (.node (o166 P) (.node (o232 P) (.node (o364 P) .nil .nil) .nil) (.node (o298 P) .nil .nil))))))) (.node (boot_o_2 P) (.node (boot_o_4 P) (.node (boot_o_8 P) (.node (o52 P) (.node (o68 P) (.node (o100 P) (.node (o169 P) (.node (o301 P) .nil .nil) .nil) (.node (o235 P) (.node (o367 P) .nil .nil) .nil)) (.node (o137 P) (.node (o203 P) (.node (o335 P) .nil .nil) .nil) (.node (o269 P) .nil .nil))) (.node (o84 P) (.node (o118 P) (.node (o187 P) (.node (o319 P) .nil .nil) .nil) (.node (o253 P) (.node (o383 P) .nil .nil) .nil)) (.node (o153 P) (.node (o219 P) (.node (o351 P) .nil .nil) .nil) (.node (o285 P) .nil .nil)))) (.node (o60 P) (.node (o76 P) (.node (o110 P) (.node (o177 P) (.node (o309 P) .nil .nil) .nil) (.node (o243 P) (.node (o375 P) .nil .nil) .nil)) (.node (o145 P) (.node (o211 P) (.node (o343 P) .nil .nil) .nil) (.node (o277 P) .nil .nil))) (.node (o92 P) (.node (o126 P) (.node (o195 P) (.node (o327 P) .nil .nil) .nil) (.node (o261 P) (.node (o393 P) .nil .nil) .nil)) (.node (o161 P) (.node (o227 P) (.node (o359 P) .nil .nil) .nil) (.node (o293 P) .nil .nil))))) (.node (o390 P) (.node (o56 P) (.node (o72 P) (.node (o104 P) (.node (o173 P) (.node (o305 P) .nil .nil) .nil) (.node (o239 P) (.node (o371 P) .nil .nil) .nil)) (.node (o141 P) (.node (o207 P) (.node (o339 P) .nil .nil) .nil) (.node (o273 P) .nil .nil))) (.node (o88 P) (.node (o122 P) (.node (o191 P) (.node (o323 P) .nil .nil) .nil) (.node (o257 P) (.node (o387 P) .nil .nil) .nil)) (.node (o157 P) (.node (o223 P) (.node (o355 P) .nil .nil) .nil) (.node (o289 P) .nil .nil)))) (.node (o64 P) (.node (o80 P) (.node (o114 P) (.node (o183 P) (.node (o315 P) .nil .nil) .nil) (.node (o247 P) (.node (o379 P) .nil .nil) .nil)) (.node (o149 P) (.node (o215 P) (.node (o347 P) .nil .nil) .nil) (.node (o281 P) .nil .nil))) (.node (o96 P) (.node (o133 P) (.node (o199 P) (.node (o331 P) .nil .nil) .nil) (.node (o265 P) .nil .nil)) (.node (o165 P) (.node (o231 P) (.node (o363 P) .nil .nil) .nil) (.node (o297 P) .nil .nil)))))) (.node (boot_o_6 P) (.node (boot_o_10 P) (.node (o54 P) (.node (o70 P) (.node (o102 P) (.node (o171 P) (.node (o303 P) .nil .nil) .nil) (.node (o237 P) (.node (o369 P) .nil .nil) .nil)) (.node (o139 P) (.node (o205 P) (.node (o337 P) .nil .nil) .nil) (.node (o271 P) .nil .nil))) (.node (o86 P) (.node (o120 P) (.node (o189 P) (.node (o321 P) .nil .nil) .nil) (.node (o255 P) (.node (o385 P) .nil .nil) .nil)) (.node (o155 P) (.node (o221 P) (.node (o353 P) .nil .nil) .nil) (.node (o287 P) .nil .nil)))) (.node (o62 P) (.node (o78 P) (.node (o112 P) (.node (o181 P) (.node (o313 P) .nil .nil) .nil) (.node (o245 P) (.node (o377 P) .nil .nil) .nil)) (.node (o147 P) (.node (o213 P) (.node (o345 P) .nil .nil) .nil) (.node (o279 P) .nil .nil))) (.node (o94 P) (.node (o131 P) (.node (o197 P) (.node (o329 P) .nil .nil) .nil) (.node (o263 P) (.node (o395 P) .nil .nil) .nil)) (.node (o163 P) (.node (o229 P) (.node (o361 P) .nil .nil) .nil) (.node (o295 P) .nil .nil))))) (.node (o46 P) (.node (o58 P) (.node (o74 P) (.node (o106 P) (.node (o175 P) (.node (o307 P) .nil .nil) .nil) (.node (o241 P) (.node (o373 P) .nil .nil) .nil)) (.node (o143 P) (.node (o209 P) (.node (o341 P) .nil .nil) .nil) (.node (o275 P) .nil .nil))) (.node (o90 P) (.node (o124 P) (.node (o193 P) (.node (o325 P) .nil .nil) .nil) (.node (o259 P) (.node (o391 P) .nil .nil) .nil)) (.node (o159 P) (.node (o225 P) (.node (o357 P) .nil .nil) .nil) (.node (o291 P) .nil .nil)))) (.node (o66 P) (.node (o82 P) (.node (o116 P) (.node (o185 P) (.node (o317 P) .nil .nil) .nil) (.node (o251 P) (.node (o381 P) .nil .nil) .nil)) (.node (o151 P) (.node (o217 P) (.node (o349 P) .nil .nil) .nil) (.node (o283 P) .nil .nil))) (.node (o98 P) (.node (o135 P) (.node (o201 P) (.node (o333 P) .nil .nil) .nil) (.node (o267 P) .nil .nil)) (.node (o167 P) (.node (o233 P) (.node (o365 P) .nil .nil) .nil) (.node (o299 P) .nil .nil))))))))
noncomputable def heap396 : Params → Heap := fun P => ⟨#[(boot_o_0 P), (boot_o_1 P), (boot_o_2 P), (o389 P), (boot_o_4 P), (boot_o_5 P), (boot_o_6 P), (boot_o_7 P), (boot_o_8 P), (boot_o_9 P), (boot_o_10 P), (o43 P), (o390 P), (o45 P), (o46 P), (o51 P), (o52 P), (o53 P), (o54 P), (o55 P), (o56 P), (o57 P), (o58 P), (o59 P), (o60 P), (o61 P), (o62 P), (o63 P), (o64 P), (o65 P), (o66 P), (o67 P), (o68 P), (o69 P), (o70 P), (o71 P), (o72 P), (o73 P), (o74 P), (o75 P), (o76 P), (o77 P), (o78 P), (o79 P), (o80 P), (o81 P), (o82 P), (o83 P), (o84 P), (o85 P), (o86 P), (o87 P), (o88 P), (o89 P), (o90 P), (o91 P), (o92 P), (o93 P), (o94 P), (o95 P), (o96 P), (o97 P), (o98 P), (o99 P), (o100 P), (o101 P), (o102 P), (o103 P), (o104 P), (o105 P), (o106 P), (o109 P), (o110 P), (o111 P), (o112 P), (o113 P), (o114 P), (o115 P), (o116 P), (o117 P), (o118 P), (o119 P), (o120 P), (o121 P), (o122 P), (o123 P), (o124 P), (o130 P), (o126 P), (o127 P), (o131 P), (o132 P), (o133 P), (o134 P), (o135 P), (o136 P), (o137 P), (o138 P), (o139 P), (o140 P), (o141 P), (o142 P), (o143 P), (o144 P), (o145 P), (o146 P), (o147 P), (o148 P), (o149 P), (o150 P), (o151 P), (o152 P), (o153 P), (o154 P), (o155 P), (o156 P), (o157 P), (o158 P), (o159 P), (o160 P), (o161 P), (o162 P), (o163 P), (o164 P), (o165 P), (o166 P), (o167 P), (o168 P), (o169 P), (o170 P), (o171 P), (o172 P), (o173 P), (o174 P), (o175 P), (o176 P), (o177 P), (o180 P), (o181 P), (o182 P), (o183 P), (o184 P), (o185 P), (o186 P), (o187 P), (o188 P), (o189 P), (o190 P), (o191 P), (o192 P), (o193 P), (o194 P), (o195 P), (o196 P), (o197 P), (o198 P), (o199 P), (o200 P), (o201 P), (o202 P), (o203 P), (o204 P), (o205 P), (o206 P), (o207 P), (o208 P), (o209 P), (o210 P), (o211 P), (o212 P), (o213 P), (o214 P), (o215 P), (o216 P), (o217 P), (o218 P), (o219 P), (o220 P), (o221 P), (o222 P), (o223 P), (o224 P), (o225 P), (o226 P), (o227 P), (o228 P), (o229 P), (o230 P), (o231 P), (o232 P), (o233 P), (o234 P), (o235 P), (o236 P), (o237 P), (o238 P), (o239 P), (o240 P), (o241 P), (o242 P), (o243 P), (o244 P), (o245 P), (o246 P), (o247 P), (o250 P), (o251 P), (o252 P), (o253 P), (o254 P), (o255 P), (o256 P), (o257 P), (o258 P), (o259 P), (o260 P), (o261 P), (o262 P), (o263 P), (o264 P), (o265 P), (o266 P), (o267 P), (o268 P), (o269 P), (o270 P), (o271 P), (o272 P), (o273 P), (o274 P), (o275 P), (o276 P), (o277 P), (o278 P), (o279 P), (o280 P), (o281 P), (o282 P), (o283 P), (o284 P), (o285 P), (o286 P), (o287 P), (o288 P), (o289 P), (o290 P), (o291 P), (o292 P), (o293 P), (o294 P), (o295 P), (o296 P), (o297 P), (o298 P), (o299 P), (o300 P), (o301 P), (o302 P), (o303 P), (o304 P), (o305 P), (o306 P), (o307 P), (o308 P), (o309 P), (o310 P), (o313 P), (o314 P), (o315 P), (o316 P), (o317 P), (o318 P), (o319 P), (o320 P), (o321 P), (o322 P), (o323 P), (o324 P), (o325 P), (o326 P), (o327 P), (o328 P), (o329 P), (o330 P), (o331 P), (o332 P), (o333 P), (o334 P), (o335 P), (o336 P), (o337 P), (o338 P), (o339 P), (o340 P), (o341 P), (o342 P), (o343 P), (o344 P), (o345 P), (o346 P), (o347 P), (o348 P), (o349 P), (o350 P), (o351 P), (o352 P), (o353 P), (o354 P), (o355 P), (o356 P), (o357 P), (o358 P), (o359 P), (o360 P), (o361 P), (o362 P), (o363 P), (o364 P), (o365 P), (o366 P), (o367 P), (o368 P), (o369 P), (o370 P), (o371 P), (o372 P), (o373 P), (o374 P), (o375 P), (o376 P), (o377 P), (o378 P), (o379 P), (o380 P), (o381 P), (o382 P), (o383 P), (o384 P), (o385 P), (o386 P), (o387 P), (o388 P), (o391 P), (o392 P), (o393 P), (o394 P), (o395 P)], {}⟩
noncomputable def KK : Params → Frag := fun P => (nat_lit 2, (boot_o_2 P)) :: (nat_lit 3, (o389 P)) :: (nat_lit 15, (o51 P)) :: (nat_lit 17, (o53 P)) :: (nat_lit 18, (o54 P)) :: (nat_lit 20, (o56 P)) :: (nat_lit 21, (o57 P)) :: (nat_lit 22, (o58 P)) :: (nat_lit 24, (o60 P)) :: (nat_lit 25, (o61 P)) :: (nat_lit 27, (o63 P)) :: (nat_lit 28, (o64 P)) :: (nat_lit 29, (o65 P)) :: (nat_lit 31, (o67 P)) :: (nat_lit 32, (o68 P)) :: (nat_lit 34, (o70 P)) :: (nat_lit 35, (o71 P)) :: (nat_lit 36, (o72 P)) :: (nat_lit 38, (o74 P)) :: (nat_lit 39, (o75 P)) :: (nat_lit 41, (o77 P)) :: (nat_lit 42, (o78 P)) :: (nat_lit 43, (o79 P)) :: (nat_lit 45, (o81 P)) :: (nat_lit 46, (o82 P)) :: (nat_lit 48, (o84 P)) :: (nat_lit 49, (o85 P)) :: (nat_lit 50, (o86 P)) :: (nat_lit 52, (o88 P)) :: (nat_lit 53, (o89 P)) :: (nat_lit 55, (o91 P)) :: (nat_lit 56, (o92 P)) :: (nat_lit 57, (o93 P)) :: (nat_lit 59, (o95 P)) :: (nat_lit 60, (o96 P)) :: (nat_lit 62, (o98 P)) :: (nat_lit 63, (o99 P)) :: (nat_lit 64, (o100 P)) :: (nat_lit 66, (o102 P)) :: (nat_lit 67, (o103 P)) :: (nat_lit 69, (o105 P)) :: (nat_lit 70, (o106 P)) :: (nat_lit 71, (o109 P)) :: (nat_lit 78, (o116 P)) :: (nat_lit 80, (o118 P)) :: (nat_lit 81, (o119 P)) :: (nat_lit 83, (o121 P)) :: (nat_lit 84, (o122 P)) :: (nat_lit 85, (o123 P)) :: (nat_lit 86, (o124 P)) :: (nat_lit 87, (o130 P)) :: (nat_lit 90, (o131 P)) :: (nat_lit 97, (o138 P)) :: (nat_lit 99, (o140 P)) :: (nat_lit 100, (o141 P)) :: (nat_lit 102, (o143 P)) :: (nat_lit 103, (o144 P)) :: (nat_lit 104, (o145 P)) :: (nat_lit 106, (o147 P)) :: (nat_lit 107, (o148 P)) :: (nat_lit 109, (o150 P)) :: (nat_lit 110, (o151 P)) :: (nat_lit 111, (o152 P)) :: (nat_lit 113, (o154 P)) :: (nat_lit 114, (o155 P)) :: (nat_lit 116, (o157 P)) :: (nat_lit 117, (o158 P)) :: (nat_lit 118, (o159 P)) :: (nat_lit 119, (o160 P)) :: (nat_lit 120, (o161 P)) :: (nat_lit 123, (o164 P)) :: (nat_lit 125, (o166 P)) :: (nat_lit 126, (o167 P)) :: (nat_lit 128, (o169 P)) :: (nat_lit 129, (o170 P)) :: (nat_lit 130, (o171 P)) :: (nat_lit 132, (o173 P)) :: (nat_lit 133, (o174 P)) :: (nat_lit 135, (o176 P)) :: (nat_lit 136, (o177 P)) :: (nat_lit 137, (o180 P)) :: (nat_lit 139, (o182 P)) :: (nat_lit 140, (o183 P)) :: (nat_lit 142, (o185 P)) :: (nat_lit 143, (o186 P)) :: (nat_lit 144, (o187 P)) :: (nat_lit 146, (o189 P)) :: (nat_lit 147, (o190 P)) :: (nat_lit 149, (o192 P)) :: (nat_lit 150, (o193 P)) :: (nat_lit 151, (o194 P)) :: (nat_lit 153, (o196 P)) :: (nat_lit 154, (o197 P)) :: (nat_lit 156, (o199 P)) :: (nat_lit 157, (o200 P)) :: (nat_lit 158, (o201 P)) :: (nat_lit 160, (o203 P)) :: (nat_lit 161, (o204 P)) :: (nat_lit 163, (o206 P)) :: (nat_lit 164, (o207 P)) :: (nat_lit 165, (o208 P)) :: (nat_lit 168, (o211 P)) :: (nat_lit 169, (o212 P)) :: (nat_lit 170, (o213 P)) :: (nat_lit 172, (o215 P)) :: (nat_lit 173, (o216 P)) :: (nat_lit 175, (o218 P)) :: (nat_lit 176, (o219 P)) :: (nat_lit 177, (o220 P)) :: (nat_lit 179, (o222 P)) :: (nat_lit 180, (o223 P)) :: (nat_lit 182, (o225 P)) :: (nat_lit 183, (o226 P)) :: (nat_lit 184, (o227 P)) :: (nat_lit 186, (o229 P)) :: (nat_lit 187, (o230 P)) :: (nat_lit 189, (o232 P)) :: (nat_lit 190, (o233 P)) :: (nat_lit 191, (o234 P)) :: (nat_lit 193, (o236 P)) :: (nat_lit 194, (o237 P)) :: (nat_lit 196, (o239 P)) :: (nat_lit 197, (o240 P)) :: (nat_lit 198, (o241 P)) :: (nat_lit 200, (o243 P)) :: (nat_lit 201, (o244 P)) :: (nat_lit 203, (o246 P)) :: (nat_lit 204, (o247 P)) :: (nat_lit 205, (o250 P)) :: (nat_lit 207, (o252 P)) :: (nat_lit 208, (o253 P)) :: (nat_lit 210, (o255 P)) :: (nat_lit 211, (o256 P)) :: (nat_lit 212, (o257 P)) :: (nat_lit 214, (o259 P)) :: (nat_lit 215, (o260 P)) :: (nat_lit 217, (o262 P)) :: (nat_lit 218, (o263 P)) :: (nat_lit 219, (o264 P)) :: (nat_lit 221, (o266 P)) :: (nat_lit 222, (o267 P)) :: (nat_lit 224, (o269 P)) :: (nat_lit 225, (o270 P)) :: (nat_lit 226, (o271 P)) :: (nat_lit 228, (o273 P)) :: (nat_lit 229, (o274 P)) :: (nat_lit 231, (o276 P)) :: (nat_lit 232, (o277 P)) :: (nat_lit 233, (o278 P)) :: (nat_lit 234, (o279 P)) :: (nat_lit 235, (o280 P)) :: (nat_lit 236, (o281 P)) :: (nat_lit 237, (o282 P)) :: (nat_lit 238, (o283 P)) :: (nat_lit 239, (o284 P)) :: (nat_lit 240, (o285 P)) :: (nat_lit 241, (o286 P)) :: (nat_lit 242, (o287 P)) :: (nat_lit 243, (o288 P)) :: (nat_lit 244, (o289 P)) :: (nat_lit 245, (o290 P)) :: (nat_lit 246, (o291 P)) :: (nat_lit 247, (o292 P)) :: (nat_lit 248, (o293 P)) :: (nat_lit 249, (o294 P)) :: (nat_lit 250, (o295 P)) :: (nat_lit 251, (o296 P)) :: (nat_lit 252, (o297 P)) :: (nat_lit 253, (o298 P)) :: (nat_lit 254, (o299 P)) :: (nat_lit 255, (o300 P)) :: (nat_lit 256, (o301 P)) :: (nat_lit 257, (o302 P)) :: (nat_lit 258, (o303 P)) :: (nat_lit 259, (o304 P)) :: (nat_lit 260, (o305 P)) :: (nat_lit 261, (o306 P)) :: (nat_lit 262, (o307 P)) :: (nat_lit 263, (o308 P)) :: (nat_lit 264, (o309 P)) :: (nat_lit 265, (o310 P)) :: (nat_lit 266, (o313 P)) :: (nat_lit 268, (o315 P)) :: (nat_lit 269, (o316 P)) :: (nat_lit 271, (o318 P)) :: (nat_lit 272, (o319 P)) :: (nat_lit 273, (o320 P)) :: (nat_lit 275, (o322 P)) :: (nat_lit 276, (o323 P)) :: (nat_lit 278, (o325 P)) :: (nat_lit 279, (o326 P)) :: (nat_lit 280, (o327 P)) :: (nat_lit 282, (o329 P)) :: (nat_lit 283, (o330 P)) :: (nat_lit 285, (o332 P)) :: (nat_lit 286, (o333 P)) :: (nat_lit 287, (o334 P)) :: (nat_lit 289, (o336 P)) :: (nat_lit 290, (o337 P)) :: (nat_lit 292, (o339 P)) :: (nat_lit 293, (o340 P)) :: (nat_lit 294, (o341 P)) :: (nat_lit 296, (o343 P)) :: (nat_lit 297, (o344 P)) :: (nat_lit 299, (o346 P)) :: (nat_lit 300, (o347 P)) :: (nat_lit 301, (o348 P)) :: (nat_lit 304, (o351 P)) :: (nat_lit 305, (o352 P)) :: (nat_lit 306, (o353 P)) :: (nat_lit 309, (o356 P)) :: (nat_lit 310, (o357 P)) :: (nat_lit 311, (o358 P)) :: (nat_lit 313, (o360 P)) :: (nat_lit 314, (o361 P)) :: (nat_lit 316, (o363 P)) :: (nat_lit 317, (o364 P)) :: (nat_lit 318, (o365 P)) :: (nat_lit 321, (o368 P)) :: (nat_lit 322, (o369 P)) :: (nat_lit 323, (o370 P)) :: (nat_lit 325, (o372 P)) :: (nat_lit 326, (o373 P)) :: (nat_lit 328, (o375 P)) :: (nat_lit 329, (o376 P)) :: (nat_lit 330, (o377 P)) :: (nat_lit 333, (o380 P)) :: (nat_lit 334, (o381 P)) :: (nat_lit 335, (o382 P)) :: (nat_lit 337, (o384 P)) :: (nat_lit 338, (o385 P)) :: (nat_lit 340, (o387 P)) :: (nat_lit 341, (o388 P)) :: (nat_lit 342, (o391 P)) :: (nat_lit 345, (o394 P)) :: (nat_lit 346, (o395 P)) :: []
noncomputable def KA : List Addr := nat_lit 2 :: nat_lit 3 :: nat_lit 15 :: nat_lit 17 :: nat_lit 18 :: nat_lit 20 :: nat_lit 21 :: nat_lit 22 :: nat_lit 24 :: nat_lit 25 :: nat_lit 27 :: nat_lit 28 :: nat_lit 29 :: nat_lit 31 :: nat_lit 32 :: nat_lit 34 :: nat_lit 35 :: nat_lit 36 :: nat_lit 38 :: nat_lit 39 :: nat_lit 41 :: nat_lit 42 :: nat_lit 43 :: nat_lit 45 :: nat_lit 46 :: nat_lit 48 :: nat_lit 49 :: nat_lit 50 :: nat_lit 52 :: nat_lit 53 :: nat_lit 55 :: nat_lit 56 :: nat_lit 57 :: nat_lit 59 :: nat_lit 60 :: nat_lit 62 :: nat_lit 63 :: nat_lit 64 :: nat_lit 66 :: nat_lit 67 :: nat_lit 69 :: nat_lit 70 :: nat_lit 71 :: nat_lit 78 :: nat_lit 80 :: nat_lit 81 :: nat_lit 83 :: nat_lit 84 :: nat_lit 85 :: nat_lit 86 :: nat_lit 87 :: nat_lit 90 :: nat_lit 97 :: nat_lit 99 :: nat_lit 100 :: nat_lit 102 :: nat_lit 103 :: nat_lit 104 :: nat_lit 106 :: nat_lit 107 :: nat_lit 109 :: nat_lit 110 :: nat_lit 111 :: nat_lit 113 :: nat_lit 114 :: nat_lit 116 :: nat_lit 117 :: nat_lit 118 :: nat_lit 119 :: nat_lit 120 :: nat_lit 123 :: nat_lit 125 :: nat_lit 126 :: nat_lit 128 :: nat_lit 129 :: nat_lit 130 :: nat_lit 132 :: nat_lit 133 :: nat_lit 135 :: nat_lit 136 :: nat_lit 137 :: nat_lit 139 :: nat_lit 140 :: nat_lit 142 :: nat_lit 143 :: nat_lit 144 :: nat_lit 146 :: nat_lit 147 :: nat_lit 149 :: nat_lit 150 :: nat_lit 151 :: nat_lit 153 :: nat_lit 154 :: nat_lit 156 :: nat_lit 157 :: nat_lit 158 :: nat_lit 160 :: nat_lit 161 :: nat_lit 163 :: nat_lit 164 :: nat_lit 165 :: nat_lit 168 :: nat_lit 169 :: nat_lit 170 :: nat_lit 172 :: nat_lit 173 :: nat_lit 175 :: nat_lit 176 :: nat_lit 177 :: nat_lit 179 :: nat_lit 180 :: nat_lit 182 :: nat_lit 183 :: nat_lit 184 :: nat_lit 186 :: nat_lit 187 :: nat_lit 189 :: nat_lit 190 :: nat_lit 191 :: nat_lit 193 :: nat_lit 194 :: nat_lit 196 :: nat_lit 197 :: nat_lit 198 :: nat_lit 200 :: nat_lit 201 :: nat_lit 203 :: nat_lit 204 :: nat_lit 205 :: nat_lit 207 :: nat_lit 208 :: nat_lit 210 :: nat_lit 211 :: nat_lit 212 :: nat_lit 214 :: nat_lit 215 :: nat_lit 217 :: nat_lit 218 :: nat_lit 219 :: nat_lit 221 :: nat_lit 222 :: nat_lit 224 :: nat_lit 225 :: nat_lit 226 :: nat_lit 228 :: nat_lit 229 :: nat_lit 231 :: nat_lit 232 :: nat_lit 233 :: nat_lit 234 :: nat_lit 235 :: nat_lit 236 :: nat_lit 237 :: nat_lit 238 :: nat_lit 239 :: nat_lit 240 :: nat_lit 241 :: nat_lit 242 :: nat_lit 243 :: nat_lit 244 :: nat_lit 245 :: nat_lit 246 :: nat_lit 247 :: nat_lit 248 :: nat_lit 249 :: nat_lit 250 :: nat_lit 251 :: nat_lit 252 :: nat_lit 253 :: nat_lit 254 :: nat_lit 255 :: nat_lit 256 :: nat_lit 257 :: nat_lit 258 :: nat_lit 259 :: nat_lit 260 :: nat_lit 261 :: nat_lit 262 :: nat_lit 263 :: nat_lit 264 :: nat_lit 265 :: nat_lit 266 :: nat_lit 268 :: nat_lit 269 :: nat_lit 271 :: nat_lit 272 :: nat_lit 273 :: nat_lit 275 :: nat_lit 276 :: nat_lit 278 :: nat_lit 279 :: nat_lit 280 :: nat_lit 282 :: nat_lit 283 :: nat_lit 285 :: nat_lit 286 :: nat_lit 287 :: nat_lit 289 :: nat_lit 290 :: nat_lit 292 :: nat_lit 293 :: nat_lit 294 :: nat_lit 296 :: nat_lit 297 :: nat_lit 299 :: nat_lit 300 :: nat_lit 301 :: nat_lit 304 :: nat_lit 305 :: nat_lit 306 :: nat_lit 309 :: nat_lit 310 :: nat_lit 311 :: nat_lit 313 :: nat_lit 314 :: nat_lit 316 :: nat_lit 317 :: nat_lit 318 :: nat_lit 321 :: nat_lit 322 :: nat_lit 323 :: nat_lit 325 :: nat_lit 326 :: nat_lit 328 :: nat_lit 329 :: nat_lit 330 :: nat_lit 333 :: nat_lit 334 :: nat_lit 335 :: nat_lit 337 :: nat_lit 338 :: nat_lit 340 :: nat_lit 341 :: nat_lit 342 :: nat_lit 345 :: nat_lit 346 :: []
noncomputable def VV : Program := view PW [0, 2, 3, 4, 5, 6, 7, 9, 11, 13, 14, 16, 18, 20, 21, 22, 23, 25, 26, 27, 28, 29, 30, 31, 32, 33, 34, 35, 36, 37, 38, 39, 40, 41, 42, 43, 44, 45, 46, 47, 48, 49, 50, 51, 52, 53, 54, 56, 57, 58, 59, 60, 61, 62, 63, 64, 65, 66, 67]
end Mine
end partHa
section partHb
open PySem PySem.W PyProof.Rows
set_option Elab.async false
namespace Mine
set_option maxRecDepth 100000
set_option maxHeartbeats 8000000
noncomputable def EN : Env := { scope := PW.main.scope, locals := mainNs, globals := mainNs, cells := [], code := .ref 13, frame := some 14 }
noncomputable abbrev BB : List Stmt := behindTheImports PW
noncomputable abbrev CD : Code := .body BB EN
abbrev BF : List Frame := [topFrame ⟨0, 0, 0, 0⟩]
abbrev AN : Option Value := some (.ref 6)
abbrev GS : Array GenState := Array.mk []
theorem q0 (w : World) (os : OsState) : topGo treeTable PW w 11 AN 12 ⟨boot_heap w.params, GS, boot_drawn, boot_toks, os⟩ (topStub PW) = some (⟨heap46 w.params, GS, {}, 187, os⟩, ⟨denote treeTable CD, CD, ⟨0, 0, 0, 0⟩, BF⟩) := by
  rw [Fast.te15667345088766844465, Fast.te14364793385576792824, Fast.te11892475500146522536]; kernel_rfl
theorem q1 (w : World) (os : OsState) : segRun treeTable PW w 11 AN 1 1 ⟨heap46 w.params, GS, {}, 187, os⟩ (blockOf BB EN CD ⟨0, 0, 0, 0⟩ BF) = some (.next, (SharedT.mk (tree47 w.params) 15 {} GS {} 187 os).abs, CD, ⟨0, 0, 0, 0⟩) := by
  rw [Fast.te14374325043358763698, Fast.te14364793385576792824]; kernel_rfl
noncomputable def S1 : List Stmt := (BB.drop 0).take 11
noncomputable def S2 : List Stmt := (BB.drop 11).take 2
noncomputable def S3 : List Stmt := (BB.drop 13).take 5
noncomputable def S4 : List Stmt := (BB.drop 18).take 19
noncomputable def S5 : List Stmt := (BB.drop 37).take 17
noncomputable def S6 : List Stmt := (BB.drop 54).take 13
noncomputable def S7 : List Stmt := (BB.drop 67).take 1
theorem p1 (w : World) (os : OsState) : segRunT treeTable PW w 11 AN 1 273 (SharedT.mk (tree47 w.params) 15 {} GS {} 187 os) (piecesOf S1 EN CD ⟨0, 0, 0, 0⟩ BF) = some (.next, (SharedT.mk (tree106 w.params) 71 {} GS {} 262 os), CD, ⟨31, 0, 31, 8⟩) := by
  rw [Fast.te10110043849684766642, Fast.te14364793385576792824]; kernel_rfl
theorem p2 (w : World) (os : OsState) : segRunT treeTable PW w 11 AN 1 219 (SharedT.mk (tree106 w.params) 71 {} GS {} 262 os) (piecesOf S2 EN CD ⟨31, 0, 31, 8⟩ BF) = some (.next, (SharedT.mk (tree127 w.params) 90 {} GS {} 288 os), CD, ⟨36, 0, 36, 8⟩) := by
  rw [Fast.te10110043849684766642, Fast.te14364793385576792824]; kernel_rfl
theorem p3 (w : World) (os : OsState) : segRunT treeTable PW w 11 AN 1 389 (SharedT.mk (tree127 w.params) 90 {} GS {} 288 os) (piecesOf S3 EN CD ⟨36, 0, 36, 8⟩ BF) = some (.next, (SharedT.mk (tree177 w.params) 137 {} GS {} 350 os), CD, ⟨72, 0, 72, 8⟩) := by
  rw [Fast.te10110043849684766642, Fast.te14364793385576792824]; kernel_rfl
theorem p4 (w : World) (os : OsState) : segRunT treeTable PW w 11 AN 1 380 (SharedT.mk (tree177 w.params) 137 {} GS {} 350 os) (piecesOf S4 EN CD ⟨72, 0, 72, 8⟩ BF) = some (.next, (SharedT.mk (tree247 w.params) 205 {} GS {} 448 os), CD, ⟨160, 0, 161, 34⟩) := by
  rw [Fast.te10110043849684766642, Fast.te14364793385576792824]; kernel_rfl
theorem p5 (w : World) (os : OsState) : segRunT treeTable PW w 11 AN 1 386 (SharedT.mk (tree247 w.params) 205 {} GS {} 448 os) (piecesOf S5 EN CD ⟨160, 0, 161, 34⟩ BF) = some (.next, (SharedT.mk (tree310 w.params) 266 {} GS {} 526 os), CD, ⟨182, 0, 182, 15⟩) := by
  rw [Fast.te10110043849684766642, Fast.te14364793385576792824]; kernel_rfl
theorem p6 (w : World) (os : OsState) : segRunT treeTable PW w 11 AN 1 376 (SharedT.mk (tree310 w.params) 266 {} GS {} 526 os) (piecesOf S6 EN CD ⟨182, 0, 182, 15⟩ BF) = some (.next, (SharedT.mk (tree388 w.params) 342 {} GS {} 638 os), CD, ⟨258, 0, 264, 97⟩) := by
  rw [Fast.te10110043849684766642, Fast.te14364793385576792824]; kernel_rfl
theorem p7 (w : World) (os : OsState) : segRunT treeTable PW w 11 AN 1 27 (SharedT.mk (tree388 w.params) 342 {} GS {} 638 os) (piecesOf S7 EN CD ⟨258, 0, 264, 97⟩ BF) = some (.next, (SharedT.mk (tree395 w.params) 347 {} GS {} 644 os), CD, ⟨265, 0, 274, 69⟩) := by
  rw [Fast.te10110043849684766642, Fast.te14364793385576792824]; kernel_rfl
theorem q2 (w : World) (os : OsState) : topRun treeTable PW w 11 AN 2 (SharedT.mk (tree395 w.params) 347 {} GS {} 644 os).abs ⟨doneF .next, CD, ⟨265, 0, 274, 69⟩, BF⟩ = some ⟨heap396 w.params, GS, {}, 644, os⟩ := by
  rw [Fast.te14082659384304107361, Fast.te14364793385576792824]; kernel_rfl
theorem bodyEq : BB = (S1 ++ (S2 ++ (S3 ++ (S4 ++ (S5 ++ (S6 ++ (S7 ++ []))))))) := by kernel_rfl
theorem chain (w : World) (os : OsState) : topRun treeTable PW w 11 AN (Nat.add 273 (Nat.add 219 (Nat.add 389 (Nat.add 380 (Nat.add 386 (Nat.add 376 (Nat.add 27 2))))))) (SharedT.mk (tree47 w.params) 15 {} GS {} 187 os).abs (restOf (S1 ++ (S2 ++ (S3 ++ (S4 ++ (S5 ++ (S6 ++ (S7 ++ []))))))) EN CD ⟨0, 0, 0, 0⟩ BF) = some ⟨heap396 w.params, GS, {}, 644, os⟩ :=
  (@piece_app treeTable PW w 11 AN EN ⟨0, 0, 0, 0⟩ 273 (Nat.add 219 (Nat.add 389 (Nat.add 380 (Nat.add 386 (Nat.add 376 (Nat.add 27 2)))))) (SharedT.mk (tree47 w.params) 15 {} GS {} 187 os).abs (SharedT.mk (tree106 w.params) 71 {} GS {} 262 os).abs _ S1 (S2 ++ (S3 ++ (S4 ++ (S5 ++ (S6 ++ (S7 ++ [])))))) CD ⟨0, 0, 0, 0⟩ ⟨31, 0, 31, 8⟩ (segRun_of (p1 w os)) (@piece_app treeTable PW w 11 AN EN ⟨0, 0, 0, 0⟩ 219 (Nat.add 389 (Nat.add 380 (Nat.add 386 (Nat.add 376 (Nat.add 27 2))))) (SharedT.mk (tree106 w.params) 71 {} GS {} 262 os).abs (SharedT.mk (tree127 w.params) 90 {} GS {} 288 os).abs _ S2 (S3 ++ (S4 ++ (S5 ++ (S6 ++ (S7 ++ []))))) CD ⟨31, 0, 31, 8⟩ ⟨36, 0, 36, 8⟩ (segRun_of (p2 w os)) (@piece_app treeTable PW w 11 AN EN ⟨0, 0, 0, 0⟩ 389 (Nat.add 380 (Nat.add 386 (Nat.add 376 (Nat.add 27 2)))) (SharedT.mk (tree127 w.params) 90 {} GS {} 288 os).abs (SharedT.mk (tree177 w.params) 137 {} GS {} 350 os).abs _ S3 (S4 ++ (S5 ++ (S6 ++ (S7 ++ [])))) CD ⟨36, 0, 36, 8⟩ ⟨72, 0, 72, 8⟩ (segRun_of (p3 w os)) (@piece_app treeTable PW w 11 AN EN ⟨0, 0, 0, 0⟩ 380 (Nat.add 386 (Nat.add 376 (Nat.add 27 2))) (SharedT.mk (tree177 w.params) 137 {} GS {} 350 os).abs (SharedT.mk (tree247 w.params) 205 {} GS {} 448 os).abs _ S4 (S5 ++ (S6 ++ (S7 ++ []))) CD ⟨72, 0, 72, 8⟩ ⟨160, 0, 161, 34⟩ (segRun_of (p4 w os)) (@piece_app treeTable PW w 11 AN EN ⟨0, 0, 0, 0⟩ 386 (Nat.add 376 (Nat.add 27 2)) (SharedT.mk (tree247 w.params) 205 {} GS {} 448 os).abs (SharedT.mk (tree310 w.params) 266 {} GS {} 526 os).abs _ S5 (S6 ++ (S7 ++ [])) CD ⟨160, 0, 161, 34⟩ ⟨182, 0, 182, 15⟩ (segRun_of (p5 w os)) (@piece_app treeTable PW w 11 AN EN ⟨0, 0, 0, 0⟩ 376 (Nat.add 27 2) (SharedT.mk (tree310 w.params) 266 {} GS {} 526 os).abs (SharedT.mk (tree388 w.params) 342 {} GS {} 638 os).abs _ S6 (S7 ++ []) CD ⟨182, 0, 182, 15⟩ ⟨258, 0, 264, 97⟩ (segRun_of (p6 w os)) (@piece_app treeTable PW w 11 AN EN ⟨0, 0, 0, 0⟩ 27 2 (SharedT.mk (tree388 w.params) 342 {} GS {} 638 os).abs (SharedT.mk (tree395 w.params) 347 {} GS {} 644 os).abs _ S7 [] CD ⟨258, 0, 264, 97⟩ ⟨265, 0, 274, 69⟩ (segRun_of (p7 w os)) (piece_nil (q2 w os)))))))))
theorem chain' (w : World) (os : OsState) : topRun treeTable PW w 11 AN (Nat.add 273 (Nat.add 219 (Nat.add 389 (Nat.add 380 (Nat.add 386 (Nat.add 376 (Nat.add 27 2))))))) (SharedT.mk (tree47 w.params) 15 {} GS {} 187 os).abs (restOf BB EN CD ⟨0, 0, 0, 0⟩ BF) = some ⟨heap396 w.params, GS, {}, 644, os⟩ := by
  have h := chain w os
  rw [← bodyEq] at h
  exact h
theorem run (w : World) (os : OsState) : topRun treeTable PW w 11 AN (Nat.add 12 (Nat.add 1 (Nat.add 273 (Nat.add 219 (Nat.add 389 (Nat.add 380 (Nat.add 386 (Nat.add 376 (Nat.add 27 2))))))))) ⟨boot_heap w.params, GS, boot_drawn, boot_toks, os⟩ (topStub PW) = some ⟨heap396 w.params, GS, {}, 644, os⟩ :=
  go_top (q0 w os) (piece_block (q1 w os) (chain' w os))
end Mine
end partHb
section partHc
open PySem PySem.W PyProof.Rows
set_option Elab.async false
namespace Mine
set_option maxRecDepth 100000
set_option maxHeartbeats 8000000

noncomputable abbrev RW : RowW := OpenRow.toRowW (OpenLaw.row PySem.Challenge.rw_in0209_01)
noncomputable abbrev HK : Hook := kHook KK KA (fun _ => by kernel_rfl)
noncomputable abbrev XT : Shared → Bool := fun s => xlAt VV [] s && recOk (RowW.records RW) s
theorem size (w : World) : ((boot_heap w.params).isNs mainGlobals && GS.size == 0, (boot_heap w.params).objs.size, (boot_heap w.params).nsMap mainGlobals "__annotations__") = (true, 11, AN) := by
  rw [Fast.te8920871248978507458]; kernel_rfl
theorem open1 : opening PW = plainProg PW.main.scope.names := by kernel_rfl
theorem open2 (s : Shared) : fenceModules? PW s = some s := by kernel_rfl
noncomputable abbrev SE (w : World) (os : OsState) : Shared := ⟨heap396 w.params, GS, {}, 644, os⟩
theorem look1 (w : World) (os : OsState) : (staticsOk (importedModules PW.main.body) (boot_heap w.params) (heap396 w.params) && namesBound PW (heap396 w.params) && gensDone (SE w os) && laidKept (boot_heap w.params) (heap396 w.params)) = true := by
  rw [Fast.te5923862056798008813]; kernel_rfl
theorem look2a (w : World) (os : OsState) : seen ((recsOf VV).map (·.name)) (ownsOf VV) [] { SE w os with gens := #[] } = expectedOf VV := by
  rw [Fast.te5160383126252970620, Fast.te3399658132070893891, Fast.te5991557255702980513]; kernel_rfl
theorem look2b (w : World) (os : OsState) : (SE w os).heap.bltView = bltViewBooted := by kernel_rfl
theorem look2c (w : World) (os : OsState) : ((SE w os).heap.keysOk (looseW VV [Str.ofString "_filemode_table"]) ((recsOf VV).map (·.name)) ((litsOf VV).map (·.1)) ((clssOf VV (looseW VV [Str.ofString "_filemode_table"])).map (·.name)) && (SE w os).heap.accountedOkI (importedModules PW.main.body) && (SE w os).heap.isNs mainGlobals && (SE w os).heap.isNs builtinsNs && tablesOk VV (SE w os).heap && XT (SE w os) && (if true then (SE w os).gens.size == 0 else !leftWithCleanup (SE w os).gens)) = true := by
  rw [Fast.te10880121769531294198, Fast.te821141287760084731, Fast.te3399658132070893891, Fast.te7409074990110511671, Fast.te13664370479719496447, Fast.te14722251495701143533, Fast.te5923862056798008813, Fast.te10994771534591457954]; kernel_rfl
theorem look2d (w : World) (os : OsState) : tabsOk VV (SE w os) = true := by
  rw [Fast.te479339242167458305]; kernel_rfl
theorem look2e (w : World) (os : OsState) : pinSeenD VV (drecsOf VV) (SE w os) = pinGoodD (drecsOf VV) := by
  rw [Fast.te16090120013241838585, Fast.te3247288618530077131]; kernel_rfl
theorem look2f (w : World) (os : OsState) : plainSeenE VV (looseW VV [Str.ofString "_filemode_table"]) (SE w os) = plainGoodE VV (looseW VV [Str.ofString "_filemode_table"]) := by
  rw [Fast.te2386780881361962483, Fast.te821141287760084731]; kernel_rfl
theorem look2g (w : World) (os : OsState) : plainSeenD VV [Str.ofString "_filemode_table"] (SE w os) = plainGoodD VV [Str.ofString "_filemode_table"] := by
  rw [Fast.te11698064438423848299]; kernel_rfl
theorem look2h (w : World) (os : OsState) : wideSeen VV (SE w os) = wideGood VV := by
  rw [Fast.te7317090234206586261]; kernel_rfl
theorem look2i (w : World) (os : OsState) : clsSeenW VV [Str.ofString "_filemode_table"] (SE w os) = clsGoodW VV [Str.ofString "_filemode_table"] := by
  rw [Fast.te7369524293546568484]; kernel_rfl
theorem look2 (w : World) (os : OsState) : openSeen VV [Str.ofString "_filemode_table"] (importedModules PW.main.body) XT true (SE w os) = openGood VV [Str.ofString "_filemode_table"] :=
  looks_pair (look2a w os) (looks_pair (look2b w os) (looks_pair (look2c w os) (looks_pair (look2d w os) (looks_pair (look2e w os) (looks_pair (look2f w os) (looks_pair (look2g w os) (looks_pair (look2h w os) (look2i w os))))))))
theorem look3 (w : World) (os : OsState) : HK.obs (SE w os) = HK.val w := by kernel_rfl
theorem left : LeftO PW VV [Str.ofString "_filemode_table"] XT HK.obs HK.val 4212 :=
  LeftO.of_pieces (boot_open open1 (by decide) open2) size run (by decide) fun w => funext fun os => looks_pair (look1 w os) (looks_pair (look2 w os) (look3 w os))
end Mine
end partHc
section partHs
open PySem PySem.W PyProof.Rows
set_option Elab.async false
namespace Mine
set_option maxRecDepth 100000
set_option maxHeartbeats 8000000
theorem wellSaid : OpenLaw.wellSaid PySem.Challenge.rw_in0209_01 = true := by
  rw [Fast.te9446332074065402090]
  unfold Fast.tw9446332074065402090
  repeat' first
    | with_reducible refine look_both ?_ ?_
    | unfold Fast.tw17960256430627541270
    | unfold Fast.tw2436336058641802641
    | unfold Fast.tw12908688711261696721
  all_goals as_aux_lemma => kernel_rfl
theorem okAll : (chainsOk VV && opensWell (OpenLaw.row PySem.Challenge.rw_in0209_01).prog && (frees (OpenRow.toRowW (OpenLaw.row PySem.Challenge.rw_in0209_01)) && (OpenLaw.row PySem.Challenge.rw_in0209_01).within.isEmpty)) = true := by kernel_rfl
theorem whole : (OpenLaw.row PySem.Challenge.rw_in0209_01).prog.tablesWhole = true := by kernel_rfl
end Mine
end partHs
section partBase
open PySem PySem.W PySem.Calls PyProof.Rows
set_option Elab.async false
namespace Mine
set_option maxRecDepth 100000
set_option maxHeartbeats 8000000

noncomputable def Grows (h h' : Heap) : Prop := ∀ b o, h.get? b = some o → h'.get? b = some o
theorem Grows.rfl {h : Heap} : Grows h h := fun _ _ e => e
theorem Grows.trans {a b c : Heap} (x : Grows a b) (y : Grows b c) : Grows a c := fun _ _ e => y _ _ (x _ _ e)

/-- a call's word: from every state where `Pre` holds it hands back a value of which `Out` is said; what stood stands -/
noncomputable def Con (w : World) (f : Addr) (vs : List Value) (d : Nat) (Pre : Heap → Prop) (Out : Heap → Heap → Value → Prop) : Prop :=
  ∀ (dp un : Nat) (gd : Option (List Code)) (cn : Str) (cs : Scope) (a : Addr) (ccd : Value) (cl : List (Str × Addr)) (outer : List Env) (A₀ : Around) (base h₀ : Heap) (L : Addr) (m : Str → Option Value)
    (mean : ExcName → Option Value) (mg mb : Str → Option Value) (s : Shared) (Q E : Value → Shared → Prop),
    Below A₀ base outer h₀ → Fr h₀ L s.heap m → (KK w.params).In h₀ → Top VV (looseW VV [Str.ofString "_filemode_table"]) mean mg mb h₀ → cs.kind = .function →
    dp + d < recursionLimit → un + 8 * d < cLine → Pre s.heap →
    (∀ r h' tk', Grows s.heap h' → Out s.heap h' r → Q r { s with heap := h', toks := tk' }) →
    wpAny (model PySem.Challenge.rw_in0209_01.row.prog w) (ktrTop dp un gd cn cs L a ccd cl outer) (call (.ref f) vs) Q E s

theorem news_nil {h₀ h : Heap} {L : Addr} : News h₀ L h [] := fun _ hp => nomatch hp

/-- a def that captures nothing: its body, from the heap at the call as the ground -/
theorem con_of {w : World} {f : Addr} {vs : List Value} {d : Nat} {Pre : Heap → Prop} {Out : Heap → Heap → Value → Prop}
    {name qual : Str} {params : Arguments} {body : List Stmt} {scope : Scope} {dV kV doc pm cdv ct oc : Value} {an od : Option Addr} {osl : Array (Option Value)} (binds : List (Str × Value))
    (ho : (KK w.params).lookup f = some ⟨oc, od, .func (fnOf name qual params body scope dV kV doc pm an cdv ct), osl⟩) (hcd : codeIn (KK w.params) cdv qual = true)
    (hbind : ∀ s, BindsTo s (fnOf name qual params body scope dV kV doc pm an cdv ct) ⟨vs, []⟩ binds) (hloc : ∀ y ∈ binds, scope.names.lookup y.1 = some .local)
    (h : ∀ (dp un : Nat) (gd : Option (List Code)) (outer : List Env) (A₀ : Around) (base g : Heap) (L' : Addr) (h₁ : Heap) (tk : Nat) (gn dr os) (mean : ExcName → Option Value) (mg mb : Str → Option Value) (R : Value → Shared → Prop),
      Below A₀ base outer g → Fr g L' h₁ (fun y => binds.reverse.lookup y) → News g L' h₁ [] → (KK w.params).In g → Top VV (looseW VV [Str.ofString "_filemode_table"]) mean mg mb g →
      dp + d < recursionLimit → un + 8 * d < cLine → Pre g → (∀ v h' tk', Grows g h' → Out g h' v → R v ⟨h', gn, dr, tk', os⟩) →
      wpAny (model PySem.Challenge.rw_in0209_01.row.prog w) (ktrTop dp un gd qual scope L' f cdv [] outer) (execs body (envOf qual scope L' f cdv))
        (fun fl s' => R (match fl with | .ret v => v | _ => .none) s') (fun _ _ => False) ⟨h₁, gn, dr, tk, os⟩)
    (hcell : ∀ x ∈ scope.names, x.2 ≠ .cell) (hco : scope.isCoroutine = false := by rfl) (hgen : scope.isGenerator = false := by rfl) (hk : scope.kind = .function := by rfl) :
    Con w f vs (d + 1) Pre Out := by
  intro dp un gd cn cs a ccd cl outer A₀ base h₀ L m mean mg mb s Q E B F X T hck hdp hun hpre hret
  have G := groundX (A := ktrTop dp un gd cn cs L a ccd cl outer) (env := envX cn cs L a ccd cl) (R := fun _ _ => True) B F (news_nil (h := s.heap)) rfl rfl hck
  have Bg : Below (ktrTop dp un gd cn cs L a ccd cl outer) base (envX cn cs L a ccd cl :: outer) s.heap := G.2.1
  have hdp' : dp + 1 + d < recursionLimit := by omega
  have hun' : (un + 3) + 8 * d < cLine := by omega
  have hroom : (ktrTop dp un gd cn cs L a ccd cl outer).depth < recursionLimit := by show dp < recursionLimit; omega
  refine wpAny_call (codeAny_call_def (fd := fnX name qual params body scope [] dV kV doc pm an cdv ct) (body := body) (binds := binds) hroom ((X.keeps F.keep) _ _ ho) rfl (T.nolimit.keeps F.keep)
    (codeRec_of (X.keeps F.keep) hcd) rfl (hbind s) hcell hloc (fun h₁ hns hk₁ => ?_) hco hgen hk)
  obtain ⟨hp, gn, dr, tk, os⟩ := s
  refine wpAny_mono (h (dp + 1) (un + 3) gd (envX cn cs L a ccd cl :: outer) _ base hp _ h₁ _ gn dr os mean mg mb (fun v s' => Q v s') Bg ⟨hns, hk₁, Nat.le_refl _⟩ news_nil (X.keeps F.keep) (T.keeps F.keep) hdp' hun' hpre hret)
    (fun fl s' hl => hl) (fun _ _ hf => hf.elim)

/-- a def with a rest parameter: the tuple of what is left over is made as the call begins -/
theorem con_ofR {w : World} {f : Addr} {vs : List Value} {d : Nat} {Pre : Heap → Prop} {Out : Heap → Heap → Value → Prop}
    {name qual : Str} {params : Arguments} {body : List Stmt} {scope : Scope} {dV kV doc pm cdv ct oc : Value} {an od : Option Addr} {osl : Array (Option Value)} (vt : List Value) (binds : Addr → List (Str × Value))
    (ho : (KK w.params).lookup f = some ⟨oc, od, .func (fnOf name qual params body scope dV kV doc pm an cdv ct), osl⟩) (hcd : codeIn (KK w.params) cdv qual = true)
    (hbind : ∀ (M : Model) (A : Around) (s : Shared) (Q : List (Str × Value) → Shared → Prop) (E : Value → Shared → Prop), Q (binds s.heap.objs.size) { s with heap := s.heap.push { cls := .type "tuple", data := .seq vt.toArray } } → wpAny M A (bindArgs (fnOf name qual params body scope dV kV doc pm an cdv ct) ⟨vs, []⟩) Q E s)
    (hloc : ∀ D, ∀ y ∈ binds D, scope.names.lookup y.1 = some .local)
    (h : ∀ (dp un : Nat) (gd : Option (List Code)) (outer : List Env) (A₀ : Around) (base g : Heap) (D L' : Addr) (h₁ : Heap) (tk : Nat) (gn dr os) (mean : ExcName → Option Value) (mg mb : Str → Option Value) (R : Value → Shared → Prop),
      Below A₀ base outer g → Fr g L' h₁ (fun y => (binds D).reverse.lookup y) → News g L' h₁ [(D, { cls := .type "tuple", data := .seq vt.toArray })] → (KK w.params).In g → Top VV (looseW VV [Str.ofString "_filemode_table"]) mean mg mb g →
      dp + d < recursionLimit → un + 8 * d < cLine → Pre g → (∀ v h' tk', Grows g h' → Out g h' v → R v ⟨h', gn, dr, tk', os⟩) →
      wpAny (model PySem.Challenge.rw_in0209_01.row.prog w) (ktrTop dp un gd qual scope L' f cdv [] outer) (execs body (envOf qual scope L' f cdv))
        (fun fl s' => R (match fl with | .ret v => v | _ => .none) s') (fun _ _ => False) ⟨h₁, gn, dr, tk, os⟩)
    (hcell : ∀ x ∈ scope.names, x.2 ≠ .cell) (hco : scope.isCoroutine = false := by rfl) (hgen : scope.isGenerator = false := by rfl) (hk : scope.kind = .function := by rfl) :
    Con w f vs (d + 1) Pre Out := by
  intro dp un gd cn cs a ccd cl outer A₀ base h₀ L m mean mg mb s Q E B F X T hck hdp hun hpre hret
  have G := groundX (A := ktrTop dp un gd cn cs L a ccd cl outer) (env := envX cn cs L a ccd cl) (R := fun _ _ => True) B F (news_nil (h := s.heap)) rfl rfl hck
  have Bg : Below (ktrTop dp un gd cn cs L a ccd cl outer) base (envX cn cs L a ccd cl :: outer) s.heap := G.2.1
  have hdp' : dp + 1 + d < recursionLimit := by omega
  have hun' : (un + 3) + 8 * d < cLine := by omega
  have hroom : (ktrTop dp un gd cn cs L a ccd cl outer).depth < recursionLimit := by show dp < recursionLimit; omega
  refine wpAny_call (codeAny_call_function (fd := fnOf name qual params body scope dV kV doc pm an cdv ct) (body := body) hroom ((X.keeps F.keep) _ _ ho) rfl hco hgen rfl (codeRec_of (X.keeps F.keep) hcd) (hbind _ _ _ _ _ ?_))
  have hgrow : Grows s.heap (s.heap.push { cls := .type "tuple", data := .seq vt.toArray }) := fun b o e => Heap.get?_push_of_some _ e
  refine wpAny_newFunctionEnv hcell (hloc _) (fun h₁ hns hsb => ⟨((T.nolimit.keeps F.keep).keeps hgrow).fresh _ hsb, codeAny_func ?_⟩) hk
  obtain ⟨hp, gn, dr, tk, os⟩ := s
  dsimp only at hns hsb hgrow ⊢
  have hsz : (hp.push { cls := .type "tuple", data := .seq vt.toArray }).objs.size = hp.objs.size + 1 := by rw [Heap.size_push]
  have hk₁ : Grows (hp.push { cls := .type "tuple", data := .seq vt.toArray }) h₁ := fun b o e => hsb.extBut b o (Nat.ne_of_lt (Heap.lt_size e)) (Heap.get?_push_of_some _ e)
  refine wpAny_mono (h (dp + 1) (un + 3) gd (envX cn cs L a ccd cl :: outer) _ base hp hp.objs.size _ h₁ _ gn dr os mean mg mb (fun v s' => Q v s') Bg ⟨hns, fun b o e => hk₁ b o (hgrow b o e), by rw [hsz]; exact Nat.le_succ _⟩ ?_ (X.keeps F.keep) (T.keeps F.keep) hdp' hun' hpre hret)
    (fun fl s' hl => hl) (fun _ _ hf => hf.elim)
  intro p hp'
  rw [List.mem_singleton.mp hp']
  refine ⟨hk₁ _ _ (Heap.get?_push_size _ rfl), ?_, ?_⟩
  · show hp.objs.size ≠ _; rw [hsz]; exact Nat.ne_of_lt (Nat.lt_succ_self _)
  · show hp.get? hp.objs.size = none
    cases e : hp.get? hp.objs.size with
    | none => rfl
    | some o => exact absurd (Heap.lt_size e) (Nat.lt_irrefl _)

theorem Con.mono {w : World} {f : Addr} {vs : List Value} {d : Nat} {Pre Pre' : Heap → Prop} {Out Out' : Heap → Heap → Value → Prop} (C : Con w f vs d Pre Out) (hp : ∀ h, Pre' h → Pre h) (ho : ∀ h h' v, Pre' h → Grows h h' → Out h h' v → Out' h h' v) :
    Con w f vs d Pre' Out' := by
  intro dp un gd cn cs a ccd cl outer A₀ base h₀ L m mean mg mb s Q E B F X T hck hdp hun hpre hret
  exact C dp un gd cn cs a ccd cl outer A₀ base h₀ L m mean mg mb s Q E B F X T hck hdp hun (hp _ hpre) fun r h' tk' G O => hret r h' tk' G (ho _ _ _ hpre G O)

theorem news_grows {h₀ h h' : Heap} {L : Addr} {news : List (Addr × Obj)} (N : News h₀ L h news) (G : Grows h h') : News h₀ L h' news := fun p hp => ⟨G _ _ (N p hp).1, (N p hp).2⟩

theorem Con.use {w : World} {f : Addr} {vs : List Value} {d : Nat} {Pre : Heap → Prop} {Out : Heap → Heap → Value → Prop} {dp un : Nat} {gd : Option (List Code)} {cn : Str} {cs : Scope} {a : Addr} {ccd : Value} {cl : List (Str × Addr)} {outer : List Env} {A₀ : Around} {base h₀ : Heap} {L : Addr} {m : Str → Option Value}
    {mean : ExcName → Option Value} {mg mb : Str → Option Value} {s : Shared} {Q E : Value → Shared → Prop} {news : List (Addr × Obj)}
    (C : Con w f vs d Pre Out) (B : Below A₀ base outer h₀) (F : Fr h₀ L s.heap m) (X : (KK w.params).In h₀) (T : Top VV (looseW VV [Str.ofString "_filemode_table"]) mean mg mb h₀) (hck : cs.kind = .function)
    (N : News h₀ L s.heap news) (hdp : dp + d < recursionLimit) (hun : un + 8 * d < cLine) (hpre : Pre s.heap)
    (ret : ∀ r h' tk', Fr h₀ L h' m → News h₀ L h' news → Grows s.heap h' → Out s.heap h' r → Q r { s with heap := h', toks := tk' }) :
    wpAny (model PySem.Challenge.rw_in0209_01.row.prog w) (ktrTop dp un gd cn cs L a ccd cl outer) (call (.ref f) vs) Q E s :=
  C dp un gd cn cs a ccd cl outer A₀ base h₀ L m mean mg mb s Q E B F X T hck hdp hun hpre fun r h' tk' G O => ret r h' tk' (F.keeps G) (news_grows N G) G O

theorem atc (f : Addr) {M : Model} {A : Around} {vs : List Value} {Q E : Value → Shared → Prop} {s : Shared} (h : wpAny M A (call (.ref f) vs) Q E s) : wpAny M A (call (.ref f) vs) Q E s := h
theorem lt9 {a b c n : Nat} (h : a + c < n) (e : b ≤ c) : a + b < n := Nat.lt_of_le_of_lt (Nat.add_le_add_left e a) h
/-- what a contract wants of the place where it is taken -/
structure Here (w : World) (A₀ : Around) (base : Heap) (outer : List Env) (h₀ : Heap) (L : Addr) (h : Heap) (m : Str → Option Value) (mean : ExcName → Option Value) (mg mb : Str → Option Value) (cs : Scope) (news : List (Addr × Obj)) (dp un d : Nat) : Prop where
  B : Below A₀ base outer h₀
  F : Fr h₀ L h m
  X : (KK w.params).In h₀
  T : Top VV (looseW VV [Str.ofString "_filemode_table"]) mean mg mb h₀
  hck : cs.kind = .function
  N : News h₀ L h news
  hdp : dp + d < recursionLimit
  hun : un + 8 * d < cLine
theorem Con.useH {w : World} {f : Addr} {vs : List Value} {d : Nat} {Pre : Heap → Prop} {Out : Heap → Heap → Value → Prop} {dp un : Nat} {gd : Option (List Code)} {cn : Str} {cs : Scope} {a : Addr} {ccd : Value} {cl : List (Str × Addr)} {outer : List Env} {A₀ : Around} {base h₀ : Heap} {L : Addr} {m : Str → Option Value}
    {mean : ExcName → Option Value} {mg mb : Str → Option Value} {s : Shared} {Q E : Value → Shared → Prop} {news : List (Addr × Obj)}
    (C : Con w f vs d Pre Out)
    (ret : ∀ r h' tk', Fr h₀ L h' m → News h₀ L h' news → Grows s.heap h' → Out s.heap h' r → Q r { s with heap := h', toks := tk' }) (H : Here w A₀ base outer h₀ L s.heap m mean mg mb cs news dp un d := by walk_at "u9") (hpre : Pre s.heap := by trivial) :
    wpAny (model PySem.Challenge.rw_in0209_01.row.prog w) (ktrTop dp un gd cn cs L a ccd cl outer) (call (.ref f) vs) Q E s := C.use H.B H.F H.X H.T H.hck H.N H.hdp H.hun hpre ret

abbrev ConI (w : World) (f : Addr) (vs : List Value) (d : Nat) (Pre : Heap → Prop) (x : Int) : Prop := Con w f vs d Pre fun _ _ r => ∃ t, r = .int x t
abbrev ConS (w : World) (f : Addr) (vs : List Value) (d : Nat) (Pre : Heap → Prop) (x : Str) : Prop := Con w f vs d Pre fun _ _ r => ∃ t, r = .str x t
abbrev ConV (w : World) (f : Addr) (vs : List Value) (d : Nat) (Pre : Heap → Prop) (x : Value) : Prop := Con w f vs d Pre fun _ _ r => r = x

section
variable {w : World} {f : Addr} {vs : List Value} {d : Nat} {Pre : Heap → Prop} {Out : Heap → Heap → Value → Prop} {dp un : Nat} {gd : Option (List Code)} {cn : Str} {cs : Scope} {a : Addr} {ccd : Value} {cl : List (Str × Addr)} {outer : List Env} {A₀ : Around} {base h₀ : Heap} {L : Addr} {m : Str → Option Value}
    {mean : ExcName → Option Value} {mg mb : Str → Option Value} {s : Shared} {Q E : Value → Shared → Prop} {news : List (Addr × Obj)}
theorem ConI.use {x : Int}
    (C : ConI w f vs d Pre x) (B : Below A₀ base outer h₀) (F : Fr h₀ L s.heap m) (X : (KK w.params).In h₀) (T : Top VV (looseW VV [Str.ofString "_filemode_table"]) mean mg mb h₀) (hck : cs.kind = .function)
    (N : News h₀ L s.heap news) (hdp : dp + d < recursionLimit) (hun : un + 8 * d < cLine) (hpre : Pre s.heap)
    (ret : ∀ t h' tk', Fr h₀ L h' m → News h₀ L h' news → Grows s.heap h' → Q (.int x t) { s with heap := h', toks := tk' }) :
    wpAny (model PySem.Challenge.rw_in0209_01.row.prog w) (ktrTop dp un gd cn cs L a ccd cl outer) (call (.ref f) vs) Q E s :=
  Con.use C B F X T hck N hdp hun hpre fun r h' tk' F' N' G O => by obtain ⟨t, rfl⟩ := O; exact ret t h' tk' F' N' G
theorem ConS.use {x : Str}
    (C : ConS w f vs d Pre x) (B : Below A₀ base outer h₀) (F : Fr h₀ L s.heap m) (X : (KK w.params).In h₀) (T : Top VV (looseW VV [Str.ofString "_filemode_table"]) mean mg mb h₀) (hck : cs.kind = .function)
    (N : News h₀ L s.heap news) (hdp : dp + d < recursionLimit) (hun : un + 8 * d < cLine) (hpre : Pre s.heap)
    (ret : ∀ t h' tk', Fr h₀ L h' m → News h₀ L h' news → Grows s.heap h' → Q (.str x t) { s with heap := h', toks := tk' }) :
    wpAny (model PySem.Challenge.rw_in0209_01.row.prog w) (ktrTop dp un gd cn cs L a ccd cl outer) (call (.ref f) vs) Q E s :=
  Con.use C B F X T hck N hdp hun hpre fun r h' tk' F' N' G O => by obtain ⟨t, rfl⟩ := O; exact ret t h' tk' F' N' G
theorem ConV.use {x : Value}
    (C : ConV w f vs d Pre x) (B : Below A₀ base outer h₀) (F : Fr h₀ L s.heap m) (X : (KK w.params).In h₀) (T : Top VV (looseW VV [Str.ofString "_filemode_table"]) mean mg mb h₀) (hck : cs.kind = .function)
    (N : News h₀ L s.heap news) (hdp : dp + d < recursionLimit) (hun : un + 8 * d < cLine) (hpre : Pre s.heap)
    (ret : ∀ h' tk', Fr h₀ L h' m → News h₀ L h' news → Grows s.heap h' → Q x { s with heap := h', toks := tk' }) :
    wpAny (model PySem.Challenge.rw_in0209_01.row.prog w) (ktrTop dp un gd cn cs L a ccd cl outer) (call (.ref f) vs) Q E s :=
  Con.use C B F X T hck N hdp hun hpre fun r h' tk' F' N' G O => by subst O; exact ret h' tk' F' N' G
theorem ConI.useH {x : Int} (C : ConI w f vs d Pre x)
    (ret : ∀ t h' tk', Fr h₀ L h' m → News h₀ L h' news → Grows s.heap h' → Q (.int x t) { s with heap := h', toks := tk' }) (H : Here w A₀ base outer h₀ L s.heap m mean mg mb cs news dp un d := by walk_at "u9") (hpre : Pre s.heap := by trivial) :
    wpAny (model PySem.Challenge.rw_in0209_01.row.prog w) (ktrTop dp un gd cn cs L a ccd cl outer) (call (.ref f) vs) Q E s := ConI.use C H.B H.F H.X H.T H.hck H.N H.hdp H.hun hpre ret
theorem ConS.useH {x : Str} (C : ConS w f vs d Pre x)
    (ret : ∀ t h' tk', Fr h₀ L h' m → News h₀ L h' news → Grows s.heap h' → Q (.str x t) { s with heap := h', toks := tk' }) (H : Here w A₀ base outer h₀ L s.heap m mean mg mb cs news dp un d := by walk_at "u9") (hpre : Pre s.heap := by trivial) :
    wpAny (model PySem.Challenge.rw_in0209_01.row.prog w) (ktrTop dp un gd cn cs L a ccd cl outer) (call (.ref f) vs) Q E s := ConS.use C H.B H.F H.X H.T H.hck H.N H.hdp H.hun hpre ret
theorem ConV.useH {x : Value} (C : ConV w f vs d Pre x)
    (ret : ∀ h' tk', Fr h₀ L h' m → News h₀ L h' news → Grows s.heap h' → Q (x) { s with heap := h', toks := tk' }) (H : Here w A₀ base outer h₀ L s.heap m mean mg mb cs news dp un d := by walk_at "u9") (hpre : Pre s.heap := by trivial) :
    wpAny (model PySem.Challenge.rw_in0209_01.row.prog w) (ktrTop dp un gd cn cs L a ccd cl outer) (call (.ref f) vs) Q E s := ConV.use C H.B H.F H.X H.T H.hck H.N H.hdp H.hun hpre ret
end

end Mine
end partBase
open PySem PySem.W PySem.Calls PyProof.Rows Mine
local macro_rules | `(tactic| walk_at "u9") => `(tactic| exact ⟨by k_asm, by k_asm, by k_asm, by k_asm, rfl, by k_asm, by walk_at "r9", by walk_at "r9"⟩)
local macro_rules | `(tactic| walk_at "r9") => `(tactic| first | exact lt9 (by with_reducible assumption) (by decide) | omega)
local macro_rules | `(tactic| walk_at "iI") => `(tactic| (intro t' h' tk' F' N' G'; (try dsimp only)))
local macro_rules | `(tactic| walk_at "iV") => `(tactic| (intro h' tk' F' N' G'; (try dsimp only)))
local macro_rules | `(tactic| walk_at "i") => `(tactic| (intro r' h' tk' F' N' G' O'; (try dsimp only)))
local macro_rules | `(tactic| walk_at "iS") => `(tactic| walk_at "iI")
local macro_rules | `(tactic| k_ne) => `(tactic| (refine neN ?_; (try dsimp only); first | with_reducible (walk_at "n9") | with_reducible (refine Ne.symm ?_; walk_at "n9") | omega))
local macro_rules | `(tactic| walk_at "n9") => `(tactic| first | assumption | (apply And.left; (iterate 11 (first | done | assumption | apply And.right)); done))
open PySem PySem.W PySem.Calls PyProof.Rows in
theorem Mine.calmP1 {prog : Program} {w : World} {A : Around} {E Q : Value → Shared → Prop} {s : Shared} (h : wpAny (model prog w) A (call (.builtin "zz") []) Q E s) : wpAny (model prog w) A (call (.builtin "zz") []) Q E s := by w_top off; first | (walk1; fail) | exact h
section partP1
open PySem PySem.W PySem.Calls PyProof.Rows
set_option Elab.async false
namespace Mine
set_option maxRecDepth 100000
set_option maxHeartbeats 2000000
theorem warmP1 (w : World) : KK w.params = KK w.params ∧ PySem.Challenge.rw_in0209_01 = PySem.Challenge.rw_in0209_01 := by k_fill; exact ⟨rfl, rfl⟩
section
variable {prog : Program} {w : World} {A : Around} {E : Value → Shared → Prop} {s : Shared}
theorem kind_isn : builtinKind "issubclass.nested" = none := by decide +kernel
theorem plain_isn : plainId "issubclass.nested" = true := by decide +kernel
theorem args_isn (a b c : Value) : argsOk "issubclass.nested" ⟨[a, b, c], []⟩ := by unfold argsOk; kernel_rfl
theorem isn_str {k : Value} {dep : Int} {tk : Tok} {Q : Fin → Shared → Prop} (hk : k = .int dep tk) (hq : Q (.done (.ret (.bool true))) s) :
    wpAny (model prog w) A (Builtin.«issubclass.nested» ⟨[.type "str", .type "str", k], []⟩) Q E s := by
  subst hk
  have hself : isSubtype (.type "str") (.type "str") = pure true := isSubtype_str_str
  repeat (any_goals (first | assumption | (rw [hself]) | wp_step))
theorem isn_tuple {a : Addr} {k : Value} {tk : Tok} {Q : Fin → Shared → Prop} (hk : k = .int 0 tk) (ht : IsTup s.heap a #[.type "str", .type "bytes"]) (hq : Q (.done (.ret (.bool true))) s) :
    wpAny (model prog w) A (Builtin.«issubclass.nested» ⟨[.type "str", .ref a, k], []⟩) Q E s := by
  subst hk
  obtain ⟨ob, ho, hc, n, hd⟩ := ht
  have hT : s.TypeIs (.ref a) "tuple" := ⟨ob, ho, hc⟩
  have hself : isSubtype (.type "tuple") (.type "tuple") = pure true := isSubtype_tuple_tuple
  repeat (any_goals (first | assumption | (rw [hself]) | wp_step))
  rw [hd]
  refine wpAny_pure ?_
  refine wpAny_bind ?_
  rw [← Array.forIn_toList]
  simp only [Option.getD_some, List.forIn_cons]
  refine wpAny_bind (wpAny_bind ?_)
  refine call_function_entry kind_isn plain_isn F.entry_issubclass_nested (args_isn _ _ _) (isn_str rfl ⟨_, rfl, ?_⟩)
  repeat (any_goals (first | assumption | wp_step))
theorem isc_call {a : Addr} {Q : Value → Shared → Prop} (ht : IsTup s.heap a #[.type "str", .type "bytes"]) (hq : Q (.bool true) s) :
    wpAny (model prog w) A (call (.builtin "issubclass") [.type "str", .ref a]) Q E s := by
  refine call_issubclass (S := fun _ R s => IsTup s.heap a #[.type "str", .type "bytes"] ∧ R (.ok (.ret (.bool true))) s) ?_ ⟨ht, hq⟩
  intro prog w A R s ⟨ht, hR⟩
  exact issubclass_outer (isn_tuple rfl ht hR)
end
local macro_rules | `(tactic| walk_at "call builtin:issubclass") => `(tactic| (k_here; (with_reducible show wpAny _ _ (call (Value.builtin _) [Value.type "str", Value.ref _]) _ _ _); k_dflt (refine' isc_call ?k1 ?_; (case k1 => exact News.isTup (by assumption) (by news_mem)))))

theorem xor_con (w : World) (x y : Int) (t u : Tok) : ConI w 28 [.int x t, .int y u] 1 (fun _ => True) (Builtin.bitXor x y) := by
  refine con_of [("a", .int x t), ("b", .int y u)] (by k_is) (by k_is) (fun s => BindsTo.of_eq rfl) (locs rfl) ?_ (by decide)
  intro dp un gd outer A₀ base g L' h₁ tk gn dr os mean mg mb R B F N X T hdp hun hpre hret
  k_fold
  k_steps
  exact hret _ _ _ F.keep ⟨_, rfl⟩
theorem imode_con (w : World) (x : Int) (t : Tok) : ConI w 176 [.int x t] 1 (fun _ => True) (Builtin.bitAnd x 4095) := by
  refine con_of [("mode", .int x t)] (by k_is) (by k_is) (fun s => BindsTo.of_eq rfl) (locs rfl) ?_ (by decide)
  intro dp un gd outer A₀ base g L' h₁ tk gn dr os mean mg mb R B F N X T hdp hun hpre hret
  k_fold
  k_steps
  exact hret _ _ _ F.keep ⟨_, rfl⟩
theorem ifmt_con (w : World) (x : Int) (t : Tok) : ConI w 183 [.int x t] 1 (fun _ => True) (Builtin.bitAnd x 61440) := by
  refine con_of [("mode", .int x t)] (by k_is) (by k_is) (fun s => BindsTo.of_eq rfl) (locs rfl) ?_ (by decide)
  intro dp un gd outer A₀ base g L' h₁ tk gn dr os mean mg mb R B F N X T hdp hun hpre hret
  k_fold
  k_steps
  exact hret _ _ _ F.keep ⟨_, rfl⟩
local macro_rules | `(tactic| walk_at "call ref") => `(tactic| (with_reducible refine atc 183 ?_; k_dflt (refine' ConI.useH (ifmt_con _ _ _) ?_); walk_at "iI"))
theorem isdir_con (w : World) (x : Int) (t : Tok) : ConV w 190 [.int x t] 2 (fun _ => True) (.bool (Builtin.bitAnd x 61440 == 16384)) := by
  refine con_of [("mode", .int x t)] (by k_is) (by k_is) (fun s => BindsTo.of_eq rfl) (locs rfl) ?_ (by decide)
  intro dp un gd outer A₀ base g L' h₁ tk gn dr os mean mg mb R B F N X T hdp hun hpre hret
  k_fold
  k_steps
  exact hret _ _ _ (Fr.keep (by assumption)) rfl
theorem ischr_con (w : World) (x : Int) (t : Tok) : ConV w 197 [.int x t] 2 (fun _ => True) (.bool (Builtin.bitAnd x 61440 == 8192)) := by
  refine con_of [("mode", .int x t)] (by k_is) (by k_is) (fun s => BindsTo.of_eq rfl) (locs rfl) ?_ (by decide)
  intro dp un gd outer A₀ base g L' h₁ tk gn dr os mean mg mb R B F N X T hdp hun hpre hret
  k_fold
  k_steps
  exact hret _ _ _ (Fr.keep (by assumption)) rfl
theorem isblk_con (w : World) (x : Int) (t : Tok) : ConV w 204 [.int x t] 2 (fun _ => True) (.bool (Builtin.bitAnd x 61440 == 24576)) := by
  refine con_of [("mode", .int x t)] (by k_is) (by k_is) (fun s => BindsTo.of_eq rfl) (locs rfl) ?_ (by decide)
  intro dp un gd outer A₀ base g L' h₁ tk gn dr os mean mg mb R B F N X T hdp hun hpre hret
  k_fold
  k_steps
  exact hret _ _ _ (Fr.keep (by assumption)) rfl
theorem isreg_con (w : World) (x : Int) (t : Tok) : ConV w 211 [.int x t] 2 (fun _ => True) (.bool (Builtin.bitAnd x 61440 == 32768)) := by
  refine con_of [("mode", .int x t)] (by k_is) (by k_is) (fun s => BindsTo.of_eq rfl) (locs rfl) ?_ (by decide)
  intro dp un gd outer A₀ base g L' h₁ tk gn dr os mean mg mb R B F N X T hdp hun hpre hret
  k_fold
  k_steps
  exact hret _ _ _ (Fr.keep (by assumption)) rfl
theorem isfifo_con (w : World) (x : Int) (t : Tok) : ConV w 218 [.int x t] 2 (fun _ => True) (.bool (Builtin.bitAnd x 61440 == 4096)) := by
  refine con_of [("mode", .int x t)] (by k_is) (by k_is) (fun s => BindsTo.of_eq rfl) (locs rfl) ?_ (by decide)
  intro dp un gd outer A₀ base g L' h₁ tk gn dr os mean mg mb R B F N X T hdp hun hpre hret
  k_fold
  k_steps
  exact hret _ _ _ (Fr.keep (by assumption)) rfl
theorem islnk_con (w : World) (x : Int) (t : Tok) : ConV w 225 [.int x t] 2 (fun _ => True) (.bool (Builtin.bitAnd x 61440 == 40960)) := by
  refine con_of [("mode", .int x t)] (by k_is) (by k_is) (fun s => BindsTo.of_eq rfl) (locs rfl) ?_ (by decide)
  intro dp un gd outer A₀ base g L' h₁ tk gn dr os mean mg mb R B F N X T hdp hun hpre hret
  k_fold
  k_steps
  exact hret _ _ _ (Fr.keep (by assumption)) rfl
theorem issock_con (w : World) (x : Int) (t : Tok) : ConV w 232 [.int x t] 2 (fun _ => True) (.bool (Builtin.bitAnd x 61440 == 49152)) := by
  refine con_of [("mode", .int x t)] (by k_is) (by k_is) (fun s => BindsTo.of_eq rfl) (locs rfl) ?_ (by decide)
  intro dp un gd outer A₀ base g L' h₁ tk gn dr os mean mg mb R B F N X T hdp hun hpre hret
  k_fold
  k_steps
  exact hret _ _ _ (Fr.keep (by assumption)) rfl

theorem fspath_con (w : World) (x : Str) (t : Tok) : ConV w 136 [.str x t] 1 (fun _ => True) (.str x t) := by
  refine con_of [("path", .str x t)] (by k_is) (by k_is) (fun s => BindsTo.of_eq rfl) (locs rfl) ?_ (by decide)
  intro dp un gd outer A₀ base g L' h₁ tk gn dr os mean mg mb R B F N X T hdp hun hpre hret
  k_fold
  k_steps
  rename_i F' N' l1
  exact hret _ _ _ F'.keep rfl
/-- the seven tests of a kind, as one word -/
theorem is7_con (w : World) (x : Int) (t : Tok) (f : Addr) (c : Int) (h : (f, c) ∈ ([(190, 16384), (197, 8192), (204, 24576), (211, 32768), (218, 4096), (225, 40960), (232, 49152)] : List (Addr × Int))) : ConV w f [.int x t] 2 (fun _ => True) (.bool (Builtin.bitAnd x 61440 == c)) := by
  simp only [List.mem_cons, List.not_mem_nil, or_false, Prod.mk.injEq] at h
  rcases h with ⟨rfl, rfl⟩ | ⟨rfl, rfl⟩ | ⟨rfl, rfl⟩ | ⟨rfl, rfl⟩ | ⟨rfl, rfl⟩ | ⟨rfl, rfl⟩ | ⟨rfl, rfl⟩
  · exact isdir_con w x t
  · exact ischr_con w x t
  · exact isblk_con w x t
  · exact isreg_con w x t
  · exact isfifo_con w x t
  · exact islnk_con w x t
  · exact issock_con w x t
local macro_rules | `(tactic| walk_at "call ref") => `(tactic| (with_reducible refine atc 136 ?_; k_dflt (refine' ConV.useH (fspath_con _ _ _) ?_); walk_at "iV"))
theorem getsep_con (w : World) (x : Str) (t : Tok) : ConS w 150 [.str x t] 1 (fun _ => True) "/" := by
  refine con_of [("path", .str x t)] (by k_is) (by k_is) (fun s => BindsTo.of_eq rfl) (locs rfl) ?_ (by decide)
  intro dp un gd outer A₀ base g L' h₁ tk gn dr os mean mg mb R B F N X T hdp hun hpre hret
  k_fold
  k_steps
  exact hret _ _ _ F.keep ⟨_, rfl⟩
local macro_rules | `(tactic| walk_at "call ref") => `(tactic| (with_reducible refine atc 150 ?_; k_dflt (refine' ConS.useH (getsep_con _ _ _) ?_); walk_at "iS"))
end Mine
end partP1
open PySem PySem.W PySem.Calls PyProof.Rows in
theorem Mine.calmP2 {prog : Program} {w : World} {A : Around} {E Q : Value → Shared → Prop} {s : Shared} (h : wpAny (model prog w) A (call (.builtin "zz") []) Q E s) : wpAny (model prog w) A (call (.builtin "zz") []) Q E s := by w_top off; first | (walk1; fail) | exact h
section partP2
open PySem PySem.W PySem.Calls PyProof.Rows
set_option Elab.async false
namespace Mine
set_option maxRecDepth 100000
set_option maxHeartbeats 2000000
theorem warmP2 (w : World) : KK w.params = KK w.params ∧ PySem.Challenge.rw_in0209_01 = PySem.Challenge.rw_in0209_01 := by k_fill; exact ⟨rfl, rfl⟩
local macro_rules | `(tactic| walk_at "call ref") => `(tactic| first | (with_reducible refine atc 150 ?_; k_dflt (refine' ConS.useH (getsep_con _ _ _) ?_); walk_at "iS") | (with_reducible refine atc 136 ?_; k_dflt (refine' ConV.useH (fspath_con _ _ _) ?_); walk_at "iV"))
noncomputable def dirS (x : Str) : Str :=
  let h := Txt.slice x none (some (Txt.rfind x "/" + 1))
  if (h.length : Int) ≠ 0 ∧ (h != Txt.mul "/" (h.length : Int)) = true then Txt.rstripChars h "/" else h
theorem dirname_con (w : World) (x : Str) (t : Tok) (hx : x.length ≤ 1000) : ConS w 164 [.str x t] 2 (fun _ => True) (dirS x) := by
  refine con_of [("p", .str x t)] (by k_is) (by k_is) (fun s => BindsTo.of_eq rfl) (locs rfl) ?_ (by decide)
  intro dp un gd outer A₀ base g L' h₁ tk gn dr os mean mg mb R B F N X T hdp hun hpre hret
  k_fold
  have hx' : x.length ≤ sizeLine := Nat.le_trans hx (by decide)
  k_steps
  all_goals (dsimp only)
  · exact hret _ _ _ (Fr.keep (by assumption)) ⟨_, congrArg (fun z => Value.str z _) (if_pos ⟨by assumption, by assumption⟩).symm⟩
  · refine hret _ _ _ (Fr.keep (by assumption)) ⟨_, congrArg (fun z => Value.str z _) (if_neg ?_).symm⟩
    rintro ⟨_, h2⟩
    exact Bool.noConfusion (h2.symm.trans (by assumption) : true = false)
  · refine hret _ _ _ (Fr.keep (by assumption)) ⟨_, congrArg (fun z => Value.str z _) (if_neg ?_).symm⟩
    rintro ⟨h2, _⟩
    exact h2 (by assumption)
noncomputable def joinS (x y : Str) : Str :=
  if Txt.startswith y "/" = true ∨ (x.length : Int) = 0 then y else if Txt.endswith x "/" = true then x ++ y else x ++ (("/" : Str) ++ y)
theorem join_con (w : World) (x y : Str) (t u : Tok) (hx : x.length ≤ 1000) (hy : y.length ≤ 1000) : ConS w 157 [.str x t, .str y u] 2 (fun _ => True) (joinS x y) := by
  refine con_ofR [.str y u] (fun D => [("a", .str x t), ("p", .ref D)]) (by k_is) (by k_is) ?_ (fun D => locs rfl) ?_ (by decide)
  · intro M A s Q E hq
    repeat wp_step
    all_goals assumption
  intro dp un gd outer A₀ base g D L' h₁ tk gn dr os mean mg mb R B F N X T hdp hun hpre hret
  k_fold
  have hx' : x.length ≤ sizeLine := Nat.le_trans hx (by decide)
  have hy' : y.length ≤ sizeLine := Nat.le_trans hy (by decide)
  k_steps
  all_goals (dsimp only)
  · exact hret _ _ _ (Fr.keep (by assumption)) ⟨_, congrArg (fun z => Value.str z _) (if_pos (.inl (by assumption))).symm⟩
  · refine hret _ _ _ (Fr.keep (by assumption)) ⟨_, congrArg (fun z => Value.str z _) ((if_neg ?_).trans (if_pos (by assumption))).symm⟩
    rintro (h | h)
    · exact Bool.noConfusion (h.symm.trans (by assumption) : true = false)
    · exact absurd h (by assumption)
  · refine hret _ _ _ (Fr.keep (by assumption)) ⟨_, congrArg (fun z => Value.str z _) ((if_neg ?_).trans (if_neg ?_)).symm⟩
    · rintro (h | h)
      · exact Bool.noConfusion (h.symm.trans (by assumption) : true = false)
      · exact absurd h (by assumption)
    · intro h
      exact Bool.noConfusion (h.symm.trans (by assumption) : true = false)
  · exact hret _ _ _ (Fr.keep (by assumption)) ⟨_, congrArg (fun z => Value.str z _) (if_pos (.inr (by assumption))).symm⟩

end Mine
end partP2
section partLp
open PySem PySem.W PySem.Calls PyProof.Rows
set_option Elab.async false
namespace Mine
set_option maxRecDepth 100000
set_option maxHeartbeats 2000000
/-- a turn's end: the frame and the ledger as they must stand for the next one -/
noncomputable def LEnd (h₀ : Heap) (L : Addr) (J : (Str → Option Value) → List (Addr × Obj) → Prop) (own : List (Addr × Obj)) (wr : List Addr) (s₁ s₂ : Shared) : Prop :=
  ∃ h' tk m' news' nx, s₂ = { s₁ with heap := h', toks := tk } ∧ Fr h₀ L h' m' ∧ News h₀ L h' news' ∧ (∀ p ∈ own, p ∈ news') ∧ (∀ p ∈ nx, p ∈ news') ∧ (∀ p ∈ nx, p.1 ∉ wr) ∧ J m' nx
noncomputable def LPost (h₀ : Heap) (L : Addr) (J : (Str → Option Value) → List (Addr × Obj) → Prop) (own : List (Addr × Obj)) (wr : List Addr) (s₁ : Shared) (Q : Flow → Shared → Prop) (f : Flow) (s₂ : Shared) : Prop :=
  match f with
  | .ret v => Q (.ret v) s₂
  | .brk => Q .next s₂
  | _ => LEnd h₀ L J own wr s₁ s₂
theorem LEnd.intro {h₀ : Heap} {L : Addr} {J : (Str → Option Value) → List (Addr × Obj) → Prop} {own : List (Addr × Obj)} {wr : List Addr} {s₁ : Shared} {h' : Heap} {tk : Nat} {m' : Str → Option Value} {news' : List (Addr × Obj)}
    (nx : List (Addr × Obj)) (F : Fr h₀ L h' m') (N : News h₀ L h' news') (ho : ∀ p ∈ own, p ∈ news') (hn : ∀ p ∈ nx, p ∈ news') (hw : ∀ p ∈ nx, p.1 ∉ wr) (hj : J m' nx) : LEnd h₀ L J own wr s₁ { s₁ with heap := h', toks := tk } :=
  ⟨h', tk, m', news', nx, rfl, F, N, ho, hn, hw, hj⟩

section
variable {prog : Program} {w : World} {A : Around} {E : Value → Shared → Prop} {s : Shared} {env : Env} {h₀ : Heap} {target : Expr} {body orelse : List Stmt} {Q : Flow → Shared → Prop}

theorem lp_loop {I : Addr} {fp wr : List Addr} {n : Nat} {P Md : Nat → Value → Heap → Prop} {St : Nat → Heap → Prop} {m : Str → Option Value} {news : List (Addr × Obj)} (W : KTurns prog w A target I fp wr n P Md St)
    (hex : ∀ i h, St i h → ∀ b ∈ wr, ∃ o, h.get? b = some o)
    (hLf : env.locals ∉ fp) (hwr : ∀ b ∈ wr, h₀.get? b = none) (hnw : ∀ p ∈ news, p.1 ∉ wr) (hst : St 0 s.heap) (F : Fr h₀ env.locals s.heap m) (N : News h₀ env.locals s.heap news)
    (J : Nat → (Str → Option Value) → List (Addr × Obj) → Prop) (h0 : J 0 m news)
    (step : ∀ i v m₁ news₁ h₁ tk₁ own, i < n → P i v h₁ → J i m₁ news₁ → (∀ p ∈ news₁, p.1 ∉ wr) → (∀ b ∈ wr, ∃ o, (b, o) ∈ own) → (∀ p ∈ own, p.1 ∈ fp) → Fr h₀ env.locals h₁ m₁ → News h₀ env.locals h₁ (news₁ ++ own) →
      wpAny (model prog w) A (assign target env v) (fun _ s₂ => wpAny (model prog w) A (execs body env) (LPost h₀ env.locals (J (i + 1)) own wr { s with heap := h₁, toks := tk₁ } Q) (fun _ _ => False) s₂) (fun _ _ => False) { s with heap := h₁, toks := tk₁ })
    (done : ∀ h' tk m' news', Fr h₀ env.locals h' m' → News h₀ env.locals h' news' → (∀ p ∈ news', p.1 ∉ wr) → J n m' news' → wpAny (model prog w) A (execs orelse env) Q (fun _ _ => False) { s with heap := h', toks := tk }) :
    codeAny (model prog w) A (.forLoop target (.ref I) body orelse env) (fun r s' => match r with | .ok f => Q f s' | .error e => cameBackBy (model prog w) A env E e s') s := by
  have hLw : env.locals ∉ wr := fun h => hLf (W.sub _ h)
  have old : ∀ b o, h₀.get? b = some o → b ∉ wr := fun b o e hb => by rw [hwr b hb] at e; cases e
  refine codeAny_forLoop_any
    (fun k s' => ∃ h' tk m' news' i, s' = { s with heap := h', toks := tk } ∧ St i h' ∧ Fr h₀ env.locals h' m' ∧ News h₀ env.locals h' news' ∧ (∀ p ∈ news', p.1 ∉ wr) ∧ J i m' news' ∧ i ≤ n ∧ k = n + 1 - i) ?_ (n + 1)
    ⟨s.heap, s.toks, m, news, 0, rfl, hst, F, N, hnw, h0, Nat.zero_le _, rfl⟩
  rintro k s' ⟨h', tk, m', news', i, rfl, hst', F', N', hnw', hJ, hi, rfl⟩
  have next : ∀ h₁ : Heap, (∀ b o, b ∉ wr → h'.get? b = some o → h₁.get? b = some o) → Fr h₀ env.locals h₁ m' ∧ News h₀ env.locals h₁ news' := fun h₁ hk₁ =>
    ⟨⟨F'.ns.at' fun o e => hk₁ _ o hLw e, fun b o e => hk₁ b o (old b o e) (F'.keep b o e), F'.above⟩, fun p hp => ⟨hk₁ _ _ (hnw' p hp) (N' p hp).1, (N' p hp).2⟩⟩
  by_cases hlt : i < n
  · refine W.item i _ _ _ hlt hst' fun v h₁ tk₁ hMd hk₁ => ?_
    refine W.go i v _ _ _ hMd fun h₂ hP hst₂ hk₂ => ?_
    obtain ⟨F₂, N₂⟩ := next h₂ fun b o hb x => hk₂ b o hb (hk₁ b o hb x)
    have Nown : News h₀ env.locals h₂ (PyProof.Rows.ownOf h₀ fp h₂) := news_ownOf hLf
    refine wpAny_mono (step i v m' news' h₂ tk₁ (PyProof.Rows.ownOf h₀ fp h₂) hlt hP hJ hnw' (fun b hb => ?_) ownOf_sub F₂ (N₂.append Nown)) (fun _ s₂ h₂' => wpAny_mono h₂' (fun f s₃ h₃ => ?_) fun _ _ e => e.elim) fun _ _ e => e.elim
    · obtain ⟨o, ho⟩ := hex _ _ hst₂ b hb
      exact ⟨o, mem_ownOf (W.sub _ hb) (hwr b hb) ho⟩
    · have fin : LEnd h₀ env.locals (J (i + 1)) (PyProof.Rows.ownOf h₀ fp h₂) wr { s with heap := h₂, toks := tk₁ } s₃ →
          ∃ m, m < n + 1 - i ∧ ∃ h' tk m' news' i, s₃ = { s with heap := h', toks := tk } ∧ St i h' ∧ Fr h₀ env.locals h' m' ∧ News h₀ env.locals h' news' ∧ (∀ p ∈ news', p.1 ∉ wr) ∧ J i m' news' ∧ i ≤ n ∧ m = n + 1 - i := by
        rintro ⟨h₃', tk₃, m₂, all, nx, rfl, F₃, N₃, hown, hnx, ha₃, hJ₃⟩
        refine ⟨n + 1 - (i + 1), by omega, h₃', tk₃, m₂, nx, i + 1, rfl, ?_, F₃, fun p hp => N₃ p (hnx p hp), ha₃, hJ₃, hlt, rfl⟩
        refine W.frame _ _ _ hst₂ fun b hb o e => ?_
        cases hn : h₀.get? b with
        | some o₀ =>
          have : o₀ = o := by have q := F₂.keep b o₀ hn; rw [e] at q; exact (Option.some.inj q).symm
          exact this ▸ F₃.keep b o₀ hn
        | none => exact (N₃ _ (hown _ (mem_ownOf hb hn e))).1
      cases f with
      | ret v => exact h₃
      | brk => exact h₃
      | cont => exact fin h₃
      | next => exact fin h₃
  · have hin : i = n := by omega
    subst hin
    refine W.done _ _ _ hst' fun h₁ tk₁ hk₁ => ?_
    obtain ⟨F₁, N₁⟩ := next h₁ hk₁
    exact wpAny_mono (done h₁ tk₁ m' news' F₁ N₁ hnw' hJ) (fun _ _ x => x) fun _ _ e => e.elim

/-- for over an iterable: the iterable's value, then the iterator, then the loop's word -/
theorem lp_for {iter : Expr} {pos : Pos}
    (h : wpAny (model prog w) A (eval iter env) (fun x s₁ => wpAny (model prog w) A (pyIter x) (fun it s₂ =>
      codeAny (model prog w) A (.forLoop target it body orelse env) (fun r s' => match r with | .ok f => Q f s' | .error e => cameBackBy (model prog w) A env E e s') s₂) E s₁) E s)
    (hs : ∀ x, foldedSetIterable iter env x = pure x := by intro _; rfl) :
    wpAny (model prog w) A (exec (.For target iter body orelse pos) env) Q E s := wpAny_For h hs

/-- over a list that stands: in the ground or in the ledger all along -/
theorem lp_list {l : Addr} {items : Array Value} {m : Str → Option Value} {news : List (Addr × Obj)} (hh : A.handled = none)
    (hl : s.heap.IsList l items) (hlL : l ≠ env.locals) (F : Fr h₀ env.locals s.heap m) (N : News h₀ env.locals s.heap news)
    (J : Nat → (Str → Option Value) → List (Addr × Obj) → Prop) (h0 : J 0 m news)
    (step : ∀ i v m₁ news₁ h₁ tk₁ own I, (∀ p ∈ news, p.1 < I) → items[i]? = some v → J i m₁ news₁ → (∀ p ∈ news₁, p.1 ≠ I) → (∃ o, (I, o) ∈ own) → (∀ p ∈ own, p.1 = I ∨ p.1 = l) → Fr h₀ env.locals h₁ m₁ → News h₀ env.locals h₁ (news₁ ++ own) →
      wpAny (model prog w) A (assign target env v) (fun _ s₂ => wpAny (model prog w) A (execs body env) (LPost h₀ env.locals (J (i + 1)) own [I] { s with heap := h₁, toks := tk₁ } Q) (fun _ _ => False) s₂) (fun _ _ => False) { s with heap := h₁, toks := tk₁ })
    (done : ∀ h' tk m' news', Fr h₀ env.locals h' m' → News h₀ env.locals h' news' → J items.size m' news' → wpAny (model prog w) A (execs orelse env) Q (fun _ _ => False) { s with heap := h', toks := tk })
    (hgo : ∀ (I l : Addr) (i : Nat) (v : Value) (s : Shared) (Q : Unit → Shared → Prop) (E : Value → Shared → Prop), s.heap.IsListIter I l i → Q () s → wpAny (model prog w) A (letOwnedTupleGo target (.ref I) v) Q E s) :
    wpAny (model prog w) A (pyIter (.ref l)) (fun it s₂ => codeAny (model prog w) A (.forLoop target it body orelse env) (fun r s' => match r with | .ok f => Q f s' | .error e => cameBackBy (model prog w) A env E e s') s₂) E s := by
  obtain ⟨lo, hlo, _⟩ := id hl
  have hlt : l < s.heap.objs.size := Heap.lt_size hlo
  have hne : l ≠ s.heap.objs.size := Nat.ne_of_lt hlt
  refine wpAny_pyIter_list hl ?_
  refine lp_loop (KTurns.ofWalks (Walks.list hh s.heap.objs.size l hne items) fun i v s Q E st q => hgo _ _ _ v s Q E st.1 q) ?_ ?_ ?_ ?_ ⟨⟨_, Heap.get?_push_size _ rfl, rfl, rfl⟩, hl.at fun o e => Heap.get?_push_of_some _ e⟩ (F.push _) (fun p hp => ⟨Heap.get?_push_of_some _ (N p hp).1, (N p hp).2⟩) J h0 ?_ ?_
  · rintro i h ⟨⟨o, ho, _⟩, _⟩ b hb
    rw [List.mem_singleton.mp hb]; exact ⟨o, ho⟩
  · intro hI
    rcases List.mem_cons.mp hI with e | hI
    · exact absurd F.ns.lt (e ▸ Nat.lt_irrefl _)
    · exact hlL (List.mem_singleton.mp hI).symm
  · intro b hb; rw [List.mem_singleton.mp hb]; exact next_is_new F
  · intro p hp hI
    exact absurd (Heap.lt_size (N p hp).1) ((List.mem_singleton.mp hI) ▸ Nat.lt_irrefl _)
  · intro i v m₁ news₁ h₁ tk₁ own hi hP hJ hoff hin hsub F₁ N₁
    refine step i v m₁ news₁ h₁ tk₁ own _ (fun p hp => Heap.lt_size (N p hp).1) hP hJ (fun p hp e => hoff p hp (by rw [e]; exact List.mem_singleton_self _)) (hin _ (List.mem_singleton_self _)) (fun p hp => ?_) F₁ N₁
    have := hsub p hp
    simpa using this
  · intro h' tk m' news' F' N' _ hJ
    exact done h' tk m' news' F' N' hJ
theorem go_name {x : Str} {px : Pos} (I l : Addr) (i : Nat) (v : Value) (s : Shared) (Q : Unit → Shared → Prop) (E : Value → Shared → Prop) (_ : s.heap.IsListIter I l i) (h : Q () s) : wpAny (model prog w) A (letOwnedTupleGo (.Name x px) (.ref I) v) Q E s := wpAny_pure h

theorem lp_enum {elts : List Expr} {k : Nat} {tpos : Pos} {l : Addr} {items : Array Value} {m : Str → Option Value} {news : List (Addr × Obj)} (hh : A.handled = none)
    (hl : s.heap.IsList l items) (hlL : l ≠ env.locals) (F : Fr h₀ env.locals s.heap m) (N : News h₀ env.locals s.heap news)
    (J : Nat → (Str → Option Value) → List (Addr × Obj) → Prop) (h0 : J 0 m news)
    (step : ∀ (i : Nat) x t T m₁ news₁ h₁ tk₁ own I, (∀ p ∈ news, p.1 < I) → items[i]? = some x → IsTup h₁ T #[.int (i : Int) t, x] → J i m₁ news₁ → (∀ p ∈ news₁, p.1 ≠ I + 1 ∧ p.1 ≠ I) → (∃ o, (I, o) ∈ own) → (∃ o, (I + 1, o) ∈ own) → (∀ p ∈ own, p.1 = I + 1 ∨ p.1 = I ∨ p.1 = l) → Fr h₀ env.locals h₁ m₁ → News h₀ env.locals h₁ (news₁ ++ own) →
      wpAny (model prog w) A (assign (.Tuple elts k tpos) env (.ref T)) (fun _ s₂ => wpAny (model prog w) A (execs body env) (LPost h₀ env.locals (J (i + 1)) own [I + 1, I] { s with heap := h₁, toks := tk₁ } Q) (fun _ _ => False) s₂) (fun _ _ => False) { s with heap := h₁, toks := tk₁ })
    (done : ∀ h' tk m' news', Fr h₀ env.locals h' m' → News h₀ env.locals h' news' → J items.size m' news' → wpAny (model prog w) A (execs orelse env) Q (fun _ _ => False) { s with heap := h', toks := tk }) :
    wpAny (model prog w) A (call (.type "enumerate") [.ref l]) (fun xv s₁ => wpAny (model prog w) A (pyIter xv) (fun it s₂ => codeAny (model prog w) A (.forLoop (.Tuple elts k tpos) it body orelse env) (fun r s' => match r with | .ok f => Q f s' | .error e => cameBackBy (model prog w) A env E e s') s₂) E s₁) E s := by
  obtain ⟨lo, hlo, _⟩ := id hl
  have hlt : l < s.heap.objs.size := Heap.lt_size hlo
  have hLs : env.locals < s.heap.objs.size := F.ns.lt
  refine call_enumerate_list hl fun h' hE hI hsz hk => ?_
  refine wpAny_pyIter_enum hE ?_
  refine lp_loop (s := { s with heap := h' }) (KTurns.ofWalksU (WalksT.enumerate hh (s.heap.objs.size + 1) s.heap.objs.size l (Nat.succ_ne_self _) (Nat.ne_of_lt (Nat.lt_succ_of_lt hlt)) (Nat.ne_of_lt hlt) items).toU) ?_ ?_ ?_ ?_ ⟨⟨.none, hE⟩, hI, hl.at fun o e => hk l o e⟩ (F.keeps hk) (N.grown hk) J h0 ?_ ?_
  · rintro i h ⟨⟨old, he⟩, ⟨oi, hoi, _⟩, _⟩ b hb
    have hb' : b = s.heap.objs.size + 1 ∨ b = s.heap.objs.size := by simpa using hb
    rcases hb' with rfl | rfl
    · exact ⟨_, he⟩
    · exact ⟨_, hoi⟩
  · intro hI'
    have hb' : env.locals = s.heap.objs.size + 1 ∨ env.locals = s.heap.objs.size ∨ env.locals = l := by simpa using hI'
    rcases hb' with e | e | e
    · exact absurd hLs (by rw [e]; exact Nat.not_lt.mpr (Nat.le_succ _))
    · exact Nat.ne_of_lt hLs e
    · exact hlL e.symm
  · intro b hb
    have hb' : b = s.heap.objs.size + 1 ∨ b = s.heap.objs.size := by simpa using hb
    rcases hb' with rfl | rfl
    · exact ktu_new F (Nat.le_add_right _ _)
    · exact ktu_new F (Nat.le_refl _)
  · intro p hp hI'
    have hb' : p.1 = s.heap.objs.size + 1 ∨ p.1 = s.heap.objs.size := by simpa using hI'
    have hlp := Heap.lt_size (N p hp).1
    rcases hb' with e | e
    · exact absurd hlp (by rw [e]; exact Nat.not_lt.mpr (Nat.le_succ _))
    · exact Nat.ne_of_lt hlp e
  · rintro i v m₁ news₁ h₁ tk₁ own hi ⟨T, vals, rfl, ⟨t, x, hx, rfl⟩, hT⟩ hJ hoff hin hsub F₁ N₁
    refine step i x t T m₁ news₁ h₁ tk₁ own s.heap.objs.size (fun p hp => Heap.lt_size (N p hp).1) hx hT hJ (fun p hp => ⟨fun e => hoff p hp (by rw [e]; simp), fun e => hoff p hp (by rw [e]; simp)⟩) (hin _ (by simp)) (hin _ (by simp)) (fun p hp => ?_) F₁ N₁
    have := hsub p hp
    simpa using this
  · intro h' tk m' news' F' N' _ hJ
    exact done h' tk m' news' F' N' hJ
end
end Mine
end partLp
section partMp
open PySem PySem.W PySem.Calls PyProof.Rows
set_option Elab.async false
namespace Mine
set_option maxRecDepth 100000
set_option maxHeartbeats 2000000
/-- frame maps: what a loop stores stands on top, the rest is as it was -/
theorem map_one {m m₀ : Str → Option Value} {x : Str} {v : Option Value} (hx : m x = v) (h : ∀ z, z ≠ x → m z = m₀ z) : m = fun z => if z = x then v else m₀ z := by
  funext z
  by_cases h1 : z = x
  · subst h1; simp [hx]
  · simp [h1, h z h1]
theorem map_two {m m₀ : Str → Option Value} {x y : Str} {v u : Option Value} (hx : m x = v) (hy : m y = u) (h : ∀ z, z ≠ x → z ≠ y → m z = m₀ z) : m = fun z => if z = x then v else if z = y then u else m₀ z := by
  funext z
  by_cases h1 : z = x
  · subst h1; simp [hx]
  · by_cases h2 : z = y
    · subst h2; simp [h1, hy]
    · simp [h1, h2, h z h1 h2]
theorem map_three {m m₀ : Str → Option Value} {x y c : Str} {v u t : Option Value} (hx : m x = v) (hy : m y = u) (hc : m c = t) (h : ∀ z, z ≠ x → z ≠ y → z ≠ c → m z = m₀ z) : m = fun z => if z = x then v else if z = y then u else if z = c then t else m₀ z := by
  funext z
  by_cases h1 : z = x
  · subst h1; simp [hx]
  · by_cases h2 : z = y
    · subst h2; simp [h1, hy]
    · by_cases h3 : z = c
      · subst h3; simp [h1, h2, hc]
      · simp [h1, h2, h3, h z h1 h2 h3]
theorem map_four {m m₀ : Str → Option Value} {x y c d : Str} {v u t q : Option Value} (hx : m x = v) (hy : m y = u) (hc : m c = t) (hd : m d = q) (h : ∀ z, z ≠ x → z ≠ y → z ≠ c → z ≠ d → m z = m₀ z) :
    m = fun z => if z = x then v else if z = y then u else if z = c then t else if z = d then q else m₀ z := by
  funext z
  by_cases h1 : z = x
  · subst h1; simp [hx]
  · by_cases h2 : z = y
    · subst h2; simp [h1, hy]
    · by_cases h3 : z = c
      · subst h3; simp [h1, h2, hc]
      · by_cases h4 : z = d
        · subst h4; simp [h1, h2, h3, hd]
        · simp [h1, h2, h3, h4, h z h1 h2 h3 h4]
theorem Fr.as {h₀ h : Heap} {L : Addr} {m m' : Str → Option Value} (F : Fr h₀ L h m) (e : m = m') : Fr h₀ L h m' := e ▸ F
theorem News.lst {h₀ h : Heap} {L a : Addr} {news : List (Addr × Obj)} {o : Obj} {vs : Array Value} {n : Nat} (N : News h₀ L h news) (hm : (a, o) ∈ news) (hc : o.cls = .type "list") (hd : o.data = .seq vs n) : h.IsList a vs := ⟨o, (N _ hm).1, hc, n, hd⟩
theorem News.tup {h₀ h : Heap} {L a : Addr} {news : List (Addr × Obj)} {o : Obj} {vs : Array Value} {n : Nat} (N : News h₀ L h news) (hm : (a, o) ∈ news) (hc : o.cls = .type "tuple") (hd : o.data = .seq vs n) : IsTup h a vs := ⟨o, (N _ hm).1, hc, n, hd⟩
end Mine
end partMp
section partCp
open PySem PySem.W PySem.Calls PyProof.Rows
set_option Elab.async false
namespace Mine
set_option maxRecDepth 100000
set_option maxHeartbeats 2000000
/-- a goal held back from the walk -/
noncomputable def Hold (P : Prop) : Prop := P
theorem hold {P : Prop} (h : Hold P) : P := h
section
open PyProof.Rows.LCg PyProof.Rows.LCt
variable {prog : Program} {w : World} {A : Around} {s : Shared} {h₀ : Heap} {L : Addr} {m : Str → Option Value} {env : Env} {ct elt : Expr} {x : Str} {scope : Scope} {cl : List (Str × Addr)} {S : List (Addr × Obj) → Prop} {P : Nat → Value → Prop} {Fin : List Value → List (Addr × Obj) → Prop}

theorem compEnd_mono {s₁ : Shared} {I : Addr} {oI : Obj} {C : Addr} {oC : Obj} {D : Addr} {oD : Obj} {r r' : Value → List (Addr × Obj) → Prop} {y : Value} {s₂ : Shared} (h : CompEnd h₀ L m s₁ I oI C oC D oD S r y s₂) (k : ∀ y n, r y n → r' y n) : CompEnd h₀ L m s₁ I oI C oC D oD S r' y s₂ := by
  obtain ⟨h', tk, news', e, F, N, off, hS, hr⟩ := h
  exact ⟨h', tk, news', e, F, N, off, hS, k _ _ hr⟩

theorem comp_inv {n : Nat} {news₀ : List (Addr × Obj)} (J : Nat → List Value → List (Addr × Obj) → Prop)
    (h0 : J 0 [] news₀)
    (turn : ∀ i ys news v I oI C oC D m₂ h tk (E' : Value → Shared → Prop), i < n → J i ys news → P i v → NsObj oC m₂ → m₂ x = some v → Fr h₀ L h m → News h₀ L h ((I, oI) :: (C, oC) :: (D, lst ys) :: news) → Off3 I C D news → ((@Ne Nat I C) ∧ (@Ne Nat I D) ∧ (@Ne Nat C D)) →
      wpAny (model prog w) A (eval elt (compEnvC scope cl C env)) (CompEnd h₀ L m { s with heap := h, toks := tk } I oI C oC D (lst ys) S (fun y news' => J (i + 1) (ys ++ [y]) news')) E' { s with heap := h, toks := tk })
    (fin : ∀ ys news, J n ys news → Fin ys news) : CompRest prog w A h₀ L m env elt x scope cl s S P Fin n 0 [] news₀ := by
  have all : ∀ k i ys news, i + k = n → J i ys news → CompRest prog w A h₀ L m env elt x scope cl s S P Fin k i ys news := by
    intro k
    induction k with
    | zero =>
      intro i ys news e hj
      have e' : i = n := e
      subst e'
      exact CompRest.zero (fin ys news hj)
    | succ k ih =>
      intro i ys news e hj
      refine CompRest.succ fun v I oI C oC D m₂ h tk E' hP hC hx F N off ne => ?_
      refine wpAny_mono (turn i ys news v I oI C oC D m₂ h tk E' (by omega) hj hP hC hx F N off ne) (fun y s' h' => compEnd_mono h' fun y news' hj' => ih _ _ _ (by omega) hj') fun _ _ e => e
  exact all n 0 [] news₀ (Nat.zero_add n) h0

theorem compT_inv {n : Nat} {news₀ : List (Addr × Obj)} (J : Nat → List Value → List (Addr × Obj) → Prop)
    (h0 : J 0 [] news₀)
    (turn : ∀ i ys news v I oI C oC D m₂ h tk (E' : Value → Shared → Prop), i < n → J i ys news → P i v → NsObj oC m₂ → m₂ x = some v → Fr h₀ L h m → News h₀ L h ((I, oI) :: (C, oC) :: (D, lst ys) :: news) → Off3 I C D news → ((@Ne Nat I C) ∧ (@Ne Nat I D) ∧ (@Ne Nat C D)) →
      wpAny (model prog w) A (isTrue ct (compEnvC scope cl C env) (eval ct (compEnvC scope cl C env))) (fun ok s' => if ok = true then
        wpAny (model prog w) A (eval elt (compEnvC scope cl C env)) (CompEnd h₀ L m { s with heap := h, toks := tk } I oI C oC D (lst ys) S (fun y news' => J (i + 1) (ys ++ [y]) news')) E' s'
        else CompEnd h₀ L m { s with heap := h, toks := tk } I oI C oC D (lst ys) S (fun _ news' => J (i + 1) ys news') Value.none s') E' { s with heap := h, toks := tk })
    (fin : ∀ ys news, J n ys news → Fin ys news) : CompRestT prog w A h₀ L m env ct elt x scope cl s S P Fin n 0 [] news₀ := by
  have all : ∀ k i ys news, i + k = n → J i ys news → CompRestT prog w A h₀ L m env ct elt x scope cl s S P Fin k i ys news := by
    intro k
    induction k with
    | zero =>
      intro i ys news e hj
      have e' : i = n := e
      subst e'
      exact CompRestT.zero (fin ys news hj)
    | succ k ih =>
      intro i ys news e hj
      refine CompRestT.succ fun v I oI C oC D m₂ h tk E' hP hC hx F N off ne => ?_
      refine wpAny_mono (turn i ys news v I oI C oC D m₂ h tk E' (by omega) hj hP hC hx F N off ne) (fun ok s' h' => ?_) fun _ _ e => e
      cases ok with
      | true =>
        simp only [if_true] at h' ⊢
        exact wpAny_mono h' (fun y s'' h'' => compEnd_mono h'' fun y news' hj' => ih _ _ _ (by omega) hj') fun _ _ e => e
      | false =>
        simp only [Bool.false_eq_true, if_false] at h' ⊢
        exact compEnd_mono h' fun y news' hj' => ih _ _ _ (by omega) hj'
  exact all n 0 [] news₀ (Nat.zero_add n) h0
end
end Mine
end partCp
open PySem PySem.W PySem.Calls PyProof.Rows Mine
local macro_rules | `(tactic| walk_at "LPost") => `(tactic| (dsimp only [LPost]))
section partP3
open PySem PySem.W PySem.Calls PyProof.Rows
set_option Elab.async false
namespace Mine
set_option maxRecDepth 100000
set_option maxHeartbeats 2000000
theorem warmP3 (w : World) : KK w.params = KK w.params ∧ PySem.Challenge.rw_in0209_01 = PySem.Challenge.rw_in0209_01 := by k_fill; exact ⟨rfl, rfl⟩
theorem countOf_con (w : World) (l : Addr) (bs : List Bool) (hl : bs.length < 100) : ConI w 42 [.ref l, .bool true] 1 (fun h => h.IsList l (bs.map Value.bool).toArray) (bs.count true : Int) := by
  refine con_of [("a", .ref l), ("b", .bool true)] (by k_is) (by k_is) (fun s => BindsTo.of_eq rfl) (locs rfl) ?_ (by decide)
  intro dp un gd outer A₀ base g L' h₁ tk gn dr os mean mg mb R B F N X T hdp hun hpre hret
  k_fold
  have hab := F.above
  k_steps
  rename_i F1 N1
  have hpre' := hpre.at (h' := _) fun o e => F1.keep l o e
  have hne : l ≠ L' := by
    obtain ⟨o, ho, _⟩ := hpre
    exact Nat.ne_of_lt (Nat.lt_of_lt_of_le (Heap.lt_size ho) hab)
  refine lp_for ?_
  k_steps
  refine lp_list rfl hpre' hne (by assumption) (by assumption) (fun i m news => news = [] ∧ (∃ t, m (Str.ofString "count") = some (.int ((bs.take i).count true : Int) t)) ∧ ∀ z, z ≠ Str.ofString "i" → z ≠ Str.ofString "count" → m z = List.lookup z [(Str.ofString "a", Value.ref l), (Str.ofString "b", Value.bool true)].reverse) ?_ ?_ ?_ go_name
  · refine ⟨rfl, ⟨_, by with_unfolding_all rfl⟩, ?_⟩
    intro z h1 h2
    simp [h1, h2]
  · rintro i v m₁ news₁ h₁ tk₁ own I hI hi ⟨rfl, ⟨t, hc⟩, hm⟩ hoff hin hown F₁ N₁
    have F₂ := Fr.as F₁ (map_two rfl hc hm)
    clear F₁
    have hv : ∃ b, bs[i]? = some b ∧ v = .bool b := by
      simp only [List.getElem?_toArray, List.getElem?_map, Option.map_eq_some_iff] at hi
      obtain ⟨b, hb, rfl⟩ := hi
      exact ⟨b, hb, rfl⟩
    obtain ⟨b, hb, rfl⟩ := hv
    have hcnt : ((bs.take (i + 1)).count true : Int) = ((bs.take i).count true : Int) + (if b then 1 else 0) := by
      rw [List.take_add_one, hb]; cases b <;> simp
    cases b <;> (simp only [Bool.false_eq_true, if_false, if_true, Int.add_zero] at hcnt)
    · k_steps
      show LEnd _ _ _ _ _ _ _
      refine LEnd.intro [] (by assumption) (by assumption) (by intro p hp; simpa using hp) (by simp) (by simp) ⟨rfl, ⟨t, ?_⟩, ?_⟩
      · rw [hcnt]; with_unfolding_all rfl
      · intro z h1 h2; simp [h1, h2]
    · k_steps
      show LEnd _ _ _ _ _ _ _
      refine LEnd.intro [] (by assumption) (by assumption) (by intro p hp; simpa using hp) (by simp) (by simp) ⟨rfl, ⟨?tok, ?e⟩, ?r⟩
      case e => rw [hcnt]; with_unfolding_all rfl
      case r => intro z h1 h2; simp [h1, h2]
  · intro h' tk m' news' F' N' hj
    obtain ⟨rfl, ⟨t, hc⟩, hm⟩ := hj
    have hsz : (List.map Value.bool bs).toArray.size = bs.length := by simp
    rw [hsz, List.take_length] at hc
    have F₂ := Fr.as F' (map_two rfl hc hm)
    clear F'
    k_steps
    exact hret _ _ _ F₂.keep ⟨_, rfl⟩
theorem indexOf_con (w : World) (l : Addr) (bs : List Bool) (j : Nat) (hl : bs.length < 100) (hj : bs[j]? = some true) (hj' : ∀ i, i < j → bs[i]? = some false) : ConI w 56 [.ref l, .bool true] 1 (fun h => h.IsList l (bs.map Value.bool).toArray) (j : Int) := by
  refine con_of [("a", .ref l), ("b", .bool true)] (by k_is) (by k_is) (fun s => BindsTo.of_eq rfl) (locs rfl) ?_ (by decide)
  intro dp un gd outer A₀ base g L' h₁ tk gn dr os mean mg mb R B F N X T hdp hun hpre hret
  k_fold
  have hab := F.above
  have hne : l ≠ L' := by
    obtain ⟨o, ho, _⟩ := hpre
    exact Nat.ne_of_lt (Nat.lt_of_lt_of_le (Heap.lt_size ho) hab)
  have hpre' := hpre.at (h' := _) fun o e => F.keep l o e
  k_steps
  refine lp_for ?_
  k_steps
  refine lp_enum rfl hpre' hne F N (fun i m news => news = [] ∧ i ≤ j ∧ ∀ z, z ≠ Str.ofString "i" → z ≠ Str.ofString "j" → m z = List.lookup z [(Str.ofString "a", Value.ref l), (Str.ofString "b", Value.bool true)].reverse) ?_ ?_ ?_
  · exact ⟨rfl, Nat.zero_le _, fun _ _ _ => rfl⟩
  · rintro i v t T m₁ news₁ h₁ tk₁ own I hI hi hT ⟨rfl, hle, hm⟩ hoff hin hin' hown F₁ N₁
    have F₂ := Fr.as F₁ (map_two rfl rfl hm)
    clear F₁
    have hv : ∃ b, bs[i]? = some b ∧ v = .bool b := by
      simp only [List.getElem?_toArray, List.getElem?_map, Option.map_eq_some_iff] at hi
      obtain ⟨b, hb, rfl⟩ := hi
      exact ⟨b, hb, rfl⟩
    obtain ⟨b, hb, rfl⟩ := hv
    cases b
    · have hlt : i < j := by
        rcases Nat.lt_or_eq_of_le hle with h | h
        · exact h
        · subst h; rw [hj] at hb; cases hb
      k_steps
      show LEnd _ _ _ _ _ _ _
      refine LEnd.intro [] (by assumption) (by assumption) (by intro p hp; simpa using hp) (by simp) (by simp) ⟨rfl, hlt, ?_⟩
      intro z h1 h2; simp [h1, h2]
    · have hij : i = j := by
        rcases Nat.lt_or_eq_of_le hle with h | h
        · rw [hj' i h] at hb; cases hb
        · exact h
      subst hij
      k_steps
      exact hret _ _ _ (Fr.keep (by assumption)) ⟨_, rfl⟩
  · rintro h' tk m' news' F' N' ⟨rfl, hle, hm⟩
    exfalso
    have hsz : (List.map Value.bool bs).toArray.size = bs.length := by simp
    have := (List.getElem?_eq_some_iff.mp hj).1
    omega
end Mine
end partP3
section partP4
open PySem PySem.W PySem.Calls PyProof.Rows
set_option Elab.async false
namespace Mine
set_option maxRecDepth 100000
set_option maxHeartbeats 2000000
theorem warmP4 (w : World) : KK w.params = KK w.params ∧ PySem.Challenge.rw_in0209_01 = PySem.Challenge.rw_in0209_01 := by k_fill; exact ⟨rfl, rfl⟩
theorem getitem_str_con (w : World) (l : Str) (t u : Tok) (k : Int) : ConS w 49 [.str l t, .int k u] 1 (fun _ => 0 ≤ k ∧ k < l.length ∧ l.length < 1000) (Txt.item l k) := by
  refine con_of [("a", .str l t), ("b", .int k u)] (by k_is) (by k_is) (fun s => BindsTo.of_eq rfl) (locs rfl) ?_ (by decide)
  intro dp un gd outer A₀ base g L' h₁ tk gn dr os mean mg mb R B F N X T hdp hun hpre hret
  k_fold
  obtain ⟨h0, h1, h2⟩ := hpre
  k_steps
  exact hret _ _ _ (Fr.keep (by assumption)) ⟨_, rfl⟩
theorem countOf7_con (w : World) (l : Addr) (b1 b2 b3 b4 b5 b6 b7 : Bool) : ConI w 42 [.ref l, .bool true] 1 (fun h => h.IsList l [Value.bool b1, .bool b2, .bool b3, .bool b4, .bool b5, .bool b6, .bool b7].toArray) ([b1, b2, b3, b4, b5, b6, b7].count true : Int) :=
  countOf_con w l [b1, b2, b3, b4, b5, b6, b7] (by simp)
theorem idx_first : ∀ (bs : List Bool), 0 < bs.count true → bs[bs.idxOf true]? = some true ∧ ∀ i, i < bs.idxOf true → bs[i]? = some false
  | [], h => by simp at h
  | true :: r, _ => by simp
  | false :: r, h => by
    have h' : 0 < r.count true := by simpa using h
    obtain ⟨h1, h2⟩ := idx_first r h'
    have e : (false :: r).idxOf true = r.idxOf true + 1 := by simp [List.idxOf_cons]
    refine ⟨by rw [e]; simpa using h1, fun i hi => ?_⟩
    rw [e] at hi
    cases i with
    | zero => rfl
    | succ i => simpa using h2 i (by omega)
theorem indexOf7_con (w : World) (l : Addr) (b1 b2 b3 b4 b5 b6 b7 : Bool) : ConI w 56 [.ref l, .bool true] 1 (fun h => h.IsList l [Value.bool b1, .bool b2, .bool b3, .bool b4, .bool b5, .bool b6, .bool b7].toArray ∧ 0 < [b1, b2, b3, b4, b5, b6, b7].count true) ([b1, b2, b3, b4, b5, b6, b7].idxOf true : Int) := by
  by_cases hc : 0 < [b1, b2, b3, b4, b5, b6, b7].count true
  · exact (indexOf_con w l [b1, b2, b3, b4, b5, b6, b7] _ (by simp) (idx_first _ hc).1 (idx_first _ hc).2).mono (fun _ h => h.1) fun _ _ _ _ _ h => h
  · intro dp un gd cn cs a ccd cl outer A₀ base h₀ L m mean mg mb s Q E B F X T hck hdp hun hpre hret
    exact absurd hpre.2 hc
theorem kind_pre {b1 b2 b3 b4 b5 b6 b7 : Bool} (h : (([b1, b2, b3, b4, b5, b6, b7].count true : Nat) : Int) = 1) : (0 : Int) ≤ (([b1, b2, b3, b4, b5, b6, b7].idxOf true : Nat) : Int) ∧ (([b1, b2, b3, b4, b5, b6, b7].idxOf true : Nat) : Int) < (Str.ofString "pcdb-ls").length ∧ (Str.ofString "pcdb-ls").length < 1000 := by
  have hc : 0 < [b1, b2, b3, b4, b5, b6, b7].count true := by omega
  have h1 := (List.getElem?_eq_some_iff.mp (idx_first _ hc).1).1
  have h2 : (Str.ofString "pcdb-ls").length = 7 := by decide +kernel
  rw [h2]
  simp only [List.length_cons, List.length_nil] at h1
  omega
end Mine
end partP4
open PySem PySem.W PySem.Calls PyProof.Rows in
theorem Mine.calmP5 {prog : Program} {w : World} {A : Around} {E Q : Value → Shared → Prop} {s : Shared} (h : wpAny (model prog w) A (call (.builtin "zz") []) Q E s) : wpAny (model prog w) A (call (.builtin "zz") []) Q E s := by w_top off; first | (walk1; fail) | exact h
section partP5
open PySem PySem.W PySem.Calls PyProof.Rows
set_option Elab.async false
namespace Mine
set_option maxRecDepth 100000
set_option maxHeartbeats 2000000
theorem warmP5 (w : World) : KK w.params = KK w.params ∧ PySem.Challenge.rw_in0209_01 = PySem.Challenge.rw_in0209_01 := by k_fill; exact ⟨rfl, rfl⟩
local macro_rules | `(tactic| walk_at "call ref") => `(tactic| first | (with_reducible refine atc 49 ?_; k_dflt (refine' ConS.useH (getitem_str_con _ _ _ _ _) ?_ (hpre := by (exact kind_pre (by assumption)))); walk_at "iS") | (with_reducible refine atc 56 ?_; k_dflt (refine' ConI.useH (indexOf7_con _ _ _ _ _ _ _ _ _) ?_ (hpre := by (refine ⟨News.lst (by assumption) (by k_mem) rfl rfl, ?_⟩; omega))); walk_at "iI") | (with_reducible refine atc 42 ?_; k_dflt (refine' ConI.useH (countOf7_con _ _ _ _ _ _ _ _ _) ?_ (hpre := by (exact News.lst (by assumption) (by k_mem) rfl rfl))); walk_at "iI") | (k_dflt (refine' ConV.useH (is7_con _ _ _ _ _ (by k_mem)) ?_); walk_at "iV"))
open PySem.SeqAt PySem.MeetsSeq in
theorem eq_bool_type : EqGives (.type "bool") (.type "bool") true := by
  intro prog w A E s Q hq
  unfold eqBool
  wp_walk
  exact hq
open PySem.SeqAt PySem.MeetsSeq in
theorem ne_types {prog : Program} {w : World} {A : Around} {E : Value → Shared → Prop} {s : Shared} {l b : Addr} {n : Nat} {vs us : Array Value} {Q : Value → Shared → Prop} (hl : s.heap.IsList l vs) (hb : s.heap.IsList b us)
    (hv : vs = (List.replicate n (Value.type "bool")).toArray) (hu : us = (List.replicate n (Value.type "bool")).toArray) (hun : A.units < cLine) (h : Q (.bool false) s) : wpAny (model prog w) A (compareOp .NotEq (.ref l) (.ref b)) Q E s := by
  refine cmp_ofNotEq ?_
  subst hv hu
  refine RcNeAt.lists (e := fun _ => true) hl hb rfl hun ?_ prog w E Q ?_
  · intro j h1 h2
    have e1 : (List.replicate n (Value.type "bool")).toArray[j] = Value.type "bool" := by simp
    rw [e1]
    exact eq_bool_type.at _ _
  · have e : (!(List.range (List.replicate n (Value.type "bool")).toArray.size).all fun _ => true) = false := by simp
    rw [e]; exact h
noncomputable def kindBits (F : Int) : List Bool := [F == 4096, F == 8192, F == 16384, F == 24576, F == 32768, F == 40960, F == 49152]
/-- the sign of a kind, as the law's own reading finds it -/
noncomputable def kindS (F : Int) : Str := if (((kindBits F).count true : Nat) : Int) = 1 then Txt.item "pcdb-ls" ((kindBits F).idxOf true : Nat) else "?"
section
local macro_rules | `(tactic| walk_at "compareOp NotEq ref ref") => `(tactic| refine hold ?_)
local macro_rules | `(tactic| walk_at "CompSrc") => `(tactic| refine hold ?_)
theorem kind_con (w : World) (x : Int) (t : Tok) : ConS w 305 [.int x t] 3 (fun _ => True) (kindS (Builtin.bitAnd x 61440)) := by
  refine con_of [("mode", .int x t)] (by k_is) (by k_is) (fun s => BindsTo.of_eq rfl) (locs rfl) ?_ (by decide)
  intro dp un gd outer A₀ base g L' h₁ tk gn dr os mean mg mb R B F N X T hdp hun hpre hret
  k_fold
  k_steps
  rename_i l1 lA h1 F1 N1
  unfold Hold
  refine LCg.CompSrc.ledger rfl (by assumption) (by assumption) (by k_mem) (Nat.le_of_ble_eq_true rfl) ?_
  intro g2
  refine comp_inv (fun i ys news => news = _ ∧ ys = List.replicate i (Value.type "bool")) ⟨rfl, rfl⟩ ?_ ?_
  · rintro i ys news v I oI C oC D m₂ h tk E' hi ⟨rfl, rfl⟩ hv hC hx F N off ne
    obtain ⟨b, rfl⟩ : ∃ b, v = .bool b := by
      rcases i with _|_|_|_|_|_|_|i <;> simp at hv <;> first | exact ⟨_, hv.symm⟩ | skip
    clear hv F1 N1
    k_steps
    refine LCg.CompEnd.intro (by assumption) (by assumption) _ (fun p hp => hp) off (.inr ⟨_, List.Mem.head _, rfl, _, rfl⟩) ⟨rfl, ?_⟩
    rw [List.replicate_succ']
  · rintro ys news ⟨rfl, hys⟩
    have hys' : ys = [.type "bool", .type "bool", .type "bool", .type "bool", .type "bool", .type "bool", .type "bool"] := hys
    subst hys'
    clear F1 N1 hys
    unfold LCg.FinE
    intro D h tk F N o1
    simp only [LCg.Off1, and_true] at o1
    k_steps
    rename_i N2 l2
    unfold Hold
    refine ne_types (n := 7) (News.lst N2 (by k_mem) rfl rfl) (News.lst N2 (by k_mem) rfl rfl) rfl rfl (show un < cLine by omega) ?_
    k_steps
    all_goals (try dsimp only)
    · exact hret _ _ _ (Fr.keep (by assumption)) ⟨_, congrArg (fun z => Value.str z _) (if_neg (by assumption)).symm⟩
    · exact hret _ _ _ (Fr.keep (by assumption)) ⟨_, congrArg (fun z => Value.str z _) (if_pos (by assumption)).symm⟩
end
end Mine
end partP5
section partLq
open PySem PySem.W PySem.Calls PyProof.Rows
set_option Elab.async false
namespace Mine
set_option maxRecDepth 100000
set_option maxHeartbeats 2000000
open PySem.AutoSeq1 (wpAny_loadPart')
section
variable {prog : Program} {w : World} {A : Around} {E : Value → Shared → Prop} {s : Shared}
theorem nextOf_tuple_item {it l : Addr} {i : Nat} {items} {x : Value} {Q : Value → Shared → Prop} (hit : s.heap.IsTupleIter it l i)
    (hl : s.heap.IsTuple l items) (hx : items[i]? = some x)
    (hQ : ∀ h', h'.IsTupleIter it l (i + 1) → Heap.SameBut it s.heap h' → Q x { s with heap := h' }) :
    wpAny (model prog w) A (Builtin.SmallTypes.nextOf (.ref it)) Q E s := by
  obtain ⟨o, ho, hc, hd⟩ := id hit
  obtain ⟨ol, hol, _, nl, hdl⟩ := hl
  unfold Builtin.SmallTypes.nextOf
  refine wpAny_bind (wpAny_callSpecial?_slot (name := Str.ofString "__next__") hit.typeIs F.slot_tuple_iterator_next
    (wpAny_call_entry F.slot_tuple_iterator_next hit.typeIs F.entry_tuple_iterator_next ?_ (F.args_tuple_iterator_next_1 _)))
  show wpAny _ _ (field (.ref it) 0 >>= _) _ _ s
  refine wpAny_bind (wpAny_field ho hd (x := .ref l) rfl ?_)
  show wpAny _ _ (if (Value.ref l == Value.none) = true then _ else _) _ _ s
  rw [if_neg (show ¬ ((Value.ref l == Value.none) = true) from Bool.false_ne_true)]
  show wpAny _ _ (field (.ref it) 1 >>= _) _ _ s
  refine wpAny_bind (wpAny_field ho hd (x := .int i 0) rfl ?_)
  show wpAny _ _ (seqItems? (.ref l) >>= _) _ _ s
  refine wpAny_bind (wpAny_seqItems hol hdl ?_)
  simp only [Int.toNat_natCast, hx]
  refine wpAny_bind (wpAny_setField ho hd (by simp) (wpAny_pure ⟨x, rfl, wpAny_pure (hQ _ ?_ (Heap.SameBut.update ..))⟩))
  exact ⟨_, Heap.get?_update_self _ ho (Obj.isFreed_of_fields (Obj.data_mapFields hd _)), (Obj.cls_mapFields ..).trans hc, by
    rw [Obj.data_mapFields hd]; simp [rawInt]⟩

theorem nextOf_tuple_end {it l : Addr} {i : Nat} {items} {Q : Value → Shared → Prop} (hh : A.handled = none)
    (hit : s.heap.IsTupleIter it l i) (hl : s.heap.IsTuple l items) (hx : items[i]? = none)
    (hE : ∀ h' e, Heap.ExtBut it s.heap h' → (∃ o, h'.get? e = some o ∧ o.cls = .type "StopIteration") → E (.ref e) { s with heap := h' }) :
    wpAny (model prog w) A (Builtin.SmallTypes.nextOf (.ref it)) Q E s := by
  obtain ⟨o, ho, hc, hd⟩ := id hit
  obtain ⟨ol, hol, _, nl, hdl⟩ := hl
  unfold Builtin.SmallTypes.nextOf
  refine wpAny_bind (wpAny_callSpecial?_slot (name := Str.ofString "__next__") hit.typeIs F.slot_tuple_iterator_next
    (wpAny_call_entry F.slot_tuple_iterator_next hit.typeIs F.entry_tuple_iterator_next ?_ (F.args_tuple_iterator_next_1 _)))
  show wpAny _ _ (field (.ref it) 0 >>= _) _ _ s
  refine wpAny_bind (wpAny_field ho hd (x := .ref l) rfl ?_)
  show wpAny _ _ (if (Value.ref l == Value.none) = true then _ else _) _ _ s
  rw [if_neg (show ¬ ((Value.ref l == Value.none) = true) from Bool.false_ne_true)]
  show wpAny _ _ (field (.ref it) 1 >>= _) _ _ s
  refine wpAny_bind (wpAny_field ho hd (x := .int i 0) rfl ?_)
  show wpAny _ _ (seqItems? (.ref l) >>= _) _ _ s
  refine wpAny_bind (wpAny_seqItems hol hdl ?_)
  simp only [Int.toNat_natCast, hx]
  refine wpAny_bind (wpAny_rule (wpAny_bind (wpAny_setField ho hd (by simp) ?_)))
  show wpAny _ _ (newExc (.type "StopIteration") [] >>= _) _ _ _
  refine wpAny_bind ?_
  simp only [newExc, newTuple]
  refine wpAny_bind (wpAny_newObj_type ?_ (by size_fits))
  refine wpAny_bind (m := firstArgMember _ _) (wpAny_of_eq (a := Value.none) (by first | rfl | (simp only [firstArgMember]; rfl)) ?_)
  refine wpAny_newObj_type ?_ (by size_fits)
  simp only [raiseNew]
  refine wpAny_bind (wpAny_handled ?_)
  first | rw [show A.in1.handled = none from hh] | rw [hh]
  refine wpAny_bind (wpAny_pure (wpAny_throw ?_))
  exact hE _ _ (((Heap.SameBut.update ..).extBut.push _).push _) ⟨_, Heap.get?_push_size _ rfl, rfl⟩
end
theorem draws_tuple {prog : Program} {w : World} {A : Around} (hh : A.handled = none) (it l : Addr) (hne : l ≠ it) (items : Array Value) :
    Draws prog w A it [it, l] items.size (fun i v => items[i]? = some v) (fun i h => h.IsTupleIter it l i ∧ h.IsTuple l items) where
  live := fun _ _ st => let ⟨o, ho, _⟩ := st.1; ⟨o, ho⟩
  frame := fun _ _ _ st hk => ⟨st.1.at fun o e => hk it (by simp) o e, st.2.at fun o e => hk l (by simp) o e⟩
  item := fun i s Q E hi st hQ => by
    refine nextOf_tuple_item st.1 st.2 (x := items[i]) (by simp [hi]) fun h' hit' hs' => ?_
    exact hQ _ h' s.toks (by simp [hi]) ⟨hit', st.2.extBut hs'.extBut hne⟩ hs'
  done := fun s Q E st hE => nextOf_tuple_end hh st.1 st.2 (by simp) hE

theorem meets_enumerate_newT (l : Addr) (items : Array Value) (n : Nat) (dct : Option Addr) (sl : Array (Option Value)) :
    Meets (Builtin.«enumerate.__new__» ⟨[.type "enumerate", .ref l], []⟩) (fun _ R s => s.heap.get? l = some { cls := .type "tuple", dict := dct, data := .seq items n, slots := sl } ∧
      R (.ok (.ret (.ref (s.heap.push { cls := .type "tuple_iterator", data := .fields #[.ref l, .int 0 0] }).objs.size)))
        { s with heap := (s.heap.push { cls := .type "tuple_iterator", data := .fields #[.ref l, .int 0 0] }).push { cls := .type "enumerate", data := .fields #[.none, .bool false, .ref s.heap.objs.size, rawInt 0, .none, .none] } }) :=
  .of_wp fun prog w A R s h => by
    obtain ⟨hp, g, d, tk, os⟩ := s; obtain ⟨hl, h⟩ := h
    have hsub := PySem.sub_enumerate
    have hL : Heap.IsTuple (Shared.heap ⟨hp, g, d, tk, os⟩) l items := ⟨_, hl, rfl, n, rfl⟩
    wp_walk using wpAny_loadPart' hl
    refine wpAny_stack_any fun st => wpAny_pure ?_
    split
    · rename_i c _ _ _ _ _
      cases (c == Value.type "enumerate")
      · wp_walk using wpAny_loadPart' hl, wpAny_pyIter_tuple hL
        exact ⟨_, rfl, h⟩
      · wp_walk using wpAny_loadPart' hl, wpAny_pyIter_tuple hL
        exact ⟨_, rfl, h⟩
    · wp_walk using wpAny_loadPart' hl, wpAny_pyIter_tuple hL
      exact ⟨_, rfl, h⟩

section
variable {prog : Program} {w : World} {A : Around} {E : Value → Shared → Prop} {s : Shared}
theorem call_enumerate_tuple {l : Addr} {items : Array Value} {Q : Value → Shared → Prop} (hL : s.heap.IsTuple l items)
    (h : ∀ h', IsEnum h' (s.heap.objs.size + 1) s.heap.objs.size 0 .none → h'.IsTupleIter s.heap.objs.size l 0 → h'.objs.size = s.heap.objs.size + 2 →
      (∀ b o, s.heap.get? b = some o → h'.get? b = some o) → Q (.ref (s.heap.objs.size + 1)) { s with heap := h' }) :
    wpAny (model prog w) A (call (.type "enumerate") [.ref l]) Q E s := by
  obtain ⟨⟨c, dct, dt, sl⟩, hl, hc, n, hd⟩ := hL
  replace hc : c = .type "tuple" := hc
  replace hd : dt = .seq items n := hd
  subst hc hd
  refine callType_new F.called_enumerate (by decide) (F.typeCall_enumerate_1 _) (F.newCall_enumerate_1 _) (fun obj => F.args_object_init_2 obj _) F.entry_enumerate_new
    (meets_enumerate_newT l items n dct sl) ⟨hl, ?_⟩
  have hz : (s.heap.push { cls := .type "tuple_iterator", data := .fields #[.ref l, .int 0 0] }).objs.size = s.heap.objs.size + 1 := Heap.size_push ..
  show _ ∧ _
  rw [hz]
  have he : IsEnum ((s.heap.push { cls := .type "tuple_iterator", data := .fields #[.ref l, .int 0 0] }).push
      { cls := .type "enumerate", data := .fields #[.none, .bool false, .ref s.heap.objs.size, rawInt 0, .none, .none] }) (s.heap.objs.size + 1) s.heap.objs.size 0 .none := by
    have := Heap.get?_push_size (s.heap.push { cls := .type "tuple_iterator", data := .fields #[.ref l, .int 0 0] })
      (o := { cls := .type "enumerate", data := .fields #[.none, .bool false, .ref s.heap.objs.size, rawInt 0, .none, .none] }) rfl
    rw [hz] at this
    exact this
  exact ⟨⟨_, he, rfl⟩, h _ he ⟨_, Heap.get?_push_of_some _ (Heap.get?_push_size _ rfl), rfl, rfl⟩ (by rw [Heap.size_push, hz]) fun b o x => Heap.get?_push_of_some _ (Heap.get?_push_of_some _ x)⟩

variable {env : Env} {h₀ : Heap} {target : Expr} {body orelse : List Stmt} {Q : Flow → Shared → Prop}
/-- enumerate over a tuple that stands -/
theorem lp_enumT {elts : List Expr} {k : Nat} {tpos : Pos} {l : Addr} {items : Array Value} {m : Str → Option Value} {news : List (Addr × Obj)} (hh : A.handled = none)
    (hl : s.heap.IsTuple l items) (hlL : l ≠ env.locals) (F : Fr h₀ env.locals s.heap m) (N : News h₀ env.locals s.heap news)
    (J : Nat → (Str → Option Value) → List (Addr × Obj) → Prop) (h0 : J 0 m news)
    (step : ∀ (i : Nat) x t T m₁ news₁ h₁ tk₁ own I, (∀ p ∈ news, p.1 < I) → items[i]? = some x → IsTup h₁ T #[.int (i : Int) t, x] → J i m₁ news₁ → (∀ p ∈ news₁, p.1 ≠ I + 1 ∧ p.1 ≠ I) → (∃ o, (I, o) ∈ own) → (∃ o, (I + 1, o) ∈ own) → (∀ p ∈ own, p.1 = I + 1 ∨ p.1 = I ∨ p.1 = l) → Fr h₀ env.locals h₁ m₁ → News h₀ env.locals h₁ (news₁ ++ own) →
      wpAny (model prog w) A (assign (.Tuple elts k tpos) env (.ref T)) (fun _ s₂ => wpAny (model prog w) A (execs body env) (LPost h₀ env.locals (J (i + 1)) own [I + 1, I] { s with heap := h₁, toks := tk₁ } Q) (fun _ _ => False) s₂) (fun _ _ => False) { s with heap := h₁, toks := tk₁ })
    (done : ∀ h' tk m' news', Fr h₀ env.locals h' m' → News h₀ env.locals h' news' → J items.size m' news' → wpAny (model prog w) A (execs orelse env) Q (fun _ _ => False) { s with heap := h', toks := tk }) :
    wpAny (model prog w) A (call (.type "enumerate") [.ref l]) (fun xv s₁ => wpAny (model prog w) A (pyIter xv) (fun it s₂ => codeAny (model prog w) A (.forLoop (.Tuple elts k tpos) it body orelse env) (fun r s' => match r with | .ok f => Q f s' | .error e => cameBackBy (model prog w) A env E e s') s₂) E s₁) E s := by
  obtain ⟨lo, hlo, _⟩ := id hl
  have hlt : l < s.heap.objs.size := Heap.lt_size hlo
  have hLs : env.locals < s.heap.objs.size := F.ns.lt
  refine call_enumerate_tuple hl fun h' hE hI hsz hk => ?_
  refine wpAny_pyIter_enum hE ?_
  have Dr := draws_tuple (prog := prog) (w := w) (A := A.in1) hh s.heap.objs.size l (Nat.ne_of_lt hlt) items
  refine lp_loop (s := { s with heap := h' }) (KTurns.ofWalksU (WalksT.enumerateD Dr (s.heap.objs.size + 1) (Nat.succ_ne_self _) (by intro hm; rcases List.mem_cons.mp hm with e | hm; exact Nat.succ_ne_self _ e; exact absurd hlt (by rw [← List.mem_singleton.mp hm]; exact Nat.not_lt.mpr (Nat.le_succ _))) (by simp)).toU) ?_ ?_ ?_ ?_ ⟨⟨.none, hE⟩, hI, hl.at fun o e => hk l o e⟩ (F.keeps hk) (N.grown hk) J h0 ?_ ?_
  · rintro i h ⟨⟨old, he⟩, ⟨oi, hoi, _⟩, _⟩ b hb
    have hb' : b = s.heap.objs.size + 1 ∨ b = s.heap.objs.size := by simpa using hb
    rcases hb' with rfl | rfl
    · exact ⟨_, he⟩
    · exact ⟨_, hoi⟩
  · intro hI'
    have hb' : env.locals = s.heap.objs.size + 1 ∨ env.locals = s.heap.objs.size ∨ env.locals = l := by simpa using hI'
    rcases hb' with e | e | e
    · exact absurd hLs (by rw [e]; exact Nat.not_lt.mpr (Nat.le_succ _))
    · exact Nat.ne_of_lt hLs e
    · exact hlL e.symm
  · intro b hb
    have hb' : b = s.heap.objs.size + 1 ∨ b = s.heap.objs.size := by simpa using hb
    rcases hb' with rfl | rfl
    · exact ktu_new F (Nat.le_add_right _ _)
    · exact ktu_new F (Nat.le_refl _)
  · intro p hp hI'
    have hb' : p.1 = s.heap.objs.size + 1 ∨ p.1 = s.heap.objs.size := by simpa using hI'
    have hlp := Heap.lt_size (N p hp).1
    rcases hb' with e | e
    · exact absurd hlp (by rw [e]; exact Nat.not_lt.mpr (Nat.le_succ _))
    · exact Nat.ne_of_lt hlp e
  · rintro i v m₁ news₁ h₁ tk₁ own hi ⟨T, vals, rfl, ⟨t, x, hx, rfl⟩, hT⟩ hJ hoff hin hsub F₁ N₁
    refine step i x t T m₁ news₁ h₁ tk₁ own s.heap.objs.size (fun p hp => Heap.lt_size (N p hp).1) hx hT hJ (fun p hp => ⟨fun e => hoff p hp (by rw [e]; simp), fun e => hoff p hp (by rw [e]; simp)⟩) (hin _ (by simp)) (hin _ (by simp)) (fun p hp => ?_) F₁ N₁
    have := hsub p hp
    simpa using this
  · intro h' tk m' news' F' N' _ hJ
    exact done h' tk m' news' F' N' hJ

/-- over a tuple that stands -/
theorem lp_tuple {l : Addr} {items : Array Value} {m : Str → Option Value} {news : List (Addr × Obj)} (hh : A.handled = none)
    (hl : s.heap.IsTuple l items) (hlL : l ≠ env.locals) (F : Fr h₀ env.locals s.heap m) (N : News h₀ env.locals s.heap news)
    (J : Nat → (Str → Option Value) → List (Addr × Obj) → Prop) (h0 : J 0 m news)
    (step : ∀ i v m₁ news₁ h₁ tk₁ own I, (∀ p ∈ news, p.1 < I) → items[i]? = some v → J i m₁ news₁ → (∀ p ∈ news₁, p.1 ≠ I) → (∃ o, (I, o) ∈ own) → (∀ p ∈ own, p.1 = I ∨ p.1 = l) → Fr h₀ env.locals h₁ m₁ → News h₀ env.locals h₁ (news₁ ++ own) →
      wpAny (model prog w) A (assign target env v) (fun _ s₂ => wpAny (model prog w) A (execs body env) (LPost h₀ env.locals (J (i + 1)) own [I] { s with heap := h₁, toks := tk₁ } Q) (fun _ _ => False) s₂) (fun _ _ => False) { s with heap := h₁, toks := tk₁ })
    (done : ∀ h' tk m' news', Fr h₀ env.locals h' m' → News h₀ env.locals h' news' → J items.size m' news' → wpAny (model prog w) A (execs orelse env) Q (fun _ _ => False) { s with heap := h', toks := tk }) :
    wpAny (model prog w) A (pyIter (.ref l)) (fun it s₂ => codeAny (model prog w) A (.forLoop target it body orelse env) (fun r s' => match r with | .ok f => Q f s' | .error e => cameBackBy (model prog w) A env E e s') s₂) E s := by
  obtain ⟨lo, hlo, _⟩ := id hl
  have hlt : l < s.heap.objs.size := Heap.lt_size hlo
  have hne : l ≠ s.heap.objs.size := Nat.ne_of_lt hlt
  refine wpAny_pyIter_tuple hl ?_
  refine lp_loop (KTurns.ofWalks (Walks.tuple hh s.heap.objs.size l hne items) fun i v s Q E st q => letGo_tupleiter st.1 q) ?_ ?_ ?_ ?_ ⟨⟨_, Heap.get?_push_size _ rfl, rfl, rfl⟩, hl.at fun o e => Heap.get?_push_of_some _ e⟩ (F.push _) (fun p hp => ⟨Heap.get?_push_of_some _ (N p hp).1, (N p hp).2⟩) J h0 ?_ ?_
  · rintro i h ⟨⟨o, ho, _⟩, _⟩ b hb
    rw [List.mem_singleton.mp hb]; exact ⟨o, ho⟩
  · intro hI
    rcases List.mem_cons.mp hI with e | hI
    · exact absurd F.ns.lt (e ▸ Nat.lt_irrefl _)
    · exact hlL (List.mem_singleton.mp hI).symm
  · intro b hb; rw [List.mem_singleton.mp hb]; exact next_is_new F
  · intro p hp hI
    exact absurd (Heap.lt_size (N p hp).1) ((List.mem_singleton.mp hI) ▸ Nat.lt_irrefl _)
  · intro i v m₁ news₁ h₁ tk₁ own hi hP hJ hoff hin hsub F₁ N₁
    refine step i v m₁ news₁ h₁ tk₁ own _ (fun p hp => Heap.lt_size (N p hp).1) hP hJ (fun p hp e => hoff p hp (by rw [e]; exact List.mem_singleton_self _)) (hin _ (List.mem_singleton_self _)) (fun p hp => ?_) F₁ N₁
    have := hsub p hp
    simpa using this
  · intro h' tk m' news' F' N' _ hJ
    exact done h' tk m' news' F' N' hJ
end
end Mine
end partLq
section partP6
open PySem PySem.W PySem.Calls PyProof.Rows
set_option Elab.async false
namespace Mine
set_option maxRecDepth 100000
set_option maxHeartbeats 2000000
theorem warmP6 (w : World) : KK w.params = KK w.params ∧ PySem.Challenge.rw_in0209_01 = PySem.Challenge.rw_in0209_01 := by k_fill; exact ⟨rfl, rfl⟩
noncomputable def fmSpec : List (List (Int × Str)) := [[(40960, "l"), (49152, "s"), (32768, "-"), (24576, "b"), (16384, "d"), (8192, "c"), (4096, "p")], [(256, "r")], [(128, "w")], [(2112, "s"), (2048, "S"), (64, "x")],
  [(32, "r")], [(16, "w")], [(1032, "s"), (1024, "S"), (8, "x")], [(4, "r")], [(2, "w")], [(513, "t"), (512, "T"), (1, "x")]]
noncomputable def fmHit (x : Int) (i : Nat) (b : Int) : Bool := if i = 0 then Builtin.bitAnd x 61440 == b else Builtin.bitAnd x b == b
noncomputable def fmPick (hit : Int → Bool) (d : Str) : List (Int × Str) → Str
  | [] => d
  | (b, c) :: r => if hit b then c else fmPick hit d r
noncomputable def fmAt (x : Int) (i : Nat) (tab : List (Int × Str)) : Str := fmPick (fmHit x i) (if i = 0 then "?" else "-") tab
noncomputable def fmFrom (x : Int) : Nat → List (List (Int × Str)) → List Str
  | _, [] => []
  | i, tab :: r => fmAt x i tab :: fmFrom x (i + 1) r
noncomputable def fmList (x : Int) : List Str := fmFrom x 0 fmSpec
theorem fmFrom_get (x : Int) : ∀ (l : List (List (Int × Str))) (k i : Nat) (tab : List (Int × Str)), l[i]? = some tab → (fmFrom x k l)[i]? = some (fmAt x (k + i) tab)
  | [], _, _, _, h => by simp at h
  | t :: r, k, 0, tab, h => by simp at h; subst h; rfl
  | t :: r, k, i + 1, tab, h => by
    have := fmFrom_get x r (k + 1) i tab (by simpa using h)
    simp only [fmFrom, List.getElem?_cons_succ]
    rw [this]; congr 2; omega
theorem fmList_get (x : Int) (i : Nat) (tab : List (Int × Str)) (h : fmSpec[i]? = some tab) : (fmList x)[i]? = some (fmAt x i tab) := by
  have := fmFrom_get x fmSpec 0 i tab h
  rwa [Nat.zero_add] at this
inductive Tab (g : Heap) : List Value → List (Int × Str) → Prop
  | nil : Tab g [] []
  | cons {a : Addr} {b : Int} {c : Str} {t u : Tok} {vs : List Value} {r : List (Int × Str)} : IsTup g a [Value.int b t, Value.str c u].toArray → Tab g vs r → Tab g (.ref a :: vs) ((b, c) :: r)
theorem Tab.at {g : Heap} : ∀ {vs : List Value} {r : List (Int × Str)}, Tab g vs r → ∀ (j : Nat) (v : Value), vs[j]? = some v → ∃ a b c t u, v = .ref a ∧ r[j]? = some (b, c) ∧ IsTup g a #[.int b t, .str c u]
  | _, _, .cons (a := a) (b := b) (c := c) (t := t) (u := u) h _, 0, v, e => by simp at e; exact ⟨a, b, c, t, u, e.symm, rfl, h⟩
  | _, _, .cons _ h, j + 1, v, e => by simpa using h.at j v (by simpa using e)
theorem Tab.len {g : Heap} : ∀ {vs : List Value} {r : List (Int × Str)}, Tab g vs r → vs.length = r.length
  | _, _, .nil => rfl
  | _, _, .cons _ h => by simp [h.len]
noncomputable def fmRefs : List Value := [.ref 240, .ref 242, .ref 244, .ref 248, .ref 250, .ref 252, .ref 256, .ref 258, .ref 260, .ref 264]
theorem fm_facts (w : World) {g : Heap} (X : (KK w.params).In g) (i : Nat) (x : Value) (h : fmRefs[i]? = some x) : ∃ T vs tab, x = .ref T ∧ IsTup g T vs.toArray ∧ fmSpec[i]? = some tab ∧ Tab g vs tab := by
  rcases i with _|_|_|_|_|_|_|_|_|_|i <;> simp only [fmRefs, List.getElem?_cons_zero, List.getElem?_cons_succ, List.getElem?_nil, Option.some.injEq, reduceCtorEq] at h
  · subst h; exact ⟨_, _, _, rfl, tupK X (by k_is), rfl, .cons (tupK X (by k_is)) (.cons (tupK X (by k_is)) (.cons (tupK X (by k_is)) (.cons (tupK X (by k_is)) (.cons (tupK X (by k_is)) (.cons (tupK X (by k_is)) (.cons (tupK X (by k_is)) .nil))))))⟩
  · subst h; exact ⟨_, _, _, rfl, tupK X (by k_is), rfl, .cons (tupK X (by k_is)) .nil⟩
  · subst h; exact ⟨_, _, _, rfl, tupK X (by k_is), rfl, .cons (tupK X (by k_is)) .nil⟩
  · subst h; exact ⟨_, _, _, rfl, tupK X (by k_is), rfl, .cons (tupK X (by k_is)) (.cons (tupK X (by k_is)) (.cons (tupK X (by k_is)) .nil))⟩
  · subst h; exact ⟨_, _, _, rfl, tupK X (by k_is), rfl, .cons (tupK X (by k_is)) .nil⟩
  · subst h; exact ⟨_, _, _, rfl, tupK X (by k_is), rfl, .cons (tupK X (by k_is)) .nil⟩
  · subst h; exact ⟨_, _, _, rfl, tupK X (by k_is), rfl, .cons (tupK X (by k_is)) (.cons (tupK X (by k_is)) (.cons (tupK X (by k_is)) .nil))⟩
  · subst h; exact ⟨_, _, _, rfl, tupK X (by k_is), rfl, .cons (tupK X (by k_is)) .nil⟩
  · subst h; exact ⟨_, _, _, rfl, tupK X (by k_is), rfl, .cons (tupK X (by k_is)) .nil⟩
  · subst h; exact ⟨_, _, _, rfl, tupK X (by k_is), rfl, .cons (tupK X (by k_is)) (.cons (tupK X (by k_is)) (.cons (tupK X (by k_is)) .nil))⟩
theorem strsAre_snoc : ∀ {vs : List Value} {l : List Str} (c : Str) (t : Tok), StrsAre vs l → StrsAre (vs ++ [.str c t]) (l ++ [c])
  | _, _, c, t, .nil => .cons c t .nil
  | _, _, c, t, .cons y u h => .cons y u (strsAre_snoc c t h)
theorem fmPick_hit {hit : Int → Bool} {d : Str} : ∀ {tab : List (Int × Str)} {j : Nat} {b : Int} {c : Str}, tab[j]? = some (b, c) → hit b = true → (∀ q b c, q < j → tab[q]? = some (b, c) → hit b = false) → fmPick hit d tab = c
  | (b', c') :: r, 0, b, c, h, hb, _ => by
    simp at h; obtain ⟨rfl, rfl⟩ := h; simp [fmPick, hb]
  | (b', c') :: r, j + 1, b, c, h, hb, hno => by
    have h0 := hno 0 b' c' (Nat.succ_pos _) rfl
    simp only [fmPick, h0, Bool.false_eq_true, if_false]
    exact fmPick_hit (by simpa using h) hb fun q b c hq e => hno (q + 1) b c (Nat.succ_lt_succ hq) (by simpa using e)
theorem fmPick_no {hit : Int → Bool} {d : Str} : ∀ {tab : List (Int × Str)}, (∀ q b c, q < tab.length → tab[q]? = some (b, c) → hit b = false) → fmPick hit d tab = d
  | [], _ => rfl
  | (b', c') :: r, hno => by
    have h0 := hno 0 b' c' (Nat.succ_pos _) rfl
    simp only [fmPick, h0, Bool.false_eq_true, if_false]
    exact fmPick_no fun q b c hq e => hno (q + 1) b c (Nat.succ_lt_succ hq) (by simpa using e)
theorem fmPick_len {hit : Int → Bool} {d : Str} (hd : d.length = 1) : ∀ {tab : List (Int × Str)}, (∀ p ∈ tab, p.2.length = 1) → (fmPick hit d tab).length = 1
  | [], _ => hd
  | (b, c) :: r, h => by
    unfold fmPick
    split
    · exact h (b, c) List.mem_cons_self
    · exact fmPick_len hd fun p hp => h p (List.mem_cons_of_mem _ hp)
theorem fmFrom_len (x : Int) : ∀ (l : List (List (Int × Str))) (k : Nat), (∀ tab ∈ l, ∀ p ∈ tab, p.2.length = 1) → ∀ c ∈ fmFrom x k l, c.length = 1
  | [], _, _, c, h => nomatch h
  | tab :: r, k, ha, c, h => by
    rcases List.mem_cons.mp h with rfl | h
    · refine fmPick_len ?_ (ha tab List.mem_cons_self)
      split <;> decide +kernel
    · exact fmFrom_len x r (k + 1) (fun t ht => ha t (List.mem_cons_of_mem _ ht)) c h
theorem fmSpec_len : ∀ tab ∈ fmSpec, ∀ p ∈ tab, p.2.length = 1 := by decide +kernel
theorem sum_ones : ∀ (l : List Str), (∀ c ∈ l, c.length = 1) → (l.map (·.length)).sum = l.length
  | [], _ => rfl
  | c :: r, h => by
    rw [List.map_cons, List.sum_cons, h c List.mem_cons_self, sum_ones r fun d hd => h d (List.mem_cons_of_mem _ hd), List.length_cons]; omega
theorem fmList_weight (x : Int) : ((fmList x).map (·.length)).sum + (fmList x).length ≤ 1048576 := by
  rw [sum_ones (fmList x) (fmFrom_len x fmSpec 0 fmSpec_len)]
  have e : (fmList x).length = 10 := rfl
  rw [e]; decide
noncomputable def fmMap (x : Int) (t : Tok) (lp : Addr) (z : Str) : Option Value := if z = Str.ofString "perm" then some (.ref lp) else List.lookup z [(Str.ofString "mode", Value.int x t)].reverse
noncomputable def fmJ (x : Int) (t : Tok) (lp : Addr) (i : Nat) (m : Str → Option Value) (news : List (Addr × Obj)) : Prop :=
  (∃ vs n, news = [(lp, W.listOf vs.toArray n)] ∧ StrsAre vs ((fmList x).take i)) ∧ ∀ z, z ≠ Str.ofString "index" → z ≠ Str.ofString "table" → z ≠ Str.ofString "bit" → z ≠ Str.ofString "char" → m z = fmMap x t lp z
theorem fm_end {g h' : Heap} {L : Addr} {m' : Str → Option Value} {lp I : Addr} {vs : List Value} {c : Str} {tc : Tok} {n i : Nat} {own rest : List (Addr × Obj)} {x : Int} {t : Tok} {s₁ : Shared} {tk : Nat}
    (F : Fr g L h' m') (N : News g L h' ((lp, W.listOf (vs.toArray.push (.str c tc)) (n + 1)) :: rest)) (hs : ∀ p ∈ own, p ∈ rest) (hoff : lp ≠ I + 1 ∧ lp ≠ I) (hvs : StrsAre vs ((fmList x).take i)) (hc : (fmList x)[i]? = some c)
    (hm : ∀ z, z ≠ Str.ofString "index" → z ≠ Str.ofString "table" → z ≠ Str.ofString "bit" → z ≠ Str.ofString "char" → m' z = fmMap x t lp z) :
    LEnd g L (fmJ x t lp (i + 1)) own [I + 1, I] s₁ { s₁ with heap := h', toks := tk } := by
  refine LEnd.intro [(lp, W.listOf (vs ++ [Value.str c tc]).toArray (n + 1))] F N (fun p hp => List.mem_cons_of_mem _ (hs p hp)) (fun p hp => ?_) (fun p hp => ?_) ⟨⟨_, _, rfl, ?_⟩, hm⟩
  · rw [List.mem_singleton.mp hp, ← List.push_toArray]; exact List.mem_cons_self
  · rw [List.mem_singleton.mp hp]; simp [hoff.1, hoff.2]
  · rw [List.take_add_one, hc]; exact strsAre_snoc _ _ hvs
end Mine
end partP6
open PySem PySem.W PySem.Calls PyProof.Rows in
theorem Mine.calmP7 {prog : Program} {w : World} {A : Around} {E Q : Value → Shared → Prop} {s : Shared} (h : wpAny (model prog w) A (call (.builtin "zz") []) Q E s) : wpAny (model prog w) A (call (.builtin "zz") []) Q E s := by w_top off; first | (walk1; fail) | exact h
section partP7
open PySem PySem.W PySem.Calls PyProof.Rows
set_option Elab.async false
namespace Mine
set_option maxRecDepth 100000
set_option maxHeartbeats 2000000
theorem warmP7 (w : World) : KK w.params = KK w.params ∧ PySem.Challenge.rw_in0209_01 = PySem.Challenge.rw_in0209_01 := by k_fill; exact ⟨rfl, rfl⟩
local macro_rules | `(tactic| walk_at "call ref") => `(tactic| (with_reducible refine atc 183 ?_; k_dflt (refine' ConI.useH (ifmt_con _ _ _) ?_); walk_at "iI"))
section
local macro_rules | `(tactic| walk_at "exec For Tuple Call") => `(tactic| refine hold ?_)
local macro_rules | `(tactic| walk_at "pyIter ref") => `(tactic| refine hold ?_)
local macro_rules | `(tactic| walk_at "exec For Tuple Name") => `(tactic| refine hold ?_)
theorem filemode_con (w : World) (x : Int) (t : Tok) : ConS w 272 [.int x t] 2 (fun _ => True) (Txt.join "" (fmList x)) := by
  refine con_of [("mode", .int x t)] (by k_is) (by k_is) (fun s => BindsTo.of_eq rfl) (locs rfl) ?_ (by decide)
  intro dp un gd outer A₀ base g L' h₁ tk gn dr os mean mg mb R B F N X T hdp hun hpre hret
  k_fold
  have hab := F.above
  have h265 : IsTup g 265 fmRefs.toArray := tupK X (by k_is)
  have hne : (265 : Addr) ≠ L' := by
    obtain ⟨o, ho, _⟩ := h265
    exact Nat.ne_of_lt (Nat.lt_of_lt_of_le (Heap.lt_size ho) hab)
  k_steps
  unfold Hold
  refine lp_for ?_
  k_steps
  rename_i lp hpA l1A hpB F1 N1
  refine lp_enumT rfl (Heap.IsTuple.at h265 fun o e => F1.keep _ o e) hne F1 N1 (fmJ x t lp) ?_ ?_ ?_
  · exact ⟨⟨[], 0, rfl, .nil⟩, fun _ _ _ _ _ => rfl⟩
  · rintro i v tk1 T m₁ news₁ h₁ tk₁ own I hI hi hT ⟨⟨vs, n, rfl, hvs⟩, hm⟩ hoff hin hin' hown F₁ N₁
    have F₂ := Fr.as F₁ (map_four rfl rfl rfl rfl hm)
    clear F₁ F1 N1
    have hvl : vs.toArray.size ≤ sizeLine := by
      rw [List.size_toArray, StrsAre.length hvs, List.length_take, sizeLine_eq]; exact Nat.le_trans (Nat.min_le_right _ _) (by have e : (fmList x).length = 10 := rfl; omega)
    have hoff' := hoff (lp, W.listOf vs.toArray n) (List.mem_singleton_self _)
    obtain ⟨Ti, its, tab, rfl, hTi, htab, hTab⟩ := fm_facts w X i v (by simpa using hi)
    have hfm := fmList_get x i tab htab
    k_steps
    rename Fr _ _ _ _ => F3
    rename News _ _ _ _ => N3
    have hTi3 := Heap.IsTuple.at hTi fun o e => F3.keep _ o e
    have hneT : Ti ≠ L' := by
      obtain ⟨o, ho, _⟩ := hTi
      exact Nat.ne_of_lt (Nat.lt_of_lt_of_le (Heap.lt_size ho) hab)
    have hlp : g.get? lp = none := (N3 (lp, W.listOf vs.toArray n) (List.mem_cons_self)).2.2
    have hbase : ∀ a items, IsTup g a items → lp ≠ a := by
      rintro a items ⟨o, ho, _⟩ rfl
      rw [hlp] at ho; cases ho
    have hown3 : ∀ p ∈ own, p.1 ≠ lp := by
      intro p hp e
      obtain ⟨e1, e2⟩ := hoff (lp, W.listOf vs.toArray n) (List.mem_singleton_self _)
      rcases hown p hp with h | h | h
      · exact e1 (e.symm.trans h)
      · exact e2 (e.symm.trans h)
      · exact hbase _ _ h265 (e.symm.trans h)
    unfold Hold
    refine lp_for ?_
    k_steps
    unfold Hold
    refine lp_tuple rfl hTi3 hneT F3 N3 (fun j m news => news = [(lp, W.listOf vs.toArray n)] ++ own ∧ (∀ q b c, q < j → tab[q]? = some (b, c) → fmHit x i b = false) ∧ ∀ z, z ≠ Str.ofString "bit" → z ≠ Str.ofString "char" → m z = (if z = Str.ofString "table" then some (.ref Ti) else if z = Str.ofString "index" then some (.int i tk1) else if z = Str.ofString "perm" then some (.ref lp) else List.lookup z [(Str.ofString "mode", Value.int x t)].reverse)) ?_ ?_ ?_
    · refine ⟨rfl, fun q b c hq => absurd hq (Nat.not_lt_zero _), fun z h1 h2 => ?_⟩
      by_cases h3 : z = Str.ofString "table"
      · simp [h3]
      · by_cases h4 : z = Str.ofString "index"
        · simp [h3, h4]
        · simp [h1, h2, h3, h4, fmMap]
    · rintro j v m₂ news₂ h₂ tk₂ own₂ I₂ hI₂ hj ⟨rfl, hno, hm₂⟩ hoff₂ hin₂ hown₂ F₁ N₁
      have F₂ := Fr.as F₁ (map_two rfl rfl hm₂)
      clear F₁ F3 N3
      obtain ⟨a, b, c, tb, tc, rfl, htj, hta⟩ := hTab.at j v (by simpa using hj)
      have hta' : IsTup h₂ a #[.int b tb, .str c tc] := Heap.IsTuple.at hta fun o e => F₂.keep _ o e
      have hOO : OwnOff (own ++ own₂) [lp] := by
        intro p hp b hb e
        rw [List.mem_singleton.mp hb] at e
        rcases List.mem_append.mp hp with h | h
        · exact hown3 p h e
        · rcases hown₂ p h with h | h
          · exact hoff₂ (lp, W.listOf vs.toArray n) List.mem_cons_self (e.symm.trans h)
          · exact hbase _ _ hTi (e.symm.trans h)
      simp only [List.cons_append, List.nil_append] at N₁
      by_cases hi0 : i = 0
      · subst hi0
        k_steps
        · refine fm_end (by assumption) (by assumption) (fun p hp => List.mem_append_left _ hp) hoff' hvs (hfm.trans (congrArg some (fmPick_hit htj ?_ hno))) ?_
          · simp only [fmHit, if_true]; exact beq_iff_eq.mpr (by assumption)
          · intro z h1 h2 h3 h4; simp [h1, h2, h3, h4, fmMap]
        · refine LEnd.intro _ (by assumption) (by assumption) (fun p hp => List.mem_cons_of_mem _ (List.mem_append_right _ hp)) (fun p hp => ?_) (fun p hp => ?_) ⟨rfl, ?_, ?_⟩
          · exact (List.mem_cons.mp hp).elim (fun h => h ▸ List.mem_cons_self) fun h => List.mem_cons_of_mem _ (List.mem_append_left _ h)
          · intro hI; exact hoff₂ p hp (List.mem_singleton.mp hI)
          · intro q b' c' hq e
            rcases Nat.lt_or_eq_of_le (Nat.le_of_lt_succ hq) with h | h
            · exact hno q b' c' h e
            · subst h; rw [htj] at e; obtain ⟨rfl, rfl⟩ := Option.some.inj e
              simp only [fmHit, if_true]; exact beq_eq_false_iff_ne.mpr (by assumption)
          · intro z h1 h2; simp [h1, h2]
      · have hi1 : (i : Int) ≠ 0 := by omega
        k_steps
        · omega
        · refine fm_end (by assumption) (by assumption) (fun p hp => List.mem_append_left _ hp) hoff' hvs (hfm.trans (congrArg some (fmPick_hit htj ?_ hno))) ?_
          · simp only [fmHit, if_neg hi0]; exact beq_iff_eq.mpr (by assumption)
          · intro z h1 h2 h3 h4; simp [h1, h2, h3, h4, fmMap]
        · refine LEnd.intro _ (by assumption) (by assumption) (fun p hp => List.mem_cons_of_mem _ (List.mem_append_right _ hp)) (fun p hp => ?_) (fun p hp => ?_) ⟨rfl, ?_, ?_⟩
          · exact (List.mem_cons.mp hp).elim (fun h => h ▸ List.mem_cons_self) fun h => List.mem_cons_of_mem _ (List.mem_append_left _ h)
          · intro hI; exact hoff₂ p hp (List.mem_singleton.mp hI)
          · intro q b' c' hq e
            rcases Nat.lt_or_eq_of_le (Nat.le_of_lt_succ hq) with h | h
            · exact hno q b' c' h e
            · subst h; rw [htj] at e; obtain ⟨rfl, rfl⟩ := Option.some.inj e
              simp only [fmHit, if_neg hi0]; exact beq_eq_false_iff_ne.mpr (by assumption)
          · intro z h1 h2; simp [h1, h2]
    · rintro h' tk m' news' F' N' ⟨rfl, hno, hm₂⟩
      have hno' : ∀ q b c, q < tab.length → tab[q]? = some (b, c) → fmHit x i b = false := by
        intro q b c hq; exact hno q b c (by rw [List.size_toArray, hTab.len]; exact hq)
      have F₂ := Fr.as F' (map_two rfl rfl hm₂)
      have hOO : OwnOff own [lp] := by
        intro p hp b hb e
        rw [List.mem_singleton.mp hb] at e
        exact hown3 p hp e
      simp only [List.cons_append, List.nil_append] at N'
      clear F' F3 N3
      by_cases hi0 : i = 0
      · subst hi0
        k_steps
        refine fm_end (by assumption) (by assumption) (fun p hp => hp) hoff' hvs (hfm.trans (congrArg some (fmPick_no hno'))) ?_
        intro z h1 h2 h3 h4; simp [h1, h2, h3, h4, fmMap]
      · have hi1 : (i : Int) ≠ 0 := by omega
        k_steps
        · omega
        · refine fm_end (by assumption) (by assumption) (fun p hp => hp) hoff' hvs (hfm.trans (congrArg some ((fmPick_no hno').trans (if_neg hi0)))) ?_
          intro z h1 h2 h3 h4; simp [h1, h2, h3, h4, fmMap]
  · rintro h' tk m' news' F' N' ⟨⟨vs, n, rfl, hvs⟩, hm⟩
    have F₂ := Fr.as F' (map_four rfl rfl rfl rfl hm)
    clear F' F1 N1
    have e10 : List.take fmRefs.toArray.size (fmList x) = fmList x := rfl
    rw [e10] at hvs
    k_steps
    refine join_listW (News.lst (by assumption) (List.mem_singleton_self _) rfl rfl) (by simpa using hvs) (by decide +kernel) (fmList_weight x) fun t' k => ?_
    exact hret _ _ _ F₂.keep ⟨_, rfl⟩
end
end Mine
end partP7
section partP8
open PySem PySem.W PySem.Calls PyProof.Rows
set_option Elab.async false
namespace Mine
set_option maxRecDepth 100000
set_option maxHeartbeats 2000000
theorem warmP8 (w : World) : KK w.params = KK w.params ∧ PySem.Challenge.rw_in0209_01 = PySem.Challenge.rw_in0209_01 := by k_fill; exact ⟨rfl, rfl⟩
noncomputable def nameS (x : Int) : Str := if (x.fdiv 20).fmod 3 = 0 then "a" else if (x.fdiv 20).fmod 3 = 1 then "ab" else "b"
noncomputable def modeI (x : Int) : Int := (x * 65537).fmod (2 ^ Int.toNat 32)
abbrev tupO (vs : List Value) : Obj := { cls := .type "tuple", data := .seq vs.toArray }
/-- a tuple of an int, a text and an int, made by the call -/
noncomputable def IsDraw (f : Int) (nm : Str) (md : Int) (hs h' : Heap) (r : Value) : Prop := ∃ a t1 t2 t3, r = .ref a ∧ h'.get? a = some (tupO [.int f t1, .str nm t2, .int md t3]) ∧ hs.get? a = none
theorem draw_con (w : World) (x y : Int) (t u : Tok) (hx : 0 ≤ x) (hx' : x < 1000000) (hy : 0 < y) (hy' : y < 100) : Con w 279 [.int x t, .int y u] 1 (fun _ => True) (IsDraw (x.fmod y) (nameS x) (modeI x)) := by
  refine con_of [("number", .int x t), ("size", .int y u)] (by k_is) (by k_is) (fun s => BindsTo.of_eq rfl) (locs rfl) ?_ (by decide)
  intro dp un gd outer A₀ base g L' h₁ tk gn dr os mean mg mb R B F N X T hdp hun hpre hret
  k_fold
  k_steps
  all_goals (try dsimp only)
  · rename News _ _ _ _ => N1
    exact hret _ _ _ (Fr.keep (by assumption)) ⟨_, _, _, _, rfl, by rw [show nameS x = "a" from if_pos (by assumption)]; exact (N1 _ List.mem_cons_self).1, (N1 _ List.mem_cons_self).2.2⟩
  · rename News _ _ _ _ => N1
    have e1 : (x.fdiv 20).fmod 3 = 1 := by assumption
    exact hret _ _ _ (Fr.keep (by assumption)) ⟨_, _, _, _, rfl, by rw [show nameS x = "ab" from (if_neg (by rw [e1]; decide)).trans (if_pos e1)]; exact (N1 _ List.mem_cons_self).1, (N1 _ List.mem_cons_self).2.2⟩
  · rename News _ _ _ _ => N1
    have e1 : (x.fdiv 20).fmod 3 = 2 := by assumption
    exact hret _ _ _ (Fr.keep (by assumption)) ⟨_, _, _, _, rfl, by rw [show nameS x = "b" from (if_neg (by rw [e1]; decide)).trans (if_neg (by rw [e1]; decide))]; exact (N1 _ List.mem_cons_self).1, (N1 _ List.mem_cons_self).2.2⟩
end Mine
end partP8
open PySem PySem.W PySem.Calls PyProof.Rows in
theorem Mine.calmP9 {prog : Program} {w : World} {A : Around} {E Q : Value → Shared → Prop} {s : Shared} (h : wpAny (model prog w) A (call (.builtin "zz") []) Q E s) : wpAny (model prog w) A (call (.builtin "zz") []) Q E s := by w_top off; first | (walk1; fail) | exact h
section partP9
open PySem PySem.W PySem.Calls PyProof.Rows
set_option Elab.async false
namespace Mine
set_option maxRecDepth 100000
set_option maxHeartbeats 2000000
theorem warmP9 (w : World) : KK w.params = KK w.params ∧ PySem.Challenge.rw_in0209_01 = PySem.Challenge.rw_in0209_01 := by k_fill; exact ⟨rfl, rfl⟩
theorem two_at {prog : Program} {w : World} {A : Around} {E : Value → Shared → Prop} {s : Shared} {value slice : PySem.Expr} {a : Addr} {x y : Str} {tx ty : Tok} {k : Int} {u : Tok} {Q : Value → Shared → Prop}
    (ht : IsTup s.heap a #[.str x tx, .str y ty]) (h0 : 0 ≤ k) (h1 : k ≤ 1) (h : Q (.str (if k = 0 then x else y) (if k = 0 then tx else ty)) s)
    (hs : subscripted slice false (.ref a) (.int k u) = operate [.ref a, .int k u] (getItem (.ref a) (.int k u)) := by with_unfolding_all rfl) :
    wpAny (model prog w) A (subscriptTail value slice (.ref a) (.int k u)) Q E s := by
  have hk : k = 0 ∨ k = 1 := by omega
  rcases hk with rfl | rfl
  · exact item_tupleT ht (by decide) (by decide) (j := 0) (by rfl) (by rfl) h hs
  · exact item_tupleT ht (by decide) (by decide) (j := 1) (by rfl) (by rfl) h hs
noncomputable def bitAt (bs : List Int) (k : Int) : Int := bs.getD k.toNat 0
noncomputable def signTurn (bs : List Int) (p : Int) (x y : Str) : Str :=
  Txt.item "-r" (bs.getD (p + 2).toNat 0) ++ Txt.item "-w" (bs.getD (p + 1).toNat 0) ++ Txt.item (if bs.getD (9 + p.fdiv 3).toNat 0 = 0 then x else y) (bs.getD p.toNat 0)
noncomputable def kindAt (bs : List Int) : Str := Txt.item "?pc?d?b?-?l?s???" (bs.getD (Int.toNat 12) 0 + 2 * bs.getD (Int.toNat 13) 0 + 4 * bs.getD (Int.toNat 14) 0 + 8 * bs.getD (Int.toNat 15) 0)
noncomputable def signSpec : List (Int × Str × Str) := [(6, "-x", "Ss"), (3, "-x", "Ss"), (0, "-x", "Tt")]
noncomputable def signTo (bs : List Int) : Nat → Str
  | 0 => kindAt bs
  | i + 1 => match signSpec[i]? with
    | some (p, x, y) => signTo bs i ++ signTurn bs p x y
    | none => signTo bs i
theorem signTo_len (bs : List Int) : ∀ i, (signTo bs i).length ≤ 1 + 3 * i
  | 0 => Nat.le_of_eq (len_item _ _)
  | i + 1 => by
    have ih := signTo_len bs i
    unfold signTo
    split
    · simp only [signTurn, Str.length_append, len_item]; omega
    · omega
section
local macro_rules | `(tactic| walk_at "exec For Tuple Tuple cons nil") => `(tactic| refine hold ?_)
local macro_rules | `(tactic| walk_at "pyIter ref") => `(tactic| refine hold ?_)
local macro_rules | `(tactic| walk_at "subscriptTail Name Subscript ref int") => `(tactic| (k_here; (with_unfolding_all refine' two_at (News.tup (by assumption) (List.mem_append_left _ (by assumption)) rfl rfl) (by omega) (by omega) ?_ (by with_unfolding_all rfl)); (try dsimp only)))
local macro_rules | `(tactic| walk_at "last subscriptTail") => `(tactic| (k_here; (with_reducible show wpAny _ _ (subscriptTail _ _ (Value.str (ite _ _ _) _) (Value.int _ _)) _ _ _); (refine item_str (fitsSsize_of (N := 9223372036854775808) (by omega) (by omega) (Int.le_refl _)) (by omega) (by omega) ?_); intro hl9; (try dsimp only)))
theorem signs_con (w : World) (l : Addr) (bs : List Int) (vs : List Value) (hi : IntsAre vs bs) (hl : bs.length = 16) (hb : ∀ k, k < 16 → 0 ≤ bs.getD k 0 ∧ bs.getD k 0 ≤ 1) : ConS w 329 [.ref l] 1 (fun h => h.IsList l vs.toArray) (signTo bs 3) := by
  refine con_of [("bits", .ref l)] (by k_is) (by k_is) (fun s => BindsTo.of_eq rfl) (locs rfl) ?_ (by decide)
  intro dp un gd outer A₀ base g L' h₁ tk gn dr os mean mg mb R B F N X T hdp hun hpre hret
  k_fold
  have b12 := hb (Int.toNat 12) (by decide)
  have b13 := hb (Int.toNat 13) (by decide)
  have b14 := hb (Int.toNat 14) (by decide)
  have b15 := hb (Int.toNat 15) (by decide)
  k_steps
  unfold Hold
  refine lp_for ?_
  k_steps
  rename Fr _ _ _ _ => F1
  rename News _ _ _ _ => N1
  unfold Hold
  have hz : ∃ t, Fr g L' _ (fun y => if y = Str.ofString "text" then some (Value.str (kindAt bs) t) else List.lookup y [(Str.ofString "bits", Value.ref l)].reverse) := ⟨_, F1⟩
  clear F1
  obtain ⟨t0, F1⟩ := hz
  refine lp_tuple rfl (News.tup N1 List.mem_cons_self rfl rfl) (N1 _ List.mem_cons_self).2.1 F1 N1 (fun i m news => news = _ ∧ (∃ t, m (Str.ofString "text") = some (.str (signTo bs i) t)) ∧ ∀ z, z ≠ Str.ofString "place" → z ≠ Str.ofString "last" → z ≠ Str.ofString "text" → m z = List.lookup z [(Str.ofString "bits", Value.ref l)].reverse) ⟨rfl, ⟨_, rfl⟩, by intro z h1 h2 h3; simp [h3]⟩ ?_ ?_
  · rintro i v m₁ news₁ h₁ tk₁ own I hI hi' ⟨hnews, ⟨t, hc⟩, hm⟩ hoff hin hown F₁ N₁
    have F₂ := Fr.as F₁ (map_three rfl rfl hc hm)
    clear F₁
    obtain ⟨p, x, y, pa, qa, tp, ta, tb, rfl, hm1, hm2, hp, hx, hy, hs⟩ : ∃ p x y pa qa tp ta tb, v = .ref pa ∧ (pa, tupO [.int p tp, .ref qa]) ∈ news₁ ∧ (qa, tupO [.str x ta, .str y tb]) ∈ news₁ ∧ (p = 6 ∨ p = 3 ∨ p = 0) ∧ x.length = 2 ∧ y.length = 2 ∧ signSpec[i]? = some (p, x, y) := by
      rw [hnews]
      rcases i with _|_|_|i
      · have hi2 := (Option.some.inj hi').symm; exact ⟨_, _, _, _, _, _, _, _, hi2, by k_mem, by k_mem, .inl rfl, by decide +kernel, by decide +kernel, rfl⟩
      · have hi2 := (Option.some.inj hi').symm; exact ⟨_, _, _, _, _, _, _, _, hi2, by k_mem, by k_mem, .inr (.inl rfl), by decide +kernel, by decide +kernel, rfl⟩
      · have hi2 := (Option.some.inj hi').symm; exact ⟨_, _, _, _, _, _, _, _, hi2, by k_mem, by k_mem, .inr (.inr rfl), by decide +kernel, by decide +kernel, rfl⟩
      · exact absurd hi' (by simp)
    have hT : IsTup h₁ pa #[.int p tp, .ref qa] := News.tup N₁ (List.mem_append_left _ hm1) rfl rfl
    have c4 := hb (9 + p.fdiv 3).toNat (by rcases hp with rfl | rfl | rfl <;> decide)
    have c5 : 0 ≤ 9 + p.fdiv 3 ∧ 9 + p.fdiv 3 < 16 := by rcases hp with rfl | rfl | rfl <;> decide
    have hp0 : 0 ≤ p ∧ p ≤ 6 := by rcases hp with rfl | rfl | rfl <;> decide
    clear hp
    have c1 := hb (p + 2).toNat (by omega)
    have c2 := hb (p + 1).toNat (by omega)
    have c3 := hb p.toNat (by omega)
    have c6 : (if bs.getD (9 + p.fdiv 3).toNat 0 = 0 then x else y).length = 2 := by split <;> assumption
    have c7 := signTo_len bs i
    have c8 : i < 3 := (List.getElem?_eq_some_iff.mp hs).1
    k_steps
    show LEnd _ _ _ _ _ _ _
    refine LEnd.intro news₁ (by assumption) (by assumption) (fun p hp => List.mem_append_right _ hp) (fun p hp => List.mem_append_left _ hp) (fun p hp hI => hoff p hp (List.mem_singleton.mp hI)) ⟨hnews, ⟨?tok, ?e⟩, ?r⟩
    case e => simp only [signTo, hs]; with_unfolding_all rfl
    case r => intro z h1 h2 h3; simp [h1, h2, h3]
  · rintro h' tk m' news' F' N' ⟨hnews, ⟨t, hc⟩, hm⟩
    have F₂ := Fr.as F' (map_three rfl rfl hc hm)
    clear F' F1 N1
    k_steps
    exact hret _ _ _ F₂.keep ⟨_, rfl⟩
end
end Mine
end partP9
section partBc
open PySem PySem.W PySem.Calls PyProof.Rows
set_option Elab.async false
namespace Mine
set_option maxRecDepth 100000
set_option maxHeartbeats 2000000
/-- a def some of whose names are cells -/
theorem con_ofC {w : World} {f : Addr} {vs : List Value} {d : Nat} {Pre : Heap → Prop} {Out : Heap → Heap → Value → Prop}
    {name qual : Str} {params : Arguments} {body : List Stmt} {scope : Scope} {dV kV doc pm cdv ct oc : Value} {an od : Option Addr} {osl : Array (Option Value)} (binds : List (Str × Value))
    (ho : (KK w.params).lookup f = some ⟨oc, od, .func (fnOf name qual params body scope dV kV doc pm an cdv ct), osl⟩) (hcd : codeIn (KK w.params) cdv qual = true)
    (hbind : ∀ s, BindsTo s (fnOf name qual params body scope dV kV doc pm an cdv ct) ⟨vs, []⟩ binds)
    (hkind : (binds.all fun y => scope.names.lookup y.1 == some .local || scope.names.lookup y.1 == some .cell) = true) (hnd : ((cellsFrom 0 scope.names []).map (·.1)).Nodup)
    (h : ∀ (dp un : Nat) (gd : Option (List Code)) (outer : List Env) (A₀ : Around) (base g : Heap) (L' : Addr) (h₁ : Heap) (tk : Nat) (cells : List (Addr × Obj)) (gn dr os) (mean : ExcName → Option Value) (mg mb : Str → Option Value) (R : Value → Shared → Prop),
      Below A₀ base outer g → Fr g L' h₁ (bindL (envOfC qual scope L' f cdv).kindOf binds fun _ => none) → News g L' h₁ cells → CellsAre (bindC (envOfC qual scope L' f cdv).kindOf binds fun _ => none) (cellsFrom (L' + 1) scope.names []) cells →
      (KK w.params).In g → Top VV (looseW VV [Str.ofString "_filemode_table"]) mean mg mb g →
      dp + d < recursionLimit → un + 8 * d < cLine → Pre g → (∀ v h' tk', Grows g h' → Out g h' v → R v ⟨h', gn, dr, tk', os⟩) →
      wpAny (model PySem.Challenge.rw_in0209_01.row.prog w) (ktrTop dp un gd qual scope L' f cdv (cellsFrom (L' + 1) scope.names []) outer) (execs body (envOfC qual scope L' f cdv))
        (fun fl s' => R (match fl with | .ret v => v | _ => .none) s') (fun _ _ => False) ⟨h₁, gn, dr, tk, os⟩)
    (hco : scope.isCoroutine = false := by rfl) (hgen : scope.isGenerator = false := by rfl) (hk : scope.kind = .function := by rfl) :
    Con w f vs (d + 1) Pre Out := by
  intro dp un gd cn cs a ccd cl outer A₀ base h₀ L m mean mg mb s Q E B F X T hck hdp hun hpre hret
  have G := groundX (A := ktrTop dp un gd cn cs L a ccd cl outer) (env := envX cn cs L a ccd cl) (R := fun _ _ => True) B F (news_nil (h := s.heap)) rfl rfl hck
  have Bg : Below (ktrTop dp un gd cn cs L a ccd cl outer) base (envX cn cs L a ccd cl :: outer) s.heap := G.2.1
  have hdp' : dp + 1 + d < recursionLimit := by omega
  have hun' : (un + 3) + 8 * d < cLine := by omega
  have hroom : (ktrTop dp un gd cn cs L a ccd cl outer).depth < recursionLimit := by show dp < recursionLimit; omega
  refine wpAny_call (codeAny_call_function (fd := fnX name qual params body scope [] dV kV doc pm an cdv ct) (body := body) hroom ((X.keeps F.keep) _ _ ho) rfl hco hgen rfl (codeRec_of (X.keeps F.keep) hcd) (hbind s _ _ _ _ ?_))
  refine wpAny_newFunctionEnv_cells hk (kindsX hkind _) fun env' he s' x => ?_
  subst he
  refine ⟨(T.nolimit.keeps F.keep).keeps x.toInCall.keep, codeAny_func ?_⟩
  obtain ⟨h₁, tk, rfl, _⟩ := x.done
  have hk₁ := x.toInCall.keep
  obtain ⟨cells, NC, Y⟩ := Cl.news (h₀ := s.heap) (Nat.le_refl _) fun n c hm => ⟨x.cell n c (lookup_of_mem_nodup (cellsFrom_names scope.names 0 (s.heap.objs.size + 1) [] [] rfl ▸ hnd) hm), x.above n c hm⟩
  have hns := x.toInCall.ns
  clear x
  obtain ⟨hp, gn, dr, tk0, os⟩ := s
  refine wpAny_mono (h (dp + 1) (un + 3) gd (envX cn cs L a ccd cl :: outer) _ base hp _ h₁ tk cells gn dr os mean mg mb (fun v s' => Q v s') Bg ⟨hns, hk₁, Nat.le_refl _⟩ NC Y (X.keeps F.keep) (T.keeps F.keep) hdp' hun' hpre hret)
    (fun fl s' hl => hl) (fun _ _ hf => hf.elim)
end Mine
end partBc
open PySem PySem.W PySem.Calls PyProof.Rows in
theorem Mine.calmP10 {prog : Program} {w : World} {A : Around} {E Q : Value → Shared → Prop} {s : Shared} (h : wpAny (model prog w) A (call (.builtin "zz") []) Q E s) : wpAny (model prog w) A (call (.builtin "zz") []) Q E s := by w_top off; first | (walk1; fail) | exact h
section partP10
open PySem PySem.W PySem.Calls PyProof.Rows
set_option Elab.async false
namespace Mine
set_option maxRecDepth 100000
set_option maxHeartbeats 2000000
theorem warmP10 (w : World) : KK w.params = KK w.params ∧ PySem.Challenge.rw_in0209_01 = PySem.Challenge.rw_in0209_01 := by k_fill; exact ⟨rfl, rfl⟩
noncomputable def worthTo (bs : List Int) (i : Nat) : List Int := ((List.range i).filter fun k => bs.getD k 0 == 1).map fun k => (2 : Int) ^ k
theorem worthTo_succ (bs : List Int) (i : Nat) : worthTo bs (i + 1) = if bs.getD i 0 = 1 then worthTo bs i ++ [(2 : Int) ^ i] else worthTo bs i := by
  unfold worthTo
  rw [List.range_succ, List.filter_append, List.map_append]
  by_cases h : bs.getD i 0 = 1
  · have e : (bs.getD i 0 == 1) = true := by rw [h]; rfl
    rw [if_pos h, List.filter_cons, e, if_pos rfl]; rfl
  · have e : (bs.getD i 0 == 1) = false := by simpa using h
    rw [if_neg h, List.filter_cons, e, if_neg (by decide)]; simp
theorem worthTo_len (bs : List Int) : ∀ i, (worthTo bs i).length ≤ i := fun i => by
  unfold worthTo; rw [List.length_map]; exact Nat.le_trans (List.length_filter_le _ _) (by simp)
theorem intsAre_snoc : ∀ {vs : List Value} {l : List Int} (c : Int) (t : Tok), IntsAre vs l → IntsAre (vs ++ [.int c t]) (l ++ [c])
  | _, _, c, t, .nil => .cons c t .nil
  | _, _, c, t, .cons y u h => .cons y u (intsAre_snoc c t h)
section
local macro_rules | `(tactic| walk_at "CompSrcT") => `(tactic| refine hold ?_)
theorem worth_con (w : World) (l : Addr) (bs : List Int) (vs : List Value) (hi : IntsAre vs bs) (hl : bs.length ≤ 16) : ConI w 334 [.ref l] 1 (fun h => h.IsList l vs.toArray) (worthTo bs bs.length).sum := by
  refine con_ofC [("bits", .ref l)] (by k_is) (by k_is) (fun s => BindsTo.of_eq rfl) (by rfl) (by decide +kernel) ?_
  intro dp un gd outer A₀ base g L' h₁ tk cells gn dr os mean mg mb R B F N Y X T hdp hun hpre hret
  k_cells Y
  (try k_unmd)
  k_fold
  k_steps
  rename IsRange _ _ _ _ _ _ _ _ => rgX
  rename Fr _ _ _ _ => F1
  rename News _ _ _ _ => N1
  unfold Hold
  dsimp only at rgX F1 N1 ⊢
  refine LCt.CompSrcT.range (n := bs.length) rfl F1 N1 rgX (small_one (by decide) (by decide) (by omega) (by omega)) ((rangeSize_nat _ _).trans (by omega)) (by rw [sizeLine_eq]; omega) ?_
  intro g2
  refine compT_inv (fun i ys news => news = _ ∧ IntsAre ys (worthTo bs i)) ⟨rfl, .nil⟩ ?_ ?_
  · rintro i ys news v I oI C oC D m₂ h tk E' hi' ⟨rfl, hys⟩ ⟨tv, rfl⟩ hC hx F N off ne
    dsimp only
    have e0 : (0 + (i : Int)).toNat = i := by omega
    k_steps
    · rename _ = (1 : Int) => hb
      rw [e0] at hb
      refine LCg.CompEnd.intro (by assumption) (by assumption) _ (fun p hp => hp) off trivial ⟨rfl, ?_⟩
      rw [worthTo_succ, if_pos hb, e0]; exact intsAre_snoc _ _ hys
    · rename _ ≠ (1 : Int) => hb
      rw [e0] at hb
      refine LCg.CompEnd.intro (by assumption) (by assumption) _ (fun p hp => hp) off trivial ⟨rfl, ?_⟩
      rw [worthTo_succ, if_neg hb]; exact hys
  · rintro ys news ⟨rfl, hys⟩
    clear F1 N1
    unfold LCg.FinE
    intro D h tk F N o1
    dsimp only
    k_steps
    exact hret _ _ _ (Fr.keep (by assumption)) ⟨_, rfl⟩
end
end Mine
end partP10
section partLw
open PySem PySem.W PySem.Calls PyProof.Rows
set_option Elab.async false
namespace Mine
set_option maxRecDepth 100000
set_option maxHeartbeats 2000000
section
/-- a while's turn comes to its end: the measure has fallen, the frame and the ledger are as they must be -/
noncomputable def WEnd (h₀ : Heap) (L : Addr) (J : Nat → (Str → Option Value) → List (Addr × Obj) → Prop) (k : Nat) (s₁ s₂ : Shared) : Prop :=
  ∃ k' h' tk m' news', k' < k ∧ s₂ = { s₁ with heap := h', toks := tk } ∧ Fr h₀ L h' m' ∧ News h₀ L h' news' ∧ J k' m' news'
noncomputable def WPost (h₀ : Heap) (L : Addr) (J : Nat → (Str → Option Value) → List (Addr × Obj) → Prop) (k : Nat) (s₁ : Shared) (Q : Flow → Shared → Prop) (f : Flow) (s₂ : Shared) : Prop :=
  match f with
  | .ret v => Q (.ret v) s₂
  | .brk => Q .next s₂
  | _ => WEnd h₀ L J k s₁ s₂
theorem WEnd.intro {h₀ : Heap} {L : Addr} {J : Nat → (Str → Option Value) → List (Addr × Obj) → Prop} {k : Nat} {s₁ : Shared} {h' : Heap} {tk : Nat} {m' : Str → Option Value} {news' : List (Addr × Obj)}
    (F : Fr h₀ L h' m') (N : News h₀ L h' news') (k' : Nat) (hk : k' < k) (hj : J k' m' news') : WEnd h₀ L J k s₁ { s₁ with heap := h', toks := tk } :=
  ⟨k', h', tk, m', news', hk, rfl, F, N, hj⟩
variable {prog : Program} {w : World} {A : Around} {E : Value → Shared → Prop} {s : Shared} {env : Env} {h₀ : Heap} {test : Expr} {body orelse : List Stmt} {Q : Flow → Shared → Prop} {pos : Pos}
theorem lp_while {m : Str → Option Value} {news : List (Addr × Obj)} (F : Fr h₀ env.locals s.heap m) (N : News h₀ env.locals s.heap news)
    (J : Nat → (Str → Option Value) → List (Addr × Obj) → Prop) (n : Nat) (h0 : J n m news)
    (turn : ∀ k m₁ news₁ h₁ tk₁, J k m₁ news₁ → Fr h₀ env.locals h₁ m₁ → News h₀ env.locals h₁ news₁ →
      wpAny (model prog w) A (isTrue test env (eval test env)) (fun b s₂ => if b = true then wpAny (model prog w) A (execs body env) (WPost h₀ env.locals J k { s with heap := h₁, toks := tk₁ } Q) (fun _ _ => False) s₂
        else wpAny (model prog w) A (execs orelse env) Q (fun _ _ => False) s₂) (fun _ _ => False) { s with heap := h₁, toks := tk₁ }) :
    wpAny (model prog w) A (exec (.While test body orelse pos) env) Q E s := by
  refine wpAny_While (codeAny_whileLoop (fun k s' => ∃ h' tk m' news', s' = { s with heap := h', toks := tk } ∧ Fr h₀ env.locals h' m' ∧ News h₀ env.locals h' news' ∧ J k m' news') ?_ n ⟨s.heap, s.toks, m, news, rfl, F, N, h0⟩)
  rintro k s' ⟨h', tk, m', news', rfl, F', N', hJ⟩
  refine wpAny_mono (turn k m' news' h' tk hJ F' N') (fun b s₂ h₂ => ?_) fun _ _ e => e.elim
  cases b with
  | false =>
    simp only [Bool.false_eq_true, if_false] at h₂ ⊢
    exact wpAny_mono h₂ (fun _ _ x => x) fun _ _ e => e.elim
  | true =>
    simp only [if_true] at h₂ ⊢
    refine wpAny_mono h₂ (fun f s₃ h₃ => ?_) fun _ _ e => e.elim
    have fin : WEnd h₀ env.locals J k { s with heap := h', toks := tk } s₃ → ∃ m, m < k ∧ ∃ h' tk m' news', s₃ = { s with heap := h', toks := tk } ∧ Fr h₀ env.locals h' m' ∧ News h₀ env.locals h' news' ∧ J m m' news' := by
      rintro ⟨k', h₃', tk₃, m₃, news₃, hk, rfl, F₃, N₃, hJ₃⟩
      exact ⟨k', hk, h₃', tk₃, m₃, news₃, rfl, F₃, N₃, hJ₃⟩
    cases f with
    | ret v => exact h₃
    | brk => exact h₃
    | cont => exact fin h₃
    | next => exact fin h₃
end
/-- rows: (father, name, mode), and how they lie in the heap -/
abbrev Row := Int × Str × Int
abbrev rowO (r : Row) (t1 t2 t3 : Tok) : Obj := tupO [.int r.1 t1, .str r.2.1 t2, .int r.2.2 t3]
noncomputable def RowIs (h : Heap) (v : Value) (r : Row) : Prop := ∃ a t1 t2 t3, v = .ref a ∧ h.get? a = some (rowO r t1 t2 t3)
noncomputable def RowsAre (h : Heap) (vs : List Value) (rs : List Row) : Prop := vs.length = rs.length ∧ ∀ (k : Nat) r, rs[k]? = some r → ∃ v, vs[k]? = some v ∧ RowIs h v r
theorem RowIs.keeps {h h' : Heap} {v : Value} {r : Row} (x : RowIs h v r) (g : ∀ b o, h.get? b = some o → h'.get? b = some o) : RowIs h' v r := by
  obtain ⟨a, t1, t2, t3, rfl, e⟩ := x
  exact ⟨a, t1, t2, t3, rfl, g _ _ e⟩
theorem RowsAre.keeps {h h' : Heap} {vs : List Value} {rs : List Row} (x : RowsAre h vs rs) (g : ∀ b o, h.get? b = some o → h'.get? b = some o) : RowsAre h' vs rs :=
  ⟨x.1, fun k r e => by obtain ⟨v, hv, y⟩ := x.2 k r e; exact ⟨v, hv, y.keeps g⟩⟩
/-- the father of row k -/
noncomputable def fatherOf (rs : List Row) (k : Int) : Int := (rs.getD k.toNat (0, "", 0)).1
/-- each row's father stands ahead of it -/
noncomputable def RowsOk (rs : List Row) : Prop := 0 < rs.length ∧ rs.length < 100 ∧ ∀ k : Int, 0 ≤ k → k < rs.length → 0 ≤ fatherOf rs k ∧ (k = 0 ∨ fatherOf rs k < k)
/-- the chain up from k, n steps at the most -/
noncomputable def chainN (rs : List Row) : Nat → Int → List Int
  | 0, k => [k]
  | n + 1, k => if k = 0 then [k] else k :: chainN rs n (fatherOf rs k)
noncomputable def chainOf (rs : List Row) (k : Int) : List Int := chainN rs k.toNat k
end Mine
end partLw
open PySem PySem.W PySem.Calls PyProof.Rows in
theorem Mine.calmC1 {prog : Program} {w : World} {A : Around} {E Q : Value → Shared → Prop} {s : Shared} (h : wpAny (model prog w) A (call (.builtin "zz") []) Q E s) : wpAny (model prog w) A (call (.builtin "zz") []) Q E s := by w_top off; first | (walk1; fail) | exact h
section partC1
open PySem PySem.W PySem.Calls PyProof.Rows
set_option Elab.async false
namespace Mine
set_option maxRecDepth 100000
set_option maxHeartbeats 2000000
theorem warmC1 (w : World) : KK w.params = KK w.params ∧ PySem.Challenge.rw_in0209_01 = PySem.Challenge.rw_in0209_01 := by k_fill; exact ⟨rfl, rfl⟩
section
variable {prog : Program} {w : World} {A : Around} {E : Value → Shared → Prop} {s : Shared} {value slice : PySem.Expr} {Q : Value → Shared → Prop}
theorem last_at {l : Addr} {vs : List Value} {pre : List Int} {c : Int} {u : Tok} (hl : s.heap.IsList l vs.toArray) (hi : IntsAre vs (pre ++ [c])) (hn : pre.length < 1000) (h : ∀ t, Q (.int c t) s)
    (hs : subscripted slice false (.ref l) (.int (-1) u) = operate [.ref l, .int (-1) u] (getItem (.ref l) (.int (-1) u)) := by with_unfolding_all rfl) :
    wpAny (model prog w) A (subscriptTail value slice (.ref l) (.int (-1) u)) Q E s := by
  have e : (-1 + (((pre ++ [c]).length : Nat) : Int)).toNat = pre.length := by rw [List.length_append, List.length_singleton]; omega
  refine item_list_ints_negR hl hi (by decide) (by rw [List.length_append, List.length_singleton]; omega) (by decide) (fun t => ?_) hs
  have : (pre ++ [c]).getD (-1 + (((pre ++ [c]).length : Nat) : Int)).toNat 0 = c := by rw [e]; simp
  rw [this]; exact h t
theorem rows_at {h₀ : Heap} {l : Addr} {vs : List Value} {rs : List Row} {k : Int} {u : Tok} (hl : s.heap.IsList l vs.toArray) (hr : RowsAre h₀ vs rs) (h0 : 0 ≤ k) (h1 : k < rs.length) (hn : rs.length < 1000)
    (h : ∀ a t1 t2 t3, h₀.get? a = some (rowO (rs.getD k.toNat (0, "", 0)) t1 t2 t3) → Q (.ref a) s)
    (hs : subscripted slice false (.ref l) (.int k u) = operate [.ref l, .int k u] (getItem (.ref l) (.int k u)) := by with_unfolding_all rfl) :
    wpAny (model prog w) A (subscriptTail value slice (.ref l) (.int k u)) Q E s := by
  have hlt : k.toNat < rs.length := by omega
  obtain ⟨v, hv, a, t1, t2, t3, rfl, ha⟩ := hr.2 k.toNat (rs.getD k.toNat (0, "", 0)) (by rw [List.getD_eq_getElem?_getD, List.getElem?_eq_getElem hlt]; rfl)
  exact tail_any hl.typeIs slot_list_getitem.lookup (wpAny_getItem_list hl h0 (by omega) (by simpa using hv) (h a t1 t2 t3 ha)) hs
theorem fr_list {h₀ h : Heap} {L l : Addr} {m : Str → Option Value} {vs : Array Value} (x : h₀.IsList l vs) (F : Fr h₀ L h m) : h.IsList l vs := x.at fun o e => F.keep l o e
theorem row0_at {h₀ : Heap} {L a : Addr} {m : Str → Option Value} {r : Row} {t1 t2 t3 u : Tok} (ha : h₀.get? a = some (rowO r t1 t2 t3)) (F : Fr h₀ L s.heap m) (h : Q (.int r.1 t1) s)
    (hs : subscripted slice false (.ref a) (.int 0 u) = operate [.ref a, .int 0 u] (getItem (.ref a) (.int 0 u)) := by with_unfolding_all rfl) :
    wpAny (model prog w) A (subscriptTail value slice (.ref a) (.int 0 u)) Q E s :=
  item_tupleT (l := [.int r.1 t1, .str r.2.1 t2, .int r.2.2 t3]) ⟨_, F.keep _ _ ha, rfl, _, rfl⟩ (by decide) (by decide) (j := 0) (by rfl) (by rfl) h hs
theorem row2_at {h₀ : Heap} {L a : Addr} {m : Str → Option Value} {r : Row} {t1 t2 t3 u : Tok} (ha : h₀.get? a = some (rowO r t1 t2 t3)) (F : Fr h₀ L s.heap m) (h : Q (.int r.2.2 t3) s)
    (hs : subscripted slice false (.ref a) (.int 2 u) = operate [.ref a, .int 2 u] (getItem (.ref a) (.int 2 u)) := by with_unfolding_all rfl) :
    wpAny (model prog w) A (subscriptTail value slice (.ref a) (.int 2 u)) Q E s :=
  item_tupleT (l := [.int r.1 t1, .str r.2.1 t2, .int r.2.2 t3]) ⟨_, F.keep _ _ ha, rfl, _, rfl⟩ (by decide) (by decide) (j := 2) (by rfl) (by rfl) h hs
end
abbrev lstO (vs : List Value) (n : Nat) : Obj := { cls := .type "list", data := .seq vs.toArray n }
theorem listOf_push (vs : List Value) (v : Value) (n : Nat) : PySem.W.listOf (vs.toArray.push v) n = lstO (vs ++ [v]) n := by
  unfold PySem.W.listOf lstO; simp
theorem chainN_cons (rs : List Row) : ∀ (n : Nat) (k : Int), k ≠ 0 → chainN rs (n + 1) k = k :: chainN rs n (fatherOf rs k) := fun n k h => by rw [chainN, if_neg h]
theorem chainN_enough {rs : List Row} (ok : RowsOk rs) : ∀ (n : Nat) (k : Int), 0 ≤ k → k < rs.length → k.toNat ≤ n → chainN rs n k = chainN rs k.toNat k
  | 0, k, h0, _, hn => by have : k.toNat = 0 := by omega
                          rw [this]
  | n + 1, k, h0, h1, hn => by
    by_cases hk : k = 0
    · subst hk; rw [chainN, if_pos rfl]; rfl
    · obtain ⟨f0, f1⟩ := ok.2.2 k h0 h1
      have hf : fatherOf rs k < k := f1.resolve_left hk
      obtain ⟨j, hj⟩ : ∃ j, k.toNat = j + 1 := ⟨k.toNat - 1, by omega⟩
      rw [hj, chainN_cons _ _ _ hk, chainN_cons _ _ _ hk, chainN_enough ok n _ f0 (by omega) (by omega), chainN_enough ok j _ f0 (by omega) (by omega)]
theorem chainOf_step {rs : List Row} (ok : RowsOk rs) {k : Int} (h0 : 0 ≤ k) (h1 : k < rs.length) (hk : k ≠ 0) : chainOf rs k = k :: chainOf rs (fatherOf rs k) := by
  obtain ⟨f0, f1⟩ := ok.2.2 k h0 h1
  have hf : fatherOf rs k < k := f1.resolve_left hk
  obtain ⟨j, hj⟩ : ∃ j, k.toNat = j + 1 := ⟨k.toNat - 1, by omega⟩
  unfold chainOf
  rw [hj, chainN_cons _ _ _ hk, chainN_enough ok j _ f0 (by omega) (by omega)]
section
local macro_rules | `(tactic| walk_at "exec While Compare cons nil") => `(tactic| refine hold ?_)
local macro_rules | `(tactic| walk_at "subscriptTail Name Subscript ref int") => `(tactic| (k_here; (with_unfolding_all refine' rows_at (fr_list (by assumption) (by assumption)) (by assumption) (by omega) (by omega) (by omega) ?_ (by with_unfolding_all rfl)); intro a9 t91 t92 t93 ha9; (try dsimp only)))
local macro_rules | `(tactic| walk_at "subscriptTail Name Constant ref int") => `(tactic| (k_here; (with_unfolding_all refine' row0_at (by assumption) (by assumption) ?_ (by with_unfolding_all rfl)); (try dsimp only)))
theorem chain_con (w : World) (l : Addr) (vs : List Value) (rs : List Row) (k : Int) (t : Tok) (ok : RowsOk rs) (h0 : 0 ≤ k) (h1 : k < rs.length) :
    Con w 317 [.ref l, .int k t] 1 (fun h => h.IsList l vs.toArray ∧ RowsAre h vs rs) (fun h h' r => ∃ a ws n, r = .ref a ∧ h.get? a = none ∧ h'.get? a = some (lstO ws n) ∧ IntsAre ws (chainOf rs k)) := by
  refine con_of [("rows", .ref l), ("place", .int k t)] (by k_is) (by k_is) (fun s => BindsTo.of_eq rfl) (locs rfl) ?_ (by decide)
  intro dp un gd outer A₀ base g L' h₁ tk gn dr os mean mg mb R B F N X T hdp hun hpre hret
  k_fold
  obtain ⟨hpl, hpr⟩ := hpre
  k_steps
  rename Fr _ _ _ _ => F1
  rename News _ _ _ _ => N1
  unfold Hold
  refine lp_while F1 N1 (fun n m news => m = _ ∧ ∃ c pre vs' q, news = [(_, lstO vs' q)] ∧ IntsAre vs' (pre ++ [c]) ∧ chainOf rs k = pre ++ chainOf rs c ∧ 0 ≤ c ∧ c < rs.length ∧ c.toNat = n ∧ pre.length + n ≤ 100) k.toNat ⟨rfl, k, [], _, 0, rfl, .cons _ _ .nil, rfl, h0, h1, rfl, by have := ok.2.1; simp; omega⟩ ?_
  rintro n m₁ news₁ h₁ tk₁ ⟨rfl, c, pre, vs', q, rfl, hi, hc, c0, c1, cn, hlen⟩ F₁ N₁
  clear F1 N1
  have hlt := ok.2.1
  have hsz : vs'.toArray.size ≤ sizeLine := by rw [List.size_toArray, hi.length, List.length_append, List.length_singleton, sizeLine_eq]; omega
  k_steps
  · have hf := ok.2.2 c c0 c1
    have hf2 : fatherOf rs c < c := hf.2.resolve_left (by assumption)
    show WEnd _ _ _ _ _ _
    refine WEnd.intro (by assumption) (by assumption) (fatherOf rs c).toNat (by omega) ⟨rfl, fatherOf rs c, pre ++ [c], _, _, congrArg (fun o => [(_, o)]) (listOf_push _ _ _), intsAre_snoc _ _ hi, ?c, by omega, by omega, rfl, by rw [List.length_append, List.length_singleton]; omega⟩
    case c => rw [hc, chainOf_step ok c0 c1 (by assumption), List.append_assoc]; rfl
  · rename c = 0 => hc0
    subst hc0
    exact hret _ _ _ F₁.keep ⟨_, _, _, rfl, (N₁ _ List.mem_cons_self).2.2, (N₁ _ List.mem_cons_self).1, by rw [hc]; exact hi⟩
end
end Mine
end partC1
section partNu
open PySem PySem.W PySem.Calls PyProof.Rows
set_option Elab.async false
namespace Mine
set_option maxRecDepth 100000
set_option maxHeartbeats 2000000
noncomputable def Off1 (a : Addr) : List (Addr × Obj) → Prop
  | [] => True
  | p :: r => @Ne Nat p.1 a ∧ Off1 a r
theorem off1_of {a : Addr} {l : List (Addr × Obj)} (h : ∀ p ∈ l, p.1 ≠ a) : Off1 a l := by
  induction l with
  | nil => exact trivial
  | cons p r ih => exact ⟨h p List.mem_cons_self, ih fun q hq => h q (List.mem_cons_of_mem _ hq)⟩
theorem Off1.off {a : Addr} {l : List (Addr × Obj)} (h : Off1 a l) : ∀ p ∈ l, p.1 ≠ a := by
  induction l with
  | nil => exact fun _ hp => nomatch hp
  | cons p r ih =>
    intro q hq
    rcases List.mem_cons.mp hq with e | e
    · rw [e]; exact h.1
    · exact ih h.2 q e
/-- a call that hands back a thing it has made -/
abbrev ConO (w : World) (f : Addr) (vs : List Value) (d : Nat) (Pre : Heap → Prop) (P : Obj → Prop) : Prop := Con w f vs d Pre fun h h' r => ∃ a o, r = .ref a ∧ h.get? a = none ∧ h'.get? a = some o ∧ P o
theorem ConO.use {w : World} {f : Addr} {vs : List Value} {d : Nat} {Pre : Heap → Prop} {dp un : Nat} {gd : Option (List Code)} {cn : Str} {cs : Scope} {a : Addr} {ccd : Value} {cl : List (Str × Addr)} {outer : List Env} {A₀ : Around} {base h₀ : Heap} {L : Addr} {m : Str → Option Value}
    {mean : ExcName → Option Value} {mg mb : Str → Option Value} {s : Shared} {Q E : Value → Shared → Prop} {news : List (Addr × Obj)} {P : Obj → Prop}
    (C : ConO w f vs d Pre P) (B : Below A₀ base outer h₀) (F : Fr h₀ L s.heap m) (X : (KK w.params).In h₀) (T : Top VV (looseW VV [Str.ofString "_filemode_table"]) mean mg mb h₀) (hck : cs.kind = .function)
    (N : News h₀ L s.heap news) (hdp : dp + d < recursionLimit) (hun : un + 8 * d < cLine) (hpre : Pre s.heap)
    (ret : ∀ a o h' tk', P o → Fr h₀ L h' m → News h₀ L h' ((a, o) :: news) → Grows s.heap h' → Off1 a news → Q (.ref a) { s with heap := h', toks := tk' }) :
    wpAny (model PySem.Challenge.rw_in0209_01.row.prog w) (ktrTop dp un gd cn cs L a ccd cl outer) (call (.ref f) vs) Q E s :=
  Con.use C B F X T hck N hdp hun hpre fun r h' tk' F' N' G O => by
    obtain ⟨a, o, rfl, hn, ho, hp⟩ := O
    refine ret a o h' tk' hp F' (fun p hq => ?_) G (off1_of fun p hq e => ?_)
    · rcases List.mem_cons.mp hq with e | e
      · subst e
        refine ⟨ho, fun e => ?_, ?_⟩
        · obtain ⟨o', _, _, ho', _⟩ := F.ns
          rw [← e] at ho'; exact absurd (ho'.symm.trans hn) (fun x => nomatch x)
        · cases hg : h₀.get? a with
          | none => rfl
          | some o' => have := F.keep _ _ hg; rw [hn] at this; cases this
      · exact N' p e
    · have := (N p hq).1; rw [e, hn] at this; cases this
theorem ConO.useH {w : World} {f : Addr} {vs : List Value} {d : Nat} {Pre : Heap → Prop} {dp un : Nat} {gd : Option (List Code)} {cn : Str} {cs : Scope} {a : Addr} {ccd : Value} {cl : List (Str × Addr)} {outer : List Env} {A₀ : Around} {base h₀ : Heap} {L : Addr} {m : Str → Option Value}
    {mean : ExcName → Option Value} {mg mb : Str → Option Value} {s : Shared} {Q E : Value → Shared → Prop} {news : List (Addr × Obj)} {P : Obj → Prop}
    (C : ConO w f vs d Pre P)
    (ret : ∀ a o h' tk', P o → Fr h₀ L h' m → News h₀ L h' ((a, o) :: news) → Grows s.heap h' → Off1 a news → Q (.ref a) { s with heap := h', toks := tk' }) (H : Here w A₀ base outer h₀ L s.heap m mean mg mb cs news dp un d := by walk_at "u9") (hpre : Pre s.heap := by trivial) :
    wpAny (model PySem.Challenge.rw_in0209_01.row.prog w) (ktrTop dp un gd cn cs L a ccd cl outer) (call (.ref f) vs) Q E s := ConO.use C H.B H.F H.X H.T H.hck H.N H.hdp H.hun hpre ret
theorem draw_conO (w : World) (x y : Int) (t u : Tok) (hx : 0 ≤ x) (hx' : x < 1000000) (hy : 0 < y) (hy' : y < 100) : ConO w 279 [.int x t, .int y u] 1 (fun _ => True) (fun o => ∃ t1 t2 t3, o = rowO (x.fmod y, nameS x, modeI x) t1 t2 t3) :=
  (draw_con w x y t u hx hx' hy hy').mono (fun _ h => h) fun h h' v _ _ ⟨a, t1, t2, t3, e, e1, e2⟩ => ⟨a, _, e, e2, e1, t1, t2, t3, rfl⟩
theorem chain_conO (w : World) (l : Addr) (vs : List Value) (rs : List Row) (k : Int) (t : Tok) (ok : RowsOk rs) (h0 : 0 ≤ k) (h1 : k < rs.length) :
    ConO w 317 [.ref l, .int k t] 1 (fun h => h.IsList l vs.toArray ∧ RowsAre h vs rs) (fun o => ∃ ws n, o = lstO ws n ∧ IntsAre ws (chainOf rs k)) :=
  (chain_con w l vs rs k t ok h0 h1).mono (fun _ h => h) fun h h' v _ _ ⟨a, ws, n, e, e1, e2, e3⟩ => ⟨a, _, e, e1, e2, ws, n, rfl, e3⟩
end Mine
end partNu
section partTs
open PySem PySem.W PySem.Calls PyProof.Rows
set_option Elab.async false
namespace Mine
set_option maxRecDepth 100000
set_option maxHeartbeats 2000000
section
open PyProof.Rows
variable {prog : Program} {w : World} {A : Around} {E : Value → Shared → Prop} {s : Shared} {h₀ : Heap} {L : Addr} {m : Str → Option Value} {news : List (Addr × Obj)}
/-- the first two of three -/
theorem slice2_applied {sl : Addr} {u : Tok} {Q : Int × Int × Nat → Shared → Prop} (hs : s.heap.IsSliceOf sl .none (.int 2 u) .none) (h : Q (0, 1, 2) s) :
    wpAny (model prog w) A (Builtin.Slice.sliceApplied (.ref sl) (pure (3 : Int))) Q E s := by
  obtain ⟨os, hos, hcs, hds⟩ := id hs
  unfold Builtin.Slice.sliceApplied Builtin.Slice.sliceFields
  refine wpAny_bind (wpAny_bind (wpAny_field hos hds (x := .none) rfl (wpAny_bind (wpAny_field hos hds (x := .int 2 u) rfl (wpAny_bind (wpAny_field hos hds (x := .none) rfl (wpAny_pure ?_)))))))
  refine wpAny_bind (slicePart_none ?_)
  show wpAny _ _ (if ((1 : Int) == 0) = true then _ else _) _ _ s
  rw [if_neg (by decide)]
  refine wpAny_bind (slicePart_none (wpAny_bind (slicePart_int (wpAny_bind (wpAny_pure ?_)))))
  show wpAny _ _ (match Builtin.Slice.sliceAdjust none (some (2 : Int)) 1 (3 : Int) with | (lo, hi) => pure (lo, (1 : Int), Builtin.Slice.slicePlaces lo hi 1)) _ _ s
  rw [show Builtin.Slice.sliceAdjust none (some (2 : Int)) 1 (3 : Int) = (0, 2) by decide]
  show wpAny _ _ (pure ((0 : Int), (1 : Int), Builtin.Slice.slicePlaces (0 : Int) 2 1)) _ _ s
  rw [show Builtin.Slice.slicePlaces (0 : Int) 2 1 = 2 by decide]
  exact wpAny_pure h
theorem slice2_get {t sl : Addr} {x y z : Value} {u : Tok} {Q : Value → Shared → Prop} (ht : IsTup s.heap t #[x, y, z]) (hs : s.heap.IsSliceOf sl .none (.int 2 u) .none)
    (h : Q (.ref s.heap.objs.size) { s with heap := s.heap.push (tupO [x, y]) }) : wpAny (model prog w) A (getItem (.ref t) (.ref sl)) Q E s := by
  have hTs : s.TypeIs (.ref sl) "slice" := by obtain ⟨os, hos, hcs, _⟩ := id hs; exact ⟨os, hos, hcs⟩
  have hok : sizeOk (.seq [x, y].toArray) := by show (2 : Nat) ≤ sizeLine; rw [sizeLine_eq]; decide
  unfold getItem
  try with_reducible refine wpAny_holding ?_
  first | refine wpAny_bind (wpAny_pure ?_) | skip
  refine wpAny_bind (wpAny_sequenceKey ht.typeIs (by decide) ?_)
  refine wpAny_bind (wpAny_callSpecial?_slot (name := Str.ofString "__getitem__") ht.typeIs slot_tuple_getitem
    (wpAny_call_entry slot_tuple_getitem ht.typeIs entry_tuple_getitem ?_ (args_tuple_getitem _ _)))
  show wpAny _ _ (Builtin.Tuple.tupleItemsOf (.ref t) >>= _) _ _ s
  refine wpAny_bind (tupleItemsOf_ ht ?_)
  refine wpAny_bind (wpAny_typeOf hTs ?_)
  rw [if_pos (by decide)]
  refine wpAny_bind (slice2_applied hs ?_)
  show wpAny _ _ (if ((0 : Int) == 0 && (1 : Int) == 1 && (2 : Nat) == 3) = true then _ else _) _ _ s
  rw [if_neg (by decide)]
  first
    | exact wpAny_bind (m := Builtin.Tuple.tupleExact _) (wpAny_newObj_type (wpAny_pure ⟨_, rfl, wpAny_pure h⟩) hok)
    | exact wpAny_bind (m := Builtin.Tuple.tupleExact _) (wpAny_newObj_type (wpAny_bind (wpAny_pure (wpAny_pure ⟨_, rfl, wpAny_pure h⟩))) hok)
    | exact wpAny_bind (wpAny_bind (m := Builtin.Tuple.tupleExact _) (wpAny_newObj_type (wpAny_pure (wpAny_pure ⟨_, rfl, wpAny_pure h⟩)) hok))
    | exact wpAny_bind (wpAny_bind (m := Builtin.Tuple.tupleExact _) (wpAny_newObj_type (wpAny_pure ⟨_, rfl, wpAny_pure h⟩) hok))
theorem slice2_at {value slice : PySem.Expr} {t : Addr} {x y z : Value} {u : Tok} {Q : Value → Shared → Prop}
    (F : Fr h₀ L s.heap m) (N : News h₀ L s.heap news) (ht : IsTup s.heap t #[x, y, z])
    (h : ∀ h' b, Fr h₀ L h' m → News h₀ L h' ((b, tupO [x, y]) :: news) → Off1 b news → Q (.ref b) { s with heap := h' })
    (hs : subscripted slice false (.ref t) (.ref s.heap.objs.size) = operate [.ref s.heap.objs.size, .ref t] (getItem (.ref t) (.ref s.heap.objs.size)) := by with_unfolding_all rfl)
    (hg : ∀ r, letTemporaryGo value (.ref t) r = pure () := by intro _; with_unfolding_all rfl) :
    wpAny (model prog w) A (subscriptTail value slice (.ref t) (.ref s.heap.objs.size)) Q E { s with heap := s.heap.push { cls := .type "slice", data := .fields #[.none, .int 2 u, .none] } } := by
  have ht' : IsTup (s.heap.push { cls := .type "slice", data := .fields #[.none, .int 2 u, .none] }) t #[x, y, z] := ht.keeps fun _ _ e => Heap.get?_push_of_some _ e
  refine subscriptTail_ops (s := { s with heap := s.heap.push { cls := .type "slice", data := .fields #[.none, .int 2 u, .none] } }) ht'.typeIs slot_tuple_getitem.lookup
    (slice2_get ht' (Heap.IsSliceOf.new ..) ?_) hs hg
  have N1 := News.push (F.push { cls := .type "slice", data := .fields #[.none, .int 2 u, .none] }) (N.grown fun _ _ e => Heap.get?_push_of_some _ e) (tupO [x, y])
  refine h _ _ ((F.push _).push _) N1 (off1_of fun p hp e => ?_)
  have h1 := Heap.lt_size (N p hp).1
  rw [e, Heap.size_push] at h1
  exact absurd h1 (Nat.not_lt.mpr (Nat.le_succ _))
end
end Mine
end partTs
section partSl
open PySem PySem.W PySem.Calls PyProof.Rows
set_option Elab.async false
namespace Mine
set_option maxRecDepth 100000
set_option maxHeartbeats 2000000
section
open PyProof.Rows
variable {prog : Program} {w : World} {A : Around} {E : Value → Shared → Prop} {s : Shared} {h₀ : Heap} {L : Addr} {m : Str → Option Value}
theorem set_own {lp : Addr} {vs : List Value} {q : Nat} {rest : List (Addr × Obj)} {k : Int} {t : Tok} {v : Value} {Q : Unit → Shared → Prop} (F : Fr h₀ L s.heap m) (N : News h₀ L s.heap ((lp, lstO vs q) :: rest)) (off : ∀ p ∈ rest, p.1 ≠ lp) (h0 : 0 ≤ k) (h1 : k < vs.length) (hl : vs.length < 1000)
    (h : ∀ h', Fr h₀ L h' m → News h₀ L h' ((lp, lstO (vs.set k.toNat v) q) :: rest) → Q () { s with heap := h' }) : wpAny (model prog w) A (setItem (.ref lp) (.int k t) v) Q E s := by
  have z := N _ List.mem_cons_self
  refine ki_setAt (n := q) (items := vs.toArray) z.1 h0 (by omega) (by rw [List.size_toArray]; exact h1) (h _ (F.change (Heap.SameBut.update ..) z.2.1 z.2.2) ?_)
  refine ki_turn (pre := []) (post := rest) (its := vs.toArray) (its' := (vs.set k.toNat v).toArray) (n := q) (n' := q) (·.setIfInBounds k.toNat v) N (fun p hp => nomatch hp) off (by simp) (by simp)
end
end Mine
end partSl
open PySem PySem.W PySem.Calls PyProof.Rows in
theorem Mine.calmC2 {prog : Program} {w : World} {A : Around} {E Q : Value → Shared → Prop} {s : Shared} (h : wpAny (model prog w) A (call (.builtin "zz") []) Q E s) : wpAny (model prog w) A (call (.builtin "zz") []) Q E s := by w_top off; first | (walk1; fail) | exact h
section partC2
open PySem PySem.W PySem.Calls PyProof.Rows
set_option Elab.async false
namespace Mine
set_option maxRecDepth 100000
set_option maxHeartbeats 2000000
theorem warmC2 (w : World) : KK w.params = KK w.params ∧ PySem.Challenge.rw_in0209_01 = PySem.Challenge.rw_in0209_01 := by k_fill; exact ⟨rfl, rfl⟩
local macro_rules | `(tactic| walk_at "call ref") => `(tactic| (with_reducible refine atc 279 ?_; k_dflt (refine' ConO.useH (draw_conO _ _ _ _ _ (by omega) (by omega) (by omega) (by omega)) ?_); rintro a' o' h' tk' ⟨t1',t2',t3',e9'⟩ F' N' G' Z'; (try subst e9'); (try dsimp only [Off1] at Z'); (try dsimp only)))
noncomputable def sameKey (r r' : Row) : Bool := r.1 == r'.1 && r.2.1 == r'.2.1
abbrev row0 : Row := (0, "", 0)
noncomputable def thereTo (rs : List Row) (r : Row) (i : Nat) : List Int := ((List.range i).filter fun (k : Nat) => sameKey (rs.getD (k + 1) row0) r).map fun (k : Nat) => 1 + (k : Int)
theorem thereTo_succ (rs : List Row) (r : Row) (i : Nat) : thereTo rs r (i + 1) = if sameKey (rs.getD (i + 1) row0) r = true then thereTo rs r i ++ [1 + (i : Int)] else thereTo rs r i := by
  unfold thereTo
  rw [List.range_succ, List.filter_append, List.map_append]
  by_cases h : sameKey (rs.getD (i + 1) row0) r = true
  · rw [if_pos h, List.filter_cons, if_pos h]; rfl
  · rw [if_neg h, List.filter_cons, if_neg h]; simp
theorem thereTo_len (rs : List Row) (r : Row) : ∀ i, (thereTo rs r i).length ≤ i := fun i => by
  unfold thereTo; rw [List.length_map]; exact Nat.le_trans (List.length_filter_le _ _) (by simp)
theorem thereTo_in {rs : List Row} {r : Row} {i : Nat} {k : Int} (h : k ∈ thereTo rs r i) : 1 ≤ k ∧ k ≤ i := by
  unfold thereTo at h
  obtain ⟨j, hj, rfl⟩ := List.mem_map.mp h
  have := List.mem_range.mp (List.mem_filter.mp hj).1
  omega
noncomputable def setAll (r : Row) (th : List Int) (rs : List Row) : List Row := th.foldl (fun rs k => rs.set k.toNat r) rs
noncomputable def putRow (rs : List Row) (r : Row) : List Row :=
  setAll r (thereTo rs r (rs.length - 1)) (if thereTo rs r (rs.length - 1) = [] then rs ++ [r] else rs)
noncomputable def rowsStep (rs : List Row) (x : Int) : List Row := putRow rs (x.fmod rs.length, nameS x, modeI x)
noncomputable def rowsOf (ns : List Int) : List Row := ns.foldl rowsStep [(0, "", 16877)]
theorem setAll_len (r : Row) : ∀ (th : List Int) (rs : List Row), (setAll r th rs).length = rs.length
  | [], _ => rfl
  | k :: th, rs => by
    show (setAll r th (rs.set k.toNat r)).length = _
    rw [setAll_len r th, List.length_set]
theorem putRow_len (rs : List Row) (r : Row) : rs.length ≤ (putRow rs r).length ∧ (putRow rs r).length ≤ rs.length + 1 := by
  unfold putRow
  rw [setAll_len]
  split
  · simp
  · omega
theorem rowsOf_snoc (ns : List Int) (x : Int) : rowsOf (ns ++ [x]) = rowsStep (rowsOf ns) x := by unfold rowsOf; rw [List.foldl_append]; rfl
theorem rowsTake_len (ns : List Int) : ∀ i, i ≤ ns.length → 0 < (rowsOf (ns.take i)).length ∧ (rowsOf (ns.take i)).length ≤ i + 1
  | 0, _ => by simp [rowsOf]
  | i + 1, h => by
    have ih := rowsTake_len ns i (by omega)
    rw [List.take_add_one, List.getElem?_eq_getElem (by omega)]
    show 0 < (rowsOf (ns.take i ++ [_])).length ∧ (rowsOf (ns.take i ++ [_])).length ≤ _
    rw [rowsOf_snoc]
    have := putRow_len (rowsOf (ns.take i)) ((ns[i]'(by omega)).fmod (rowsOf (ns.take i)).length, nameS ns[i], modeI ns[i])
    unfold rowsStep
    omega
/-- the rows as the ledger holds them -/
noncomputable def OwnRows (own : List (Addr × Obj)) (vs : List Value) (rs : List Row) : Prop := vs.length = rs.length ∧ ∀ (k : Nat) r, rs[k]? = some r → ∃ a t1 t2 t3, vs[k]? = some (.ref a) ∧ (a, rowO r t1 t2 t3) ∈ own
theorem intsAre_item : ∀ {vs : List Value} {ns : List Int} {i : Nat} {v : Value}, IntsAre vs ns → vs[i]? = some v → ∃ x t, v = .int x t ∧ ns[i]? = some x
  | _, _, 0, _, .cons n t _, h => ⟨n, t, (Option.some.inj h).symm, rfl⟩
  | _, _, i + 1, _, .cons _ _ h', h => intsAre_item (i := i) h' h
theorem OwnRows.mono {own own' : List (Addr × Obj)} {vs : List Value} {rs : List Row} (h : OwnRows own vs rs) (k : ∀ p ∈ own, p ∈ own') : OwnRows own' vs rs :=
  ⟨h.1, fun i r e => by obtain ⟨a, t1, t2, t3, h1, h2⟩ := h.2 i r e; exact ⟨a, t1, t2, t3, h1, k _ h2⟩⟩
theorem OwnRows.set {own : List (Addr × Obj)} {vs : List Value} {rs : List Row} {a : Addr} {r : Row} {t1 t2 t3 : Tok} (h : OwnRows own vs rs) (hm : (a, rowO r t1 t2 t3) ∈ own) (c : Nat) : OwnRows own (vs.set c (.ref a)) (rs.set c r) := by
  refine ⟨by rw [List.length_set, List.length_set, h.1], fun i r' e => ?_⟩
  have hl := h.1
  by_cases hc : c = i
  · subst hc
    have hlt : c < rs.length := by have := (List.getElem?_eq_some_iff.mp e).1; rwa [List.length_set] at this
    rw [List.getElem?_set_self hlt] at e
    have e' := Option.some.inj e
    subst e'
    exact ⟨a, t1, t2, t3, List.getElem?_set_self (by omega), hm⟩
  · rw [List.getElem?_set_ne hc] at e
    obtain ⟨b, u1, u2, u3, h1, h2⟩ := h.2 i r' e
    exact ⟨b, u1, u2, u3, by rw [List.getElem?_set_ne hc]; exact h1, h2⟩
theorem OwnRows.snoc {own : List (Addr × Obj)} {vs : List Value} {rs : List Row} {a : Addr} {r : Row} {t1 t2 t3 : Tok} (h : OwnRows own vs rs) (hm : (a, rowO r t1 t2 t3) ∈ own) : OwnRows own (vs ++ [.ref a]) (rs ++ [r]) := by
  have hl := h.1
  refine ⟨by rw [List.length_append, List.length_append, hl]; rfl, fun i r' e => ?_⟩
  by_cases hi : i < rs.length
  · rw [List.getElem?_append_left hi] at e
    obtain ⟨b, u1, u2, u3, h1, h2⟩ := h.2 i r' e
    exact ⟨b, u1, u2, u3, by rw [List.getElem?_append_left (by omega)]; exact h1, h2⟩
  · have hlt := (List.getElem?_eq_some_iff.mp e).1
    rw [List.length_append, List.length_singleton] at hlt
    have hi' : i = rs.length := by omega
    subst hi'
    rw [List.getElem?_append_right (Nat.le_refl _), Nat.sub_self] at e
    have e' := Option.some.inj e
    subst e'
    exact ⟨a, t1, t2, t3, by rw [← hl, List.getElem?_append_right (Nat.le_refl _), Nat.sub_self]; rfl, hm⟩
theorem ins3 {p a b c : Addr × Obj} {l : List (Addr × Obj)} (h : p ∈ a :: l) : p ∈ a :: b :: c :: l := by
  rcases List.mem_cons.mp h with h | h
  · exact h ▸ List.mem_cons_self
  · exact List.mem_cons_of_mem _ (List.mem_cons_of_mem _ (List.mem_cons_of_mem _ h))
theorem setAll_snoc (r : Row) (l : List Int) (c : Int) (rs : List Row) : setAll r (l ++ [c]) rs = (setAll r l rs).set c.toNat r := by unfold setAll; rw [List.foldl_append]; rfl
/-- the rows that a call has made -/
noncomputable def RowsOut (rs : List Row) (h h' : Heap) (v : Value) : Prop := ∃ lp vs q own, v = .ref lp ∧ OwnRows own vs rs ∧ ∀ p ∈ (lp, lstO vs q) :: own, h.get? p.1 = none ∧ h'.get? p.1 = some p.2
theorem own_off {g h : Heap} {L I l : Addr} {vs : Array Value} {hd own own0 : List (Addr × Obj)} (N : News g L h (hd ++ own ++ own0)) (hl : g.IsList l vs) (hoff : OwnOff own (hd.map (·.1))) (hIn : ∀ p ∈ hd ++ own, p.1 ≠ I) (h0 : ∀ p ∈ own0, p.1 = I ∨ p.1 = l) : OwnOff (own ++ own0) (hd.map (·.1)) := by
  obtain ⟨o, ho, _⟩ := hl
  intro p hp b hb e
  obtain ⟨q, hq, rfl⟩ := List.mem_map.mp hb
  rcases List.mem_append.mp hp with h | h
  · exact hoff p h _ hb e
  · rcases h0 p h with h | h
    · exact hIn q (List.mem_append_left _ hq) (e.symm.trans h)
    · have := (N q (List.mem_append_left _ (List.mem_append_left _ hq))).2.2
      rw [e.symm.trans h, ho] at this; cases this
theorem News.also {g h : Heap} {L a : Addr} {o : Obj} {news : List (Addr × Obj)} (N : News g L h news) (hm : (a, o) ∈ news) : News g L h ((a, o) :: news) := fun p hp => (List.mem_cons.mp hp).elim (fun e => N p (e ▸ hm)) fun e => N p e
theorem eq_nil {prog : Program} {w : World} {dp un : Nat} {gd : Option (List Code)} {cn : Str} {cs : Scope} {L fa : Addr} {ccd : Value} {cl : List (Str × Addr)} {outer : List Env} {E : Value → Shared → Prop} {s : Shared} {a b : Addr} {vs : List Value} {l : List Int} {Q : Value → Shared → Prop}
    (ha : s.heap.IsList a vs.toArray) (hb : s.heap.IsList b #[]) (hi : IntsAre vs l) (hu : un < cLine) (h : Q (.bool l.isEmpty) s) : wpAny (model prog w) (ktrTop dp un gd cn cs L fa ccd cl outer) (compareOp .Eq (.ref a) (.ref b)) Q E s := by
  cases hi with
  | nil => exact PySem.SeqAt.eq_listAt (e := fun _ => true) ha hb rfl hu (fun j h1 h2 => absurd h1 (Nat.not_lt_zero _)) h
  | cons n t hh => exact PySem.SeqAt.eq_list_lengthsAt ha hb (by simp) hu h
theorem len_of {prog : Program} {w : World} {A : Around} {E : Value → Shared → Prop} {s : Shared} {l : Addr} {vs : List Value} {n : Nat} {Q : Value → Shared → Prop} (hl : s.heap.IsList l vs.toArray) (e : vs.length = n) (hfit : n < 1000)
    (h : Q (.int n (s.toks + 1)) { s with toks := s.toks + 1 + 1 }) : wpAny (model prog w) A (call (.builtin "len") [.ref l]) Q E s := by
  subst e
  exact call_len_list hl (by rw [List.size_toArray]; omega) (by rw [List.size_toArray]; exact h)
theorem item_own {prog : Program} {w : World} {A : Around} {E : Value → Shared → Prop} {s : Shared} {value slice : PySem.Expr} {l : Addr} {vs : List Value} {k : Int} {u : Tok} {j : Nat} {v : Value} {Q : Value → Shared → Prop} (hl : s.heap.IsList l vs.toArray) (hx : vs[j]? = some v) (e : k = (j : Int)) (hj : j < 1000) (h : Q v s)
    (hs : subscripted slice false (.ref l) (.int k u) = operate [.ref l, .int k u] (getItem (.ref l) (.int k u)) := by with_unfolding_all rfl) :
    wpAny (model prog w) A (subscriptTail value slice (.ref l) (.int k u)) Q E s := by
  subst e
  exact tail_any hl.typeIs slot_list_getitem.lookup (wpAny_getItem_list hl (by omega) (by omega) (by simpa using hx) h) hs
theorem eq_pair {prog : Program} {w : World} {dp un : Nat} {gd : Option (List Code)} {cn : Str} {cs : Scope} {L fa : Addr} {ccd : Value} {cl : List (Str × Addr)} {outer : List Env} {E : Value → Shared → Prop} {s : Shared} {a b : Addr} {r r' : Row} {t u t' u' : Tok} {Q : Value → Shared → Prop}
    (ha : IsTup s.heap a #[.int r.1 t, .str r.2.1 u]) (hb : IsTup s.heap b #[.int r'.1 t', .str r'.2.1 u']) (hu : un < cLine) (h : Q (.bool (sameKey r r')) s) : wpAny (model prog w) (ktrTop dp un gd cn cs L fa ccd cl outer) (compareOp .Eq (.ref a) (.ref b)) Q E s := by
  refine PySem.SeqAt.eq_tupleAt (e := fun j => if j = 0 then r.1 == r'.1 else r.2.1 == r'.2.1) ha hb hu ?_ ?_
  · intro j h1 h2
    have h1' : j < 2 := h1
    rcases j with _|_|j
    · exact PySem.SeqAt.EqAt.int_int _ _ _ _
    · exact PySem.SeqAt.EqAt.str_str _ _ _ _
    · omega
  · have e : ((List.range (min (#[Value.int r.1 t, .str r.2.1 u].size) (#[Value.int r'.1 t', .str r'.2.1 u'].size))).all (fun j => if j = 0 then r.1 == r'.1 else r.2.1 == r'.2.1) && #[Value.int r.1 t, .str r.2.1 u].size == #[Value.int r'.1 t', .str r'.2.1 u'].size) = sameKey r r' := by
      simp [sameKey, List.range_succ]
    rw [e]; exact h
section
local macro_rules | `(tactic| walk_at "setItem ref int") => `(tactic| (k_here; (with_unfolding_all refine' set_own (by k_asm) (by k_asm) (by assumption) (by omega) (by omega) (by omega) ?_); intro h7' F7' N7'; (try dsimp only)))
local macro_rules | `(tactic| walk_at "compareOp Eq ref ref") => `(tactic| (k_here; (with_unfolding_all refine' eq_nil (News.lst (by k_asm) (by k_mem) rfl rfl) (News.lst (by k_asm) (by k_mem) rfl rfl) (by assumption) (by omega) ?_); (try dsimp only)))
local macro_rules | `(tactic| walk_at "compareOp Eq ref ref") => `(tactic| (k_here; (with_unfolding_all refine' eq_pair (News.tup (by k_asm) (by k_mem) rfl rfl) (News.tup (by k_asm) (by k_mem) rfl rfl) (by omega) ?_); (try dsimp only)))
local macro_rules | `(tactic| walk_at "subscriptTail Name Slice ref ref") => `(tactic| (k_here; (with_unfolding_all refine' slice2_at (by k_asm) (by k_asm) (News.tup (by k_asm) (by k_mem) rfl rfl) ?_ (by with_unfolding_all rfl)); intro h7' b7' F7' N7' Z7'; (try dsimp only [Off1] at Z7'); (try dsimp only)))
local macro_rules | `(tactic| walk_at "subscriptTail Name Name ref int") => `(tactic| (k_here; (with_unfolding_all refine' item_own (News.lst (by k_asm) (by k_mem) rfl rfl) (by assumption) (by omega) (by omega) ?_ (by with_unfolding_all rfl)); (try dsimp only)))
local macro_rules | `(tactic| walk_at "call builtin:len") => `(tactic| (k_here; (with_unfolding_all refine' len_of (News.lst (by k_asm) (by k_mem) rfl rfl) (by assumption) (by omega) ?_); (try dsimp only)))
local macro_rules | `(tactic| walk_at "exec For Name Name cons nil") => `(tactic| refine hold ?_)
local macro_rules | `(tactic| walk_at "pyIter ref") => `(tactic| refine hold ?_)
local macro_rules | `(tactic| walk_at "CompSrcT") => `(tactic| refine hold ?_)
theorem rows_con (w : World) (l : Addr) (vs : List Value) (ns : List Int) (hi : IntsAre vs ns) (hl : ns.length ≤ 50) (hx : ∀ x ∈ ns, 0 ≤ x ∧ x < 1000000) :
    Con w 310 [.ref l] 2 (fun h => h.IsList l vs.toArray) (RowsOut (rowsOf ns)) := by
  refine con_ofC [("numbers", .ref l)] (by k_is) (by k_is) (fun s => BindsTo.of_eq rfl) (by rfl) (by decide +kernel) ?_
  intro dp un gd outer A₀ base g L' h₁ tk cells gn dr os mean mg mb R B F N Y X T hdp hun hpre hret
  k_cells Y
  (try k_unmd)
  k_fold
  have hne : l ≠ L' := by
    obtain ⟨o, ho, _⟩ := hpre
    exact Nat.ne_of_lt (Nat.lt_of_lt_of_le (Heap.lt_size ho) F.above)
  k_steps
  rename Fr _ _ _ _ => F1
  rename News _ _ _ _ => N1
  rename_i D' X4 lf0 lp X5 lf h5 oR dR
  unfold Hold
  refine lp_for ?_
  k_steps
  unfold Hold
  obtain ⟨m0, hm0, F1⟩ : ∃ m0, m0 = _ ∧ Fr g L' _ m0 := ⟨_, rfl, F1⟩
  clear hm0
  have N2 : News g L' _ ([(lp, lstO [Value.ref D'] 0), (L' + 1 + 1, _), (L' + 1, oR), (D', rowO (0, "", 16877) _ _ _)]) := fun p hp => N1 p (by simp only [List.mem_cons] at hp ⊢; rcases hp with h | h | h | h | h; exact .inl h; exact .inr (.inr (.inl h)); exact .inr (.inr (.inr (.inl h))); exact .inr (.inl h); exact absurd h List.not_mem_nil)
  refine lp_list rfl (fr_list hpre F1) hne F1 N2 (fun i m news => (∃ vs' q own oX, news = (lp, lstO vs' q) :: (L' + 1 + 1, oX) :: (L' + 1, oR) :: own ∧ (∃ x, oX.data = .cell x) ∧ OwnRows own vs' (rowsOf (ns.take i)) ∧ OwnOff own [lp, L' + 1 + 1, L' + 1]) ∧
    ∀ z, z ≠ Str.ofString "number" → z ≠ Str.ofString "k" → z ≠ Str.ofString "there" → m z = m0 z) ⟨⟨_, _, _, _, rfl, ⟨_, by assumption⟩, ?_, ?_⟩, fun _ _ _ _ => rfl⟩ ?_ ?_ go_name
  · refine ⟨rfl, fun k r e => ?_⟩
    rcases k with _ | k
    · have e' : (0, Str.ofString "", 16877) = r := Option.some.inj e
      subst e'
      exact ⟨D', _, _, _, rfl, List.mem_cons_self⟩
    · exact absurd e (by simp [rowsOf])
  · intro p hp b hb
    rw [List.mem_singleton.mp hp]
    simp only [List.mem_cons, List.not_mem_nil, or_false] at hb
    rcases hb with rfl | rfl | rfl
    · exact Nat.ne_of_lt lf.1
    · exact Nat.ne_of_gt lf0.1
    · exact Nat.ne_of_gt lf0.2
  · rintro i v m₁ news₁ h₁ tk₁ own0 I hI hi' ⟨⟨vs', q, own, oX, rfl, ⟨cx, hcx⟩, hown, hoff⟩, hm⟩ hIn hin hown0 F₁ N₁
    have F₂ := Fr.as F₁ (map_three rfl rfl rfl hm)
    clear F₁
    obtain ⟨x, tx, rfl, hxi⟩ := intsAre_item hi (by simpa using hi')
    have hx1 := hx x (List.mem_of_getElem? hxi)
    have hlt : i < ns.length := (List.getElem?_eq_some_iff.mp hxi).1
    have hrl := rowsTake_len ns i (by omega)
    have hvl := hown.1
    generalize hrs : rowsOf (ns.take i) = rs at *
    have hOO : OwnOff (own ++ own0) [lp, L' + 1 + 1, L' + 1] := own_off (hd := [(lp, lstO vs' q), (L' + 1 + 1, oX), (L' + 1, oR)]) N₁ hpre hoff hIn hown0
    simp only [List.cons_append] at N₁
    clear F1 N1 N2
    have hnn : i < 50 := by omega
    k_steps
    rename IsRange _ _ _ _ _ _ _ _ => rgX
    rename Fr _ _ _ _ => F3
    rename News _ _ _ _ => N3
    unfold Hold
    dsimp only at rgX F3 N3 ⊢
    rename_i aR h7 tk7 t1 t2 t3 G7 Z7 h8 oC F7 N7 dC h9 tk9 ta9 tb9 tc9 a9
    clear F7 N7 G7 a9
    have hRI : aR ≠ I := by obtain ⟨o, ho⟩ := hin; exact fun e => Z7.2.2.2.off _ (List.mem_append_right _ ho) e.symm
    refine LCt.CompSrcT.range (n := rs.length - 1) rfl F3 N3 rgX (small_one (by decide) (by decide) (by omega) (by omega)) ((rangeSize_nat _ _).trans (by omega)) (by rw [sizeLine_eq]; omega) ?_
    intro g2
    refine compT_inv (fun j ys news => news = _ ∧ IntsAre ys (thereTo rs (x.fmod rs.length, nameS x, modeI x) j)) ⟨rfl, .nil⟩ ?_ ?_
    · rintro j ys news v J oJ C oC D m₂ h tk E' hj ⟨rfl, hys⟩ ⟨tv, rfl⟩ hC hxv F N off ne
      dsimp only
      obtain ⟨ra, ta, tb, tc, hva, hra⟩ := hown.2 (j + 1) (rs.getD (j + 1) row0) (by rw [List.getD_eq_getElem?_getD, List.getElem?_eq_getElem (show j + 1 < rs.length by omega)]; rfl)
      have Nr : News g L' h _ := News.also N (a := ra) (o := rowO (rs.getD (j + 1) row0) ta tb tc) (by repeat (first | exact List.mem_append_left _ hra | apply List.mem_cons_of_mem))
      generalize hrj : rs.getD (j + 1) row0 = rj at Nr
      clear N F3 N3
      k_steps
      · rename _ = true => hb
        refine LCg.CompEnd.intro (by assumption) (by assumption) _ (fun p hp => List.mem_cons_of_mem _ (List.mem_cons_of_mem _ (List.mem_cons_of_mem _ hp))) off trivial ⟨rfl, ?_⟩
        rw [thereTo_succ, hrj, if_pos hb]; exact intsAre_snoc _ _ hys
      · rename _ = false => hb
        refine LCg.CompEnd.intro (by assumption) (by assumption) _ (fun p hp => List.mem_cons_of_mem _ (List.mem_cons_of_mem _ (List.mem_cons_of_mem _ hp))) off trivial ⟨rfl, ?_⟩
        rw [thereTo_succ, hrj, if_neg (by rw [hb]; decide)]; exact hys
    · rintro ys news ⟨rfl, hys⟩
      clear F3 N3
      unfold LCg.FinA
      intro D5 h5 tk5 F5 N5 o5
      have hle := thereTo_len rs (x.fmod rs.length, nameS x, modeI x) (rs.length - 1)
      have hin9 := @thereTo_in rs (x.fmod rs.length, nameS x, modeI x) (rs.length - 1)
      generalize hth : thereTo rs (x.fmod rs.length, nameS x, modeI x) (rs.length - 1) = th at hys hle hin9
      simp only [LCg.Off1] at o5
      dsimp only
      have hsz : vs'.toArray.size ≤ sizeLine := by rw [List.size_toArray, hvl, sizeLine_eq]; omega
      have hP : ∀ h6, (∃ vs₁ q₁, OwnRows ((aR, rowO (x.fmod rs.length, nameS x, modeI x) t1 t2 t3) :: own) vs₁ (if th = [] then rs ++ [(x.fmod rs.length, nameS x, modeI x)] else rs) ∧ ∃ l6 n6, News g L' h6 ((l6, n6) :: (D5, LCg.lst ys) :: (aR, rowO (x.fmod rs.length, nameS x, modeI x) t1 t2 t3) :: (lp, lstO vs₁ q₁) :: (L' + 1 + 1, oC) :: (L' + 1, oR) :: (own ++ own0))) →
          ∃ vs₁ q₁, OwnRows ((aR, rowO (x.fmod rs.length, nameS x, modeI x) t1 t2 t3) :: own) vs₁ (if th = [] then rs ++ [(x.fmod rs.length, nameS x, modeI x)] else rs) ∧ News g L' h6 ((lp, lstO vs₁ q₁) :: (L' + 1 + 1, oC) :: (L' + 1, oR) :: (D5, LCg.lst ys) :: (aR, rowO (x.fmod rs.length, nameS x, modeI x) t1 t2 t3) :: (own ++ own0)) := by
        rintro h6 ⟨vs₁, q₁, ho, l6, n6, N⟩
        refine ⟨vs₁, q₁, ho, fun p hp => N p ?_⟩
        simp only [List.mem_cons] at hp ⊢
        rcases hp with h | h | h | h | h | h <;> simp only [h, true_or, or_true]
      have hown' : OwnRows ((aR, rowO (x.fmod rs.length, nameS x, modeI x) t1 t2 t3) :: own) vs' rs := hown.mono fun p hp => List.mem_cons_of_mem _ hp
      k_steps
      all_goals unfold Hold
      all_goals (rename Fr _ _ _ _ => F6; rename News _ _ _ _ => N6)
      all_goals first | (rename List.isEmpty _ = true => hz; rw [listOf_push] at N6; obtain ⟨vs₁, q₁, hR1, N8⟩ := hP _ ⟨vs' ++ [.ref aR], q + 1, by rw [if_pos (List.isEmpty_iff.mp hz)]; exact hown'.snoc List.mem_cons_self, _, _, N6⟩; clear N6 hz) | (rename List.isEmpty _ = false => hz; obtain ⟨vs₁, q₁, hR1, N8⟩ := hP _ ⟨vs', q, by rw [if_neg (fun e => Bool.noConfusion (Eq.trans (Eq.symm hz) (List.isEmpty_iff.mpr e)))]; exact hown', _, _, N6⟩; clear N6 hz)
      all_goals (generalize hrs1 : (if th = [] then rs ++ [(x.fmod rs.length, nameS x, modeI x)] else rs) = rs₁ at hR1)
      all_goals (have hrl1 : rs₁.length ≤ rs.length + 1 := (by subst hrs1; split <;> simp))
      all_goals (have hrl2 : rs.length ≤ rs₁.length := (by subst hrs1; split <;> simp))
      all_goals (have hvl1 := hR1.1)
      all_goals (clear hP hown')
      all_goals (obtain ⟨m6, hm6, F6⟩ : ∃ m6, m6 = _ ∧ Fr g L' _ m6 := ⟨_, rfl, F6⟩)
      all_goals (refine lp_for ?_)
      all_goals (subst hm6)
      all_goals k_steps
      · skip
        unfold Hold
        refine lp_list rfl (News.lst N8 (by k_mem) rfl rfl) (N8 (D5, LCg.lst ys) (by k_mem)).2.1 F6 N8 (fun j m news => (∃ vs₂ q₂, news = (lp, lstO vs₂ q₂) :: (L' + 1 + 1, oC) :: (L' + 1, oR) :: (D5, LCg.lst ys) :: (aR, rowO (x.fmod rs.length, nameS x, modeI x) t1 t2 t3) :: (own ++ own0) ∧ OwnRows ((aR, rowO (x.fmod rs.length, nameS x, modeI x) t1 t2 t3) :: own) vs₂ (setAll (x.fmod rs.length, nameS x, modeI x) (th.take j) rs₁)) ∧
          ∀ z, z ≠ Str.ofString "k" → m z = (if z = Str.ofString "there" then some (.ref D5) else if z = Str.ofString "number" then some (Value.int x tx) else m0 z)) ⟨⟨vs₁, q₁, rfl, hR1⟩, ?_⟩ ?_ ?_ go_name
        · intro z h1
          by_cases h2 : z = Str.ofString "there"
          · simp [h2]
          · by_cases h3 : z = Str.ofString "number"
            · simp [h3]
            · simp [h1, h2, h3]
        · rintro j v m₂ news₂ h₂ tk₂ own₂ I₂ hI₂ hj ⟨⟨vs₂, q₂, rfl, hR2⟩, hm₂⟩ hoff₂ hin₂ hown₂ F₁' N₁'
          obtain ⟨c, tc, rfl, hcj⟩ := intsAre_item hys (by simpa using hj)
          have hc := hin9 (List.mem_of_getElem? hcj)
          have hvl2 := hR2.1
          rw [setAll_len] at hvl2
          have F₂' := Fr.as F₁' (map_one rfl hm₂)
          simp only [List.cons_append] at N₁'
          have hOff : ∀ p ∈ ((L' + 1 + 1, oC) :: (L' + 1, oR) :: (D5, LCg.lst ys) :: (aR, rowO (x.fmod rs.length, nameS x, modeI x) t1 t2 t3) :: (own ++ own0 ++ own₂)), p.1 ≠ lp := by
            intro p hp
            simp only [List.mem_cons, List.mem_append] at hp
            rcases hp with rfl | rfl | rfl | rfl | ((h | h) | h)
            · exact Nat.ne_of_lt lf.2.1
            · exact Nat.ne_of_lt lf.2.2
            · exact Ne.symm o5.2.1
            · exact Ne.symm Z7.1
            · exact hoff p h lp List.mem_cons_self
            · exact hOO p (List.mem_append_right _ h) lp List.mem_cons_self
            · rcases hown₂ p h with h | h
              · rw [h]; exact (hoff₂ (lp, lstO vs₂ q₂) List.mem_cons_self).symm
              · rw [h]; exact Ne.symm o5.2.1
          clear F₁' N8 F6
          k_steps
          show LEnd _ _ _ _ _ _ _
          refine LEnd.intro ((lp, lstO (vs₂.set c.toNat (.ref aR)) q₂) :: (L' + 1 + 1, oC) :: (L' + 1, oR) :: (D5, LCg.lst ys) :: (aR, rowO (x.fmod rs.length, nameS x, modeI x) t1 t2 t3) :: (own ++ own0)) (by assumption) (by assumption) (fun p hp => ?o1) (fun p hp => ?o2) (fun p hp => ?o3) ⟨⟨_, _, rfl, ?j1⟩, ?j2⟩
          case o1 => exact List.mem_cons_of_mem _ (List.mem_cons_of_mem _ (List.mem_cons_of_mem _ (List.mem_cons_of_mem _ (List.mem_cons_of_mem _ (List.mem_append_right _ hp)))))
          case o2 =>
            simp only [List.mem_cons, List.mem_append] at hp ⊢
            rcases hp with h | h | h | h | h | h | h <;> simp only [h, true_or, or_true]
          case o3 =>
            intro hI
            rcases List.mem_cons.mp hp with h | h
            · exact hoff₂ (lp, lstO vs₂ q₂) List.mem_cons_self ((congrArg Prod.fst h).symm.trans (List.mem_singleton.mp hI))
            · exact hoff₂ p (List.mem_cons_of_mem _ h) (List.mem_singleton.mp hI)
          case j1 =>
            rw [List.take_add_one, hcj]
            show OwnRows _ _ (setAll _ (th.take j ++ [c]) rs₁)
            rw [setAll_snoc]
            exact hR2.set List.mem_cons_self c.toNat
          case j2 => intro z h1; simp [h1]
        · rintro h' tk m' news' F' N' ⟨⟨vs₂, q₂, rfl, hR2⟩, hm₂⟩
          have F₂' := Fr.as F' (map_one rfl hm₂)
          have e2 : th.take ys.toArray.size = th := by rw [List.size_toArray, hys.length, List.take_length]
          rw [e2] at hR2
          clear F' N8 F6
          k_steps
          show LEnd _ _ _ _ _ _ _
          refine LEnd.intro ((lp, lstO vs₂ q₂) :: (L' + 1 + 1, oC) :: (L' + 1, oR) :: (aR, rowO (x.fmod rs.length, nameS x, modeI x) t1 t2 t3) :: own) F₂' N' (fun p hp => ?o1) (fun p hp => ?o2) (fun p hp => ?o3) ⟨⟨vs₂, q₂, _, oC, rfl, ⟨_, dC⟩, ?j1, ?j2⟩, ?j3⟩
          case o1 => exact List.mem_cons_of_mem _ (List.mem_cons_of_mem _ (List.mem_cons_of_mem _ (List.mem_cons_of_mem _ (List.mem_cons_of_mem _ (List.mem_append_right _ hp)))))
          case o2 =>
            simp only [List.mem_cons, List.mem_append] at hp ⊢
            rcases hp with h | h | h | h | h <;> simp only [h, true_or, or_true]
          case o3 =>
            intro hI
            have hI' := List.mem_singleton.mp hI
            simp only [List.mem_cons] at hp
            rcases hp with h | h | h | h | h
            · exact hIn (lp, lstO vs' q) List.mem_cons_self ((congrArg Prod.fst h).symm.trans hI')
            · exact hIn (L' + 1 + 1, oX) (List.mem_cons_of_mem _ List.mem_cons_self) ((congrArg Prod.fst h).symm.trans hI')
            · exact hIn (L' + 1, oR) (List.mem_cons_of_mem _ (List.mem_cons_of_mem _ List.mem_cons_self)) ((congrArg Prod.fst h).symm.trans hI')
            · exact hRI ((congrArg Prod.fst h).symm.trans hI')
            · exact hIn p (List.mem_cons_of_mem _ (List.mem_cons_of_mem _ (List.mem_cons_of_mem _ h))) hI'
          case j1 =>
            rw [List.take_add_one, hxi]
            show OwnRows _ _ (rowsOf (ns.take i ++ [x]))
            rw [rowsOf_snoc, hrs]
            unfold rowsStep putRow
            rw [hth, hrs1]
            exact hR2
          case j2 =>
            intro p hp b hb
            rcases List.mem_cons.mp hp with h | h
            · subst h
              simp only [List.mem_cons, List.not_mem_nil, or_false] at hb
              rcases hb with rfl | rfl | rfl
              · exact Ne.symm Z7.1
              · exact Ne.symm Z7.2.1
              · exact Ne.symm Z7.2.2.1
            · exact hoff p h b hb
          case j3 => intro z h1 h2 h3; simp [h1, h2, h3]
      · skip
        unfold Hold
        refine lp_list rfl (News.lst N8 (by k_mem) rfl rfl) (N8 (D5, LCg.lst ys) (by k_mem)).2.1 F6 N8 (fun j m news => (∃ vs₂ q₂, news = (lp, lstO vs₂ q₂) :: (L' + 1 + 1, oC) :: (L' + 1, oR) :: (D5, LCg.lst ys) :: (aR, rowO (x.fmod rs.length, nameS x, modeI x) t1 t2 t3) :: (own ++ own0) ∧ OwnRows ((aR, rowO (x.fmod rs.length, nameS x, modeI x) t1 t2 t3) :: own) vs₂ (setAll (x.fmod rs.length, nameS x, modeI x) (th.take j) rs₁)) ∧
          ∀ z, z ≠ Str.ofString "k" → m z = (if z = Str.ofString "there" then some (.ref D5) else if z = Str.ofString "number" then some (Value.int x tx) else m0 z)) ⟨⟨vs₁, q₁, rfl, hR1⟩, ?_⟩ ?_ ?_ go_name
        · intro z h1
          by_cases h2 : z = Str.ofString "there"
          · simp [h2]
          · by_cases h3 : z = Str.ofString "number"
            · simp [h3]
            · simp [h1, h2, h3]
        · rintro j v m₂ news₂ h₂ tk₂ own₂ I₂ hI₂ hj ⟨⟨vs₂, q₂, rfl, hR2⟩, hm₂⟩ hoff₂ hin₂ hown₂ F₁' N₁'
          obtain ⟨c, tc, rfl, hcj⟩ := intsAre_item hys (by simpa using hj)
          have hc := hin9 (List.mem_of_getElem? hcj)
          have hvl2 := hR2.1
          rw [setAll_len] at hvl2
          have F₂' := Fr.as F₁' (map_one rfl hm₂)
          simp only [List.cons_append] at N₁'
          have hOff : ∀ p ∈ ((L' + 1 + 1, oC) :: (L' + 1, oR) :: (D5, LCg.lst ys) :: (aR, rowO (x.fmod rs.length, nameS x, modeI x) t1 t2 t3) :: (own ++ own0 ++ own₂)), p.1 ≠ lp := by
            intro p hp
            simp only [List.mem_cons, List.mem_append] at hp
            rcases hp with rfl | rfl | rfl | rfl | ((h | h) | h)
            · exact Nat.ne_of_lt lf.2.1
            · exact Nat.ne_of_lt lf.2.2
            · exact Ne.symm o5.2.1
            · exact Ne.symm Z7.1
            · exact hoff p h lp List.mem_cons_self
            · exact hOO p (List.mem_append_right _ h) lp List.mem_cons_self
            · rcases hown₂ p h with h | h
              · rw [h]; exact (hoff₂ (lp, lstO vs₂ q₂) List.mem_cons_self).symm
              · rw [h]; exact Ne.symm o5.2.1
          clear F₁' N8 F6
          k_steps
          show LEnd _ _ _ _ _ _ _
          refine LEnd.intro ((lp, lstO (vs₂.set c.toNat (.ref aR)) q₂) :: (L' + 1 + 1, oC) :: (L' + 1, oR) :: (D5, LCg.lst ys) :: (aR, rowO (x.fmod rs.length, nameS x, modeI x) t1 t2 t3) :: (own ++ own0)) (by assumption) (by assumption) (fun p hp => ?o1) (fun p hp => ?o2) (fun p hp => ?o3) ⟨⟨_, _, rfl, ?j1⟩, ?j2⟩
          case o1 => exact List.mem_cons_of_mem _ (List.mem_cons_of_mem _ (List.mem_cons_of_mem _ (List.mem_cons_of_mem _ (List.mem_cons_of_mem _ (List.mem_append_right _ hp)))))
          case o2 =>
            simp only [List.mem_cons, List.mem_append] at hp ⊢
            rcases hp with h | h | h | h | h | h | h <;> simp only [h, true_or, or_true]
          case o3 =>
            intro hI
            rcases List.mem_cons.mp hp with h | h
            · exact hoff₂ (lp, lstO vs₂ q₂) List.mem_cons_self ((congrArg Prod.fst h).symm.trans (List.mem_singleton.mp hI))
            · exact hoff₂ p (List.mem_cons_of_mem _ h) (List.mem_singleton.mp hI)
          case j1 =>
            rw [List.take_add_one, hcj]
            show OwnRows _ _ (setAll _ (th.take j ++ [c]) rs₁)
            rw [setAll_snoc]
            exact hR2.set List.mem_cons_self c.toNat
          case j2 => intro z h1; simp [h1]
        · rintro h' tk m' news' F' N' ⟨⟨vs₂, q₂, rfl, hR2⟩, hm₂⟩
          have F₂' := Fr.as F' (map_one rfl hm₂)
          have e2 : th.take ys.toArray.size = th := by rw [List.size_toArray, hys.length, List.take_length]
          rw [e2] at hR2
          clear F' N8 F6
          k_steps
          show LEnd _ _ _ _ _ _ _
          refine LEnd.intro ((lp, lstO vs₂ q₂) :: (L' + 1 + 1, oC) :: (L' + 1, oR) :: (aR, rowO (x.fmod rs.length, nameS x, modeI x) t1 t2 t3) :: own) F₂' N' (fun p hp => ?o1) (fun p hp => ?o2) (fun p hp => ?o3) ⟨⟨vs₂, q₂, _, oC, rfl, ⟨_, dC⟩, ?j1, ?j2⟩, ?j3⟩
          case o1 => exact List.mem_cons_of_mem _ (List.mem_cons_of_mem _ (List.mem_cons_of_mem _ (List.mem_cons_of_mem _ (List.mem_cons_of_mem _ (List.mem_append_right _ hp)))))
          case o2 =>
            simp only [List.mem_cons, List.mem_append] at hp ⊢
            rcases hp with h | h | h | h | h <;> simp only [h, true_or, or_true]
          case o3 =>
            intro hI
            have hI' := List.mem_singleton.mp hI
            simp only [List.mem_cons] at hp
            rcases hp with h | h | h | h | h
            · exact hIn (lp, lstO vs' q) List.mem_cons_self ((congrArg Prod.fst h).symm.trans hI')
            · exact hIn (L' + 1 + 1, oX) (List.mem_cons_of_mem _ List.mem_cons_self) ((congrArg Prod.fst h).symm.trans hI')
            · exact hIn (L' + 1, oR) (List.mem_cons_of_mem _ (List.mem_cons_of_mem _ List.mem_cons_self)) ((congrArg Prod.fst h).symm.trans hI')
            · exact hRI ((congrArg Prod.fst h).symm.trans hI')
            · exact hIn p (List.mem_cons_of_mem _ (List.mem_cons_of_mem _ (List.mem_cons_of_mem _ h))) hI'
          case j1 =>
            rw [List.take_add_one, hxi]
            show OwnRows _ _ (rowsOf (ns.take i ++ [x]))
            rw [rowsOf_snoc, hrs]
            unfold rowsStep putRow
            rw [hth, hrs1]
            exact hR2
          case j2 =>
            intro p hp b hb
            rcases List.mem_cons.mp hp with h | h
            · subst h
              simp only [List.mem_cons, List.not_mem_nil, or_false] at hb
              rcases hb with rfl | rfl | rfl
              · exact Ne.symm Z7.1
              · exact Ne.symm Z7.2.1
              · exact Ne.symm Z7.2.2.1
            · exact hoff p h b hb
          case j3 => intro z h1 h2 h3; simp [h1, h2, h3]
  · rintro h' tk m' news' F' N' ⟨⟨vs', q, own, oX, rfl, ⟨cx, hcx⟩, hown, hoff⟩, hm⟩
    have e1 : ns.take vs.toArray.size = ns := by rw [List.size_toArray, hi.length, List.take_length]
    rw [e1] at hown
    have F₂ := Fr.as F' (map_three rfl rfl rfl hm)
    clear F' F1 N1 N2
    k_steps
    exact hret _ _ _ (Fr.keep (by assumption)) ⟨lp, vs', q, own, rfl, hown, fun p hp => ⟨(N' p (ins3 hp)).2.2, (N' p (ins3 hp)).1⟩⟩
end
end Mine
end partC2
section partLk
open PySem PySem.W PySem.Calls PyProof.Rows
set_option Elab.async false
namespace Mine
set_option maxRecDepth 100000
set_option maxHeartbeats 2000000
section
open PyProof.Rows PyProof.Rows.LCg
variable {prog : Program} {w : World} {A : Around} {E : Value → Shared → Prop} {s : Shared} {h₀ : Heap} {L : Addr} {m : Str → Option Value} {env : Env}
theorem neA {a b : Addr} (h : @Ne Nat a b) : a ≠ b := h
noncomputable def CellEnd (h₀ : Heap) (L : Addr) (m : Str → Option Value) (s₁ : Shared) (all : List (Addr × Obj)) (J : Value → Prop) (y : Value) (s₂ : Shared) : Prop :=
  ∃ h' tk, s₂ = { s₁ with heap := h', toks := tk } ∧ Fr h₀ L h' m ∧ News h₀ L h' all ∧ J y
theorem CellEnd.intro {s₁ : Shared} {all all' : List (Addr × Obj)} {J : Value → Prop} {y : Value} {h' : Heap} {tk : Nat} (F : Fr h₀ L h' m) (N : News h₀ L h' all') (sub : ∀ p ∈ all, p ∈ all') (hj : J y) : CellEnd h₀ L m s₁ all J y { s₁ with heap := h', toks := tk } :=
  ⟨h', tk, rfl, F, fun p hp => N p (sub p hp), hj⟩
noncomputable def Off4 (I C B D : Addr) : List (Addr × Obj) → Prop
  | [] => True
  | p :: r => ((@Ne Nat p.1 I) ∧ (@Ne Nat p.1 C) ∧ (@Ne Nat p.1 B) ∧ (@Ne Nat p.1 D)) ∧ Off4 I C B D r
theorem Off4.of {I C B D : Addr} {l : List (Addr × Obj)} (h : ∀ p ∈ l, p.1 ≠ I ∧ p.1 ≠ C ∧ p.1 ≠ B ∧ p.1 ≠ D) : Off4 I C B D l := by
  induction l with
  | nil => exact trivial
  | cons p r ih => exact ⟨h p List.mem_cons_self, ih fun q hq => h q (List.mem_cons_of_mem _ hq)⟩
noncomputable def CellSrc (prog : Program) (w : World) (A : Around) (h₀ : Heap) (L : Addr) (m : Str → Option Value) (env : Env) (elt : Expr) (x : Str) (scope : Scope) (cl : List (Str × Addr)) (Q : Value → Shared → Prop) (xv : Value) (s₁ : Shared) : Prop :=
  ∃ (r : Addr) (a b : Int) (t u v : Tok) (n : Nat) (news : List (Addr × Obj)) (J : Nat → List Value → Prop), xv = .ref r ∧ A.handled = none ∧ Fr h₀ L s₁.heap m ∧ News h₀ L s₁.heap news ∧ IsRange s₁.heap r a b 1 t u v ∧ Builtin.Range.small a b 1 = true ∧ Builtin.Range.rangeSize a b 1 = ((n : Nat) : Int) ∧ n ≤ sizeLine ∧ J 0 [] ∧
    (∀ i ys I oI C oC B oB D h tk tv (E' : Value → Shared → Prop), i < n → J i ys → oB.data = .cell (some (.int (a + (i : Int)) tv)) → Fr h₀ L h m → News h₀ L h ((I, oI) :: (C, oC) :: (B, oB) :: (D, lst ys) :: news) → Off4 I C B D news →
      wpAny (model prog w) A (eval elt (compEnvC scope ((x, B) :: cl) C env)) (CellEnd h₀ L m { s₁ with heap := h, toks := tk } ((I, oI) :: (C, oC) :: (B, oB) :: (D, lst ys) :: news) (fun y => J (i + 1) (ys ++ [y]))) E' { s₁ with heap := h, toks := tk }) ∧
    (∀ ys D h tk, J n ys → Fr h₀ L h m → News h₀ L h ((D, lst ys) :: news) → Mine.Off1 D news → Q (.ref D) { s₁ with heap := h, toks := tk })
theorem CellSrc.intro {elt : Expr} {x : Str} {scope : Scope} {cl : List (Str × Addr)} {Q : Value → Shared → Prop} {s₁ : Shared} {r : Addr} {a b : Int} {t u v : Tok} {n : Nat} {news : List (Addr × Obj)} (J : Nat → List Value → Prop)
    (hh : A.handled = none) (F : Fr h₀ L s₁.heap m) (N : News h₀ L s₁.heap news) (hr : IsRange s₁.heap r a b 1 t u v) (hsm : Builtin.Range.small a b 1 = true) (hn : Builtin.Range.rangeSize a b 1 = ((n : Nat) : Int)) (hsz : n ≤ sizeLine) (h0 : J 0 [])
    (turn : ∀ i ys I oI C oC B oB D h tk tv (E' : Value → Shared → Prop), i < n → J i ys → oB.data = .cell (some (.int (a + (i : Int)) tv)) → Fr h₀ L h m → News h₀ L h ((I, oI) :: (C, oC) :: (B, oB) :: (D, lst ys) :: news) → Off4 I C B D news →
      wpAny (model prog w) A (eval elt (compEnvC scope ((x, B) :: cl) C env)) (CellEnd h₀ L m { s₁ with heap := h, toks := tk } ((I, oI) :: (C, oC) :: (B, oB) :: (D, lst ys) :: news) (fun y => J (i + 1) (ys ++ [y]))) E' { s₁ with heap := h, toks := tk })
    (fin : ∀ ys D h tk, J n ys → Fr h₀ L h m → News h₀ L h ((D, lst ys) :: news) → Mine.Off1 D news → Q (.ref D) { s₁ with heap := h, toks := tk }) :
    CellSrc prog w A h₀ L m env elt x scope cl Q (.ref r) s₁ := ⟨r, a, b, t, u, v, n, news, J, rfl, hh, F, N, hr, hsm, hn, hsz, h0, turn, fin⟩
theorem listComp_cell {elt iter : Expr} {x : Str} {px : Pos} {scope : Scope} {cl : List (Str × Addr)} {pos : Pos} {Q : Value → Shared → Prop}
    (_F₀ : Fr h₀ L s.heap m) (hclos : closureFor scope env = pure cl) (hcf : ∀ n, cellsFrom n scope.names cl = (x, n) :: cl) (hpc : ∀ h : Heap, pushCells h scope.names = h.push { cls := .type "cell", data := .cell none }) (hkind : scope.kind = .function)
    (hnames : ∀ y ∈ scope.names, y.2 = .local → scope.names.lookup y.1 = some .local) (hx : (relabel scope env).names.lookup x = some .cell)
    (h : wpAny (model prog w) A (eval iter env) (CellSrc prog w A h₀ L m env elt x scope cl Q) E s)
    (hs : ∀ x, foldedSetIterable iter env x = pure x := by intro _; rfl) :
    wpAny (model prog w) A (eval (.ListComp elt [⟨.Name x px, iter, [], 0⟩] scope pos) env) Q E s := by
  rw [eval_ListComp]
  refine wpAny_comprehension_free (use := none) rfl hs hclos hkind hnames (wpAny_mono h (fun xv s₁ h₁ => ?_) fun _ _ e => e)
  obtain ⟨r, a, b, t, u, v, n, news, J, rfl, hh, F, N, hr, hsm, hn, hsz, hJ0, turn, fin⟩ := h₁
  refine wpAny_pyIter_range hr hsm ?_
  rw [hn]
  refine wpAny_newObj_type ?_
  simp only [newFunctionEnv, Option.isSome_some, if_true]
  refine wpAny_bind (wpAny_alloc ?_)
  refine wpAny_bind (wpAny_layCells _ (fun name kind cells => by cases hkc : kind == NameKind.cell <;> simp [hkc]) _ _ _ _ ?_)
  dsimp only
  rw [hcf, hpc]
  rw [List.forIn_nil]
  refine wpAny_bind (wpAny_pure (wpAny_pure ?_))
  dsimp only
  obtain ⟨S0, hS0⟩ : ∃ S0, S0 = s₁.heap.push { cls := .type "range_iterator", data := .fields #[rawInt a, rawInt n, rawInt 1] } := ⟨_, rfl⟩
  obtain ⟨S1, hS1⟩ : ∃ S1, S1 = S0.push { cls := .type "list", data := .seq #[] } := ⟨_, rfl⟩
  obtain ⟨S2, hS2⟩ : ∃ S2, S2 = S1.push { cls := .type "dict", data := .dict #[] } := ⟨_, rfl⟩
  obtain ⟨S3, hS3⟩ : ∃ S3, S3 = S2.push { cls := .type "cell", data := .cell none } := ⟨_, rfl⟩
  have z0 : S0.objs.size = s₁.heap.objs.size + 1 := by rw [hS0, Heap.size_push]
  have z1 : S1.objs.size = s₁.heap.objs.size + 2 := by rw [hS1, Heap.size_push, z0]
  have z2 : S2.objs.size = s₁.heap.objs.size + 3 := by rw [hS2, Heap.size_push, z1]
  rw [← hS0, ← hS1, ← hS2, ← hS3]
  have up0 : ∀ b o, s₁.heap.get? b = some o → S3.get? b = some o := fun b o e => by
    rw [hS3, hS2, hS1, hS0]
    exact Heap.get?_push_of_some _ (Heap.get?_push_of_some _ (Heap.get?_push_of_some _ (Heap.get?_push_of_some _ e)))
  have fresh₀ : ∀ c, s₁.heap.objs.size ≤ c → h₀.get? c = none := fun c hc => by
    cases e : h₀.get? c with
    | none => rfl
    | some o' => exact absurd (Heap.lt_size (F.keep c o' e)) (Nat.not_lt.mpr hc)
  have gI : S3.get? s₁.heap.objs.size = some { cls := .type "range_iterator", data := .fields #[rawInt a, rawInt n, rawInt 1] } := by
    rw [hS3, hS2, hS1]
    exact Heap.get?_push_of_some _ (Heap.get?_push_of_some _ (Heap.get?_push_of_some _ (by rw [hS0]; exact Heap.get?_push_size _ rfl)))
  have gD : S3.get? S0.objs.size = some (lst []) := by
    rw [hS3, hS2]
    exact Heap.get?_push_of_some _ (Heap.get?_push_of_some _ (by rw [hS1]; exact Heap.get?_push_size _ rfl))
  have gC : S3.get? S1.objs.size = some { cls := .type "dict", data := .dict #[] } := by
    rw [hS3]
    exact Heap.get?_push_of_some _ (by rw [hS2]; exact Heap.get?_push_size _ rfl)
  have gB : S3.get? S2.objs.size = some { cls := .type "cell", data := .cell none } := by rw [hS3]; exact Heap.get?_push_size _ rfl
  have hLlt : @LT.lt Nat instLTNat L s₁.heap.objs.size := F.ns.lt
  generalize hI : s₁.heap.objs.size = I at *
  generalize hD : S0.objs.size = D at *
  generalize hC : S1.objs.size = C at *
  generalize hB : S2.objs.size = B at *
  clear hS0 hS1 hS2 hS3
  have W := range_walks (prog := prog) (w := w) (I := I) hh a n
  have hst₁ : IsRangeIter S3 I (a + ((0 : Nat) : Int) * 1) ((n : Int) - ((0 : Nat) : Int)) 1 := by
    show S3.get? I = some _
    rw [gI]
    simp [rawInt]
  have loop : ∀ s₃ : Shared, s₃ = { s₁ with heap := S3 } →
      codeAny (model prog w) A (.compLoop (.ListComp elt [⟨.Name x px, iter, [], 0⟩] scope pos) 0 (.ref I) (.ref D) (compEnvC scope ((x, B) :: cl) C env)) (compPost (model prog w) A E none Q (.ref D) C) s₃ := by
    rintro s₃ rfl
    refine codeAny_compLoop_tests
      (fun k s' => ∃ h' tk i ys oB, s' = { s₁ with heap := h', toks := tk } ∧ i ≤ n ∧ k = n + 1 - i ∧ ys.length = i ∧ IsRangeIter h' I (a + (i : Nat) * 1) ((n : Int) - (i : Nat)) 1 ∧ Fr h₀ L h' m ∧ (∃ vb, oB.data = .cell vb) ∧ News h₀ L h' ((C, { cls := .type "dict", data := .dict #[] }) :: (B, oB) :: (D, lst ys) :: news) ∧ J i ys) ?_ (n + 1)
      ⟨S3, _, 0, [], { cls := .type "cell", data := .cell none }, rfl, Nat.zero_le _, rfl, rfl, hst₁, F.keeps up0, ⟨none, rfl⟩, ?_, hJ0⟩
    · rintro k s' ⟨h', tk, i, ys, oB, rfl, hi, rfl, hyl, hst', F', ⟨vb, hvb⟩, N', hJ⟩
      have hBI : B ≠ I := neA (by omega)
      have hCI : C ≠ I := neA (by omega)
      have hDI : D ≠ I := neA (by omega)
      have hLB : B ≠ L := neA (by omega)
      have hnI : ∀ p ∈ news, @LT.lt Nat instLTNat p.1 I := fun p hp => by rw [← hI]; exact Heap.lt_size (N p hp).1
      by_cases hlt : i < n
      · refine W.item i _ _ _ hlt hst' fun v h₂ tk₂ hPv hst₂ hk₂ => ?_
        obtain ⟨tv, rfl⟩ := hPv
        have N₂ : News h₀ L h₂ ((C, { cls := .type "dict", data := .dict #[] }) :: (B, oB) :: (D, lst ys) :: news) := news_but N' hk₂ fun p hp => by
          simp only [List.mem_cons] at hp
          rcases hp with rfl | rfl | rfl | hp
          · exact hCI
          · exact hBI
          · exact hDI
          · exact Nat.ne_of_lt (hnI p hp)
        have zB := (N₂ (B, oB) (List.mem_cons_of_mem _ List.mem_cons_self)).1
        refine wpAny_assign_Name (wpAny_storeName_cell (by simp [compEnvC, relabel, hkind]) hx (by simp [compEnvC]) ⟨oB, zB, hvb⟩ fun h₃ hc₃ hs₃ => ?_)
        obtain ⟨oB₃, eB₃, dB₃⟩ := hc₃
        refine wpAny_tests_nil ?_
        simp only [if_true]
        obtain ⟨oI, eI⟩ : ∃ oI, h₃.get? I = some oI := ⟨_, hs₃.extBut I _ (Ne.symm hBI) hst₂⟩
        have hst₃ : IsRangeIter h₃ I (a + ((i + 1 : Nat) : Int) * 1) ((n : Int) - ((i + 1 : Nat) : Int)) 1 := hs₃.extBut I _ (Ne.symm hBI) hst₂
        have F₃ : Fr h₀ L h₃ m := (fr_but F' hk₂ (Nat.ne_of_lt hLlt) (fresh₀ I (Nat.le_refl _))).change hs₃ hLB (fresh₀ B (by omega))
        have N₃ : News h₀ L h₃ ((I, oI) :: (C, { cls := .type "dict", data := .dict #[] }) :: (B, oB₃) :: (D, lst ys) :: news) := fun p hp => by
          simp only [List.mem_cons] at hp
          rcases hp with rfl | rfl | rfl | rfl | hp
          · exact ⟨eI, by show I ≠ L; exact neA (by omega), fresh₀ I (Nat.le_refl _)⟩
          · have z := N₂ (C, _) List.mem_cons_self
            exact ⟨hs₃.extBut C _ (neA (by omega)) z.1, z.2⟩
          · exact ⟨eB₃, by show B ≠ L; exact neA (by omega), fresh₀ B (by omega)⟩
          · have z := N₂ (D, lst ys) (List.mem_cons_of_mem _ (List.mem_cons_of_mem _ List.mem_cons_self))
            exact ⟨hs₃.extBut D _ (neA (by omega)) z.1, z.2⟩
          · have z := N₂ p (List.mem_cons_of_mem _ (List.mem_cons_of_mem _ (List.mem_cons_of_mem _ hp)))
            exact ⟨hs₃.extBut p.1 _ (neA (by have := hnI p hp; omega)) z.1, z.2⟩
        refine wpAny_mono (turn i ys I oI C _ B oB₃ D h₃ tk₂ tv _ hlt hJ dB₃ F₃ N₃ (Off4.of fun p hp => by have := hnI p hp; exact ⟨neA (by omega), neA (by omega), neA (by omega), neA (by omega)⟩)) (fun y s₄ h₄ => ?_) fun _ _ e => e
        obtain ⟨h₄, tk₄, rfl, F₄, N₄, hJ₄⟩ := h₄
        have zD := (N₄ (D, lst ys) (List.mem_cons_of_mem _ (List.mem_cons_of_mem _ (List.mem_cons_of_mem _ List.mem_cons_self)))).1
        have zI := (N₄ (I, oI) List.mem_cons_self).1
        refine append_at (hsz := by show ys.toArray.size ≤ sizeLine; rw [List.size_toArray, hyl]; exact Nat.le_trans hi hsz) zD fun h₅ hs₅ hD₅ => ?_
        refine ⟨n + 1 - (i + 1), by omega, h₅, tk₄, i + 1, ys ++ [y], oB₃, rfl, hlt, rfl, by rw [List.length_append, List.length_singleton, hyl], ?_, F₄.change hs₅ (neA (by omega)) (fresh₀ D (by omega)), ⟨_, dB₃⟩, fun p hp => ?_, hJ₄⟩
        · have e1 : oI = _ := Option.some.inj (eI.symm.trans hst₃)
          subst e1
          exact hs₅.extBut I _ (neA (by omega)) zI
        · simp only [List.mem_cons] at hp
          rcases hp with rfl | rfl | rfl | hp
          · have z := N₄ (C, _) (List.mem_cons_of_mem _ List.mem_cons_self)
            exact ⟨hs₅.extBut C _ (neA (by omega)) z.1, z.2⟩
          · have z := N₄ (B, oB₃) (List.mem_cons_of_mem _ (List.mem_cons_of_mem _ List.mem_cons_self))
            exact ⟨hs₅.extBut B _ (neA (by omega)) z.1, z.2⟩
          · exact ⟨hD₅.trans (congrArg some (lst_snoc ys y)), by show D ≠ L; exact neA (by omega), fresh₀ D (by omega)⟩
          · have z := N₄ p (List.mem_cons_of_mem _ (List.mem_cons_of_mem _ (List.mem_cons_of_mem _ (List.mem_cons_of_mem _ hp))))
            exact ⟨hs₅.extBut p.1 _ (neA (by have := hnI p hp; omega)) z.1, z.2⟩
      · obtain rfl : i = n := Nat.le_antisymm hi (Nat.not_lt.mp hlt)
        refine W.done _ _ _ hst' fun h₂ tk₂ hk₂ => ?_
        have N₂ : News h₀ L h₂ ((C, { cls := .type "dict", data := .dict #[] }) :: (B, oB) :: (D, lst ys) :: news) := news_but N' hk₂ fun p hp => by
          simp only [List.mem_cons] at hp
          rcases hp with rfl | rfl | rfl | hp
          · exact hCI
          · exact hBI
          · exact hDI
          · exact Nat.ne_of_lt (hnI p hp)
        refine ⟨fun _ => none, ⟨_, #[], _, (N₂ (C, _) List.mem_cons_self).1, rfl, fun e he => absurd he (by simp), fun _ => rfl⟩, fun h'' hs'' => fin ys D h'' tk₂ hJ ((fr_but F' hk₂ (Nat.ne_of_lt hLlt) (fresh₀ I (Nat.le_refl _))).change hs'' (neA (by omega)) (fresh₀ C (by omega))) (fun p hp => ?_) (off1_of fun p hp e => ?_)⟩
        · rcases List.mem_cons.mp hp with rfl | hp
          · have z := N₂ (D, lst ys) (List.mem_cons_of_mem _ (List.mem_cons_of_mem _ List.mem_cons_self))
            exact ⟨hs''.extBut D _ (neA (by omega)) z.1, z.2⟩
          · have z := N₂ p (List.mem_cons_of_mem _ (List.mem_cons_of_mem _ (List.mem_cons_of_mem _ hp)))
            exact ⟨hs''.extBut p.1 _ (neA (by have := hnI p hp; omega)) z.1, z.2⟩
        · exact absurd e (neA (by have := hnI p hp; omega))
    · intro p hp
      simp only [List.mem_cons] at hp
      rcases hp with rfl | rfl | rfl | hp
      · exact ⟨gC, by show C ≠ L; exact neA (by omega), fresh₀ _ (by omega)⟩
      · exact ⟨gB, by show B ≠ L; exact neA (by omega), fresh₀ _ (by omega)⟩
      · exact ⟨gD, by show D ≠ L; exact neA (by omega), fresh₀ _ (by omega)⟩
      · exact ⟨up0 _ _ (N p hp).1, (N p hp).2⟩
  exact codeAny_compStart_list (loop _ rfl) (W.self 0 _ _ _ hst₁ (loop _ rfl))
end
end Mine
end partLk
open PySem PySem.W PySem.Calls PyProof.Rows in
theorem Mine.calmC3 {prog : Program} {w : World} {A : Around} {E Q : Value → Shared → Prop} {s : Shared} (h : wpAny (model prog w) A (call (.builtin "zz") []) Q E s) : wpAny (model prog w) A (call (.builtin "zz") []) Q E s := by w_top off; first | (walk1; fail) | exact h
section partC3
open PySem PySem.W PySem.Calls PyProof.Rows
set_option Elab.async false
namespace Mine
set_option maxRecDepth 100000
set_option maxHeartbeats 2000000
theorem warmC3 (w : World) : KK w.params = KK w.params ∧ PySem.Challenge.rw_in0209_01 = PySem.Challenge.rw_in0209_01 := by k_fill; exact ⟨rfl, rfl⟩
local macro_rules | `(tactic| walk_at "call ref") => `(tactic| (with_reducible refine atc 317 ?_; k_dflt (refine' ConO.useH (chain_conO _ _ _ _ _ _ (by assumption) (by omega) (by omega)) ?_ (hpre := by (exact ⟨fr_list (by assumption) (by assumption), RowsAre.keeps (by assumption) (Fr.keep (by assumption))⟩))); rintro a' o' h' tk' ⟨ws',n',e9',i9'⟩ F' N' G' Z'; (try subst e9'); (try dsimp only [Off1] at Z'); (try dsimp only)))
theorem chainN_len (rs : List Row) : ∀ (n : Nat) (k : Int), (chainN rs n k).length ≤ n + 1
  | 0, k => Nat.le_refl _
  | n + 1, k => by
    rw [chainN]; split
    · simp
    · have := chainN_len rs n (fatherOf rs k); simp; omega
theorem chainOf_len {rs : List Row} {k : Int} (hl : rs.length < 100) (h1 : k < rs.length) : (chainOf rs k).length ≤ 100 := by
  have := chainN_len rs k.toNat k; unfold chainOf; omega
theorem filter_take_succ (p : Int → Bool) (xs : List Int) (i : Nat) (c : Int) (h : xs[i]? = some c) : (xs.take (i + 1)).filter p = if p c = true then (xs.take i).filter p ++ [c] else (xs.take i).filter p := by
  rw [List.take_add_one, h, List.filter_append]
  by_cases hc : p c = true
  · simp [hc]
  · simp [hc]
theorem add_own {prog : Program} {w : World} {A : Around} {E : Value → Shared → Prop} {s : Shared} {h₀ : Heap} {L : Addr} {m : Str → Option Value} {news : List (Addr × Obj)} {l b : Addr} {vs ws : List Value} {ns ms : List Int} {Q : Value → Shared → Prop} (F : Fr h₀ L s.heap m) (N : News h₀ L s.heap news) (hl : s.heap.IsList l vs.toArray) (hb : s.heap.IsList b ws.toArray) (hi : IntsAre vs ns) (hj : IntsAre ws ms)
    (hsz : ns.length + ms.length ≤ 1000) (h : ∀ d h', Fr h₀ L h' m → News h₀ L h' ((d, lstO (vs ++ ws) 0) :: news) → IntsAre (vs ++ ws) (ns ++ ms) → Off1 d news → Q (.ref d) { s with heap := h' }) :
    wpAny (model prog w) A (binaryOp .Add (.ref l) (.ref b)) Q E s :=
  add_lists_ints F N hl hb hi hj (fun h' F' N' I' => h _ h' F' N' I' (off1_of fun p hp e => absurd (Heap.lt_size (N p hp).1) (e ▸ Nat.lt_irrefl _))) (Nat.le_trans hsz (by rw [sizeLine_eq]; decide))
theorem chain_zero {rs : List Row} (ok : RowsOk rs) : ∀ (n : Nat) (k : Int), 0 ≤ k → k < rs.length → k.toNat = n → 0 ∈ chainOf rs k := by
  intro n
  induction n using Nat.strongRecOn with
  | _ n ih =>
    intro k h0 h1 hn
    by_cases hk : k = 0
    · subst hk; exact List.mem_cons_self
    · obtain ⟨f0, f1⟩ := ok.2.2 k h0 h1
      have hf := f1.resolve_left hk
      rw [chainOf_step ok h0 h1 hk]
      exact List.mem_cons_of_mem _ (ih (fatherOf rs k).toNat (by omega) _ f0 (by omega) rfl)
noncomputable def isIn (ys : List Int) (c : Int) : Bool := ys.any fun x => x == c
noncomputable def notIn (ys : List Int) (c : Int) : Bool := !isIn ys c
theorem chain_in {rs : List Row} (ok : RowsOk rs) : ∀ (n : Nat) (k : Int), 0 ≤ k → k < rs.length → k.toNat = n → ∀ c ∈ chainOf rs k, 0 ≤ c ∧ c < rs.length := by
  intro n
  induction n using Nat.strongRecOn with
  | _ n ih =>
    intro k h0 h1 hn c hc
    by_cases hk : k = 0
    · subst hk
      have hc0 : c = 0 := List.mem_singleton.mp hc
      omega
    · obtain ⟨f0, f1⟩ := ok.2.2 k h0 h1
      have hf := f1.resolve_left hk
      rw [chainOf_step ok h0 h1 hk] at hc
      rcases List.mem_cons.mp hc with e | hc
      · omega
      · exact ih (fatherOf rs k).toNat (by omega) _ f0 (by omega) rfl c hc
/-- the line between two rows: both chains, save what they share, and the first they share -/
noncomputable def lineOf (A B : List Int) : List Int := A.filter (notIn B) ++ B.filter (notIn A) ++ [(A.filter (isIn B)).getD 0 0]
theorem line_led {g h : Heap} {L d : Addr} {p : Addr × Obj} {vs : List Value} {c : Int} {t : Tok} {q : Nat} {rest : List (Addr × Obj)} {xs : List Int} (N : News g L h (p :: (d, PySem.W.listOf (vs.toArray.push (.int c t)) q) :: rest)) (hi : IntsAre vs xs) :
    ∃ lv, IntsAre lv (xs ++ [c]) ∧ News g L h (p :: (d, lstO lv q) :: rest) := ⟨vs ++ [.int c t], intsAre_snoc _ _ hi, by rw [listOf_push] at N; exact N⟩
noncomputable def modeOf (rs : List Row) (c : Int) : Int := (rs.getD c.toNat row0).2.2
noncomputable def bitOf (rs : List Row) (line : List Int) (k : Nat) : Int := ((line.map fun c => (modeOf rs c).fdiv (2 ^ k)).sum).fmod 2
noncomputable def oddBits (rs : List Row) (a b : Int) : List Int := (List.range 16).map fun k => bitOf rs (lineOf (chainOf rs a) (chainOf rs b)) k
section
local macro_rules | `(tactic| walk_at "subscriptTail Name Name ref int") => `(tactic| (k_here; (with_unfolding_all refine' rows_at (fr_list (by assumption) (by assumption)) (by assumption) (by omega) (by omega) (by omega) ?_ (by with_unfolding_all rfl)); intro a9 t91 t92 t93 ha9; (try dsimp only)))
local macro_rules | `(tactic| walk_at "subscriptTail Name Constant ref int") => `(tactic| (k_here; (with_unfolding_all refine' row2_at (by assumption) (by assumption) ?_ (by with_unfolding_all rfl)); (try dsimp only)))
local macro_rules | `(tactic| walk_at "binaryOp Add ref ref") => `(tactic| (k_here; (with_unfolding_all refine' add_own (by k_asm) (by k_asm) (News.lst (by k_asm) (by k_mem) rfl rfl) (News.lst (by k_asm) (by k_mem) rfl rfl) (by assumption) (by assumption) (by omega) ?_); intro d7' h7' F7' N7' I7' Z7'; (try dsimp only [Off1] at Z7'); (try dsimp only)))
local macro_rules | `(tactic| walk_at "CompSrc") => `(tactic| refine hold ?_)
local macro_rules | `(tactic| walk_at "CompSrcT") => `(tactic| refine hold ?_)
theorem odd_con (w : World) (l : Addr) (vs : List Value) (rs : List Row) (a b : Int) (t u : Tok) (ok : RowsOk rs) (h0 : 0 ≤ a) (h1 : a < rs.length) (h2 : 0 ≤ b) (h3 : b < rs.length) :
    ConO w 322 [.ref l, .int a t, .int b u] 2 (fun h => h.IsList l vs.toArray ∧ RowsAre h vs rs) (fun o => ∃ ws n, o = lstO ws n ∧ IntsAre ws (oddBits rs a b)) := by
  refine con_ofC [("rows", .ref l), ("one", .int a t), ("other", .int b u)] (by k_is) (by k_is) (fun s => BindsTo.of_eq rfl) (by rfl) (by decide +kernel) ?_
  intro dp un gd outer A₀ base g L' h₁ tk cells gn dr os mean mg mb R B F N Y X T hdp hun hpre hret
  k_cells Y
  (try k_unmd)
  k_fold
  obtain ⟨hpl, hpr⟩ := hpre
  have hlt := ok.2.1
  k_steps
  rename_i oLn o2 o3 oRw dd1 dd2 dd3 dd4 aL hh1 tk1 ws1 n1 i1 G1 Z1 hh2 oL dL tk2 aR hh3 tk3 ws2 n2 i2 G2 Z2 h9 oR F1 N1 dR
  clear G1 G2 dd2 dd3
  have cl1 := chainOf_len hlt h1
  have cl2 := chainOf_len hlt h3
  have hN : 0 < ((chainOf rs a).filter (isIn (chainOf rs b))).length := List.length_pos_of_mem (List.mem_filter.mpr ⟨chain_zero ok _ a h0 h1 rfl, List.any_eq_true.mpr ⟨0, chain_zero ok _ b h2 h3 rfl, rfl⟩⟩)
  have hN1 := List.length_filter_le (notIn (chainOf rs b)) (chainOf rs a)
  have hN2 := List.length_filter_le (notIn (chainOf rs a)) (chainOf rs b)
  have hN3 := List.length_filter_le (isIn (chainOf rs b)) (chainOf rs a)
  have hinA := chain_in ok _ a h0 h1 rfl
  have hinB := chain_in ok _ b h2 h3 rfl
  generalize hA : chainOf rs a = A at *
  generalize hB : chainOf rs b = B at *
  unfold Hold
  have sz1 : ws1.toArray.size ≤ sizeLine := by rw [List.size_toArray, i1.length, sizeLine_eq]; omega
  have sz2 : ws2.toArray.size ≤ sizeLine := by rw [List.size_toArray, i2.length, sizeLine_eq]; omega
  refine LCt.CompSrcT.ledger rfl F1 N1 (by k_mem) sz1 ?_
  intro g2
  refine compT_inv (fun i ys news => news = _ ∧ IntsAre ys ((A.take i).filter (notIn B))) ⟨rfl, .nil⟩ ?_ ?_
  · rintro i ys news v I oI C oC D m₂ h tk E' hi' ⟨rfl, hys⟩ hv hC hx F N off ne
    obtain ⟨c, tc, rfl, hc⟩ := intsAre_item i1 (by simpa using hv)
    dsimp only
    k_steps
    · rename _ = true => hb
      refine LCg.CompEnd.intro (by assumption) (by assumption) _ (fun p hp => hp) off (.inr ⟨_, by k_mem, rfl, _, rfl⟩) ⟨rfl, ?_⟩
      rw [filter_take_succ _ _ _ _ hc, if_neg (by unfold notIn isIn; rw [hb]; decide)]; exact hys
    · rename _ = false => hb
      refine LCg.CompEnd.intro (by assumption) (by assumption) _ (fun p hp => hp) off (.inr ⟨_, by k_mem, rfl, _, rfl⟩) ⟨rfl, ?_⟩
      rw [filter_take_succ _ _ _ _ hc, if_pos (by unfold notIn isIn; rw [hb]; rfl)]; exact intsAre_snoc _ _ hys
  rintro ys3 news ⟨rfl, i3⟩
  clear F1 N1
  have e3 : A.take ws1.toArray.size = A := by rw [List.size_toArray, i1.length, List.take_length]
  have e3' := e3
  rw [e3] at i3
  unfold LCg.FinE
  intro D3 h3' tk3 F3 N3 o3'
  simp only [LCg.Off1] at o3'
  dsimp only
  k_steps
  unfold Hold
  refine LCt.CompSrcT.ledger rfl F3 N3 (by k_mem) sz2 ?_
  intro g3
  refine compT_inv (fun i ys news => news = _ ∧ IntsAre ys ((B.take i).filter (notIn A))) ⟨rfl, .nil⟩ ?_ ?_
  · rintro i ys news v I oI C oC D m₂ h tk E' hi' ⟨rfl, hys⟩ hv hC hx F N off ne
    obtain ⟨c, tc, rfl, hc⟩ := intsAre_item i2 (by simpa using hv)
    dsimp only
    k_steps
    · rename _ = true => hb
      refine LCg.CompEnd.intro (by assumption) (by assumption) _ (fun p hp => hp) off (.inr ⟨_, by k_mem, rfl, _, rfl⟩) ⟨rfl, ?_⟩
      rw [filter_take_succ _ _ _ _ hc, if_neg (by unfold notIn isIn; rw [hb]; decide)]; exact hys
    · rename _ = false => hb
      refine LCg.CompEnd.intro (by assumption) (by assumption) _ (fun p hp => hp) off (.inr ⟨_, by k_mem, rfl, _, rfl⟩) ⟨rfl, ?_⟩
      rw [filter_take_succ _ _ _ _ hc, if_pos (by unfold notIn isIn; rw [hb]; rfl)]; exact intsAre_snoc _ _ hys
  rintro ys4 news ⟨rfl, i4⟩
  clear F3 N3
  have e4 : B.take ws2.toArray.size = B := by rw [List.size_toArray, i2.length, List.take_length]
  rw [e4] at i4
  unfold LCg.FinE
  intro D4 h4' tk4 F4 N4 o4'
  simp only [LCg.Off1] at o4'
  dsimp only
  k_steps
  rename Fr _ _ _ _ => F5
  rename News _ _ _ _ => N5
  unfold Hold
  refine LCt.CompSrcT.ledger rfl F5 N5 (by k_mem) sz1 ?_
  intro g4
  refine compT_inv (fun i ys news => news = _ ∧ IntsAre ys ((A.take i).filter (isIn B))) ⟨rfl, .nil⟩ ?_ ?_
  · rintro i ys news v I oI C oC D m₂ h tk E' hi' ⟨rfl, hys⟩ hv hC hx F N off ne
    obtain ⟨c, tc, rfl, hc⟩ := intsAre_item i1 (by simpa using hv)
    dsimp only
    clear F5 N5
    k_steps
    · rename _ = true => hb
      refine LCg.CompEnd.intro (by assumption) (by assumption) _ (fun p hp => hp) off (.inr ⟨_, by k_mem, rfl, _, rfl⟩) ⟨rfl, ?_⟩
      rw [filter_take_succ _ _ _ _ hc, if_pos (by unfold isIn; exact hb)]; exact intsAre_snoc _ _ hys
    · rename _ = false => hb
      refine LCg.CompEnd.intro (by assumption) (by assumption) _ (fun p hp => hp) off (.inr ⟨_, by k_mem, rfl, _, rfl⟩) ⟨rfl, ?_⟩
      rw [filter_take_succ _ _ _ _ hc, if_neg (by unfold isIn; rw [hb]; decide)]; exact hys
  rintro ys5 news ⟨rfl, i5⟩
  rw [e3'] at i5
  clear F5 N5
  unfold LCg.FinE
  intro D6 h6' tk6 F6 N6 o6'
  simp only [LCg.Off1] at o6'
  dsimp only
  k_steps
  rename Fr _ _ _ _ => F7
  rename News _ _ _ _ => N7
  obtain ⟨lv, hil, N7⟩ : ∃ lv, IntsAre lv (lineOf A B) ∧ _ := line_led N7 (by assumption)
  have hlr : ∀ c ∈ lineOf A B, 0 ≤ c ∧ c < rs.length := by
    intro c hc
    unfold lineOf at hc
    simp only [List.mem_append, List.mem_singleton] at hc
    rcases hc with (hc | hc) | hc
    · exact hinA c (List.mem_filter.mp hc).1
    · exact hinB c (List.mem_filter.mp hc).1
    · have : c ∈ A.filter (isIn B) := by
        rw [hc, List.getD_eq_getElem?_getD, List.getElem?_eq_getElem hN]
        exact List.getElem_mem _
      exact hinA c (List.mem_filter.mp this).1
  have hll : (lineOf A B).length ≤ 201 := by unfold lineOf; rw [List.length_append, List.length_append, List.length_singleton]; omega
  have szl : lv.toArray.size ≤ sizeLine := by rw [List.size_toArray, hil.length, sizeLine_eq]; omega
  refine listComp_cell (cl := [(Str.ofString "rows", L' + 1), (Str.ofString "line", L' + 1 + 1 + 1 + 1)]) F7 (by with_unfolding_all rfl) (fun n => by with_unfolding_all rfl) (fun h => by with_unfolding_all rfl) rfl (by decide +kernel) (by with_unfolding_all rfl) ?_
  k_steps
  rename IsRange _ _ _ _ _ _ _ _ => rgX
  rename Fr _ _ _ _ => F8
  rename News _ _ _ _ => N8
  refine CellSrc.intro (n := 16) (fun i ys => IntsAre ys ((List.range i).map fun k => bitOf rs (lineOf A B) k)) rfl F8 N8 rgX (small_one (by decide) (by decide) (by decide) (by decide)) (rangeSize_nat _ _) (by rw [sizeLine_eq]; decide) .nil ?_ ?_
  · rintro i ys I oI C oC B9 oB D h tk tv E' hi' hys hB9 F N off
    clear F8 N8
    dsimp only
    k_steps
    unfold Hold
    refine LCg.CompSrc.ledger (its := lv.toArray) rfl F N (by k_mem) szl ?_
    intro g9
    refine comp_inv (fun j ys news => news = _ ∧ IntsAre ys (((lineOf A B).take j).map fun c => (modeOf rs c).fdiv (2 ^ i))) ⟨rfl, .nil⟩ ?_ ?_
    · rintro j ys' news v I' oI' C' oC' D' m₂ h tk E'' hj ⟨rfl, hys'⟩ hv hC' hx' F N off'
      obtain ⟨c, tc, rfl, hc⟩ := intsAre_item hil (by simpa using hv)
      have hcr := hlr c (List.mem_of_getElem? hc)
      intro ne'
      dsimp only
      k_steps
      have e0 : (0 + (i : Int)).toNat = i := by omega
      refine LCg.CompEnd.intro (by assumption) (by assumption) _ (fun p hp => hp) off' (.inr ⟨_, by k_mem, rfl, _, rfl⟩) ⟨rfl, ?_⟩
      rw [List.take_add_one, hc, List.map_append, e0]
      exact intsAre_snoc _ _ hys'
    · rintro ys' news ⟨rfl, hys'⟩
      have e9 : (lineOf A B).take lv.toArray.size = lineOf A B := by rw [List.size_toArray, hil.length, List.take_length]
      rw [e9] at hys'
      have hll' : ((lineOf A B).map fun c => (modeOf rs c).fdiv (2 ^ i)).length ≤ 201 := by rw [List.length_map]; exact hll
      clear F N
      unfold LCg.FinE
      intro D9 h9' tk9 F9 N9 o9'
      dsimp only
      k_steps
      refine CellEnd.intro (by assumption) (by assumption) (fun p hp => List.mem_cons_of_mem _ hp) ?_
      rw [List.range_succ, List.map_append]
      exact intsAre_snoc _ _ hys
  · intro ys D h tk hJ F N o
    exact hret _ _ _ F.keep ⟨D, _, rfl, (N _ List.mem_cons_self).2.2, (N _ List.mem_cons_self).1, ys, ys.length, rfl, by unfold oddBits; rw [hA, hB]; exact hJ⟩
end
end Mine
end partC3
open PySem PySem.W PySem.Calls PyProof.Rows in
theorem Mine.calmD1 {prog : Program} {w : World} {A : Around} {E Q : Value → Shared → Prop} {s : Shared} (h : wpAny (model prog w) A (call (.builtin "zz") []) Q E s) : wpAny (model prog w) A (call (.builtin "zz") []) Q E s := by w_top off; first | (walk1; fail) | exact h
section partD1
open PySem PySem.W PySem.Calls PyProof.Rows
set_option Elab.async false
namespace Mine
set_option maxRecDepth 100000
set_option maxHeartbeats 2000000
theorem warmD1 (w : World) : KK w.params = KK w.params ∧ PySem.Challenge.rw_in0209_01 = PySem.Challenge.rw_in0209_01 := by k_fill; exact ⟨rfl, rfl⟩
abbrev SK (w : World) := strKind PySem.Challenge.rw_in0209_01.row.prog w
theorem dictOf_keeps {w : World} {h h' : Heap} {d : Addr} {kvs : List (Str × Value)} (x : h.DictOf (SK w) d kvs) (g : ∀ b o, h.get? b = some o → h'.get? b = some o) : h'.DictOf (SK w) d kvs := by
  obtain ⟨o, es, ep, ho, r⟩ := x
  exact ⟨o, es, ep, g _ _ ho, r⟩
section
local macro_rules | `(tactic| walk_at "compareOp In str ref") => `(tactic| refine hold ?_)
theorem contains_con (w : World) (d : Addr) (kvs : List (Str × Value)) (k : Str) (t : Tok) (hd : (d == sysModules) = false) : ConV w 35 [.ref d, .str k t] 1 (fun h => h.DictOf (SK w) d kvs) (.bool (valueAt kvs k).isSome) := by
  refine con_of [("a", .ref d), ("b", .str k t)] (by k_is) (by k_is) (fun s => BindsTo.of_eq rfl) (locs rfl) ?_ (by decide)
  intro dp un gd outer A₀ base g L' h₁ tk gn dr os mean mg mb R B F N X T hdp hun hpre hret
  k_fold
  have hpre' := dictOf_keeps hpre F.keep
  k_steps
  unfold Hold
  refine wpAny_in_of (knd := SK w) (k := k) (f := valueAt kvs) (beq_self_eq_true k) hd hpre'.mapOf ?_
  k_steps
  exact hret _ _ _ F.keep rfl
end
section
local macro_rules | `(tactic| walk_at "getItem ref str") => `(tactic| refine hold ?_)
local macro_rules | `(tactic| walk_at "subscriptTail Name Name ref str") => `(tactic| refine hold ?_)
theorem getitem_dict_con (w : World) (d : Addr) (kvs : List (Str × Value)) (k : Str) (t : Tok) (v : Value) (hv : valueAt kvs k = some v) : ConV w 49 [.ref d, .str k t] 1 (fun h => h.DictOf (SK w) d kvs) v := by
  refine con_of [("a", .ref d), ("b", .str k t)] (by k_is) (by k_is) (fun s => BindsTo.of_eq rfl) (locs rfl) ?_ (by decide)
  intro dp un gd outer A₀ base g L' h₁ tk gn dr os mean mg mb R B F N X T hdp hun hpre hret
  k_fold
  have hpre' := dictOf_keeps hpre F.keep
  k_steps
  unfold Hold
  refine tail_any hpre'.typeIs slot_dict_getitem.lookup (wpAny_getItem_of (knd := SK w) (k := k) (f := valueAt kvs) (beq_self_eq_true k) hpre'.mapOf hv ?_) (by with_unfolding_all rfl)
  k_steps
  exact hret _ _ _ F.keep rfl
end
end Mine
end partD1
open PySem PySem.W PySem.Calls PyProof.Rows in
theorem Mine.calmD2 {prog : Program} {w : World} {A : Around} {E Q : Value → Shared → Prop} {s : Shared} (h : wpAny (model prog w) A (call (.builtin "zz") []) Q E s) : wpAny (model prog w) A (call (.builtin "zz") []) Q E s := by w_top off; first | (walk1; fail) | exact h
section partD2
open PySem PySem.W PySem.Calls PyProof.Rows
set_option Elab.async false
namespace Mine
set_option maxRecDepth 100000
set_option maxHeartbeats 2000000
theorem warmD2 (w : World) : KK w.params = KK w.params ∧ PySem.Challenge.rw_in0209_01 = PySem.Challenge.rw_in0209_01 := by k_fill; exact ⟨rfl, rfl⟩
local macro_rules | `(tactic| walk_at "call ref") => `(tactic| first | (with_reducible refine atc 164 ?_; k_dflt (refine' ConS.useH (dirname_con _ _ _ (by assumption)) ?_); walk_at "iS") | (with_reducible refine atc 28 ?_; k_dflt (refine' ConI.useH (xor_con _ _ _ _ _) ?_); walk_at "iI") | (with_reducible refine atc 49 ?_; k_dflt (refine' ConV.useH (getitem_dict_con _ _ _ _ _ _ (by assumption)) ?_ (hpre := by (exact dictOf_keeps (by assumption) (Fr.keep (by assumption))))); walk_at "iV"))
/-- up from a way to the root: what the turns come to -/
inductive UpIs (kvs : List (Str × Value)) : Str → Int → Int → Nat → Prop
  | done (x : Int) : UpIs kvs "/" x x 0
  | step {way : Str} {x v y : Int} {n : Nat} (t : Tok) (h1 : way ≠ "/") (h2 : way.length ≤ 1000) (h3 : valueAt kvs way = some (.int v t)) (h : UpIs kvs (dirS way) (Builtin.bitXor x v) y n) : UpIs kvs way x y (n + 1)
section
local macro_rules | `(tactic| walk_at "exec While Compare cons nil") => `(tactic| refine hold ?_)
theorem up_con (w : World) (d : Addr) (kvs : List (Str × Value)) (way : Str) (t t0 : Tok) (x0 y : Int) (n : Nat) (hr : valueAt kvs "/" = some (.int x0 t0)) (hu : UpIs kvs way x0 y n) : ConI w 293 [.ref d, .str way t] 3 (fun h => h.DictOf (SK w) d kvs) y := by
  refine con_of [("modes", .ref d), ("way", .str way t)] (by k_is) (by k_is) (fun s => BindsTo.of_eq rfl) (locs rfl) ?_ (by decide)
  intro dp un gd outer A₀ base g L' h₁ tk gn dr os mean mg mb R B F N X T hdp hun hpre hret
  k_fold
  k_steps
  rename Fr _ _ _ _ => F1
  rename News _ _ _ _ => N1
  unfold Hold
  refine lp_while F1 N1 (fun n m news => news = [] ∧ ∃ way x t1 t2, m (Str.ofString "way") = some (.str way t1) ∧ m (Str.ofString "turned") = some (.int x t2) ∧ UpIs kvs way x y n ∧ ∀ z, z ≠ Str.ofString "way" → z ≠ Str.ofString "turned" → m z = List.lookup z [(Str.ofString "modes", Value.ref d)]) n ⟨rfl, way, x0, t, t0, rfl, rfl, hu, ?_⟩ ?_
  · intro z h1 h2
    have e1 : (z == Str.ofString "way") = false := by simpa using h1
    simp [h2, List.lookup, e1]
  rintro n m₁ news₁ h₁ tk₁ ⟨rfl, way, x, t1, t2, hw, hx, hu, hm⟩ F₁ N₁
  have F₂ := Fr.as F₁ (map_two hw hx hm)
  clear F₁ F1 N1
  cases hu with
  | done =>
    k_steps
    exact hret _ _ _ F₂.keep ⟨_, rfl⟩
  | step t h1 h2 h3 hu =>
    k_steps
    · show WEnd _ _ _ _ _ _
      refine WEnd.intro (by assumption) (by assumption) _ (Nat.lt_succ_self _) ⟨rfl, _, _, _, _, rfl, rfl, hu, ?_⟩
      intro z h1 h2; simp [h1, h2]
    · rename (_ != _) = false => hb
      exact absurd (by simpa using hb) h1
end
end Mine
end partD2
section partMd
open PySem PySem.W PySem.Calls PyProof.Rows
set_option Elab.async false
namespace Mine
set_option maxRecDepth 100000
set_option maxHeartbeats 2000000
/-- a call that may change one thing of the caller's ledger -/
noncomputable def ConM (w : World) (f : Addr) (vs : List Value) (d : Nat) (dd : Addr) (Pre : Obj → Prop) (Out : Obj → Value → Prop) : Prop :=
  ∀ (dp un : Nat) (gd : Option (List Code)) (cn : Str) (cs : Scope) (a : Addr) (ccd : Value) (cl : List (Str × Addr)) (outer : List Env) (A₀ : Around) (base h₀ : Heap) (L : Addr) (m : Str → Option Value)
    (mean : ExcName → Option Value) (mg mb : Str → Option Value) (s : Shared) (Q E : Value → Shared → Prop) (o : Obj),
    Below A₀ base outer h₀ → Fr h₀ L s.heap m → (KK w.params).In h₀ → Top VV (looseW VV [Str.ofString "_filemode_table"]) mean mg mb h₀ → cs.kind = .function →
    dp + d < recursionLimit → un + 8 * d < cLine → News h₀ L s.heap [(dd, o)] → Pre o →
    (∀ r o' h' tk', (∀ b x, b ≠ dd → s.heap.get? b = some x → h'.get? b = some x) → h'.get? dd = some o' → Out o' r → Q r { s with heap := h', toks := tk' }) →
    wpAny (model PySem.Challenge.rw_in0209_01.row.prog w) (ktrTop dp un gd cn cs L a ccd cl outer) (call (.ref f) vs) Q E s
theorem con_ofM {w : World} {f : Addr} {vs : List Value} {d : Nat} {dd : Addr} {Pre : Obj → Prop} {Out : Obj → Value → Prop}
    {name qual : Str} {params : Arguments} {body : List Stmt} {scope : Scope} {dV kV doc pm cdv ct oc : Value} {an od : Option Addr} {osl : Array (Option Value)} (binds : List (Str × Value))
    (ho : (KK w.params).lookup f = some ⟨oc, od, .func (fnOf name qual params body scope dV kV doc pm an cdv ct), osl⟩) (hcd : codeIn (KK w.params) cdv qual = true)
    (hbind : ∀ s, BindsTo s (fnOf name qual params body scope dV kV doc pm an cdv ct) ⟨vs, []⟩ binds) (hloc : ∀ y ∈ binds, scope.names.lookup y.1 = some .local)
    (h : ∀ (dp un : Nat) (gd : Option (List Code)) (outer : List Env) (A₀ : Around) (base g : Heap) (L' : Addr) (h₁ : Heap) (tk : Nat) (gn dr os) (mean : ExcName → Option Value) (mg mb : Str → Option Value) (R : Value → Shared → Prop) (o : Obj),
      Below A₀ base outer g → Fr g L' h₁ (fun y => binds.reverse.lookup y) → News g L' h₁ [(dd, o)] → (KK w.params).In g → Top VV (looseW VV [Str.ofString "_filemode_table"]) mean mg mb g →
      dp + d < recursionLimit → un + 8 * d < cLine → Pre o → (∀ v o' h' tk', (∀ b x, g.get? b = some x → h'.get? b = some x) → h'.get? dd = some o' → Out o' v → R v ⟨h', gn, dr, tk', os⟩) →
      wpAny (model PySem.Challenge.rw_in0209_01.row.prog w) (ktrTop dp un gd qual scope L' f cdv [] outer) (execs body (envOf qual scope L' f cdv))
        (fun fl s' => R (match fl with | .ret v => v | _ => .none) s') (fun _ _ => False) ⟨h₁, gn, dr, tk, os⟩)
    (hcell : ∀ x ∈ scope.names, x.2 ≠ .cell) (hco : scope.isCoroutine = false := by rfl) (hgen : scope.isGenerator = false := by rfl) (hk : scope.kind = .function := by rfl) :
    ConM w f vs (d + 1) dd Pre Out := by
  intro dp un gd cn cs a ccd cl outer A₀ base h₀ L m mean mg mb s Q E o B F X T hck hdp hun N hpre hret
  have G := groundX (A := ktrTop dp un gd cn cs L a ccd cl outer) (env := envX cn cs L a ccd cl) (R := fun _ _ => True) B F N rfl rfl hck
  have FG := G.1
  have Bg := G.2.1
  have hdp' : dp + 1 + d < recursionLimit := by omega
  have hun' : (un + 3) + 8 * d < cLine := by omega
  have hroom : (ktrTop dp un gd cn cs L a ccd cl outer).depth < recursionLimit := by show dp < recursionLimit; omega
  refine wpAny_call (codeAny_call_def (fd := fnX name qual params body scope [] dV kV doc pm an cdv ct) (body := body) (binds := binds) hroom ((X.keeps F.keep) _ _ ho) rfl (T.nolimit.keeps F.keep)
    (codeRec_of (X.keeps F.keep) hcd) rfl (hbind s) hcell hloc (fun h₁ hns hk₁ => ?_) hco hgen hk)
  obtain ⟨hp, gn, dr, tk, os⟩ := s
  refine wpAny_mono (h (dp + 1) (un + 3) gd (envX cn cs L a ccd cl :: outer) _ base (hideAll hp [dd]) _ h₁ _ gn dr os mean mg mb (fun v s' => Q v s') o Bg ⟨hns, fun b o e => hk₁ b o (of_hideAll _ e), Nat.le_of_eq (hideAll_size _ _)⟩
    (fun p hp' => ?_) (X.keeps FG.keep) (T.keeps FG.keep) hdp' hun' hpre (fun v o' h' tk' k e ov => hret v o' h' tk' (fun b x hb e => k b x (hideAll_get _ e (by simpa using hb))) e ov))
    (fun fl s' hl => hl) (fun _ _ hf => hf.elim)
  have hpd := List.mem_singleton.mp hp'
  have z := N p hp'
  exact ⟨hk₁ _ _ z.1, Nat.ne_of_lt (Heap.lt_size z.1), by rw [hpd]; exact hideAll_none _ (List.mem_singleton_self _)⟩
end Mine
end partMd
open PySem PySem.W PySem.Calls PyProof.Rows in
theorem Mine.calmMd2 {prog : Program} {w : World} {A : Around} {E Q : Value → Shared → Prop} {s : Shared} (h : wpAny (model prog w) A (call (.builtin "zz") []) Q E s) : wpAny (model prog w) A (call (.builtin "zz") []) Q E s := by w_top off; first | (walk1; fail) | exact h
section partMd2
open PySem PySem.W PySem.Calls PyProof.Rows
set_option Elab.async false
namespace Mine
set_option maxRecDepth 100000
set_option maxHeartbeats 2000000
theorem warmMd2 (w : World) : KK w.params = KK w.params ∧ PySem.Challenge.rw_in0209_01 = PySem.Challenge.rw_in0209_01 := by k_fill; exact ⟨rfl, rfl⟩
section
local macro_rules | `(tactic| walk_at "setItem ref str") => `(tactic| refine hold ?_)
theorem setitem_con (w : World) (d : Addr) (kvs : List (Str × Value)) (k : Str) (t : Tok) (x : Int) (u : Tok) (hl : kvs.length ≤ 1000) :
    ConM w 63 [.ref d, .str k t, .int x u] 1 d (fun o => o.IsDictOf (SK w) kvs) (fun o r => r = .none ∧ o.IsDictOf (SK w) (stored kvs k (.int x u))) := by
  refine con_ofM [("a", .ref d), ("b", .str k t), ("c", .int x u)] (by k_is) (by k_is) (fun s => BindsTo.of_eq rfl) (locs rfl) ?_ (by decide)
  intro dp un gd outer A₀ base g L' h₁ tk gn dr os mean mg mb R o B F N X T hdp hun hpre hret
  k_fold
  k_steps
  have hD : h₁.DictOf (SK w) d kvs := Heap.dictOf_iff.mpr ⟨o, (N _ List.mem_cons_self).1, hpre⟩
  unfold Hold
  refine wpAny_setItem_pairs (knd := SK w) (k := k) (beq_self_eq_true k) hD (fun h' hD' hs' => ?_) (Nat.le_trans hl (by rw [sizeLine_eq]; decide))
  have z := N _ List.mem_cons_self
  have F' := F.change hs' z.2.1 z.2.2
  obtain ⟨o', ho', hO'⟩ := Heap.dictOf_iff.mp hD'
  k_steps
  exact hret _ o' _ _ F'.keep ho' ⟨rfl, hO'⟩
end
end Mine
end partMd2
section partTr
open PySem PySem.W PySem.Calls PyProof.Rows
set_option Elab.async false
namespace Mine
set_option maxRecDepth 100000
set_option maxHeartbeats 2000000
/-- a dict's pairs, its ints with any tokens -/
inductive KvIs : List (Str × Value) → List (Str × Int) → Prop
  | nil : KvIs [] []
  | cons (k : Str) (x : Int) (t : Tok) {kvs md} (h : KvIs kvs md) : KvIs ((k, .int x t) :: kvs) ((k, x) :: md)
noncomputable def modeAt (md : List (Str × Int)) (k : Str) : Option Int := (md.find? fun kv => decide (kv.1 = k)).map (·.2)
noncomputable def putMode (md : List (Str × Int)) (k : Str) (x : Int) : List (Str × Int) :=
  if md.any (fun kv => decide (kv.1 = k)) then md.map (fun kv => if kv.1 = k then (kv.1, x) else kv) else md ++ [(k, x)]
theorem kvIs_length {kvs md} (h : KvIs kvs md) : kvs.length = md.length := by
  induction h with
  | nil => rfl
  | cons k x t _ ih => rw [List.length_cons, List.length_cons, ih]
theorem kvIs_none {kvs md} {k : Str} (h : KvIs kvs md) : modeAt md k = none → valueAt kvs k = none := by
  induction h with
  | nil => intro _; rfl
  | cons k' x t _ ih =>
    intro e
    unfold modeAt at e ih
    unfold valueAt at ih ⊢
    by_cases hk : k' = k
    · simp [List.find?_cons, hk] at e
    · rw [List.find?_cons, decide_eq_false hk] at e
      rw [List.find?_cons, decide_eq_false hk]
      exact ih e
theorem kvIs_some {kvs md} {k : Str} {y : Int} (h : KvIs kvs md) : modeAt md k = some y → ∃ t, valueAt kvs k = some (.int y t) := by
  induction h with
  | nil => intro e; exact absurd e (by simp [modeAt])
  | cons k' x t _ ih =>
    intro e
    unfold modeAt at e ih
    unfold valueAt at ih ⊢
    by_cases hk : k' = k
    · rw [List.find?_cons, decide_eq_true hk] at e
      rw [List.find?_cons, decide_eq_true hk]
      exact ⟨t, by rw [← Option.some.inj e]; rfl⟩
    · rw [List.find?_cons, decide_eq_false hk] at e
      rw [List.find?_cons, decide_eq_false hk]
      exact ih e
theorem kvIs_isSome {kvs md} {k : Str} (h : KvIs kvs md) : (valueAt kvs k).isSome = (modeAt md k).isSome := by
  cases e : modeAt md k with
  | none => rw [kvIs_none h e]; rfl
  | some y => obtain ⟨t, e'⟩ := kvIs_some h e; rw [e']; rfl
theorem kvIs_any {kvs md} {k : Str} (h : KvIs kvs md) : kvs.any (fun kv => decide (kv.1 = k)) = md.any (fun kv => decide (kv.1 = k)) := by
  induction h with
  | nil => rfl
  | cons k' x t _ ih => rw [List.any_cons, List.any_cons, ih]
theorem kvIs_map {kvs md} (k : Str) (x : Int) (t : Tok) (h : KvIs kvs md) : KvIs (kvs.map fun kv => if kv.1 = k then (kv.1, .int x t) else kv) (md.map fun kv => if kv.1 = k then (kv.1, x) else kv) := by
  induction h with
  | nil => exact .nil
  | cons k' x' t' _ ih =>
    rw [List.map_cons, List.map_cons]
    by_cases hk : k' = k
    · rw [if_pos hk, if_pos hk]; exact .cons _ _ _ ih
    · rw [if_neg hk, if_neg hk]; exact .cons _ _ _ ih
theorem kvIs_snoc {kvs md} (k : Str) (x : Int) (t : Tok) (h : KvIs kvs md) : KvIs (kvs ++ [(k, .int x t)]) (md ++ [(k, x)]) := by
  induction h with
  | nil => exact .cons _ _ _ .nil
  | cons k' x' t' _ ih => exact .cons _ _ _ ih
theorem kvIs_stored {kvs md} (k : Str) (x : Int) (t : Tok) (h : KvIs kvs md) : KvIs (stored kvs k (.int x t)) (putMode md k x) := by
  unfold stored putMode
  rw [kvIs_any h]
  split
  · exact kvIs_map k x t h
  · exact kvIs_snoc k x t h
theorem putMode_len (md : List (Str × Int)) (k : Str) (x : Int) : (putMode md k x).length ≤ md.length + 1 := by
  unfold putMode
  split
  · rw [List.length_map]; omega
  · rw [List.length_append, List.length_singleton]; exact Nat.le_refl _
noncomputable def wayOf (s : List Str × List (Str × Int)) (x : Int) : Str := joinS (s.1.getD (x.fmod s.1.length).toNat "") (nameS x)
noncomputable def treeStep (s : List Str × List (Str × Int)) (x : Int) : List Str × List (Str × Int) :=
  (if (modeAt s.2 (wayOf s x)).isSome then s.1 else s.1 ++ [wayOf s x], putMode s.2 (wayOf s x) (modeI x))
noncomputable def treeOf (ns : List Int) : List Str × List (Str × Int) := ns.foldl treeStep ([("/" : Str)], [(("/" : Str), 16877)])
theorem treeOf_snoc (ns : List Int) (x : Int) : treeOf (ns ++ [x]) = treeStep (treeOf ns) x := by unfold treeOf; rw [List.foldl_append]; rfl
theorem ConM.use {w : World} {f : Addr} {vs : List Value} {d : Nat} {dd : Addr} {Pre : Obj → Prop} {Out : Obj → Value → Prop} {dp un : Nat} {gd : Option (List Code)} {cn : Str} {cs : Scope} {a : Addr} {ccd : Value} {cl : List (Str × Addr)} {outer : List Env} {A₀ : Around} {base h₀ : Heap} {L : Addr} {m : Str → Option Value}
    {mean : ExcName → Option Value} {mg mb : Str → Option Value} {s : Shared} {Q E : Value → Shared → Prop} {news : List (Addr × Obj)} {o : Obj} {u : Obj → List (Addr × Obj)}
    (C : ConM w f vs d dd Pre Out) (B : Below A₀ base outer h₀) (F : Fr h₀ L s.heap m) (X : (KK w.params).In h₀) (T : Top VV (looseW VV [Str.ofString "_filemode_table"]) mean mg mb h₀) (hck : cs.kind = .function)
    (N : News h₀ L s.heap news) (U : UpdF dd o news u) (hdp : dp + d < recursionLimit) (hun : un + 8 * d < cLine) (hpre : Pre o)
    (ret : ∀ r o' h' tk', Fr h₀ L h' m → News h₀ L h' (u o') → Out o' r → Q r { s with heap := h', toks := tk' }) :
    wpAny (model PySem.Challenge.rw_in0209_01.row.prog w) (ktrTop dp un gd cn cs L a ccd cl outer) (call (.ref f) vs) Q E s := by
  obtain ⟨pre, post, e1, e2, e3, e4⟩ := U.split
  subst e1
  have hm : (dd, o) ∈ pre ++ (dd, o) :: post := List.mem_append_right _ List.mem_cons_self
  have z := N _ hm
  refine C dp un gd cn cs a ccd cl outer A₀ base h₀ L m mean mg mb s Q E o B F X T hck hdp hun (fun p hp => by rw [List.mem_singleton.mp hp]; exact z) hpre fun r o' h' tk' k e ov => ?_
  have hL : dd ≠ L := z.2.1
  refine ret r o' h' tk' ⟨F.ns.at' fun x hx => k _ _ (Ne.symm hL) hx, fun b x hb => k _ _ (fun q => by rw [q, z.2.2] at hb; cases hb) (F.keep b x hb), F.above⟩ ?_ ov
  rw [e2]
  intro p hp
  rcases List.mem_append.mp hp with h | h
  · have y := N p (List.mem_append_left _ h)
    exact ⟨k _ _ (e3 p h) y.1, y.2⟩
  · rcases List.mem_cons.mp h with h | h
    · rw [h]; exact ⟨e, z.2⟩
    · have y := N p (List.mem_append_right _ (List.mem_cons_of_mem _ h))
      exact ⟨k _ _ (e4 p h) y.1, y.2⟩
end Mine
end partTr
section partMa
open PySem PySem.W PySem.Calls PyProof.Rows
set_option Elab.async false
namespace Mine
set_option maxRecDepth 100000
set_option maxHeartbeats 2000000
open PySem.Sem (wp)
open PySem.AutoSeq1 (wpAny_loadPart')
namespace F
theorem slot_map_init : Slot "map" "__init__" "object.__init__" :=
  .of (owner := "object") (n := "__init__") (by rw [typeLookup_type, builtinLookup_eq_fast]; kernel_rfl) (by decide +kernel) (by decide +kernel) (by decide +kernel)
    (by first | exact .inl (by decide +kernel) | exact .inr (by decide +kernel)) (by rw [isSubtype_type]; kernel_rfl)
theorem slot_map_iter : Slot "map" "__iter__" "map.__iter__" :=
  .of (owner := "map") (n := "__iter__") (by rw [typeLookup_type, builtinLookup_eq_fast]; kernel_rfl) (by decide +kernel) (by decide +kernel) (by decide +kernel)
    (by first | exact .inl (by decide +kernel) | exact .inr (by decide +kernel)) (by rw [isSubtype_type]; kernel_rfl)
theorem slot_map_next : Slot "map" "__next__" "map.__next__" :=
  .of (owner := "map") (n := "__next__") (by rw [typeLookup_type, builtinLookup_eq_fast]; kernel_rfl) (by decide +kernel) (by decide +kernel) (by decide +kernel)
    (by first | exact .inl (by decide +kernel) | exact .inr (by decide +kernel)) (by rw [isSubtype_type]; kernel_rfl)
theorem entry_map_next : entryFor table "map.__next__" = some Builtin.«map.__next__» := entryFor_of_tree (by kernel_rfl)
theorem entry_map_new : entryFor table "map.__new__" = some Builtin.«map.__new__» := entryFor_of_tree (by kernel_rfl)
theorem entry_map_iter : entryFor table "map.__iter__" = some Builtin.«dict_keyiterator.__iter__» :=
  entryFor_alias (id' := "dict_keyiterator.__iter__") (by kernel_rfl) (by first | rfl | decide +kernel | (unfold String.splitOn; simp +decide [String.splitOnAux])) (by decide +kernel) (by kernel_rfl)
theorem owner_map : Manifest.owners.lookup (String.ofList ['m', 'a', 'p'].reverse.reverse) = some Manifest.sig_map := by kernel_rfl
theorem args_map_next_1 (a : Value) : argsOk "map.__next__" ⟨[a], []⟩ := by
  unfold argsOk; rw [signature?_of (id := "map.__next__") (n := ['_', '_', 't', 'x', 'e', 'n', '_', '_']) (o := ['p', 'a', 'm']) (by kernel_rfl) owner_map]; kernel_rfl
theorem args_map_iter_1 (a : Value) : argsOk "map.__iter__" ⟨[a], []⟩ := by
  unfold argsOk; rw [signature?_of (id := "map.__iter__") (n := ['_', '_', 'r', 'e', 't', 'i', '_', '_']) (o := ['p', 'a', 'm']) (by kernel_rfl) owner_map]; kernel_rfl
theorem mro_map : mroOf (.type "map") = pure [.type "map", .type "object"] := by rw [mroOf_type]; kernel_rfl
theorem lookup_map_new : typeLookup (.type "map") "__new__" = pure (some (.builtin "map.__new__")) := by rw [typeLookup_type, builtinLookup_eq_fast]; kernel_rfl
theorem map_no_len : typeLookup (.type "map") "__len__" = pure none := by rw [typeLookup_type, builtinLookup_eq_fast]; kernel_rfl
theorem map_no_hint : typeLookup (.type "map") "__length_hint__" = pure none := by rw [typeLookup_type, builtinLookup_eq_fast]; kernel_rfl
theorem called_map : TypeCalled "map" "map.__new__" "object.__init__" :=
  ⟨by decide +kernel, by decide +kernel, ⟨_, _, mro_map⟩, madeBy_type mro_map lookup_map_new (by decide +kernel), by decide +kernel, by rw [isSubtype_type]; kernel_rfl, slot_map_init⟩
theorem typeCall_map_2 (a b : Value) : checkTypeCall "map" ⟨[a, b], []⟩ = pure () := by kernel_rfl
theorem newCall_map_2 (a b : Value) : checkBuiltinCall "map.__new__" ⟨[.type "map", a, b], []⟩ = pure () := by kernel_rfl
end F
theorem sub_map : isSubtype (.type "map") (.type "map") = pure true := by rw [isSubtype_type]; kernel_rfl

noncomputable def liO (l : Addr) : Obj := { cls := .type "list_iterator", data := .fields #[.ref l, .int 0 0] }
noncomputable def mpO (T : Addr) (f : Value) : Obj := { cls := .type "map", dict := none, data := .fields #[.ref T, f], slots := #[] }
noncomputable def tuO (vs : Array Value) : Obj := { cls := .type "tuple", data := .seq vs }
noncomputable def mapH2 (h : Heap) (l : Addr) : Heap := (h.push (liO l)).push (tuO #[.ref h.objs.size])
noncomputable def mapH3 (h : Heap) (f : Value) (l : Addr) : Heap := (mapH2 h l).push (mpO (h.push (liO l)).objs.size f)
theorem meets_map_new (f : Value) (l : Addr) (xs : Array Value) :
    Meets (Builtin.«map.__new__» ⟨[.type "map", f, .ref l], []⟩) (fun _ R s => s.heap.IsList l xs ∧
      R (.ok (.ret (.ref (mapH2 s.heap l).objs.size))) { s with heap := mapH3 s.heap f l }) :=
  .of_wp fun prog w A R s h => by
    obtain ⟨hp, g, d, tk, os⟩ := s; obtain ⟨hl, h⟩ := h
    have hsub := sub_map
    have hL : Heap.IsList (Shared.heap ⟨hp, g, d, tk, os⟩) l xs := hl
    wp_walk using wpAny_pyIter_list hL
    exact ⟨_, rfl, h⟩
section
variable {prog : Program} {w : World} {A : Around} {E : Value → Shared → Prop} {s : Shared}
theorem call_map_list {f : Value} {l : Addr} {xs : Array Value} {Q : Value → Shared → Prop} (hl : s.heap.IsList l xs)
    (h : Q (.ref (mapH2 s.heap l).objs.size) { s with heap := mapH3 s.heap f l }) :
    wpAny (model prog w) A (call (.type "map") [f, .ref l]) Q E s :=
  callType_new F.called_map (by decide) (F.typeCall_map_2 _ _) (F.newCall_map_2 _ _) (fun obj => PySem.F.args_object_init_3 obj _ _) F.entry_map_new
    (meets_map_new f l xs) ⟨hl, ⟨_, Heap.get?_push_size _ rfl, rfl⟩, h⟩
theorem wpAny_pyIter_map {e T : Addr} {f : Value} {Q : Value → Shared → Prop} (he : s.heap.get? e = some (mpO T f)) (h : Q (.ref e) s) : wpAny (model prog w) A (pyIter (.ref e)) Q E s := by
  have hT : s.TypeIs (.ref e) "map" := ⟨_, he, rfl⟩
  refine wpAny_pyIter_slot hT F.slot_map_iter (wpAny_call_entry F.slot_map_iter hT F.entry_map_iter ?_ (F.args_map_iter_1 _))
  show wpAny _ _ (ret (.ref e)) _ _ s
  exact wpAny_pure ⟨_, rfl, "map", _, hT, F.slot_map_next.lookup, h⟩
theorem map_next_item {e T it l : Addr} {f : Value} {i : Nat} {xs : Array Value} {x : Value} {Q : Option Value → Shared → Prop}
    (he : s.heap.get? e = some (mpO T f)) (hT : s.heap.get? T = some (tuO #[.ref it])) (hit : s.heap.IsListIter it l i) (hl : s.heap.IsList l xs) (hx : xs[i]? = some x) (hne : e ≠ it)
    (hc : ∀ h', h'.IsListIter it l (i + 1) → Heap.SameBut it s.heap h' → wpAny (model prog w) A.in1 (call f [x]) (fun v => Q (some v)) (fun _ _ => False) { s with heap := h' }) :
    wpAny (model prog w) A (pyNext (.ref e)) Q E s := by
  have hty : s.TypeIs (.ref e) "map" := ⟨_, he, rfl⟩
  unfold pyNext
  refine wpAny_bind (wpAny_attempt (wpAny_callSpecial?_slot (name := Str.ofString "__next__") hty F.slot_map_next
    (wpAny_call_entry F.slot_map_next hty F.entry_map_next ?_ (F.args_map_next_1 _))))
  show wpAny _ _ (field (.ref e) 0 >>= _) _ _ _
  refine wpAny_bind (wpAny_field he rfl (x := .ref T) rfl ?_)
  refine wpAny_bind (wpAny_seqItems hT rfl ?_)
  dsimp only
  rw [show (#[Value.ref it] : Array Value) = [Value.ref it].toArray from rfl]
  simp only [List.forIn_toArray, List.forIn_cons, List.forIn_nil]
  refine wpAny_bind (wpAny_bind (wpAny_bind (wpAny_holding (wpAny_nextOf_list_item hit hl hx fun h' hit' hs => wpAny_pure ?_))))
  have he' : h'.get? e = some (mpO T f) := hs.extBut _ _ hne he
  refine wpAny_pure ?_
  show wpAny _ _ (field (.ref e) 1 >>= _) _ _ _
  refine wpAny_bind (wpAny_field he' rfl (x := f) rfl ?_)
  refine wpAny_bind (wpAny_holding ?_)
  refine wpAny_mono (hc h' hit' hs) (fun v s' hq => ?_) (fun _ _ hf => hf.elim)
  exact wpAny_bind (wpAny_letGo (wpAny_pure ⟨_, rfl, wpAny_pure hq⟩))
theorem map_next_end {e T it l : Addr} {f : Value} {i : Nat} {xs : Array Value} {Q : Option Value → Shared → Prop} (hh : A.handled = none)
    (he : s.heap.get? e = some (mpO T f)) (hT : s.heap.get? T = some (tuO #[.ref it])) (hit : s.heap.IsListIter it l i) (hl : s.heap.IsList l xs) (hx : xs[i]? = none)
    (hQ : ∀ h', Heap.ExtBut it s.heap h' → Q none { s with heap := h' }) : wpAny (model prog w) A (pyNext (.ref e)) Q E s := by
  have hty : s.TypeIs (.ref e) "map" := ⟨_, he, rfl⟩
  unfold pyNext
  refine wpAny_bind (wpAny_attempt (wpAny_callSpecial?_slot (name := Str.ofString "__next__") hty F.slot_map_next
    (wpAny_call_entry F.slot_map_next hty F.entry_map_next ?_ (F.args_map_next_1 _))))
  show wpAny _ _ (field (.ref e) 0 >>= _) _ _ _
  refine wpAny_bind (wpAny_field he rfl (x := .ref T) rfl ?_)
  refine wpAny_bind (wpAny_seqItems hT rfl ?_)
  dsimp only
  rw [show (#[Value.ref it] : Array Value) = [Value.ref it].toArray from rfl]
  simp only [List.forIn_toArray, List.forIn_cons, List.forIn_nil]
  refine wpAny_bind (wpAny_bind (wpAny_bind (wpAny_holding (wpAny_nextOf_list_end hh hit hl hx fun h' x he' hx' => ?_))))
  obtain ⟨o, ho, hc⟩ := hx'
  refine wpAny_bind (wpAny_isInstance (T := "StopIteration") (b := true) ⟨o, ho, hc⟩ isSubtype_stop ?_)
  exact wpAny_pure (hQ _ he')

end
structure Mv (wr : List Addr) (s s' : Shared) : Prop where
  heap : ∀ b o, b ∉ wr → s.heap.get? b = some o → s'.heap.get? b = some o
  gens : s'.gens = s.gens
  drawn : s'.drawn = s.drawn
  os : s'.os = s.os
theorem Mv.refl {wr : List Addr} {s : Shared} : Mv wr s s := ⟨fun _ _ _ e => e, rfl, rfl, rfl⟩
theorem Mv.trans {wr : List Addr} {a b c : Shared} (x : Mv wr a b) (y : Mv wr b c) : Mv wr a c :=
  ⟨fun z o hz e => y.heap z o hz (x.heap z o hz e), y.gens.trans x.gens, y.drawn.trans x.drawn, y.os.trans x.os⟩
theorem Mv.mono {wr wr' : List Addr} {a b : Shared} (x : Mv wr a b) (h : ∀ z ∈ wr, z ∈ wr') : Mv wr' a b :=
  ⟨fun z o hz e => x.heap z o (fun q => hz (h z q)) e, x.gens, x.drawn, x.os⟩
theorem Mv.then_heap {wr : List Addr} {a b : Shared} {h' : Heap} {tk : Nat} (x : Mv wr a b) (k : ∀ z o, z ∉ wr → b.heap.get? z = some o → h'.get? z = some o) : Mv wr a { b with heap := h', toks := tk } :=
  ⟨fun z o hz e => k z o hz (x.heap z o hz e), x.gens, x.drawn, x.os⟩
theorem Mv.drop_new {wr : List Addr} {s₂ s' : Shared} {o : Obj} {tk : Nat}
    (x : Mv (s₂.heap.objs.size :: wr) { s₂ with heap := s₂.heap.push o, toks := tk } s') : Mv wr s₂ s' :=
  ⟨fun b ob hb e => x.heap b ob (fun hm => by
      rcases List.mem_cons.mp hm with e1 | hm
      · exact absurd (e1 ▸ Heap.lt_size e) (Nat.lt_irrefl _)
      · exact hb hm) (Heap.get?_push_of_some _ e), x.gens, x.drawn, x.os⟩
structure WalksM (prog : Program) (w : World) (A : Around) (I : Addr) (fp wr : List Addr) (n : Nat) (P : Nat → Value → Prop) (St : Nat → Shared → Prop) : Prop where
  sub : ∀ b ∈ wr, b ∈ fp
  frame : ∀ i (s : Shared) h' tk, St i s → (∀ b ∈ fp, ∀ o, s.heap.get? b = some o → h'.get? b = some o) → St i { s with heap := h', toks := tk }
  item : ∀ i (s : Shared) (Q : Option Value → Shared → Prop) (E : Value → Shared → Prop), i < n → St i s →
    (∀ v s', P i v → St (i + 1) s' → Mv wr s s' → Q (some v) s') → wpAny (model prog w) A (pyNext (.ref I)) Q E s
  done : ∀ (s : Shared) (Q : Option Value → Shared → Prop) (E : Value → Shared → Prop), St n s → (∀ s', Mv wr s s' → Q none s') → wpAny (model prog w) A (pyNext (.ref I)) Q E s
  self : ∀ i (s : Shared) (Q : Value → Shared → Prop) (E : Value → Shared → Prop), St i s → Q (.ref I) s → wpAny (model prog w) A (pyIter (.ref I)) Q E s
section
variable {prog : Program} {w : World} {A : Around} {R : Result → Shared → Prop} {I : Addr} {fp wr : List Addr} {n : Nat} {P : Nat → Value → Prop} {St : Nat → Shared → Prop}
theorem extend_loopM (W : WalksM prog w A.in1 I fp wr n P St) (hn : n ≤ sizeLine) (S : Addr) (hSf : S ∉ fp) (res : Value) :
    ∀ (k i : Nat) (s : Shared) (acc : Array Value) (c : Nat), n - i = k → i ≤ n → St i s → s.heap.get? S = some { cls := .type "list", dict := none, data := .seq acc c, slots := #[] } → ItemsOf P acc i →
    (∀ s' acc' c', Mv (S :: wr) s s' → s'.heap.get? S = some { cls := .type "list", dict := none, data := .seq acc' c', slots := #[] } → ItemsOf P acc' n → R (.ok (.ret res)) s') →
    codeAny (model prog w) A (.builtin "list.extend.loop" ⟨[.ref S, .ref I, res], []⟩) R s := by
  have hSw : S ∉ wr := fun h => hSf (W.sub _ h)
  have hsub : ∀ b ∈ wr, b ∈ S :: wr := fun b hb => List.mem_cons_of_mem _ hb
  intro k
  induction k with
  | zero =>
    intro i s acc c hk hi hst hS hacc hR
    have hin : i = n := by omega
    subst hin
    refine codeAny_builtin PySem.F.entry_extend_loop ?_
    rw [Around.under_plainId PySem.F.plain_extend_loop _]
    show wpAny _ A.in1 (pyNext (.ref I) >>= _) _ _ s
    refine wpAny_bind (W.done s _ _ hst fun s' hm => ?_)
    exact wpAny_pure (hR s' acc c (hm.mono hsub) (hm.heap S _ hSw hS) hacc)
  | succ k ih =>
    intro i s acc c hk hi hst hS hacc hR
    have hlt : i < n := by omega
    refine codeAny_builtin PySem.F.entry_extend_loop ?_
    rw [Around.under_plainId PySem.F.plain_extend_loop _]
    show wpAny _ A.in1 (pyNext (.ref I) >>= _) _ _ s
    refine wpAny_bind (W.item i s _ _ hlt hst fun v s' hP hst' hm => ?_)
    have hS' := hm.heap S _ hSw hS
    show wpAny _ A.in1 (updateSeq S (·.push v) >>= _) _ _ _
    refine wpAny_bind ?_
    refine wpAny_updateSeq hS' rfl (wpAny_pure ⟨plainId_quiet PySem.F.plain_extend_loop _, ih (i + 1) _ (acc.push v) _ (by omega) hlt (W.frame _ s' _ s'.toks hst' fun b hb o e => ?_) (Heap.get?_update_self _ hS' rfl) (hacc.push hP) fun s'' acc' c' hm'' hS'' hacc' => ?_⟩)
      (by rw [hacc.1]; omega) (by show (acc.push v).size ≤ sizeLine + 1; rw [Array.size_push, hacc.1]; omega)
    · exact (Heap.get?_update_other _ _ (fun h : S = b => hSf (by rw [h]; exact hb))).trans e
    · refine hR s'' acc' c' (Mv.trans ((hm.mono hsub).then_heap fun b o hb e => ?_) hm'') hS'' hacc'
      exact (Heap.get?_update_other _ _ (fun h : S = b => hb (by rw [h]; exact List.mem_cons_self))).trans e
end
section
variable {prog : Program} {w : World} {A : Around} {E : Value → Shared → Prop} {s : Shared}
variable {I : Addr} {fp wr : List Addr} {n : Nat} {P : Nat → Value → Prop} {St : Nat → Shared → Prop}
theorem collect_map {Q : List Value → Shared → Prop} (W : WalksM prog w A.in1 I fp wr n P St) (hT : ∀ i s, St i s → s.TypeIs (.ref I) "map") (hst : St 0 s) (hfp : ∀ b ∈ fp, b < s.heap.objs.size) (hI : I ∈ fp)
    (hQ : ∀ s' acc, Mv wr s s' → ItemsOf P acc n → Q acc.toList s') (hn : n ≤ sizeLine) : wpAny (model prog w) A (collect (.ref I)) Q E s := by
  have hSf : s.heap.objs.size ∉ fp := fun hm => Nat.lt_irrefl _ (hfp _ hm)
  have hSI : s.heap.objs.size ≠ I := fun e => hSf (e ▸ hI)
  unfold collect
  refine wpAny_bind (wpAny_runValue (codeAny_builtin PySem.F.entry_proto_collect ?_))
  rw [Around.under_plainId PySem.F.plain_proto_collect _]
  show wpAny _ A.in1 (newList [] >>= fun l => again (.builtin "list.__iadd__" ⟨[l, .ref I], []⟩)) _ _ s
  refine wpAny_bind (wpAny_newObj_type ?_)
  refine wpAny_pure ⟨plainId_quiet PySem.F.plain_list_iadd _, codeAny_builtin PySem.F.entry_list_iadd ?_⟩
  rw [Around.under_plainId PySem.F.plain_list_iadd _]
  have hst₁ := W.frame 0 s (s.heap.push { cls := .type "list", data := .seq ([] : List Value).toArray }) s.toks hst fun b _ o e => Heap.get?_push_of_some _ e
  show wpAny _ A.in1 (Builtin.List.listExtendWith (.ref s.heap.objs.size) (.ref I) (.ref s.heap.objs.size)) _ _ _
  unfold Builtin.List.listExtendWith
  refine wpAny_bind (wpAny_typeOf (hT 0 _ hst₁) ?_)
  have h1 : Builtin.List.listSameRef (.ref s.heap.objs.size) (.ref I) = false := by simp [Builtin.List.listSameRef, hSI]
  have h2 : (Value.type "map" == Value.type "list") = false := by decide
  have h3 : (Value.type "map" == Value.type "tuple") = false := by decide
  simp only [h1, h2, h3, Bool.or_false, Bool.false_eq_true, if_false]
  refine wpAny_bind (W.self 0 _ _ _ hst₁ ?_)
  refine wpAny_bind (wpAny_holding ?_)
  unfold Builtin.List.listLengthHint
  refine wpAny_bind (wpAny_specialOf (hT 0 _ hst₁) F.map_no_len ?_)
  show wpAny _ A.in1 (specialOf (Value.ref I) (Str.ofString "__length_hint__") >>= _) _ _ _
  refine wpAny_bind (wpAny_specialOf (hT 0 _ hst₁) F.map_no_hint ?_)
  refine wpAny_pure ?_
  show wpAny _ A.in1 (rule "list.extend.makes-room" >>= fun _ => Builtin.List.listTouch (.ref s.heap.objs.size) >>= fun _ =>
    again (.builtin "list.extend.loop" ⟨[.ref s.heap.objs.size, .ref I, .ref s.heap.objs.size], []⟩)) _ _ _
  refine wpAny_bind (wpAny_rule ?_)
  have hS₁ : (s.heap.push { cls := .type "list", data := .seq ([] : List Value).toArray }).get? s.heap.objs.size = some { cls := .type "list", data := .seq ([] : List Value).toArray } := Heap.get?_push_size _ rfl
  refine wpAny_bind ?_
  show wpAny _ A.in1 (updateSeq s.heap.objs.size (·.push .none) >>= fun _ => updateSeq s.heap.objs.size (·.pop)) _ _ _
  refine wpAny_bind (wpAny_updateSeq hS₁ rfl ?_)
  have hS₂ := Heap.get?_update_self (Obj.mapSeq (·.push Value.none)) hS₁ rfl
  refine wpAny_updateSeq hS₂ rfl ?_
  have hS₃ := Heap.get?_update_self (Obj.mapSeq (·.pop)) hS₂ rfl
  have oth : ∀ b o, b ≠ s.heap.objs.size → (s.heap.push { cls := .type "list", data := .seq ([] : List Value).toArray }).get? b = some o →
      (((s.heap.push { cls := .type "list", data := .seq ([] : List Value).toArray }).update s.heap.objs.size (Obj.mapSeq (·.push Value.none))).update s.heap.objs.size (Obj.mapSeq (·.pop))).get? b = some o :=
    fun b o hb e => (Heap.get?_update_other _ _ (Ne.symm hb)).trans ((Heap.get?_update_other _ _ (Ne.symm hb)).trans e)
  refine wpAny_pure ⟨plainId_quiet PySem.F.plain_extend_loop _, extend_loopM W hn _ hSf _ n 0 _ _ _ rfl (Nat.zero_le _)
    (W.frame 0 ({ s with heap := s.heap.push { cls := .type "list", data := .seq ([] : List Value).toArray } } : Shared) _ s.toks hst₁ fun b hb o e => oth b o (fun h => hSf (h ▸ hb)) e) hS₃ (ItemsOf.nil P) fun s' acc' c' hm hS' hacc => ?_⟩
  show wpAny _ A (load s.heap.objs.size >>= _) _ _ s'
  refine wpAny_bind (wpAny_load hS' ?_)
  refine wpAny_pure (hQ s' acc' (Mv.drop_new (o := { cls := .type "list", data := .seq ([] : List Value).toArray }) (tk := s.toks) (Mv.trans (Mv.refl.then_heap fun b o hb e => ?_) hm)) hacc)
  exact oth b o (fun h => hb (h ▸ List.mem_cons_self)) e
theorem tuple_new_map {Q₁ : Value → Shared → Prop} (W : WalksM prog w A.in1.in1 I fp wr n P St) (hT : ∀ i s, St i s → s.TypeIs (.ref I) "map") (hst : St 0 s) (hfp : ∀ b ∈ fp, b < s.heap.objs.size) (hI : I ∈ fp)
    (h : ∀ s' acc, Mv wr s s' → ItemsOf P acc n → Q₁ (.ref s'.heap.objs.size) { s' with heap := s'.heap.push { cls := .type "tuple", data := .seq acc } }) (hsz : n ≤ sizeLine) :
    codeAny (model prog w) A (.call (.builtin "tuple.__new__") ⟨[.type "tuple", .ref I], []⟩) (wants Q₁ E) s := by
  refine codeAny_of_tree ?_
  show wpAny _ A.in1 (do checkBuiltinCall "tuple.__new__" ⟨[.type "tuple", .ref I], []⟩; again (.builtin "tuple.__new__" ⟨[.type "tuple", .ref I], []⟩)) _ _ s
  refine wpAny_bind (wpAny_of_eq (PySem.F.newCall_tuple_1 _) (wpAny_pure ⟨plainId_quiet PySem.F.plain_tuple_new _, codeAny_builtin PySem.F.entry_tuple_new ?_⟩))
  rw [Around.under_plainId PySem.F.plain_tuple_new _]
  have hsub := sub_tuple_self
  have hinit := init_tuple_lookup
  have hmh := madeHere_tuple
  have hTI := hT 0 s hst
  wp_walk using wpAny_typeOf hTI, collect_map (hn := hsz) W hT hst hfp hI
  intro s' acc hm hacc
  show wpAny _ _ (Builtin.Tuple.tupleExact acc.toList.toArray >>= fun v => ret v) _ _ _
  unfold Builtin.Tuple.tupleExact
  refine wpAny_bind (wpAny_newObj_type ?_ (by show acc.toList.toArray.size ≤ sizeLine; simp only [Array.toArray_toList]; rw [hacc.1]; exact hsz))
  refine wpAny_pure ?_
  have e : acc.toList.toArray = acc := by simp
  rw [e]
  exact h s' acc hm hacc
theorem call_tuple_map {Q : Value → Shared → Prop} (W : WalksM prog w A.in1.in1.in1 I fp wr n P St) (hT : ∀ i s, St i s → s.TypeIs (.ref I) "map") (hst : St 0 s) (hfp : ∀ b ∈ fp, b < s.heap.objs.size) (hI : I ∈ fp)
    (hQ : ∀ s' acc, Mv wr s s' → ItemsOf P acc n → Q (.ref s'.heap.objs.size) { s' with heap := s'.heap.push { cls := .type "tuple", data := .seq acc } }) (hsz : n ≤ sizeLine) :
    wpAny (model prog w) A (call (.type "tuple") [.ref I]) Q E s := by
  refine callType_codes (Q₁ := fun obj s₁ => s₁.TypeIs obj "tuple" ∧ Q obj s₁) PySem.F.called_tuple (PySem.F.typeCall_tuple_1 _) PySem.F.entry_object_init
    (tuple_new_map (hsz := hsz) W hT hst hfp hI fun s' acc hm hacc => ⟨⟨_, Heap.get?_push_size _ rfl, rfl⟩, hQ s' acc hm hacc⟩) fun obj s₁ h₁ => ?_
  exact ⟨h₁.1, PySem.F.args_object_init_2 obj _, object_init_meets PySem.F.called_tuple.init.lookup PySem.F.called_tuple.made (by decide) prog w A.in1 _ s₁ ⟨h₁.1, rfl, h₁.2⟩⟩
end
end Mine
end partMa
section partMa2
open PySem PySem.W PySem.Calls PyProof.Rows
set_option Elab.async false
namespace Mine
set_option maxRecDepth 100000
set_option maxHeartbeats 2000000
theorem Fr.but {h₀ h h' : Heap} {L : Addr} {m : Str → Option Value} (F : Fr h₀ L h m) (k : ∀ b, b ≤ L → ∀ o, h.get? b = some o → h'.get? b = some o) : Fr h₀ L h' m := by
  obtain ⟨oL, a1, a2, hL, a3⟩ := F.ns
  exact ⟨⟨oL, a1, a2, k _ (Nat.le_refl _) _ hL, a3⟩, fun b o' e => k _ (Nat.le_of_lt (Nat.lt_of_lt_of_le (Heap.lt_size e) F.above)) _ (F.keep b o' e), F.above⟩
section
variable {prog : Program} {w : World} {A : Around} {E : Value → Shared → Prop} {s : Shared} {h₀ : Heap} {L : Addr} {m : Str → Option Value} {news : List (Addr × Obj)}
theorem map_own {l : Addr} {xs : Array Value} {f : Value} {Q : Value → Shared → Prop} (F : Fr h₀ L s.heap m) (N : News h₀ L s.heap news) (hl : s.heap.IsList l xs)
    (h : ∀ (it : Addr) h', Fr h₀ L h' m → News h₀ L h' ((it + 2, mpO (it + 1) f) :: (it + 1, tuO #[.ref it]) :: (it, liO l) :: news) → Off1 it news → @LT.lt Nat instLTNat L it → l ≠ it → Q (.ref (it + 2)) { s with heap := h' }) :
    wpAny (model prog w) A (call (.type "map") [f, .ref l]) Q E s := by
  refine call_map_list hl ?_
  have F1 := F.push (liO l)
  have N1 := N.push F (liO l)
  have F2 := F1.push (tuO #[.ref s.heap.objs.size])
  have N2 := N1.push F1 (tuO #[.ref s.heap.objs.size])
  have F3 := F2.push (mpO (s.heap.push (liO l)).objs.size f)
  have N3 := N2.push F2 (mpO (s.heap.push (liO l)).objs.size f)
  have e1 : (s.heap.push (liO l)).objs.size = s.heap.objs.size + 1 := Heap.size_push ..
  have e2 : (mapH2 s.heap l).objs.size = s.heap.objs.size + 2 := by show ((s.heap.push (liO l)).push _).objs.size = _; rw [Heap.size_push, e1]
  have N4 : News h₀ L (mapH3 s.heap f l) ((s.heap.objs.size + 2, mpO (s.heap.objs.size + 1) f) :: (s.heap.objs.size + 1, tuO #[.ref s.heap.objs.size]) :: (s.heap.objs.size, liO l) :: news) := by
    rw [← e2, ← e1]; exact N3
  rw [e2]
  refine h _ _ F3 N4 (off1_of fun p hp e => absurd (Heap.lt_size (N p hp).1) (e ▸ Nat.lt_irrefl _)) ?_ ?_
  · obtain ⟨oL, _, _, hL, _⟩ := F.ns; exact Heap.lt_size hL
  · intro e; obtain ⟨o, ho, _⟩ := hl; exact absurd (Heap.lt_size ho) (e ▸ Nat.lt_irrefl _)
end
theorem tuple_map_own {w : World} {dp un : Nat} {gd : Option (List Code)} {cn : Str} {cs : Scope} {a : Addr} {ccd : Value} {cl : List (Str × Addr)} {outer : List Env} {A₀ : Around} {base h₀ : Heap} {L : Addr} {m : Str → Option Value}
    {mean : ExcName → Option Value} {mg mb : Str → Option Value} {s : Shared} {Q E : Value → Shared → Prop} {news : List (Addr × Obj)} {it l : Addr} {x y : Str} {t u : Tok}
    (B : Below A₀ base outer h₀) (F : Fr h₀ L s.heap m) (X : (KK w.params).In h₀) (T : Top VV (looseW VV [Str.ofString "_filemode_table"]) mean mg mb h₀) (hck : cs.kind = .function)
    (N : News h₀ L s.heap ((it + 2, mpO (it + 1) (.ref 136)) :: (it + 1, tuO #[.ref it]) :: (it, liO l) :: news)) (hoff : Off1 it news) (hlt : @LT.lt Nat instLTNat L it) (hne : l ≠ it) (hl : s.heap.IsList l #[.str x t, .str y u])
    (hdp : dp + 1 < recursionLimit) (hun : un + 4 + 8 < cLine)
    (h : ∀ d h' tk', Fr h₀ L h' m → News h₀ L h' ((d, tuO #[.str x t, .str y u]) :: news) → Off1 d news → Q (.ref d) { s with heap := h', toks := tk' }) :
    wpAny (model PySem.Challenge.rw_in0209_01.row.prog w) (ktrTop dp un gd cn cs L a ccd cl outer) (call (.type "tuple") [.ref (it + 2)]) Q E s := by
  have n2 := N _ List.mem_cons_self
  have n1 := N _ (List.mem_cons_of_mem _ List.mem_cons_self)
  have n0 := N _ (List.mem_cons_of_mem _ (List.mem_cons_of_mem _ List.mem_cons_self))
  have nn : ∀ p ∈ news, s.heap.get? p.1 = some p.2 ∧ p.1 ≠ L ∧ h₀.get? p.1 = none := fun p hp => N p (List.mem_cons_of_mem _ (List.mem_cons_of_mem _ (List.mem_cons_of_mem _ hp)))
  let St : Nat → Shared → Prop := fun i s => s.heap.get? (it + 2) = some (mpO (it + 1) (.ref 136)) ∧ s.heap.get? (it + 1) = some (tuO #[.ref it]) ∧ s.heap.IsListIter it l i ∧ s.heap.IsList l #[.str x t, .str y u] ∧ Fr h₀ L s.heap m
  have hsz : ∀ b, b ≤ it + 2 → b ∈ List.range s.heap.objs.size := fun b hb => List.mem_range.mpr (Nat.lt_of_le_of_lt hb (Heap.lt_size n2.1))
  have hLm : ∀ b, b ≤ L → b ∈ List.range s.heap.objs.size := fun b hb => hsz b (by have : @LT.lt Nat instLTNat L it := hlt; exact Nat.le_trans hb (Nat.le_trans (Nat.le_of_lt this) (Nat.le_add_right _ _)))
  have hlm : l ∈ List.range s.heap.objs.size := by obtain ⟨o, ho, _⟩ := hl; exact List.mem_range.mpr (Heap.lt_size ho)
  have W : WalksM PySem.Challenge.rw_in0209_01.row.prog w (ktrTop dp un gd cn cs L a ccd cl outer).in1.in1.in1 (it + 2) (List.range s.heap.objs.size) [it] 2 (fun i v => (#[.str x t, .str y u] : Array Value)[i]? = some v) St := by
    constructor
    · intro b hb; rw [List.mem_singleton.mp hb]; exact hsz _ (Nat.le_add_right _ _)
    · intro i s' h' tk ⟨a1, a2, a3, a4, a5⟩ k
      exact ⟨k _ (hsz _ (Nat.le_refl _)) _ a1, k _ (hsz _ (Nat.le_succ _)) _ a2, a3.at fun o e => k _ (hsz _ (Nat.le_add_right _ _)) _ e, a4.at fun o e => k _ hlm _ e, Fr.but a5 fun b hb o e => k _ (hLm b hb) _ e⟩
    · intro i s' Q' E' hi ⟨a1, a2, a3, a4, a5⟩ hQ
      have hx : ∃ z tz, (#[.str x t, .str y u] : Array Value)[i]? = some (.str z tz) := by
        clear a1 a2 a3 a4 a5 hQ
        have hi' : i = 0 ∨ i = 1 := by omega
        rcases hi' with e | e
        · rw [e]; exact ⟨x, t, rfl⟩
        · rw [e]; exact ⟨y, u, rfl⟩
      obtain ⟨z, tz, hx⟩ := hx
      refine map_next_item a1 a2 a3 a4 hx (Nat.ne_of_gt (by show it < it + 2; exact Nat.lt_add_of_pos_right (by decide))) fun h' b3 sb => ?_
      have F' : Fr h₀ L h' m := Fr.but a5 fun b hb o e => sb.extBut _ _ (Nat.ne_of_lt (Nat.lt_of_le_of_lt hb hlt)) e
      show wpAny _ (ktrTop dp (un + 4) gd cn cs L a ccd cl outer) _ _ _ _
      refine fspath_con w z tz dp (un + 4) gd cn cs a ccd cl outer A₀ base h₀ L m mean mg mb _ _ _ B F' X T hck hdp (by omega) trivial fun r h'' tk' G O => ?_
      subst O
      refine hQ _ _ hx ⟨G _ _ (sb.extBut _ _ (Nat.ne_of_gt (by show it < it + 2; exact Nat.lt_add_of_pos_right (by decide))) a1), G _ _ (sb.extBut _ _ (Nat.ne_of_gt (by show it < it + 1; exact Nat.lt_succ_self _)) a2), b3.at fun o e => G _ _ e, a4.at fun o e => G _ _ (sb.extBut _ _ hne e), F'.keeps G⟩
        ⟨fun b o hb e => G _ _ (sb.extBut _ _ (fun q => hb (q ▸ List.mem_singleton_self _)) e), rfl, rfl, rfl⟩
    · intro s' Q' E' ⟨a1, a2, a3, a4, a5⟩ hQ
      exact map_next_end rfl a1 a2 a3 a4 rfl fun h' k => hQ _ ⟨fun b o hb e => k b o (fun q => hb (q ▸ List.mem_singleton_self _)) e, rfl, rfl, rfl⟩
    · intro i s' Q' E' ⟨a1, a2, a3, a4, a5⟩ hQ
      exact wpAny_pyIter_map a1 hQ
  refine call_tuple_map (A := ktrTop dp un gd cn cs L a ccd cl outer) W (fun i s' st => ⟨_, st.1, rfl⟩) ⟨n2.1, n1.1, ⟨_, n0.1, rfl, rfl⟩, hl, F⟩ (fun b hb => List.mem_range.mp hb) (hsz _ (Nat.le_refl _)) (fun s' acc hm hacc => ?_) (by rw [sizeLine_eq]; decide)
  have e : acc = #[.str x t, .str y u] := by
    have h0 := hacc.2
    have e2 := hacc.1
    apply Array.ext (by rw [e2]; rfl)
    intro i h1 h2
    have := h0 i acc[i] (by simp [h1])
    simp only [Array.getElem?_eq_getElem h2] at this
    exact (Option.some.inj this).symm
  subst e
  have Fl : Fr h₀ L s'.heap m := Fr.but F fun b hb o e => hm.heap _ _ (fun q => absurd (List.mem_singleton.mp q) (Nat.ne_of_lt (Nat.lt_of_le_of_lt hb hlt))) e
  have Nl : News h₀ L s'.heap news := fun p hp => ⟨hm.heap _ _ (fun q => absurd (List.mem_singleton.mp q) (hoff.off p hp)) (nn p hp).1, (nn p hp).2⟩
  have key := h s'.heap.objs.size (s'.heap.push (tuO #[.str x t, .str y u])) s'.toks (Fl.push _) (Nl.push Fl _) (off1_of fun p hp e => absurd (Heap.lt_size (Nl p hp).1) (e ▸ Nat.lt_irrefl _))
  obtain ⟨hp', gn', dr', tk', os'⟩ := s'
  have e1 := hm.gens
  have e2 := hm.drawn
  have e3 := hm.os
  dsimp only at e1 e2 e3 key ⊢
  subst e1 e2 e3
  exact key
end Mine
end partMa2
section partTc
open PySem PySem.W PySem.Calls PyProof.Rows
set_option Elab.async false
namespace Mine
set_option maxRecDepth 100000
set_option maxHeartbeats 2000000
open PyProof.Rows.LCg
section
variable {prog : Program} {w : World} {A : Around} {E : Value → Shared → Prop} {s : Shared} {h₀ : Heap} {L : Addr} {m : Str → Option Value} {env : Env}
noncomputable def SrcTup (prog : Program) (w : World) (A : Around) (h₀ : Heap) (L : Addr) (m : Str → Option Value) (env : Env) (elt : Expr) (x : Str) (scope : Scope) (cl : List (Str × Addr)) (Fin : Shared → List Value → List (Addr × Obj) → Prop) (xv : Value) (s₁ : Shared) : Prop :=
  ∃ ax its news, xv = .ref ax ∧ A.handled = none ∧ Fr h₀ L s₁.heap m ∧ News h₀ L s₁.heap news ∧ (ax, tuO its) ∈ news ∧ its.size ≤ sizeLine ∧
    ∀ s₂ : Shared, (∃ h, s₂ = { s₁ with heap := h }) → CompRest prog w A h₀ L m env elt x scope cl s₂ (fun nw => (ax, tuO its) ∈ nw) (fun i v => its[i]? = some v) (Fin s₂) its.size 0 [] news
theorem SrcTup.intro {elt : Expr} {x : Str} {scope : Scope} {cl : List (Str × Addr)} {Fin : Shared → List Value → List (Addr × Obj) → Prop} {ax : Addr} {its : Array Value} {news : List (Addr × Obj)} {s₁ : Shared}
    (hh : A.handled = none) (F : Fr h₀ L s₁.heap m) (N : News h₀ L s₁.heap news) (hm : (ax, tuO its) ∈ news) (hsz : its.size ≤ sizeLine)
    (h : ∀ g, CompRest prog w A h₀ L m env elt x scope cl { s₁ with heap := g } (fun nw => (ax, tuO its) ∈ nw) (fun i v => its[i]? = some v) (Fin { s₁ with heap := g }) its.size 0 [] news) :
    SrcTup prog w A h₀ L m env elt x scope cl Fin (.ref ax) s₁ := ⟨ax, its, news, rfl, hh, F, N, hm, hsz, fun _ ⟨g, e⟩ => e ▸ h g⟩
theorem tuple_st {ax I : Addr} {its : Array Value} : ∀ i (h h' : Heap) (o : Obj) (nw : List (Addr × Obj)), (h.IsTupleIter I ax i ∧ h.IsTuple ax its) → h.get? I = some o → h'.get? I = some o → (∀ b o, h₀.get? b = some o → h'.get? b = some o) → News h₀ L h' nw → (ax, tuO its) ∈ nw → (h'.IsTupleIter I ax i ∧ h'.IsTuple ax its) :=
  fun i h h' o nw st e e' k N S => ⟨by obtain ⟨o', q, r⟩ := st.1; rw [e] at q; cases q; exact ⟨o, e', r⟩, ⟨_, (N _ S).1, rfl, _, rfl⟩⟩
theorem Assign_ListComp_Tup {elt iter : Expr} {x y : Str} {px py : Pos} {scope : Scope} {cl : List (Str × Addr)} {pos spos : Pos} {Q : Flow → Shared → Prop} (_F₀ : Fr h₀ L s.heap m) (hLe : env.locals = L)
    (hsw : swapsWith (.ListComp elt [⟨.Name x px, iter, [], 0⟩] scope pos) (some (.Name y py)) spos.line env = pure true)
    (hclos : closureFor scope env = pure cl) (hcell : ∀ z ∈ scope.names, z.2 ≠ .cell) (hkind : scope.kind = .function)
    (hnames : ∀ z ∈ scope.names, z.2 = .local → scope.names.lookup z.1 = some .local) (hx : scope.names.lookup x = some .local)
    (hy : env.kindOf y = some .local) (hp : (env.scope.kind == .class || (env.scope.kind == .module && env.locals != env.globals)) = false)
    (h : wpAny (model prog w) A (eval iter env) (SrcTup prog w A h₀ L m env elt x scope cl (fun s₂ => FinA h₀ L m s₂ y Q)) E s)
    (hs : ∀ x, foldedSetIterable iter env x = pure x := by intro _; rfl) :
    wpAny (model prog w) A (exec (.Assign [.Name y py] (.ListComp elt [⟨.Name x px, iter, [], 0⟩] scope pos) spos) env) Q E s := by
  subst hLe
  rw [exec_Assign_Name_used _ _ _ _ hsw]
  refine wpAny_bind (wpAny_standAt (wpAny_bind ?_))
  show wpAny _ A (do let _ ← comprehension (.ListComp elt [⟨.Name x px, iter, [], 0⟩] scope pos) scope env _ (newList []) false (eval iter env) (some (assign (.Name y py) env))) _ _ s
  refine wpAny_bind (wpAny_mono (wpAny_comprehension_free (use := some (assign (.Name y py) env)) (Q := fun _ s' => Q .next s') rfl hs hclos hkind hnames
    (wpAny_mono h (fun xv s₁ h₁ => ?_) fun _ _ e => e)) (fun _ s' hq => wpAny_pure (wpAny_pure hq)) fun _ _ e => e)
  obtain ⟨ax, its, news, rfl, hh, F, N, S, hsz, R⟩ := h₁
  have hl : s₁.heap.IsTuple ax its := ⟨_, (N _ S).1, rfl, _, rfl⟩
  have hlt : ax < s₁.heap.objs.size := by obtain ⟨_, e, _⟩ := hl; exact Heap.lt_size e
  refine wpAny_pyIter_tuple hl ?_
  have up : ∀ b o, s₁.heap.get? b = some o → (s₁.heap.push { cls := .type "tuple_iterator", data := .fields #[.ref ax, .int 0 0] }).get? b = some o := fun b o e => Heap.get?_push_of_some _ e
  refine block_U (Walks.tuple hh s₁.heap.objs.size ax (Nat.ne_of_lt hlt) its) hsz (fun i h st => by obtain ⟨o, e, _⟩ := st.1; exact ⟨o, e⟩) tuple_st hcell hkind hx ⟨⟨_, Heap.get?_push_size _ rfl, rfl, rfl⟩, hl.push _⟩ (fun b hb => ?_)
    (F.keeps up) (N.grown up) (Nat.ne_of_lt F.ns.lt) (next_is_new F) (fun p hp => Nat.ne_of_lt (Heap.lt_size (N p hp).1)) S (R _ ⟨_, rfl⟩) ?_
  · show b < (s₁.heap.push _).objs.size
    rw [Heap.size_push]
    rcases List.mem_cons.mp hb with rfl | hb
    · exact Nat.lt_succ_self _
    · rw [List.mem_singleton.mp hb]; exact Nat.lt_succ_of_lt hlt
  · intro D C h' tk m' ys news' F' N' o1 hn hC₀ hD₀ hCL hDL hCD offC fin
    show wpAny _ A (assign (.Name y py) env (.ref D)) _ _ _
    refine wpAny_assign_Name (wpAny_storeName_local hy F'.ns (fun h₂ hn₂ hs₂ => ?_) hp)
    have hL₀ : h₀.get? env.locals = none := Heap.get?_none_of_le F'.above
    have F₂ : Fr h₀ env.locals h₂ (fun z => if z = y then some (.ref D) else m z) := ⟨hn₂, fun b o e => hs₂.extBut b o (fun q => by rw [q, hL₀] at e; cases e) (F'.keep b o e), F'.above⟩
    refine ⟨m', hn.sameBut hs₂ hCL, fun h'' hs'' => fin D h'' _ (F₂.change hs'' hCL hC₀) (fun p hp => ?_) o1⟩
    have z : h₂.get? p.1 = some p.2 := hs₂.extBut _ _ (N' p hp).2.1 (N' p hp).1
    refine ⟨hs''.extBut _ _ ?_ z, (N' p hp).2⟩
    rcases List.mem_cons.mp hp with rfl | hp
    · exact Ne.symm hCD
    · exact offC p hp
theorem split_own {t u : Tok} {x y : Str} {news : List (Addr × Obj)} {Q : Value → Shared → Prop} (F : Fr h₀ L s.heap m) (N : News h₀ L s.heap news) (hy : (y.length == 0) = false) (hsz : x.length + 2 ≤ sizeLine)
    (h : ∀ d ws h' k, StrsAre ws (Txt.split x y) → Fr h₀ L h' m → News h₀ L h' ((d, lstO ws 0) :: news) → Mine.Off1 d news → Q (.ref d) { s with heap := h', toks := k }) :
    wpAny (model prog w) A (call (.builtin "str.split") [.str x t, .str y u]) Q E s :=
  splitN1A F N hy (fun l h' k e S _ _ F' N' => h _ _ h' k (e ▸ S) F' N' (off1_of fun p hp e => absurd (Heap.lt_size (N p hp).1) (e ▸ Nat.lt_irrefl _))) hsz
end
end Mine
end partTc
section partSt
open PySem PySem.W PySem.Calls PyProof.Rows
set_option Elab.async false
namespace Mine
set_option maxRecDepth 100000
set_option maxHeartbeats 2000000
noncomputable def T0 (led : Bool) : SetTable := .fresh 0 0 led
noncomputable def T1 (led : Bool) : SetTable := ⟨7, #[1], #[], 0, led, 0, true⟩
noncomputable def setO (es : Array (Int × Value)) (ep : Nat) (t : SetTable) : Obj := { cls := .type "set", dict := none, data := .set es ep t }
theorem lay_true (led : Bool) : layNew (T0 led) #[] 1 (.bool true) = (#[(1, .bool true)], T1 led, false, false) := by cases led <;> rfl
section
variable {prog : Program} {w : World} {A : Around} {E : Value → Shared → Prop} {s : Shared}
theorem pyHash_true {Q : Int → Shared → Prop} (h : ∀ tk, Q 1 { s with toks := tk }) : wpAny (model prog w) A (pyHash (.bool true)) Q E s :=
  pyHash_slot (T := "bool") rfl PySem.F.slot_bool_hash entry_int_hash (args_int_hash _) (beq_builtin_none _) (.inl rfl)
    (show wpAny _ _ (do ret (← mkInt 1)) _ _ s from wpAny_bind (wpAny_mkInt (wpAny_pure ⟨_, _, rfl, h _⟩)))
theorem eqBool_true {Q : Bool → Shared → Prop} (h : Q true s) : wpAny (model prog w) A (eqBool (.bool true) (.bool true)) Q E s := by
  unfold eqBool
  refine wpAny_holding ?_
  rw [if_pos (show (Value.bool true == Value.bool true) = true by decide)]
  exact wpAny_bind (wpAny_rule (wpAny_pure h))
theorem newSet_own {Q : Value → Shared → Prop}
    (h : Q (.ref s.heap.objs.size) { s with heap := s.heap.push (setO #[] 0 (T0 (!w.params.followText "set-order"))) }) :
    wpAny (model prog w) A (newSet (.type "set")) Q E s := by
  unfold newSet setsByText
  refine wpAny_bind (wpAny_bind (wpAny_askSetting (wpAny_pure ?_)))
  dsimp only
  simp only [newObj]
  exact wpAny_bind (wpAny_alloc (wpAny_pure h))
theorem add_true0 {a : Addr} {led : Bool} {Q : Value → Shared → Prop} (ho : s.heap.get? a = some (setO #[] 0 (T0 led)))
    (h : ∀ h' tk, Heap.SameBut a s.heap h' → h'.get? a = some (setO #[(1, .bool true)] 1 (T1 led)) → Q .none { s with heap := h', toks := tk }) :
    wpAny (model prog w) A (call (.builtin "set.add") [.ref a, .bool true]) Q E s := by
  refine wpAny_call_entry PySem.F.slot_set_add ⟨_, ho, rfl⟩ PySem.F.entry_set_add ?_ (PySem.F.args_set_add_2 _ _)
  unfold Builtin.«set.add» Builtin.Frozenset.oneOther
  simp only [List.isEmpty_nil, bind_assoc]
  unfold Builtin.Frozenset.addrOf setAdd
  refine wpAny_bind (wpAny_pure ?_)
  try dsimp only
  refine wpAny_bind (wpAny_pure ?_)
  try dsimp only
  refine wpAny_bind ?_
  refine wpAny_holding ?_
  refine wpAny_bind (pyHash_true fun tk => ?_)
  unfold setAddHashed setAddHashedIn
  refine wpAny_holding (wpAny_bind (wpAny_setState_of (o := setO #[] 0 (T0 led)) ho rfl rfl ?_))
  dsimp only
  rw [show byScan (.bool true) (#[] : Array (Int × Value)) = true by decide +kernel]
  simp only [↓reduceIte]
  unfold setAddByScan
  refine wpAny_bind ?_
  refine wpAny_bind (wpAny_rule ?_)
  refine wpAny_bind (m := setScan a (.bool true) 1 true #[]) (wpAny_pure ?_)
  dsimp only
  rw [lay_true]
  dsimp only
  refine wpAny_bind (wpAny_pure ?_)
  rw [if_pos (show (T1 led).plain = true from rfl)]
  refine wpAny_bind ?_
  rw [hashByValue_scannable 8 rfl]
  refine wpAny_pure ?_
  rw [if_pos (show plainKind (.bool true) = true from rfl)]
  refine wpAny_bind (wpAny_storeSet_of (o := setO #[] 0 (T0 led)) ho rfl ?_ (by rw [sizeLine_eq]; decide))
  rw [if_neg (by cases led <;> decide)]
  refine wpAny_pure (wpAny_pure ?_)
  show wpAny _ _ (ret Value.none) _ _ _
  refine wpAny_pure ⟨_, rfl, h _ tk (Heap.SameBut.update _ _ _) ?_⟩
  exact Heap.get?_update_self (Obj.putSet _ _) ho rfl
theorem add_true1 {a : Addr} {led : Bool} {ep : Nat} {Q : Value → Shared → Prop} (ho : s.heap.get? a = some (setO #[(1, .bool true)] ep (T1 led)))
    (h : ∀ tk, Q .none { s with toks := tk }) :
    wpAny (model prog w) A (call (.builtin "set.add") [.ref a, .bool true]) Q E s := by
  refine wpAny_call_entry PySem.F.slot_set_add ⟨_, ho, rfl⟩ PySem.F.entry_set_add ?_ (PySem.F.args_set_add_2 _ _)
  unfold Builtin.«set.add» Builtin.Frozenset.oneOther
  simp only [List.isEmpty_nil, bind_assoc]
  unfold Builtin.Frozenset.addrOf setAdd
  refine wpAny_bind (wpAny_pure ?_)
  try dsimp only
  refine wpAny_bind (wpAny_pure ?_)
  try dsimp only
  refine wpAny_bind ?_
  refine wpAny_holding ?_
  refine wpAny_bind (pyHash_true fun tk => ?_)
  unfold setAddHashed setAddHashedIn
  refine wpAny_holding (wpAny_bind (wpAny_setState_of (o := setO #[(1, .bool true)] ep (T1 led)) ho rfl rfl ?_))
  dsimp only
  rw [show byScan (.bool true) (#[(1, .bool true)] : Array (Int × Value)) = true by decide +kernel]
  simp only [↓reduceIte]
  unfold setAddByScan
  refine wpAny_bind ?_
  refine wpAny_bind (wpAny_rule ?_)
  refine wpAny_bind (m := setScan a (.bool true) 1 true #[(1, .bool true)]) ?_
  show wpAny _ _ (setScanFrom a (.bool true) 1 true [(1, .bool true)] 0) _ _ _
  unfold setScanFrom
  dsimp only
  rw [if_pos (show ((1 : Int) == 1) = true by decide)]
  refine wpAny_bind (wpAny_setEpoch_of (o := setO #[(1, .bool true)] ep (T1 led)) ho rfl rfl ?_)
  refine wpAny_bind (eqBool_true ?_)
  rw [if_pos (show (true && true) = true by decide)]
  refine wpAny_pure ?_
  dsimp only
  refine wpAny_pure (wpAny_pure ?_)
  show wpAny _ _ (ret Value.none) _ _ _
  exact wpAny_pure ⟨_, rfl, h tk⟩
end
end Mine
end partSt
section partSu
open PySem PySem.W PySem.Calls PyProof.Rows
set_option Elab.async false
namespace Mine
set_option maxRecDepth 100000
set_option maxHeartbeats 2000000
open PySem.AutoSeq1 (wpAny_loadPart')
namespace F
theorem entry_set_iter : entryFor table "set.__iter__" = some Builtin.«frozenset.__iter__» :=
  entryFor_alias (id' := "frozenset.__iter__") (by kernel_rfl) (by first | rfl | decide +kernel | (unfold String.splitOn; simp +decide [String.splitOnAux])) (by decide +kernel) (by kernel_rfl)
theorem slot_set_iterator_iter : Slot "set_iterator" "__iter__" "set_iterator.__iter__" :=
  .of (owner := "set_iterator") (n := "__iter__") (by rw [typeLookup_type, builtinLookup_eq_fast]; kernel_rfl) (by decide +kernel) (by decide +kernel) (by decide +kernel)
    (by first | exact .inl (by decide +kernel) | exact .inr (by decide +kernel)) (by rw [isSubtype_type]; kernel_rfl)
theorem slot_set_iterator_next : Slot "set_iterator" "__next__" "set_iterator.__next__" :=
  .of (owner := "set_iterator") (n := "__next__") (by rw [typeLookup_type, builtinLookup_eq_fast]; kernel_rfl) (by decide +kernel) (by decide +kernel) (by decide +kernel)
    (by first | exact .inl (by decide +kernel) | exact .inr (by decide +kernel)) (by rw [isSubtype_type]; kernel_rfl)
theorem entry_set_iterator_next : entryFor table "set_iterator.__next__" = some Builtin.«set_iterator.__next__» := entryFor_of_tree (by kernel_rfl)
theorem owner_set_iterator : Manifest.owners.lookup (String.ofList ['r', 'o', 't', 'a', 'r', 'e', 't', 'i', '_', 't', 'e', 's'].reverse) = some Manifest.sig_set_iterator := by kernel_rfl
theorem args_set_iterator_next_1 (a : Value) : argsOk "set_iterator.__next__" ⟨[a], []⟩ := by
  unfold argsOk; rw [signature?_of (id := "set_iterator.__next__") (n := ['_', '_', 't', 'x', 'e', 'n', '_', '_']) (o := ['r', 'o', 't', 'a', 'r', 'e', 't', 'i', '_', 't', 'e', 's']) (by kernel_rfl) owner_set_iterator]; kernel_rfl
end F
noncomputable def siO (i j : Int) (s : Value) (ep : Nat) : Obj := { cls := .type "set_iterator", dict := none, data := .fields #[rawInt i, rawInt j, s, rawInt 1, rawInt ep], slots := #[] }
section
variable {prog : Program} {w : World} {A : Around} {E : Value → Shared → Prop} {s : Shared}
theorem pyIter_set1 {a : Addr} {led : Bool} {ep : Nat} {Q : Value → Shared → Prop} (ho : s.heap.get? a = some (setO #[(1, .bool true)] ep (T1 led)))
    (h : Q (.ref s.heap.objs.size) { s with heap := s.heap.push (siO 0 0 (.ref a) ep) }) : wpAny (model prog w) A (pyIter (.ref a)) Q E s := by
  have hT : s.TypeIs (.ref a) "set" := ⟨_, ho, rfl⟩
  refine wpAny_pyIter_slot hT PySem.F.slot_set_iter (wpAny_call_entry PySem.F.slot_set_iter hT F.entry_set_iter ?_ (PySem.F.args_set_iter_1 _))
  unfold Builtin.«frozenset.__iter__» Builtin.Frozenset.slot0 slotArgs
  simp only [List.isEmpty_nil, Bool.not_true, Bool.false_eq_true, ↓reduceIte, bind_assoc, List.length_nil, bne_self_eq_false]
  unfold Builtin.Frozenset.addrOf Builtin.Frozenset.sizeOf
  refine wpAny_bind (wpAny_pure ?_)
  try dsimp only
  refine wpAny_bind (wpAny_pure ?_)
  refine wpAny_bind (wpAny_bind (wpAny_setEntries_of (o := setO #[(1, .bool true)] ep (T1 led)) ho rfl rfl (wpAny_pure ?_)))
  unfold setDrawn
  refine wpAny_bind (wpAny_bind (wpAny_setState_of (o := setO #[(1, .bool true)] ep (T1 led)) ho rfl rfl ?_))
  dsimp only
  unfold setsByText
  refine wpAny_bind (wpAny_bind (wpAny_askSetting (wpAny_pure (wpAny_pure ?_))))
  dsimp only
  split
  · rename_i hd
    rw [Bool.and_eq_true] at hd
    exact absurd hd.2 (by cases led <;> decide)
  refine wpAny_bind (wpAny_pure ?_)
  refine wpAny_bind (wpAny_setEpoch_of (o := setO #[(1, .bool true)] ep (T1 led)) ho rfl rfl ?_)
  refine wpAny_bind (m := newFields "set_iterator" _) (wpAny_newObj_type ?_)
  exact wpAny_pure ⟨_, rfl, "set_iterator", _, ⟨_, Heap.get?_push_size _ rfl, rfl⟩, F.slot_set_iterator_next.lookup, h⟩
theorem pick_one {α : Type} (f : Nat → Nat) (x : α) : pickOrder f #[x] = #[x] := by
  show pickOrder.go f 1 0 [x] #[] = #[x]
  unfold pickOrder.go
  have : f 0 % [x].length = 0 := Nat.mod_one _
  rw [this]
  rfl
theorem setWalk1 {a : Addr} {led : Bool} {ep : Nat} {Q : Array (Int × Value) → Shared → Prop} (hb : w.params.followText "set-order" = true) (ho : s.heap.get? a = some (setO #[(1, .bool true)] ep (T1 led)))
    (h : Q #[(1, .bool true)] s) : wpAny (model prog w) A (setWalk a) Q E s := by
  unfold setWalk
  refine wpAny_bind (wpAny_setState_of (o := setO #[(1, .bool true)] ep (T1 led)) ho rfl rfl ?_)
  dsimp only
  unfold setsByText
  refine wpAny_bind (wpAny_bind (wpAny_askSetting (wpAny_pure ?_)))
  show wpAny _ _ (if w.params.followText "set-order" = true then _ else _) _ _ _
  rw [if_pos hb]
  refine wpAny_bind (wpAny_askSetting (wpAny_pure ?_))
  rw [pick_one]
  exact h
theorem setNext0 {a : Addr} {led : Bool} {ep : Nat} {Q : Option (Value × Nat) → Shared → Prop} (hl : led = !w.params.followText "set-order") (ho : s.heap.get? a = some (setO #[(1, .bool true)] ep (T1 led)))
    (h : ∀ n, (w.params.followText "set-order" = false → n = 2) → Q (some (.bool true, n)) s) : wpAny (model prog w) A (setNext a 0 0 ep) Q E s := by
  unfold setNext
  refine wpAny_bind (wpAny_setState_of (o := setO #[(1, .bool true)] ep (T1 led)) ho rfl rfl ?_)
  dsimp only
  unfold setsByText
  refine wpAny_bind (wpAny_bind (wpAny_askSetting (wpAny_pure ?_)))
  show wpAny _ _ (if w.params.followText "set-order" = true then _ else _) _ _ _
  cases hb : w.params.followText "set-order"
  · rw [if_neg Bool.false_ne_true]
    split
    · rename_i hd; exact absurd hd (by cases led <;> decide)
    rw [hb] at hl
    subst hl
    refine wpAny_bind (wpAny_pure ?_)
    exact wpAny_pure (h 2 fun _ => rfl)
  · rw [if_pos rfl]
    rw [if_neg (by simp)]
    refine wpAny_bind (setWalk1 hb ho ?_)
    exact wpAny_pure (h 0 (fun e => by rw [hb] at e; cases e))
theorem setNext1 {a : Addr} {led : Bool} {ep i : Nat} {Q : Option (Value × Nat) → Shared → Prop} (hl : led = !w.params.followText "set-order") (ho : s.heap.get? a = some (setO #[(1, .bool true)] ep (T1 led)))
    (hi : w.params.followText "set-order" = false → i = 2) (h : Q none s) : wpAny (model prog w) A (setNext a i 1 ep) Q E s := by
  unfold setNext
  refine wpAny_bind (wpAny_setState_of (o := setO #[(1, .bool true)] ep (T1 led)) ho rfl rfl ?_)
  dsimp only
  unfold setsByText
  refine wpAny_bind (wpAny_bind (wpAny_askSetting (wpAny_pure ?_)))
  show wpAny _ _ (if w.params.followText "set-order" = true then _ else _) _ _ _
  cases hb : w.params.followText "set-order"
  · rw [if_neg Bool.false_ne_true]
    split
    · rename_i hd; exact absurd hd (by cases led <;> decide)
    rw [hb] at hl
    subst hl
    have e := hi hb
    subst e
    refine wpAny_bind (wpAny_pure ?_)
    exact wpAny_pure h
  · rw [if_pos rfl]
    rw [if_neg (by simp)]
    refine wpAny_bind (setWalk1 hb ho ?_)
    exact wpAny_pure h
theorem pyNext_set_item {it a : Addr} {led : Bool} {ep : Nat} {Q : Option Value → Shared → Prop} (hl : led = !w.params.followText "set-order") (ho : s.heap.get? a = some (setO #[(1, .bool true)] ep (T1 led)))
    (hi : s.heap.get? it = some (siO 0 0 (.ref a) ep)) (hne : a ≠ it)
    (h : ∀ h' i, h'.get? it = some (siO i 1 (.ref a) ep) → (w.params.followText "set-order" = false → i = 2) → Heap.SameBut it s.heap h' → Q (some (.bool true)) { s with heap := h' }) : wpAny (model prog w) A (pyNext (.ref it)) Q E s := by
  have hT : s.TypeIs (.ref it) "set_iterator" := ⟨_, hi, rfl⟩
  unfold pyNext
  refine wpAny_bind (wpAny_attempt (wpAny_callSpecial?_slot (name := Str.ofString "__next__") hT F.slot_set_iterator_next
    (wpAny_call_entry F.slot_set_iterator_next hT F.entry_set_iterator_next ?_ (F.args_set_iterator_next_1 _))))
  unfold Builtin.«set_iterator.__next__»
  refine wpAny_bind (wpAny_pure ?_)
  dsimp only
  refine wpAny_bind (wpAny_fieldsOf (o := siO 0 0 (.ref a) ep) hi rfl ?_)
  dsimp only [rawInt]
  refine wpAny_bind (wpAny_setEntries_of (o := setO #[(1, .bool true)] ep (T1 led)) ho rfl rfl ?_)
  rw [if_neg (by simp)]
  refine wpAny_bind (setNext0 hl ho fun n hn => ?_)
  refine wpAny_bind (wpAny_setField_rec hi (by simp) fun h₁ hi₁ hs₁ => ?_)
  refine wpAny_bind (wpAny_setField_rec hi₁ (by simp) fun h₂ hi₂ hs₂ => ?_)
  exact wpAny_pure ⟨_, rfl, wpAny_pure (h h₂ n hi₂ (fun e => congrArg _ (hn e)) (hs₁.trans hs₂))⟩
theorem pyNext_set_end {it a : Addr} {led : Bool} {ep : Nat} {i : Int} {Q : Option Value → Shared → Prop} (hh : A.handled = none) (hl : led = !w.params.followText "set-order") (ho : s.heap.get? a = some (setO #[(1, .bool true)] ep (T1 led)))
    (hi : s.heap.get? it = some (siO i 1 (.ref a) ep)) (hne : a ≠ it) (hi2 : w.params.followText "set-order" = false → i = 2)
    (hQ : ∀ h', Heap.ExtBut it s.heap h' → Q none { s with heap := h' }) : wpAny (model prog w) A (pyNext (.ref it)) Q E s := by
  have hT : s.TypeIs (.ref it) "set_iterator" := ⟨_, hi, rfl⟩
  unfold pyNext
  refine wpAny_bind (wpAny_attempt (wpAny_callSpecial?_slot (name := Str.ofString "__next__") hT F.slot_set_iterator_next
    (wpAny_call_entry F.slot_set_iterator_next hT F.entry_set_iterator_next ?_ (F.args_set_iterator_next_1 _))))
  unfold Builtin.«set_iterator.__next__»
  refine wpAny_bind (wpAny_pure ?_)
  dsimp only
  refine wpAny_bind (wpAny_fieldsOf (o := siO i 1 (.ref a) ep) hi rfl ?_)
  dsimp only [rawInt]
  refine wpAny_bind (wpAny_setEntries_of (o := setO #[(1, .bool true)] ep (T1 led)) ho rfl rfl ?_)
  rw [if_neg (by simp)]
  refine wpAny_bind (setNext1 hl ho (fun e => by rw [hi2 e]; rfl) ?_)
  dsimp only
  refine wpAny_bind (wpAny_setField_rec hi (by simp) fun h₁ hi₁ hs₁ => ?_)
  show wpAny _ _ (newExc (.type "StopIteration") [] >>= _) _ _ _
  refine wpAny_bind ?_
  simp only [newExc, newTuple]
  refine wpAny_bind (wpAny_newObj_type ?_ (by size_fits))
  refine wpAny_bind (m := firstArgMember _ _) (wpAny_of_eq (a := Value.none) (by first | rfl | (simp only [firstArgMember]; rfl)) ?_)
  refine wpAny_newObj_type ?_ (by size_fits)
  simp only [raiseNew]
  refine wpAny_bind (wpAny_handled ?_)
  first | rw [show A.in1.handled = none from hh] | rw [hh]
  refine wpAny_bind (wpAny_pure (wpAny_throw ?_))
  refine wpAny_bind (wpAny_isInstance (T := "StopIteration") (b := true) ⟨_, Heap.get?_push_size _ rfl, rfl⟩ isSubtype_stop ?_)
  exact wpAny_pure (hQ _ (((hs₁.extBut).push _).push _))
theorem unpackItems_set1 {a : Addr} {led : Bool} {ep : Nat} {Q : List Value → Shared → Prop} (hh : A.handled = none) (hl : led = !w.params.followText "set-order") (ho : s.heap.get? a = some (setO #[(1, .bool true)] ep (T1 led)))
    (hQ : ∀ h', Heap.ExtBut s.heap.objs.size s.heap h' → Q [.bool true] { s with heap := h' }) : wpAny (model prog w) A (unpackItems (.ref a) 1 none) Q E s := by
  have hT : s.TypeIs (.ref a) "set" := ⟨_, ho, rfl⟩
  have hne : a ≠ s.heap.objs.size := Nat.ne_of_lt (Heap.lt_size ho)
  unfold unpackItems
  refine wpAny_bind ?_
  unfold notIterableAtAll
  refine wpAny_bind (wpAny_specialOf hT PySem.F.slot_set_iter.lookup ?_)
  refine wpAny_pure ?_
  simp only [Bool.false_eq_true, if_false]
  refine wpAny_bind (wpAny_holding (pyIter_set1 ho ?_))
  refine wpAny_bind (wpAny_holding ?_)
  show wpAny _ _ (pyNext (.ref s.heap.objs.size) >>= _) _ _ _
  refine wpAny_bind (pyNext_set_item hl (Heap.get?_push_of_some _ ho) (Heap.get?_push_size _ rfl) hne fun h₁ i hi₁ hi2 hs₁ => ?_)
  refine wpAny_bind (wpAny_holding (wpAny_pure (wpAny_pure ?_)))
  rw [if_neg (by simp)]
  refine wpAny_bind (wpAny_holding (pyNext_set_end hh hl (hs₁.extBut _ _ hne (Heap.get?_push_of_some _ ho)) hi₁ hne hi2 fun h₂ he₂ => ?_))
  simp only [Option.isSome_none, Bool.false_eq_true, if_false]
  exact wpAny_pure (hQ h₂ fun b o hb e => he₂ b o hb (hs₁.extBut b o hb (Heap.get?_push_of_some _ e)))
end
end Mine
end partSu
section partSc
open PySem PySem.W PySem.Calls PyProof.Rows
set_option Elab.async false
namespace Mine
set_option maxRecDepth 100000
set_option maxHeartbeats 2000000
open PyProof.Rows.LCg
theorem compTurn_set1 (elt target iter : Expr) (scope : Scope) (pos : Pos) (it acc : Value) (env : Env) :
    compTurn (.SetComp elt [⟨target, iter, [], 0⟩] scope pos) 0 it acc env = (standAt iter.pos >>= fun _ => pyNext it >>= fun r => match r with
      | none => pure (.done .next)
      | some v => letOwnedTupleGo target it v >>= fun _ => assign target env v >>= fun _ =>
        (eval elt env >>= fun x => standAt elt.pos >>= fun _ => call (.builtin "set.add") [acc, x] >>= fun _ => pure ()) >>= fun _ =>
          again (.compLoop (.SetComp elt [⟨target, iter, [], 0⟩] scope pos) 0 it acc env)) := by rfl
section
variable {prog : Program} {w : World} {A : Around} {E : Value → Shared → Prop} {R : Result → Shared → Prop} {s : Shared}
theorem codeAny_compLoop_set {elt target iter : Expr} {scope : Scope} {pos : Pos} {it acc : Value} {env : Env} (I : Nat → Shared → Prop)
    (turn : ∀ n s, I n s → wpAny (model prog w) A (pyNext it) (fun r s₁ => match r with
      | none => R (.ok .next) s₁
      | some v => wpAny (model prog w) A (assign target env v) (fun _ s₂ => wpAny (model prog w) A (eval elt env) (fun x s₃ =>
          wpAny (model prog w) A (call (.builtin "set.add") [acc, x]) (fun _ s₄ => ∃ m, m < n ∧ I m s₄) (notedBy (model prog w) A env fun e s' => R (.error e) s') s₃)
          (notedBy (model prog w) A env fun e s' => R (.error e) s') s₂) (notedBy (model prog w) A env fun e s' => R (.error e) s') s₁) (notedBy (model prog w) A env fun e s' => R (.error e) s') s)
    (n : Nat) (h : I n s) (ht : ∀ v, letOwnedTupleGo target it v = pure () := by intro _; rfl) :
    codeAny (model prog w) A (.compLoop (.SetComp elt [⟨target, iter, [], 0⟩] scope pos) 0 it acc env) R s := by
  refine codeAny_loop rfl I (fun n s hI => ?_) n h
  show wpAny _ _ ((compTurn (.SetComp elt [⟨target, iter, [], 0⟩] scope pos) 0 it acc env).onRaise (fun x => do noteFrame x env; theTreesLotGoes x)) _ _ s
  refine wpAny_noted ?_
  rw [compTurn_set1]
  refine wpAny_bind (wpAny_standAt (wpAny_bind (wpAny_mono (turn n s hI) (fun r s₁ h₁ => ?_) fun _ _ h' => h')))
  cases r with
  | none => exact wpAny_pure h₁
  | some v =>
    refine wpAny_bind (wpAny_of_eq (ht v) ?_)
    exact wpAny_bind (wpAny_mono h₁ (fun _ s₂ h₂ => wpAny_bind (wpAny_bind (wpAny_mono h₂ (fun x s₃ h₃ => wpAny_bind (wpAny_standAt (wpAny_bind (wpAny_mono h₃
      (fun _ s₄ h₄ => wpAny_pure (wpAny_pure ⟨rfl, h₄⟩)) fun _ _ h' => h')))) fun _ _ h' => h'))) fun _ _ h' => h')
theorem codeAny_compStart_set {elt target iter ifs rest scope pos it acc env}
    (h0 : codeAny (model prog w) A (.compLoop (.SetComp elt (⟨target, iter, ifs, 0⟩ :: rest) scope pos) 0 it acc env) R s)
    (h : wpAny (model prog w) A (pyIter it) (fun it' s' => codeAny (model prog w) A (.compLoop (.SetComp elt (⟨target, iter, ifs, 0⟩ :: rest) scope pos) 0 it' acc env) R s')
      (notedBy (model prog w) A env fun x s' => R (.error x) s') s) :
    codeAny (model prog w) A (.compStart (.SetComp elt (⟨target, iter, ifs, 0⟩ :: rest) scope pos) 0 it acc env) R s := by
  refine codeAny_of_tree ?_
  show wpAny _ _ ((compStart (.SetComp elt (⟨target, iter, ifs, 0⟩ :: rest) scope pos) 0 it acc env).onRaise (fun x => do noteFrame x env; standAt theWindowsPlace)) _ _ s
  refine wpAny_notedAt ?_
  unfold compStart
  show wpAny _ _ (ask >>= _) _ _ s
  refine wpAny_bind (wpAny_askSetting (wpAny_ite ?_))
  split
  · first
      | exact wpAny_bind (wpAny_pure (wpAny_pure (And.intro rfl h0)))
      | exact wpAny_pure (And.intro rfl h0)
      | exact wpAny_bind (wpAny_rule (wpAny_bind (wpAny_pure (wpAny_pure (And.intro rfl h0)))))
      | exact wpAny_bind (wpAny_rule (wpAny_pure (And.intro rfl h0)))
  · first
      | exact wpAny_bind (wpAny_standAt (wpAny_bind (wpAny_mono h (fun it' s' h' => wpAny_pure (And.intro rfl h')) fun _ _ x => x)))
      | exact wpAny_bind (wpAny_rule (wpAny_bind (wpAny_standAt (wpAny_bind (wpAny_mono h (fun it' s' h' => wpAny_pure (And.intro rfl h')) fun _ _ x => x)))))
      | (refine wpAny_bind (wpAny_rule ?_); show wpAny _ _ (standAt iter.pos >>= _) _ _ s; exact wpAny_bind (wpAny_standAt (wpAny_bind (wpAny_mono h (fun it' s' h' => wpAny_pure (And.intro rfl h')) fun _ _ x => x))))
end
section
variable {prog : Program} {w : World} {A : Around} {E : Value → Shared → Prop} {s : Shared} {h₀ : Heap} {L : Addr} {m : Str → Option Value} {env : Env}
noncomputable def trueO (w : World) : Nat → Obj
  | 0 => setO #[] 0 (T0 (!w.params.followText "set-order"))
  | _ + 1 => setO #[(1, .bool true)] 1 (T1 (!w.params.followText "set-order"))
noncomputable def SrcSet (prog : Program) (w : World) (A : Around) (h₀ : Heap) (L : Addr) (m : Str → Option Value) (env : Env) (elt : Expr) (x : Str) (scope : Scope) (cl : List (Str × Addr)) (Q : Value → Shared → Prop) (xv : Value) (s₁ : Shared) : Prop :=
  ∃ (ax : Addr) (its : Array Value) (news : List (Addr × Obj)), xv = .ref ax ∧ A.handled = none ∧ Fr h₀ L s₁.heap m ∧ News h₀ L s₁.heap news ∧ (ax, tuO its) ∈ news ∧ its.size ≤ sizeLine ∧
    (∀ (i : Nat) v I oI C oC D oD m₂ h tk (E' : Value → Shared → Prop), its[i]? = some v → NsObj oC m₂ → m₂ x = some v → Fr h₀ L h m → News h₀ L h ((I, oI) :: (C, oC) :: (D, oD) :: news) →
      wpAny (model prog w) A (eval elt (compEnvC scope cl C env)) (fun y s' => ∃ h' tk', y = .bool true ∧ s' = { s₁ with heap := h', toks := tk' } ∧ Fr h₀ L h' m ∧ News h₀ L h' ((I, oI) :: (C, oC) :: (D, oD) :: news)) E' { s₁ with heap := h, toks := tk }) ∧
    (∀ D h tk, Fr h₀ L h m → News h₀ L h ((D, trueO w its.size) :: news) → Mine.Off1 D news → Q (.ref D) { s₁ with heap := h, toks := tk })
theorem SetComp_Tup {elt iter : Expr} {x : Str} {px : Pos} {scope : Scope} {cl : List (Str × Addr)} {pos : Pos} {Q : Value → Shared → Prop} (_F₀ : Fr h₀ L s.heap m)
    (hclos : closureFor scope env = pure cl) (hcell : ∀ y ∈ scope.names, y.2 ≠ .cell) (hkind : scope.kind = .function)
    (hnames : ∀ y ∈ scope.names, y.2 = .local → scope.names.lookup y.1 = some .local) (hx : scope.names.lookup x = some .local)
    (h : wpAny (model prog w) A (eval iter env) (SrcSet prog w A h₀ L m env elt x scope cl Q) E s)
    (hs : ∀ x, foldedSetIterable iter env x = pure x := by intro _; rfl) :
    wpAny (model prog w) A (eval (.SetComp elt [⟨.Name x px, iter, [], 0⟩] scope pos) env) Q E s := by
  rw [arm_eval_SetComp]
  refine wpAny_comprehension_free (use := none) rfl hs hclos hkind hnames (wpAny_mono h (fun xv s₁ h₁ => ?_) fun _ _ e => e)
  obtain ⟨ax, its, news, rfl, hh, F, N, S, hsz, turn, fin⟩ := h₁
  have hl : s₁.heap.IsTuple ax its := ⟨_, (N _ S).1, rfl, _, rfl⟩
  have hlt : ax < s₁.heap.objs.size := by obtain ⟨_, e, _⟩ := hl; exact Heap.lt_size e
  refine wpAny_pyIter_tuple hl ?_
  refine newSet_own (wpAny_newFunctionEnv hcell (by intro y hy; simp at hy) (fun h₁ hns₁ hsb₁ => ?_) hkind)
  dsimp only at hns₁ hsb₁ ⊢
  generalize hH1 : s₁.heap.push { cls := .type "tuple_iterator", data := .fields #[.ref ax, .int 0 0] } = H1 at hns₁ hsb₁ ⊢
  have z1 : H1.objs.size = s₁.heap.objs.size + 1 := by rw [← hH1, Heap.size_push]
  have up1 : ∀ b o, s₁.heap.get? b = some o → H1.get? b = some o := fun b o e => by rw [← hH1]; exact Heap.get?_push_of_some _ e
  have gI : H1.get? s₁.heap.objs.size = some { cls := .type "tuple_iterator", data := .fields #[.ref ax, .int 0 0] } := by rw [← hH1]; exact Heap.get?_push_size _ rfl
  generalize hH2 : H1.push (setO #[] 0 (T0 (!w.params.followText "set-order"))) = H2 at hns₁ hsb₁ ⊢
  have z2 : H2.objs.size = s₁.heap.objs.size + 2 := by rw [← hH2, Heap.size_push, z1]
  have up2 : ∀ b o, H1.get? b = some o → H2.get? b = some o := fun b o e => by rw [← hH2]; exact Heap.get?_push_of_some _ e
  have gD : H2.get? H1.objs.size = some (setO #[] 0 (T0 (!w.params.followText "set-order"))) := by rw [← hH2]; exact Heap.get?_push_size _ rfl
  clear hH1 hH2
  generalize hI : s₁.heap.objs.size = I at *
  have eD : H1.objs.size = I + 1 := z1
  generalize hD : H1.objs.size = D at *
  generalize hC : H2.objs.size = C at *
  have cI : @LT.lt Nat instLTNat I D := by rw [eD]; exact Nat.lt_succ_self _
  have cD : @LT.lt Nat instLTNat D C := by rw [eD, z2]; exact Nat.lt_succ_self _
  have cC : @LT.lt Nat instLTNat I C := Nat.lt_trans cI cD
  have old : ∀ b, @LT.lt Nat instLTNat b I → ∀ o, s₁.heap.get? b = some o → h₁.get? b = some o := fun b hb o e =>
    hsb₁.extBut b o (Nat.ne_of_lt (Nat.lt_trans hb cC)) (Heap.get?_push_of_some _ (up2 _ _ (up1 _ _ e)))
  have oldk : ∀ b o, s₁.heap.get? b = some o → h₁.get? b = some o := fun b o e => old b (hI ▸ Heap.lt_size e) o e
  have hIg : h₁.get? I = some { cls := .type "tuple_iterator", data := .fields #[.ref ax, .int 0 0] } := hsb₁.extBut _ _ (Nat.ne_of_lt cC) (Heap.get?_push_of_some _ (up2 _ _ gI))
  have hDg : h₁.get? D = some (trueO w 0) := hsb₁.extBut _ _ (Nat.ne_of_lt cD) (Heap.get?_push_of_some _ gD)
  have fresh₀ : ∀ a, @LE.le Nat instLENat I a → h₀.get? a = none := fun a ha => by
    cases e : h₀.get? a with
    | none => rfl
    | some o' => exact absurd (Heap.lt_size (F.keep a o' e)) (Nat.not_lt.mpr (hI ▸ ha))
  have hLlt : @LT.lt Nat instLTNat L I := hI ▸ F.ns.lt
  have nI : ∀ p ∈ news, @LT.lt Nat instLTNat p.1 I := fun p hp => hI ▸ Heap.lt_size (N p hp).1
  have axI : @LT.lt Nat instLTNat ax I := nI _ S
  have W := Walks.tuple (prog := prog) (w := w) (A := A) hh I ax (Nat.ne_of_lt axI) its
  have loop : ∀ s₃ : Shared, s₃ = { s₁ with heap := h₁, toks := s₁.toks + ([] : List (Str × Value)).length } →
      codeAny (model prog w) A (.compLoop (.SetComp elt [⟨.Name x px, iter, [], 0⟩] scope pos) 0 (.ref I) (.ref D) (compEnvC scope cl C env))
        (compPost (model prog w) A E none Q (.ref D) C) s₃ := by
    rintro s₃ rfl
    refine codeAny_compLoop_set
      (fun k s' => ∃ h' tk i m', s' = { s₁ with heap := h', toks := tk } ∧ i ≤ its.size ∧ k = its.size + 1 - i ∧ (h'.IsTupleIter I ax i ∧ h'.IsTuple ax its) ∧ Fr h₀ L h' m ∧ h'.Ns C m' ∧ News h₀ L h' ((D, trueO w i) :: news)) ?_ (its.size + 1)
      ⟨h₁, _, 0, _, rfl, Nat.zero_le _, rfl, ⟨⟨_, hIg, rfl, rfl⟩, ⟨_, oldk _ _ (N _ S).1, rfl, _, rfl⟩⟩, F.keeps oldk, hns₁, fun p hp => ?_⟩
    · rintro k s' ⟨h', tk, i, m', rfl, hi, rfl, hst', F', hn', N'⟩
      have N0 : News h₀ L h' news := fun p hp => N' p (List.mem_cons_of_mem _ hp)
      by_cases hlt' : i < its.size
      · refine W.item i _ _ _ hlt' hst' fun v h₂ tk₂ hPv hst₂ hk₂ => ?_
        refine wpAny_assign_Name (wpAny_storeName_local (lookup_relabel_local hx) (hn'.at' fun o e => hk₂ _ o (by simpa using (Nat.ne_of_gt cC : C ≠ I)) e) (fun h₃ hn₃ hs₃ => ?_) (by simp [compEnvC, relabel, hkind]))
        have hst₃ : (h₃.IsTupleIter I ax (i + 1) ∧ h₃.IsTuple ax its) := W.frame _ _ _ hst₂ fun b hb o e => hs₃.extBut b o (fun q => by
          simp only [List.mem_cons, List.not_mem_nil, or_false] at hb
          have q' : b = C := q
          rcases hb with rfl | rfl
          · exact absurd q' (Nat.ne_of_lt cC)
          · exact absurd q' (Nat.ne_of_lt (Nat.lt_trans axI cC))) e
        obtain ⟨oI, heI, hoI⟩ := hst₃.1
        obtain ⟨oC, heC, hoC⟩ := ns_obj hn₃
        have F₃ : Fr h₀ L h₃ m := (fr_but F' hk₂ (Nat.ne_of_lt hLlt) (fresh₀ I (Nat.le_refl _))).change hs₃ (Nat.ne_of_gt (Nat.lt_trans hLlt cC)) (fresh₀ C (Nat.le_of_lt cC))
        have N₃ : News h₀ L h₃ ((I, oI) :: (C, oC) :: (D, trueO w i) :: news) := fun p hp => by
          rcases List.mem_cons.mp hp with rfl | hp
          · exact ⟨heI, Nat.ne_of_gt hLlt, fresh₀ I (Nat.le_refl _)⟩
          · rcases List.mem_cons.mp hp with rfl | hp
            · exact ⟨heC, Nat.ne_of_gt (Nat.lt_trans hLlt cC), fresh₀ C (Nat.le_of_lt cC)⟩
            · refine ⟨hs₃.extBut _ _ ?_ (hk₂ _ _ ?_ (N' p hp).1), (N' p hp).2⟩
              · rcases List.mem_cons.mp hp with rfl | hp
                · exact Nat.ne_of_lt cD
                · exact Nat.ne_of_lt (Nat.lt_trans (nI p hp) cC)
              · rcases List.mem_cons.mp hp with rfl | hp
                · simpa using (Nat.ne_of_gt cI : D ≠ I)
                · simpa using (Nat.ne_of_lt (nI p hp) : p.1 ≠ I)
        refine wpAny_mono (turn i v I oI C oC D (trueO w i) _ h₃ _ _ hPv hoC (by simp) F₃ N₃) (fun y s₄ h₄ => ?_) fun _ _ e => e
        obtain ⟨h₄, tk₄, rfl, rfl, F₄, N₄⟩ := h₄
        have zI := (N₄ (I, oI) List.mem_cons_self).1
        have zC := (N₄ (C, oC) (List.mem_cons_of_mem _ List.mem_cons_self)).1
        have zD := (N₄ (D, trueO w i) (List.mem_cons_of_mem _ (List.mem_cons_of_mem _ List.mem_cons_self))).1
        have N₄' : News h₀ L h₄ news := fun p hp => N₄ p (List.mem_cons_of_mem _ (List.mem_cons_of_mem _ (List.mem_cons_of_mem _ hp)))
        have hst₄ : (h₄.IsTupleIter I ax (i + 1) ∧ h₄.IsTuple ax its) := ⟨⟨oI, zI, hoI⟩, ⟨_, (N₄' _ S).1, rfl, _, rfl⟩⟩
        have done : ∀ h₅ tk₅, Heap.SameBut D h₄ h₅ → h₅.get? D = some (trueO w (i + 1)) → ∃ k, k < its.size + 1 - i ∧ ∃ h' tk i m', ({ s₁ with heap := h₅, toks := tk₅ } : Shared) = { s₁ with heap := h', toks := tk } ∧ i ≤ its.size ∧ k = its.size + 1 - i ∧ (h'.IsTupleIter I ax i ∧ h'.IsTuple ax its) ∧ Fr h₀ L h' m ∧ h'.Ns C m' ∧ News h₀ L h' ((D, trueO w i) :: news) := by
          intro h₅ tk₅ hs₅ hD₅
          refine ⟨its.size + 1 - (i + 1), by omega, h₅, tk₅, i + 1, _, rfl, hlt', rfl, W.frame _ _ _ hst₄ fun b hb o e => hs₅.extBut b o (fun q => ?_) e, F₄.change hs₅ (Nat.ne_of_gt (Nat.lt_trans hLlt cI)) (fresh₀ D (Nat.le_of_lt cI)), (hoC.ns zC).sameBut hs₅ (Nat.ne_of_gt cD), fun p hp => ?_⟩
          · simp only [List.mem_cons, List.not_mem_nil, or_false] at hb
            have q' : b = D := q
            rcases hb with rfl | rfl
            · exact absurd q' (Nat.ne_of_lt cI)
            · exact absurd q' (Nat.ne_of_lt (Nat.lt_trans axI cI))
          · rcases List.mem_cons.mp hp with rfl | hp
            · exact ⟨hD₅, Nat.ne_of_gt (Nat.lt_trans hLlt cI), fresh₀ D (Nat.le_of_lt cI)⟩
            · exact ⟨hs₅.extBut _ _ (Nat.ne_of_lt (Nat.lt_trans (nI p hp) cI)) (N₄' p hp).1, (N₄' p hp).2⟩
        cases i with
        | zero =>
          refine add_true0 zD fun h₅ tk₅ hs₅ hD₅ => ?_
          exact done h₅ tk₅ hs₅ hD₅
        | succ j =>
          refine add_true1 zD fun tk₅ => ?_
          exact done h₄ tk₅ (Heap.SameBut.refl _ _) zD
      · obtain rfl : i = its.size := Nat.le_antisymm hi (Nat.not_lt.mp hlt')
        refine W.done _ _ _ hst' fun h₂ tk₂ hk₂ => ?_
        have F₂ : Fr h₀ L h₂ m := fr_but F' hk₂ (Nat.ne_of_lt hLlt) (fresh₀ I (Nat.le_refl _))
        have N₂ : News h₀ L h₂ ((D, trueO w its.size) :: news) := news_but N' hk₂ fun p hp => by
          rcases List.mem_cons.mp hp with rfl | hp
          · exact Nat.ne_of_gt cI
          · exact Nat.ne_of_lt (nI p hp)
        refine ⟨m', hn'.at' fun o e => hk₂ _ o (by simpa using (Nat.ne_of_gt cC : C ≠ I)) e, fun h'' hs'' => ?_⟩
        refine fin D h'' tk₂ (F₂.change hs'' (Nat.ne_of_gt (Nat.lt_trans hLlt cC)) (fresh₀ C (Nat.le_of_lt cC))) (fun p hp => ⟨hs''.extBut _ _ ?_ (N₂ p hp).1, (N₂ p hp).2⟩) (off1_of fun p hp => Nat.ne_of_lt (Nat.lt_trans (nI p hp) cI))
        rcases List.mem_cons.mp hp with rfl | hp
        · exact Nat.ne_of_lt cD
        · exact Nat.ne_of_lt (Nat.lt_trans (nI p hp) cC)
    · rcases List.mem_cons.mp hp with rfl | hp
      · exact ⟨hDg, Nat.ne_of_gt (Nat.lt_trans hLlt cI), fresh₀ D (Nat.le_of_lt cI)⟩
      · exact ⟨oldk _ _ (N p hp).1, (N p hp).2⟩
  exact codeAny_compStart_set (loop _ rfl) (W.self 0 _ _ _ ⟨⟨_, hIg, rfl, rfl⟩, ⟨_, oldk _ _ (N _ S).1, rfl, _, rfl⟩⟩ (loop _ rfl))
theorem Assign_set1 {value : Expr} {x : Str} {px : Pos} {k : Nat} {tpos pos : Pos} {Q : Flow → Shared → Prop} (_F₀ : Fr h₀ L s.heap m)
    (h : wpAny (model prog w) A (eval value env) (fun v s₁ => ∃ (a : Addr) (news : List (Addr × Obj)), v = .ref a ∧ A.handled = none ∧ Fr h₀ L s₁.heap m ∧ News h₀ L s₁.heap news ∧ (a, trueO w 2) ∈ news ∧
      ∀ h', Fr h₀ L h' m → News h₀ L h' news → wpAny (model prog w) A (storeName env x (.bool true)) (fun _ => Q .next) E { s₁ with heap := h' }) E s)
    (hs : swapsWithSole [.Tuple [.Name x px] k tpos] value pos.line env = pure false) (hw : swappedStores [.Tuple [.Name x px] k tpos] value env = pure none) :
    wpAny (model prog w) A (exec (.Assign [.Tuple [.Name x px] k tpos] value pos) env) Q E s := by
  refine wpAny_Assign_stores (wpAny_mono h (fun v s₁ h₁ => ?_) fun _ _ e => e) hs hw
  obtain ⟨a, news, rfl, hh, F, N, hm, go⟩ := h₁
  show wpAny _ A (assign (.Tuple [.Name x px] k tpos) env (.ref a)) _ _ _
  rw [arm_assign_Tuple]
  refine wpAny_bind (wpAny_standAt ?_)
  show wpAny _ A (do assignInOrder [assign (.Name x px) env] (← holding [.ref a] (unpackItems (.ref a) 1 none))) _ _ _
  refine wpAny_bind (wpAny_holding (unpackItems_set1 hh rfl (N _ hm).1 fun h' hk => ?_))
  have kk : ∀ b, @LT.lt Nat instLTNat b s₁.heap.objs.size → ∀ o, s₁.heap.get? b = some o → h'.get? b = some o := fun b hb o e => hk b o (Nat.ne_of_lt hb) e
  have F' : Fr h₀ L h' m := F.keeps fun b o e => kk b (Heap.lt_size e) o e
  have N' : News h₀ L h' news := fun p hp => ⟨kk _ (Heap.lt_size (N p hp).1) _ (N p hp).1, (N p hp).2⟩
  show wpAny _ A (do holding [] (assign (.Name x px) env (.bool true)); assignInOrder [] []) _ _ _
  refine wpAny_bind (wpAny_holding (wpAny_assign_Name (wpAny_mono (go h' F' N') (fun _ s' hq => wpAny_pure hq) fun _ _ e => e)))
end
end Mine
end partSc
section partSa
open PySem PySem.W PySem.Calls PyProof.Rows
set_option Elab.async false
namespace Mine
set_option maxRecDepth 100000
set_option maxHeartbeats 2000000
theorem strsAre_item {vs : List Value} {xs : List Str} (h : StrsAre vs xs) : ∀ {i : Nat} {v : Value}, vs[i]? = some v → ∃ x t, v = .str x t ∧ xs[i]? = some x := by
  induction h with
  | nil => intro i v e; simp at e
  | cons y t _ ih =>
    intro i v e
    cases i with
    | zero => exact ⟨y, t, (Option.some.inj e).symm, rfl⟩
    | succ i => exact ih e
theorem strsAre_snoc2 {vs : List Value} {xs : List Str} (y : Str) (t : Tok) (h : StrsAre vs xs) : StrsAre (vs ++ [.str y t]) (xs ++ [y]) := by
  induction h with
  | nil => exact .cons y t .nil
  | cons z u _ ih => exact .cons z u ih
theorem strsAre_length {vs : List Value} {xs : List Str} (h : StrsAre vs xs) : vs.length = xs.length := by
  induction h with
  | nil => rfl
  | cons z u _ ih => rw [List.length_cons, List.length_cons, ih]
theorem filter_take_snoc {α : Type} {p : α → Bool} {l : List α} {i : Nat} {c : α} (h : l[i]? = some c) : (l.take (i + 1)).filter p = (l.take i).filter p ++ (if p c = true then [c] else []) := by
  rw [List.take_add_one, List.filter_append, h]
  congr 1
  simp [List.filter_cons]
theorem map_again {m0 : Str → Option Value} {a b : Str} {v u t : Value} : (fun z => if z = a then some v else (fun z => if z = b then some u else if z = a then some t else m0 z) z) = fun z => if z = a then some v else if z = b then some u else m0 z := by
  funext z
  by_cases h1 : z = a
  · rw [if_pos h1, if_pos h1]
  · rw [if_neg h1, if_neg h1]
    show (if z = b then some u else if z = a then some t else m0 z) = _
    rw [if_neg h1]
theorem off1_lcg {D : Addr} {l : List (Addr × Obj)} (h : LCg.Off1 D l) : Off1 D l := by
  induction l with
  | nil => exact trivial
  | cons p r ih => exact ⟨h.1, ih h.2⟩
theorem compEnd_head {h₀ : Heap} {L I C D : Addr} {m : Str → Option Value} {s₁ : Shared} {oI oC oD : Obj} {S : List (Addr × Obj) → Prop} {rest : Value → List (Addr × Obj) → Prop} {y : Value} {h' : Heap} {tk : Nat} {news : List (Addr × Obj)} {d : Addr} {o : Obj}
    (F : Fr h₀ L h' m) (N : News h₀ L h' ((d, o) :: (I, oI) :: (C, oC) :: (D, oD) :: news)) (z : Off1 d ((I, oI) :: (C, oC) :: (D, oD) :: news)) (off : LCg.Off3 I C D news) (hS : S ((d, o) :: news)) (r : rest y ((d, o) :: news)) :
    LCg.CompEnd h₀ L m s₁ I oI C oC D oD S rest y { s₁ with heap := h', toks := tk } :=
  ⟨h', tk, (d, o) :: news, rfl, F, fun p hp => by
    rcases List.mem_cons.mp hp with e | hp
    · exact N p (e ▸ .tail _ (.head _))
    · rcases List.mem_cons.mp hp with e | hp
      · exact N p (e ▸ .tail _ (.tail _ (.head _)))
      · rcases List.mem_cons.mp hp with e | hp
        · exact N p (e ▸ .tail _ (.tail _ (.tail _ (.head _))))
        · rcases List.mem_cons.mp hp with e | hp
          · exact N p (e ▸ .head _)
          · exact N p (.tail _ (.tail _ (.tail _ (.tail _ hp)))), ⟨⟨Ne.symm z.1, Ne.symm z.2.1, Ne.symm z.2.2.1⟩, off⟩, hS, r⟩
noncomputable def keepC (c : Str) : Bool := !(c == Str.ofString "") && !(c == Str.ofString ".")
theorem keepC_tt {c : Str} (h : ((c.length : Nat) : Int) ≠ 0) (h2 : (c != Str.ofString ".") = true) : keepC c = true := by
  unfold keepC
  have h3 : (c == Str.ofString ".") = false := by
    cases e : (c == Str.ofString ".") with
    | false => rfl
    | true => simp [bne, e] at h2
  have h4 : (c == Str.ofString "") = false := by
    cases e : (c == Str.ofString "") with
    | false => rfl
    | true => rw [eq_of_beq e] at h; exact absurd rfl h
  rw [h3, h4]; rfl
theorem keepC_f1 {c : Str} (h2 : (c != Str.ofString ".") = false) : keepC c = false := by
  unfold keepC
  have h3 : (c == Str.ofString ".") = true := by
    cases e : (c == Str.ofString ".") with
    | true => rfl
    | false => simp [bne, e] at h2
  rw [h3]; simp
theorem keepC_f2 {c : Str} (h : ((c.length : Nat) : Int) = 0) : keepC c = false := by
  unfold keepC
  have h4 : (c == Str.ofString "") = true := by
    have : c = Str.ofString "" := by
      obtain ⟨a⟩ := c
      have h' : a.size = 0 := by exact Int.ofNat.inj h
      rw [Array.eq_empty_of_size_eq_zero h']; rfl
    rw [this]; decide
  rw [h4]; rfl
noncomputable def parts (x : Str) : List Str := (Txt.split x (Str.ofString "/")).filter keepC
end Mine
end partSa
open PySem PySem.W PySem.Calls PyProof.Rows in
theorem Mine.calmTr2 {prog : Program} {w : World} {A : Around} {E Q : Value → Shared → Prop} {s : Shared} (h : wpAny (model prog w) A (call (.builtin "zz") []) Q E s) : wpAny (model prog w) A (call (.builtin "zz") []) Q E s := by w_top off; first | (walk1; fail) | exact h
section partTr2
open PySem PySem.W PySem.Calls PyProof.Rows
set_option Elab.async false
namespace Mine
set_option maxRecDepth 100000
set_option maxHeartbeats 2000000
theorem warmTr2 (w : World) : KK w.params = KK w.params ∧ PySem.Challenge.rw_in0209_01 = PySem.Challenge.rw_in0209_01 := by k_fill; exact ⟨rfl, rfl⟩
local macro_rules | `(tactic| walk_at "call ref") => `(tactic| first | (with_reducible refine atc 35 ?_; k_dflt (refine' ConV.useH (contains_con _ _ _ _ _ (by assumption)) ?_ (hpre := by (exact PySem.W.kda_dict (by assumption) (by k_mem) (by assumption)))); walk_at "iV") | (with_reducible refine atc 157 ?_; k_dflt (refine' ConS.useH (join_con _ _ _ _ _ (by omega) (by omega)) ?_); walk_at "iS") | (with_reducible refine atc 279 ?_; k_dflt (refine' ConO.useH (draw_conO _ _ _ _ _ (by omega) (by omega) (by omega) (by omega)) ?_); rintro a' o' h' tk' ⟨t1',t2',t3',e9'⟩ F' N' G' Z'; (try subst e9'); (try dsimp only [Off1] at Z'); (try dsimp only)))
theorem map_five {m m₀ : Str → Option Value} {x y c d e : Str} {v u t q r : Option Value} (hx : m x = v) (hy : m y = u) (hc : m c = t) (hd : m d = q) (he : m e = r) (h : ∀ z, z ≠ x → z ≠ y → z ≠ c → z ≠ d → z ≠ e → m z = m₀ z) :
    m = fun z => if z = x then v else if z = y then u else if z = c then t else if z = d then q else if z = e then r else m₀ z := by
  funext z
  by_cases h1 : z = x
  · subst h1; simp [hx]
  by_cases h2 : z = y
  · subst h2; simp [hy, h1]
  by_cases h3 : z = c
  · subst h3; simp [hc, h1, h2]
  by_cases h4 : z = d
  · subst h4; simp [hd, h1, h2, h3]
  by_cases h5 : z = e
  · subst h5; simp [he, h1, h2, h3, h4]
  simp [h1, h2, h3, h4, h5, h z h1 h2 h3 h4 h5]
theorem nameS_len (x : Int) : (nameS x).length ≤ 2 := by
  unfold nameS
  by_cases h1 : (x.fdiv 20).fmod 3 = 0
  · rw [if_pos h1]; decide
  · rw [if_neg h1]
    by_cases h2 : (x.fdiv 20).fmod 3 = 1
    · rw [if_pos h2]; decide
    · rw [if_neg h2]; decide
theorem joinS_len (x y : Str) : (joinS x y).length ≤ x.length + 1 + y.length := by
  unfold joinS
  split
  · omega
  · split
    · rw [Str.length_append]; omega
    · rw [Str.length_append, Str.length_append]
      have : ("/" : Str).length = 1 := by decide
      omega
structure TreeGood (s : List Str × List (Str × Int)) (n : Nat) : Prop where
  pos : 0 < s.1.length
  len : s.1.length ≤ n + 1
  mlen : s.2.length ≤ n + 1
  each : ∀ y ∈ s.1, y.length ≤ 1 + 3 * n
theorem wayOf_len {s : List Str × List (Str × Int)} {n : Nat} (h : TreeGood s n) (x : Int) : (wayOf s x).length ≤ 1 + 3 * (n + 1) := by
  unfold wayOf
  have h1 := joinS_len (s.1.getD (x.fmod s.1.length).toNat "") (nameS x)
  have h2 := nameS_len x
  have h3 : (s.1.getD (x.fmod s.1.length).toNat "").length ≤ 1 + 3 * n := by
    rw [List.getD_eq_getElem?_getD]
    cases e : s.1[(x.fmod s.1.length).toNat]? with
    | none => exact Nat.zero_le _
    | some y => exact h.each y (List.mem_of_getElem? e)
  omega
theorem TreeGood.step {s : List Str × List (Str × Int)} {n : Nat} (h : TreeGood s n) (x : Int) : TreeGood (treeStep s x) (n + 1) := by
  have hl := wayOf_len h x
  have hp := h.pos
  have hm := h.mlen
  have hn := h.len
  unfold treeStep
  refine ⟨?_, ?_, ?_, ?_⟩
  · dsimp only; split
    · exact hp
    · rw [List.length_append]; omega
  · dsimp only; split
    · omega
    · rw [List.length_append, List.length_singleton]; omega
  · exact Nat.le_trans (putMode_len _ _ _) (by omega)
  · dsimp only
    intro y hy
    split at hy
    · have := h.each y hy; omega
    · rcases List.mem_append.mp hy with q | q
      · have := h.each y q; omega
      · rw [List.mem_singleton.mp q]; exact hl
theorem tree_good (ns : List Int) : ∀ i, i ≤ ns.length → TreeGood (treeOf (ns.take i)) i := by
  intro i
  induction i with
  | zero => intro _; rw [List.take_zero]; exact ⟨by decide, by decide, by decide, by decide⟩
  | succ i ih =>
    intro h
    have e : ns.take (i + 1) = ns.take i ++ [ns[i]] := by rw [List.take_add_one, List.getElem?_eq_getElem (by omega)]; rfl
    rw [e, treeOf_snoc]
    exact (ih (by omega)).step _
theorem two_led {g h : Heap} {L dd wl : Addr} {o' : Obj} {p1 : Addr × Obj} {vsw : List Value} {z : Str} {t : Tok} {q : Nat} {own : List (Addr × Obj)} (N : News g L h (p1 :: (dd, o') :: (wl, PySem.W.listOf (vsw.toArray.push (.str z t)) q) :: own)) :
    ∃ tt, News g L h (p1 :: (dd, o') :: (wl, lstO (vsw ++ [.str z tt]) q) :: own) := ⟨t, by rw [listOf_push] at N; exact N⟩
/-- what the tree's call hands back: a pair of the list of the ways and the dict of the modes -/
noncomputable def TreeOut (w : World) (ns : List Int) (h h' : Heap) (v : Value) : Prop :=
  ∃ tp wl dd vsw q kvs o, v = .ref tp ∧ o.IsDictOf (SK w) kvs ∧ KvIs kvs (treeOf ns).2 ∧ StrsAre vsw (treeOf ns).1 ∧ (dd == sysModules) = false ∧
    ∀ p ∈ [(tp, tupO [.ref wl, .ref dd]), (dd, o), (wl, lstO vsw q)], h.get? p.1 = none ∧ h'.get? p.1 = some p.2
section
local macro_rules | `(tactic| walk_at "exec For Name Name cons nil") => `(tactic| refine hold ?_)
local macro_rules | `(tactic| walk_at "subscriptTail Name Name ref int") => `(tactic| (k_here; (with_unfolding_all refine' item_own (News.lst (by k_asm) (by k_mem) rfl rfl) (by assumption) (by omega) (by omega) ?_ (by with_unfolding_all rfl)); (try dsimp only)))
local macro_rules | `(tactic| walk_at "call builtin:len") => `(tactic| (k_here; (with_unfolding_all refine' len_of (News.lst (by k_asm) (by k_mem) rfl rfl) (by assumption) (by omega) ?_); (try dsimp only)))
local macro_rules | `(tactic| walk_at "pyIter ref") => `(tactic| refine hold ?_)
theorem tree_con (w : World) (l : Addr) (vs : List Value) (ns : List Int) (hi : IntsAre vs ns) (hl : ns.length ≤ 50) (hx : ∀ x ∈ ns, 0 ≤ x ∧ x < 1000000) :
    Con w 286 [.ref l] 3 (fun h => h.IsList l vs.toArray) (TreeOut w ns) := by
  refine con_of [("numbers", .ref l)] (by k_is) (by k_is) (fun s => BindsTo.of_eq rfl) (locs rfl) ?_ (by decide)
  intro dp un gd outer A₀ base g L' h₁ tk gn dr os mean mg mb R B F N X T hdp hun hpre hret
  k_fold
  have hne : l ≠ L' := by
    obtain ⟨o, ho, _⟩ := hpre
    exact Nat.ne_of_lt (Nat.lt_of_lt_of_le (Heap.lt_size ho) F.above)
  k_steps
  rename Fr _ _ _ _ => F1
  rename News _ _ _ _ => N1
  refine ConM.use (setitem_con w _ [] _ _ _ _ (by decide)) (by k_asm) F1 X T rfl N1 (by k_updF) (by omega) (by omega) (by assumption) ?_
  rintro r o' h' tk' F2 N2 ⟨rfl, hO2⟩
  clear F1 N1
  dsimp only
  k_steps
  unfold Hold
  rename Fr _ _ _ _ => F3
  rename News _ _ _ _ => N3
  rename (_ == sysModules) = false => lo
  rename _ < _ => hlt
  refine lp_for ?_
  k_steps
  unfold Hold
  rename_i tk0 wl h3 l10 h2 dd h1b oD0 hs' fs' hi'' fi' h1c
  clear hs' fs' hi'' fi' l10
  have tg := tree_good ns
  refine lp_list rfl (fr_list hpre F3) hne F3 N3 (fun i m news => (∃ o kvs vsw q, news = [(dd, o), (wl, lstO vsw q)] ∧ o.IsDictOf (SK w) kvs ∧ KvIs kvs (treeOf (ns.take i)).2 ∧ StrsAre vsw (treeOf (ns.take i)).1) ∧
    ∀ z, z ≠ Str.ofString "number" → z ≠ Str.ofString "father" → z ≠ Str.ofString "name" → z ≠ Str.ofString "mode" → z ≠ Str.ofString "way" → m z = if z = Str.ofString "modes" then some (.ref dd) else if z = Str.ofString "ways" then some (.ref wl) else List.lookup z [(Str.ofString "numbers", Value.ref l)].reverse)
    ⟨⟨_, _, [.str (Str.ofString "/") tk0], 0, rfl, hO2, .cons _ _ _ .nil, .cons _ _ .nil⟩, fun _ _ _ _ _ _ => rfl⟩ ?_ ?_ go_name
  · rintro i v m₁ news₁ h₁ tk₁ own0 I hI hi' ⟨⟨o, kvs, vsw, q, rfl, hO, hkv, hsw⟩, hm⟩ hIn hin hown0 F₁ N₁
    clear F3 N3
    have F₂ := Fr.as F₁ (map_five rfl rfl rfl rfl rfl hm)
    clear F₁
    obtain ⟨x, tx, rfl, hxi⟩ := intsAre_item hi (by simpa using hi')
    have hx1 := hx x (List.mem_of_getElem? hxi)
    have hlt' : i < ns.length := (List.getElem?_eq_some_iff.mp hxi).1
    have gt := tg i (by omega)
    have e1 : treeOf (ns.take (i + 1)) = treeStep (treeOf (ns.take i)) x := by rw [List.take_add_one, hxi, ← treeOf_snoc]; rfl
    generalize treeOf (ns.take i) = st at *
    obtain ⟨ws, md⟩ := st
    have hp := gt.pos
    have hn := gt.len
    have hmn := gt.mlen
    have hwl := wayOf_len gt x
    have he := gt.each
    dsimp only at hp hn hmn he hkv hsw
    have lw := strsAre_length hsw
    have lk := kvIs_length hkv
    have m0 : 0 ≤ x.fmod ws.length := Int.fmod_nonneg_of_pos _ (by omega)
    have m1 : x.fmod ws.length < ws.length := Int.fmod_lt_of_pos _ (by omega)
    obtain ⟨vf, hvf⟩ : ∃ vf, vsw[(x.fmod ws.length).toNat]? = some vf := ⟨_, List.getElem?_eq_getElem (by omega)⟩
    obtain ⟨fw, tf, rfl, hfw⟩ := strsAre_item hsw hvf
    have hfl := he fw (List.mem_of_getElem? hfw)
    have hnl := nameS_len x
    have ew : joinS fw (nameS x) = wayOf (ws, md) x := by unfold wayOf; rw [List.getD_eq_getElem?_getD, hfw]; rfl
    have hOO : OwnOff ([] ++ own0) [dd, wl] := own_off (hd := [(dd, o), (wl, lstO vsw q)]) (own := []) (by simpa using N₁) hpre (fun p hp => nomatch hp) (by simpa using hIn) hown0
    simp only [List.nil_append] at hOO
    simp only [List.cons_append] at N₁
    k_steps
    · rename (valueAt kvs (joinS fw (nameS x))).isSome = true => hb
      rename Fr _ _ _ _ => F5
      rename News _ _ _ _ => N5
      simp only [List.nil_append] at N5
      refine ConM.use (setitem_con w _ kvs _ _ _ _ (by omega)) (by k_asm) F5 X T rfl N5 (by k_updF) (by omega) (by omega) (by assumption) ?_
      rintro r o' h' tk' F6 N6 ⟨rfl, hO6⟩
      clear F5 N5
      dsimp only at N6 F6 ⊢
      k_steps
      rename Fr _ _ _ _ => F7
      rename News _ _ _ _ => N7
      show LEnd _ _ _ _ _ _ _
      have hb2 : (modeAt md (wayOf (ws, md) x)).isSome = true := by rw [← ew, ← kvIs_isSome hkv]; exact hb
      refine LEnd.intro [(dd, o'), (wl, lstO vsw q)] F7 N7 (fun p hp => List.mem_cons_of_mem _ (List.mem_cons_of_mem _ (List.mem_cons_of_mem _ hp))) (fun p hp => ?_) (fun p hp q => ?_) ⟨⟨o', _, _, _, rfl, hO6, ?_, ?_⟩, ?_⟩
      · simp only [List.mem_cons, List.not_mem_nil, or_false] at hp
        rcases hp with h | h <;> rw [h] <;> k_mem
      · simp only [List.mem_cons, List.not_mem_nil, or_false] at hp q
        have hI0 := hin
        rcases hp with h | h
        · exact (hIn (dd, o) (by k_mem)) (by rw [← q, h])
        · exact (hIn (wl, lstO vsw _) (by k_mem)) (by rw [← q, h])
      · rw [e1]; unfold treeStep; dsimp only; rw [← ew]; exact kvIs_stored _ _ _ hkv
      · rw [e1]; unfold treeStep; dsimp only; rw [if_pos hb2]; exact hsw
      · intro z z1 z2 z3 z4 z5; simp [z1, z2, z3, z4, z5]
    · rename (valueAt kvs (joinS fw (nameS x))).isSome = false => hb
      rename Fr _ _ _ _ => F5
      rename News _ _ _ _ => N5
      simp only [List.nil_append] at N5
      refine ConM.use (setitem_con w _ kvs _ _ _ _ (by omega)) (by k_asm) F5 X T rfl N5 (by k_updF) (by omega) (by omega) (by assumption) ?_
      rintro r o' h' tk' F6 N6 ⟨rfl, hO6⟩
      clear F5 N5
      dsimp only at N6 F6 ⊢
      k_steps
      rename Fr _ _ _ _ => F7
      rename News _ _ _ _ => N7
      obtain ⟨tt, N7⟩ := two_led N7
      show LEnd _ _ _ _ _ _ _
      have hb2 : (modeAt md (wayOf (ws, md) x)).isSome = false := by rw [← ew, ← kvIs_isSome hkv]; exact hb
      refine LEnd.intro [(dd, o'), (wl, lstO (vsw ++ [.str (joinS fw (nameS x)) tt]) (q + 1))] F7 N7 (fun p hp => List.mem_cons_of_mem _ (List.mem_cons_of_mem _ (List.mem_cons_of_mem _ hp))) (fun p hp => ?_) (fun p hp q => ?_) ⟨⟨o', _, _, _, rfl, hO6, ?_, ?_⟩, ?_⟩
      · simp only [List.mem_cons, List.not_mem_nil, or_false] at hp
        rcases hp with h | h <;> rw [h] <;> k_mem
      · simp only [List.mem_cons, List.not_mem_nil, or_false] at hp q
        have hI0 := hin
        rcases hp with h | h
        · exact (hIn (dd, o) (by k_mem)) (by rw [← q, h])
        · exact (hIn (wl, lstO vsw _) (by k_mem)) (by rw [← q, h])
      · rw [e1]; unfold treeStep; dsimp only; rw [← ew]; exact kvIs_stored _ _ _ hkv
      · rw [e1]; unfold treeStep; dsimp only; rw [if_neg (by rw [hb2]; decide), ← ew]; exact strsAre_snoc2 _ _ hsw
      · intro z z1 z2 z3 z4 z5; simp [z1, z2, z3, z4, z5]
  · rintro h' tk m' news' F' N' ⟨⟨o, kvs, vsw, q, rfl, hO, hkv, hsw⟩, hm⟩
    clear F3 N3
    have F₂ := Fr.as F' (map_five rfl rfl rfl rfl rfl hm)
    clear F'
    have ev : ns.take vs.toArray.size = ns := by rw [List.size_toArray, hi.length, List.take_length]
    rw [ev] at hkv hsw
    dsimp only
    k_steps
    rename Fr _ _ _ _ => F7
    rename News _ _ _ _ => N7
    exact hret _ _ _ F7.keep ⟨_, wl, dd, vsw, q, kvs, o, rfl, hO, hkv, hsw, lo, fun p hp => ⟨(N7 p hp).2.2, (N7 p hp).1⟩⟩
end
end Mine
end partTr2
section partLl
open PySem PySem.W PySem.Calls PyProof.Rows
set_option Elab.async false
namespace Mine
set_option maxRecDepth 100000
set_option maxHeartbeats 2000000
open PySem.AutoSeq1 (wpAny_loadPart')
noncomputable def strLt (x y : Str) : Bool := decide (x.cps.toList < y.cps.toList)
noncomputable def listLt : List Str → List Str → Bool
  | [], [] => false
  | [], _ :: _ => true
  | _ :: _, [] => false
  | x :: xs, y :: ys => if x = y then listLt xs ys else strLt x y
theorem listLt_nil (ys : List Str) : listLt [] ys = decide (0 < ys.length) := by cases ys <;> simp [listLt]
theorem listLt_nil' (ys : List Str) : listLt ys [] = false := by cases ys <;> rfl
theorem lt_loop (l b : Addr) (n n2 : Nat) (dd dd2 : Option Addr) (sl sl2 : Array (Option Value)) (vs ws : List Value) (xs ys : List Str) (hx : StrsAre vs xs) (hy : StrsAre ws ys) (k : Nat) :
    ∀ i : Nat, vs.length - i = k → i ≤ vs.length → i ≤ ws.length → Meets (Builtin.«list.__eq__.loop» ⟨[.ref l, .ref b, rawInt i, rawInt 0], []⟩)
      (fun _ R s => s.heap.get? l = some { cls := .type "list", dict := dd, data := .seq vs.toArray n, slots := sl } ∧ s.heap.get? b = some { cls := .type "list", dict := dd2, data := .seq ws.toArray n2, slots := sl2 } ∧
        R (.ok (.ret (.bool (listLt (xs.drop i) (ys.drop i))))) s) := by
  have lx := strsAre_length hx
  have ly := strsAre_length hy
  induction k with
  | zero =>
    intro i hk h1 h2 prog w A R s h
    obtain ⟨hp, g, d, tk, os⟩ := s; obtain ⟨hl, hb, h⟩ := h
    wp_walk using wpAny_loadPart' hl, wpAny_loadPart' hb
    have hi1 : vs.toArray[((i : Nat) : Int).toNat]? = none := by simp; omega
    rw [hi1]
    have e1 : xs.drop i = [] := List.drop_eq_nil_of_le (by omega)
    rw [e1] at h
    wp_walk using wpAny_loadPart' hl, wpAny_loadPart' hb
    refine cast (congrArg (fun b => R (.ok (.ret (.bool b))) _) ?_) h
    rw [listLt_nil]
    show decide (0 < (ys.drop i).length) = decide (vs.toArray.size < ws.toArray.size)
    rw [List.length_drop, List.size_toArray, List.size_toArray]; exact decide_eq_decide.mpr (by omega)
  | succ k ih =>
    intro i hk h1 h2 prog w A R s h
    obtain ⟨hp, g, d, tk, os⟩ := s; obtain ⟨hl, hb, h⟩ := h
    wp_walk using wpAny_loadPart' hl, wpAny_loadPart' hb
    have hlt : i < vs.length := by omega
    have hi1 : vs.toArray[((i : Nat) : Int).toNat]? = some vs[i] := by simp [hlt]
    rw [hi1]
    obtain ⟨x, tx, ex, hxi⟩ := strsAre_item hx (List.getElem?_eq_getElem hlt)
    have dx : xs.drop i = x :: xs.drop (i + 1) := by
      obtain ⟨hlx, e⟩ := List.getElem?_eq_some_iff.mp hxi
      rw [List.drop_eq_getElem_cons hlx, e]
    by_cases hlt2 : i < ws.length
    · have hi2 : ws.toArray[((i : Nat) : Int).toNat]? = some ws[i] := by simp [hlt2]
      rw [hi2]
      obtain ⟨y, ty, ey, hyi⟩ := strsAre_item hy (List.getElem?_eq_getElem hlt2)
      have dy : ys.drop i = y :: ys.drop (i + 1) := by
        obtain ⟨hly, e⟩ := List.getElem?_eq_some_iff.mp hyi
        rw [List.drop_eq_getElem_cons hly, e]
      rw [ex, ey]
      rw [dx, dy] at h
      have hc : ((i : Int) + 1) = ((i + 1 : Nat) : Int) := by push_cast; rfl
      dsimp only
      refine wpAny_bind (wpAny_eqBool_str ?_)
      by_cases hxy : x = y
      · rw [decide_eq_true hxy, if_pos rfl, hc]
        unfold listLt at h
        rw [if_pos hxy] at h
        refine wpAny_pure ⟨plainId_quiet MeetsSeq3.plain_eq_loop _, codeAny_builtin MeetsSeq3.entry_eq_loop ?_⟩
        rw [Around.under_plainId MeetsSeq3.plain_eq_loop _]
        exact ih (i + 1) (by omega) (by omega) (by omega) prog w A R _ ⟨hl, hb, h⟩
      · rw [decide_eq_false hxy, if_neg Bool.false_ne_true]
        unfold listLt at h
        rw [if_neg hxy] at h
        wp_walk using wpAny_loadPart' hl, wpAny_loadPart' hb
        rw [hi1, hi2, ex, ey]
        dsimp only
        refine wpAny_bind (richCompare_gives (op := .Lt) (T := "str") rfl rfl PySem.F.slot_str_lt PySem.F.entry_str_lt (PySem.F.args_str_lt_2 _ _) (gives_str_lt x y tx ty) (fun x => nomatch x) ?_)
        exact wpAny_pure h
    · have hi2 : ws.toArray[((i : Nat) : Int).toNat]? = none := by simp; omega
      rw [hi2]
      have e2 : ys.drop i = [] := List.drop_eq_nil_of_le (by omega)
      rw [e2] at h
      wp_walk using wpAny_loadPart' hl, wpAny_loadPart' hb
      refine cast (congrArg (fun b => R (.ok (.ret (.bool b))) _) ?_) h
      rw [listLt_nil']
      show false = decide (vs.toArray.size < ws.toArray.size)
      rw [List.size_toArray, List.size_toArray]; exact (decide_eq_false (by omega)).symm
theorem lt_meets (l b : Addr) (n n2 : Nat) (dd dd2 : Option Addr) (sl sl2 : Array (Option Value)) (vs ws : List Value) (xs ys : List Str) (hx : StrsAre vs xs) (hy : StrsAre ws ys) :
    Meets (Builtin.«list.__lt__» ⟨[.ref l, .ref b], []⟩)
      (fun _ R s => s.heap.get? l = some { cls := .type "list", dict := dd, data := .seq vs.toArray n, slots := sl } ∧ s.heap.get? b = some { cls := .type "list", dict := dd2, data := .seq ws.toArray n2, slots := sl2 } ∧
        R (.ok (.ret (.bool (listLt (xs) (ys))))) s) := by
  intro prog w A R s h
  obtain ⟨hp, g, d, tk, os⟩ := s; obtain ⟨hl, hb, h⟩ := h
  have f3 := AutoSeq1.sub_list_list
  wp_walk using wpAny_loadPart' hl, wpAny_loadPart' hb
  exact ⟨plainId_quiet MeetsSeq3.plain_eq_loop _, codeAny_builtin MeetsSeq3.entry_eq_loop (by
    rw [Around.under_plainId MeetsSeq3.plain_eq_loop _]
    exact lt_loop l b n n2 dd dd2 sl sl2 vs ws xs ys hx hy _ 0 rfl (Nat.zero_le _) (Nat.zero_le _) prog w A R _ ⟨hl, hb, h⟩)⟩
theorem lt_cmp {prog : Program} {w : World} {A : Around} {E : Value → Shared → Prop} {s : Shared} {l b : Addr} {vs ws : List Value} {xs ys : List Str} {Q : Value → Shared → Prop} {n n2 : Nat} (hl : s.heap.get? l = some { cls := .type "list", data := .seq vs.toArray n }) (hb : s.heap.get? b = some { cls := .type "list", data := .seq ws.toArray n2 }) (hx : StrsAre vs xs) (hy : StrsAre ws ys) (hu : A.units < cLine)
    (h : Q (.bool (listLt (xs) (ys))) s) : wpAny (model prog w) A (richCompare .Lt (.ref l) (.ref b)) Q E s :=
  richCompare_meets_room (T := "list") ⟨_, hl, rfl⟩ ⟨_, hb, rfl⟩ PySem.F.slot_list_lt PySem.F.entry_list_lt (PySem.F.args_list_lt_2 _ _)
    (lt_meets l b n n2 none none #[] #[] vs ws xs ys hx hy) ⟨hl, hb, show _ ∧ _ from ⟨(fun e => nomatch e), h⟩⟩ hu
theorem gt_loop (l b : Addr) (n n2 : Nat) (dd dd2 : Option Addr) (sl sl2 : Array (Option Value)) (vs ws : List Value) (xs ys : List Str) (hx : StrsAre vs xs) (hy : StrsAre ws ys) (k : Nat) :
    ∀ i : Nat, vs.length - i = k → i ≤ vs.length → i ≤ ws.length → Meets (Builtin.«list.__eq__.loop» ⟨[.ref l, .ref b, rawInt i, rawInt 4], []⟩)
      (fun _ R s => s.heap.get? l = some { cls := .type "list", dict := dd, data := .seq vs.toArray n, slots := sl } ∧ s.heap.get? b = some { cls := .type "list", dict := dd2, data := .seq ws.toArray n2, slots := sl2 } ∧
        R (.ok (.ret (.bool (listLt (ys.drop i) (xs.drop i))))) s) := by
  have lx := strsAre_length hx
  have ly := strsAre_length hy
  induction k with
  | zero =>
    intro i hk h1 h2 prog w A R s h
    obtain ⟨hp, g, d, tk, os⟩ := s; obtain ⟨hl, hb, h⟩ := h
    wp_walk using wpAny_loadPart' hl, wpAny_loadPart' hb
    have hi1 : vs.toArray[((i : Nat) : Int).toNat]? = none := by simp; omega
    rw [hi1]
    have e1 : xs.drop i = [] := List.drop_eq_nil_of_le (by omega)
    rw [e1] at h
    wp_walk using wpAny_loadPart' hl, wpAny_loadPart' hb
    refine cast (congrArg (fun b => R (.ok (.ret (.bool b))) _) ?_) h
    rw [listLt_nil']
    show false = decide (vs.toArray.size > ws.toArray.size)
    rw [List.size_toArray, List.size_toArray]; exact (decide_eq_false (by omega)).symm
  | succ k ih =>
    intro i hk h1 h2 prog w A R s h
    obtain ⟨hp, g, d, tk, os⟩ := s; obtain ⟨hl, hb, h⟩ := h
    wp_walk using wpAny_loadPart' hl, wpAny_loadPart' hb
    have hlt : i < vs.length := by omega
    have hi1 : vs.toArray[((i : Nat) : Int).toNat]? = some vs[i] := by simp [hlt]
    rw [hi1]
    obtain ⟨x, tx, ex, hxi⟩ := strsAre_item hx (List.getElem?_eq_getElem hlt)
    have dx : xs.drop i = x :: xs.drop (i + 1) := by
      obtain ⟨hlx, e⟩ := List.getElem?_eq_some_iff.mp hxi
      rw [List.drop_eq_getElem_cons hlx, e]
    by_cases hlt2 : i < ws.length
    · have hi2 : ws.toArray[((i : Nat) : Int).toNat]? = some ws[i] := by simp [hlt2]
      rw [hi2]
      obtain ⟨y, ty, ey, hyi⟩ := strsAre_item hy (List.getElem?_eq_getElem hlt2)
      have dy : ys.drop i = y :: ys.drop (i + 1) := by
        obtain ⟨hly, e⟩ := List.getElem?_eq_some_iff.mp hyi
        rw [List.drop_eq_getElem_cons hly, e]
      rw [ex, ey]
      rw [dx, dy] at h
      have hc : ((i : Int) + 1) = ((i + 1 : Nat) : Int) := by push_cast; rfl
      dsimp only
      refine wpAny_bind (wpAny_eqBool_str ?_)
      by_cases hxy : x = y
      · rw [decide_eq_true hxy, if_pos rfl, hc]
        unfold listLt at h
        rw [if_pos hxy.symm] at h
        refine wpAny_pure ⟨plainId_quiet MeetsSeq3.plain_eq_loop _, codeAny_builtin MeetsSeq3.entry_eq_loop ?_⟩
        rw [Around.under_plainId MeetsSeq3.plain_eq_loop _]
        exact ih (i + 1) (by omega) (by omega) (by omega) prog w A R _ ⟨hl, hb, h⟩
      · rw [decide_eq_false hxy, if_neg Bool.false_ne_true]
        unfold listLt at h
        rw [if_neg (fun e => hxy e.symm)] at h
        wp_walk using wpAny_loadPart' hl, wpAny_loadPart' hb
        rw [hi1, hi2, ex, ey]
        dsimp only
        refine wpAny_bind (richCompare_gives (op := .Gt) (T := "str") rfl rfl PySem.F.slot_str_gt PySem.F.entry_str_gt (PySem.F.args_str_gt_2 _ _) (gives_str_gt x y tx ty) (fun x => nomatch x) ?_)
        exact wpAny_pure h
    · have hi2 : ws.toArray[((i : Nat) : Int).toNat]? = none := by simp; omega
      rw [hi2]
      have e2 : ys.drop i = [] := List.drop_eq_nil_of_le (by omega)
      rw [e2] at h
      wp_walk using wpAny_loadPart' hl, wpAny_loadPart' hb
      refine cast (congrArg (fun b => R (.ok (.ret (.bool b))) _) ?_) h
      rw [listLt_nil]
      show decide (0 < (xs.drop i).length) = decide (vs.toArray.size > ws.toArray.size)
      rw [List.length_drop, List.size_toArray, List.size_toArray]; exact decide_eq_decide.mpr (by omega)
theorem gt_meets (l b : Addr) (n n2 : Nat) (dd dd2 : Option Addr) (sl sl2 : Array (Option Value)) (vs ws : List Value) (xs ys : List Str) (hx : StrsAre vs xs) (hy : StrsAre ws ys) :
    Meets (Builtin.«list.__gt__» ⟨[.ref l, .ref b], []⟩)
      (fun _ R s => s.heap.get? l = some { cls := .type "list", dict := dd, data := .seq vs.toArray n, slots := sl } ∧ s.heap.get? b = some { cls := .type "list", dict := dd2, data := .seq ws.toArray n2, slots := sl2 } ∧
        R (.ok (.ret (.bool (listLt (ys) (xs))))) s) := by
  intro prog w A R s h
  obtain ⟨hp, g, d, tk, os⟩ := s; obtain ⟨hl, hb, h⟩ := h
  have f3 := AutoSeq1.sub_list_list
  wp_walk using wpAny_loadPart' hl, wpAny_loadPart' hb
  exact ⟨plainId_quiet MeetsSeq3.plain_eq_loop _, codeAny_builtin MeetsSeq3.entry_eq_loop (by
    rw [Around.under_plainId MeetsSeq3.plain_eq_loop _]
    exact gt_loop l b n n2 dd dd2 sl sl2 vs ws xs ys hx hy _ 0 rfl (Nat.zero_le _) (Nat.zero_le _) prog w A R _ ⟨hl, hb, h⟩)⟩
theorem gt_cmp {prog : Program} {w : World} {A : Around} {E : Value → Shared → Prop} {s : Shared} {l b : Addr} {vs ws : List Value} {xs ys : List Str} {Q : Value → Shared → Prop} {n n2 : Nat} (hl : s.heap.get? l = some { cls := .type "list", data := .seq vs.toArray n }) (hb : s.heap.get? b = some { cls := .type "list", data := .seq ws.toArray n2 }) (hx : StrsAre vs xs) (hy : StrsAre ws ys) (hu : A.units < cLine)
    (h : Q (.bool (listLt (ys) (xs))) s) : wpAny (model prog w) A (richCompare .Gt (.ref l) (.ref b)) Q E s :=
  richCompare_meets_room (T := "list") ⟨_, hl, rfl⟩ ⟨_, hb, rfl⟩ PySem.F.slot_list_gt PySem.F.entry_list_gt (PySem.F.args_list_gt_2 _ _)
    (gt_meets l b n n2 none none #[] #[] vs ws xs ys hx hy) ⟨hl, hb, show _ ∧ _ from ⟨(fun e => nomatch e), h⟩⟩ hu
end Mine
end partLl
section partMm
open PySem PySem.W PySem.Calls PyProof.Rows
set_option Elab.async false
namespace Mine
set_option maxRecDepth 100000
set_option maxHeartbeats 2000000
section
variable {prog : Program} {w : World} {A : Around} {E : Value → Shared → Prop} {s : Shared}
theorem min_two {D a b : Addr} {vs ws : List Value} {xs ys : List Str} {n n1 n2 : Nat} {Q : Value → Shared → Prop} (hh : A.handled = none) (hu : A.units + 2 < cLine)
    (hD : s.heap.get? D = some { cls := .type "list", data := .seq #[.ref a, .ref b] n }) (ha : s.heap.get? a = some { cls := .type "list", data := .seq vs.toArray n1 }) (hb : s.heap.get? b = some { cls := .type "list", data := .seq ws.toArray n2 })
    (hx : StrsAre vs xs) (hy : StrsAre ws ys)
    (h : ∀ h' tk, (∀ c o, s.heap.get? c = some o → h'.get? c = some o) → Q (.ref (if listLt ys xs = true then b else a)) { s with heap := h', toks := tk }) :
    wpAny (model prog w) A (call (.builtin "min") [.ref D]) Q E s := by
  have hname : (toString "min" ++ toString ".loop" : String) = "min.loop" := by decide
  have hL : s.heap.IsList D #[.ref a, .ref b] := ⟨_, hD, rfl, _, rfl⟩
  refine call_function_tree PySem.F.kind_min PySem.F.plain_min PySem.F.entry_min (PySem.F.args_min1 _) ?_
  show wpAny _ A.in1 (Builtin.Builtins.bindParams "min" ["key", "default"] 0 ⟨[], []⟩ >>= _) _ _ s
  refine wpAny_bind (wpAny_of_eq (show Builtin.Builtins.bindParams "min" ["key", "default"] 0 ⟨[], []⟩ = pure [none, none] from rfl) ?_)
  refine wpAny_bind (wpAny_pure ?_)
  refine wpAny_bind (wpAny_pyIter_list hL ?_)
  refine wpAny_bind (wpAny_newObj_type ?_)
  rw [hname]
  have z1 : (s.heap.push { cls := .type "list_iterator", data := .fields #[.ref D, .int 0 0] }).objs.size = s.heap.objs.size + 1 := Heap.size_push ..
  dsimp only
  rw [z1]
  generalize hH : Heap.push (Heap.push s.heap _) _ = H
  have kH : ∀ c o, s.heap.get? c = some o → H.get? c = some o := fun c o e => by rw [← hH]; exact Heap.get?_push_of_some _ (Heap.get?_push_of_some _ e)
  have hI0 : H.IsListIter s.heap.objs.size D 0 := by rw [← hH]; exact ⟨_, Heap.get?_push_of_some _ (Heap.get?_push_size _ rfl), rfl, rfl⟩
  have hS0 : H.get? (s.heap.objs.size + 1) = some { cls := .type "list", data := .seq #[] 0 } := by rw [← hH, ← z1]; exact Heap.get?_push_size _ rfl
  clear hH z1
  have lI : ∀ c o, s.heap.get? c = some o → c ≠ s.heap.objs.size ∧ c ≠ s.heap.objs.size + 1 := fun c o e => ⟨Nat.ne_of_lt (Heap.lt_size e), Nat.ne_of_lt (Nat.lt_succ_of_lt (Heap.lt_size e))⟩
  have nIS : s.heap.objs.size ≠ s.heap.objs.size + 1 := Nat.ne_of_lt (Nat.lt_succ_self _)
  generalize s.heap.objs.size = I at *
  generalize hSe : I + 1 = S at *
  refine wpAny_pure ⟨plainId_quiet PySem.F.plain_min_loop _, codeAny_builtin PySem.F.entry_min_loop ?_⟩
  rw [Around.under_plainId PySem.F.plain_min_loop _]
  show wpAny _ _ (seqItems? (.ref S) >>= _) _ _ _
  refine wpAny_bind (wpAny_seqItems hS0 rfl ?_)
  show wpAny _ _ (tryCatch (pyNext (.ref I)) _ >>= _) _ _ _
  refine wpAny_bind (wpAny_tryCatch (wpAny_pyNext_list_item hI0 ⟨_, kH _ _ hD, rfl, _, rfl⟩ (x := .ref a) rfl fun h1 hI1 sb1 => ?_))
  have hS1 := sb1.extBut _ _ (Ne.symm nIS) hS0
  show wpAny _ _ (updateSeq S (fun _ => #[.ref a, .ref a]) >>= _) _ _ _
  refine wpAny_bind ?_
  refine wpAny_updateSeq hS1 rfl ?_
  rw [hname]
  have k1 : ∀ c o, s.heap.get? c = some o → (h1.update S (Obj.mapSeq fun _ => #[.ref a, .ref a])).get? c = some o := fun c o e =>
    (Heap.get?_update_other _ _ (Ne.symm (lI c o e).2)).trans (sb1.extBut _ _ (lI c o e).1 (kH c o e))
  have hS2 := Heap.get?_update_self (Obj.mapSeq fun _ => #[.ref a, .ref a]) hS1 rfl
  have hI2 : (h1.update S (Obj.mapSeq fun _ => #[.ref a, .ref a])).IsListIter I D 1 := hI1.at fun o e => (Heap.get?_update_other _ _ (Ne.symm nIS)).trans e
  generalize h1.update S (Obj.mapSeq fun _ => #[.ref a, .ref a]) = H2 at *
  refine wpAny_pure ⟨plainId_quiet PySem.F.plain_min_loop _, codeAny_builtin PySem.F.entry_min_loop ?_⟩
  rw [Around.under_plainId PySem.F.plain_min_loop _]
  show wpAny _ _ (seqItems? (.ref S) >>= _) _ _ _
  refine wpAny_bind (wpAny_seqItems hS2 rfl ?_)
  show wpAny _ _ (tryCatch (pyNext (.ref I)) _ >>= _) _ _ _
  refine wpAny_bind (wpAny_tryCatch (wpAny_pyNext_list_item hI2 ⟨_, k1 _ _ hD, rfl, _, rfl⟩ (x := .ref b) rfl fun h3 hI3 sb3 => ?_))
  have hS3 := sb3.extBut _ _ (Ne.symm nIS) hS2
  have k3 : ∀ c o, s.heap.get? c = some o → h3.get? c = some o := fun c o e => sb3.extBut _ _ (lI c o e).1 (k1 c o e)
  show wpAny _ _ (tryCatch (holding [.ref b, .ref b] (richCompare .Lt (.ref b) (.ref a) >>= _)) _ >>= _) _ _ _
  refine wpAny_bind (wpAny_tryCatch (wpAny_holding (wpAny_bind (lt_cmp (k3 _ _ hb) (k3 _ _ ha) hy hx (by show A.units + 1 < cLine; omega) ?_))))
  refine wpAny_bind (wpAny_holding (wpAny_truthy_bool ?_))
  refine wpAny_bind (wpAny_letGo (wpAny_pure ?_))
  have fin : ∀ (H4 : Heap) (v : Value) c, (∀ c o, s.heap.get? c = some o → H4.get? c = some o) → H4.IsListIter I D 2 → H4.get? S = some { cls := .type "list", data := .seq #[v, v] c } →
      (∀ h' tk, (∀ c o, s.heap.get? c = some o → h'.get? c = some o) → Q v { s with heap := h', toks := tk }) →
      codeAny (model prog w) A (.builtin "min.loop" ⟨[.ref I, .none, .ref S], []⟩) (wants Q E) { s with heap := H4 } := by
    intro H4 v c k4 hI4 hS4 hq
    refine codeAny_builtin PySem.F.entry_min_loop ?_
    rw [Around.under_plainId PySem.F.plain_min_loop _]
    show wpAny _ _ (seqItems? (.ref S) >>= _) _ _ _
    refine wpAny_bind (wpAny_seqItems hS4 rfl ?_)
    show wpAny _ _ (tryCatch (pyNext (.ref I)) _ >>= _) _ _ _
    refine wpAny_bind (wpAny_tryCatch (wpAny_pyNext_list_end hh hI4 ⟨_, k4 _ _ hD, rfl, _, rfl⟩ rfl fun h5 x5 => ?_))
    have hS5 := x5 S _ (Ne.symm nIS) hS4
    show wpAny _ _ (updateSeq S (fun _ => #[]) >>= _) _ _ _
    refine wpAny_bind ?_
    refine wpAny_updateSeq hS5 rfl (wpAny_bind (wpAny_letGo (wpAny_pure ?_)))
    exact hq _ _ fun c o e => (Heap.get?_update_other _ _ (Ne.symm (lI c o e).2)).trans (x5 c o (lI c o e).1 (k4 c o e))
  generalize hbt : listLt ys xs = bt at *
  cases bt with
  | true =>
    simp only [if_true]
    refine wpAny_bind ?_
    refine wpAny_updateSeq hS3 rfl (wpAny_bind (wpAny_letGo ?_))
    rw [hname]
    refine wpAny_pure ⟨plainId_quiet PySem.F.plain_min_loop _, fin _ (.ref b) _ (fun c o e => (Heap.get?_update_other _ _ (Ne.symm (lI c o e).2)).trans (k3 c o e)) (hI3.at fun o e => (Heap.get?_update_other _ _ (Ne.symm nIS)).trans e) (Heap.get?_update_self (Obj.mapSeq fun _ => #[.ref b, .ref b]) hS3 rfl) fun h' tk k => by have := h h' tk k; simpa using this⟩
  | false =>
    simp only [Bool.false_eq_true, if_false]
    refine wpAny_bind (wpAny_letGo ?_)
    rw [hname]
    refine wpAny_pure ⟨plainId_quiet PySem.F.plain_min_loop _, fin _ (.ref a) _ k3 hI3 hS3 fun h' tk k => by have := h h' tk k; simpa using this⟩
theorem max_two {D a b : Addr} {vs ws : List Value} {xs ys : List Str} {n n1 n2 : Nat} {Q : Value → Shared → Prop} (hh : A.handled = none) (hu : A.units + 2 < cLine)
    (hD : s.heap.get? D = some { cls := .type "list", data := .seq #[.ref a, .ref b] n }) (ha : s.heap.get? a = some { cls := .type "list", data := .seq vs.toArray n1 }) (hb : s.heap.get? b = some { cls := .type "list", data := .seq ws.toArray n2 })
    (hx : StrsAre vs xs) (hy : StrsAre ws ys)
    (h : ∀ h' tk, (∀ c o, s.heap.get? c = some o → h'.get? c = some o) → Q (.ref (if listLt xs ys = true then b else a)) { s with heap := h', toks := tk }) :
    wpAny (model prog w) A (call (.builtin "max") [.ref D]) Q E s := by
  have hname : (toString "max" ++ toString ".loop" : String) = "max.loop" := by decide
  have hL : s.heap.IsList D #[.ref a, .ref b] := ⟨_, hD, rfl, _, rfl⟩
  refine call_function_tree PySem.F.kind_max PySem.F.plain_max PySem.F.entry_max (PySem.F.args_max1 _) ?_
  show wpAny _ A.in1 (Builtin.Builtins.bindParams "max" ["key", "default"] 0 ⟨[], []⟩ >>= _) _ _ s
  refine wpAny_bind (wpAny_of_eq (show Builtin.Builtins.bindParams "max" ["key", "default"] 0 ⟨[], []⟩ = pure [none, none] from rfl) ?_)
  refine wpAny_bind (wpAny_pure ?_)
  refine wpAny_bind (wpAny_pyIter_list hL ?_)
  refine wpAny_bind (wpAny_newObj_type ?_)
  rw [hname]
  have z1 : (s.heap.push { cls := .type "list_iterator", data := .fields #[.ref D, .int 0 0] }).objs.size = s.heap.objs.size + 1 := Heap.size_push ..
  dsimp only
  rw [z1]
  generalize hH : Heap.push (Heap.push s.heap _) _ = H
  have kH : ∀ c o, s.heap.get? c = some o → H.get? c = some o := fun c o e => by rw [← hH]; exact Heap.get?_push_of_some _ (Heap.get?_push_of_some _ e)
  have hI0 : H.IsListIter s.heap.objs.size D 0 := by rw [← hH]; exact ⟨_, Heap.get?_push_of_some _ (Heap.get?_push_size _ rfl), rfl, rfl⟩
  have hS0 : H.get? (s.heap.objs.size + 1) = some { cls := .type "list", data := .seq #[] 0 } := by rw [← hH, ← z1]; exact Heap.get?_push_size _ rfl
  clear hH z1
  have lI : ∀ c o, s.heap.get? c = some o → c ≠ s.heap.objs.size ∧ c ≠ s.heap.objs.size + 1 := fun c o e => ⟨Nat.ne_of_lt (Heap.lt_size e), Nat.ne_of_lt (Nat.lt_succ_of_lt (Heap.lt_size e))⟩
  have nIS : s.heap.objs.size ≠ s.heap.objs.size + 1 := Nat.ne_of_lt (Nat.lt_succ_self _)
  generalize s.heap.objs.size = I at *
  generalize hSe : I + 1 = S at *
  refine wpAny_pure ⟨plainId_quiet PySem.F.plain_max_loop _, codeAny_builtin PySem.F.entry_max_loop ?_⟩
  rw [Around.under_plainId PySem.F.plain_max_loop _]
  show wpAny _ _ (seqItems? (.ref S) >>= _) _ _ _
  refine wpAny_bind (wpAny_seqItems hS0 rfl ?_)
  show wpAny _ _ (tryCatch (pyNext (.ref I)) _ >>= _) _ _ _
  refine wpAny_bind (wpAny_tryCatch (wpAny_pyNext_list_item hI0 ⟨_, kH _ _ hD, rfl, _, rfl⟩ (x := .ref a) rfl fun h1 hI1 sb1 => ?_))
  have hS1 := sb1.extBut _ _ (Ne.symm nIS) hS0
  show wpAny _ _ (updateSeq S (fun _ => #[.ref a, .ref a]) >>= _) _ _ _
  refine wpAny_bind ?_
  refine wpAny_updateSeq hS1 rfl ?_
  rw [hname]
  have k1 : ∀ c o, s.heap.get? c = some o → (h1.update S (Obj.mapSeq fun _ => #[.ref a, .ref a])).get? c = some o := fun c o e =>
    (Heap.get?_update_other _ _ (Ne.symm (lI c o e).2)).trans (sb1.extBut _ _ (lI c o e).1 (kH c o e))
  have hS2 := Heap.get?_update_self (Obj.mapSeq fun _ => #[.ref a, .ref a]) hS1 rfl
  have hI2 : (h1.update S (Obj.mapSeq fun _ => #[.ref a, .ref a])).IsListIter I D 1 := hI1.at fun o e => (Heap.get?_update_other _ _ (Ne.symm nIS)).trans e
  generalize h1.update S (Obj.mapSeq fun _ => #[.ref a, .ref a]) = H2 at *
  refine wpAny_pure ⟨plainId_quiet PySem.F.plain_max_loop _, codeAny_builtin PySem.F.entry_max_loop ?_⟩
  rw [Around.under_plainId PySem.F.plain_max_loop _]
  show wpAny _ _ (seqItems? (.ref S) >>= _) _ _ _
  refine wpAny_bind (wpAny_seqItems hS2 rfl ?_)
  show wpAny _ _ (tryCatch (pyNext (.ref I)) _ >>= _) _ _ _
  refine wpAny_bind (wpAny_tryCatch (wpAny_pyNext_list_item hI2 ⟨_, k1 _ _ hD, rfl, _, rfl⟩ (x := .ref b) rfl fun h3 hI3 sb3 => ?_))
  have hS3 := sb3.extBut _ _ (Ne.symm nIS) hS2
  have k3 : ∀ c o, s.heap.get? c = some o → h3.get? c = some o := fun c o e => sb3.extBut _ _ (lI c o e).1 (k1 c o e)
  show wpAny _ _ (tryCatch (holding [.ref b, .ref b] (richCompare .Gt (.ref b) (.ref a) >>= _)) _ >>= _) _ _ _
  refine wpAny_bind (wpAny_tryCatch (wpAny_holding (wpAny_bind (gt_cmp (k3 _ _ hb) (k3 _ _ ha) hy hx (by show A.units + 1 < cLine; omega) ?_))))
  refine wpAny_bind (wpAny_holding (wpAny_truthy_bool ?_))
  refine wpAny_bind (wpAny_letGo (wpAny_pure ?_))
  have fin : ∀ (H4 : Heap) (v : Value) c, (∀ c o, s.heap.get? c = some o → H4.get? c = some o) → H4.IsListIter I D 2 → H4.get? S = some { cls := .type "list", data := .seq #[v, v] c } →
      (∀ h' tk, (∀ c o, s.heap.get? c = some o → h'.get? c = some o) → Q v { s with heap := h', toks := tk }) →
      codeAny (model prog w) A (.builtin "max.loop" ⟨[.ref I, .none, .ref S], []⟩) (wants Q E) { s with heap := H4 } := by
    intro H4 v c k4 hI4 hS4 hq
    refine codeAny_builtin PySem.F.entry_max_loop ?_
    rw [Around.under_plainId PySem.F.plain_max_loop _]
    show wpAny _ _ (seqItems? (.ref S) >>= _) _ _ _
    refine wpAny_bind (wpAny_seqItems hS4 rfl ?_)
    show wpAny _ _ (tryCatch (pyNext (.ref I)) _ >>= _) _ _ _
    refine wpAny_bind (wpAny_tryCatch (wpAny_pyNext_list_end hh hI4 ⟨_, k4 _ _ hD, rfl, _, rfl⟩ rfl fun h5 x5 => ?_))
    have hS5 := x5 S _ (Ne.symm nIS) hS4
    show wpAny _ _ (updateSeq S (fun _ => #[]) >>= _) _ _ _
    refine wpAny_bind ?_
    refine wpAny_updateSeq hS5 rfl (wpAny_bind (wpAny_letGo (wpAny_pure ?_)))
    exact hq _ _ fun c o e => (Heap.get?_update_other _ _ (Ne.symm (lI c o e).2)).trans (x5 c o (lI c o e).1 (k4 c o e))
  generalize hbt : listLt xs ys = bt at *
  cases bt with
  | true =>
    simp only [if_true]
    refine wpAny_bind ?_
    refine wpAny_updateSeq hS3 rfl (wpAny_bind (wpAny_letGo ?_))
    rw [hname]
    refine wpAny_pure ⟨plainId_quiet PySem.F.plain_max_loop _, fin _ (.ref b) _ (fun c o e => (Heap.get?_update_other _ _ (Ne.symm (lI c o e).2)).trans (k3 c o e)) (hI3.at fun o e => (Heap.get?_update_other _ _ (Ne.symm nIS)).trans e) (Heap.get?_update_self (Obj.mapSeq fun _ => #[.ref b, .ref b]) hS3 rfl) fun h' tk k => by have := h h' tk k; simpa using this⟩
  | false =>
    simp only [Bool.false_eq_true, if_false]
    refine wpAny_bind (wpAny_letGo ?_)
    rw [hname]
    refine wpAny_pure ⟨plainId_quiet PySem.F.plain_max_loop _, fin _ (.ref a) _ k3 hI3 hS3 fun h' tk k => by have := h h' tk k; simpa using this⟩
end
end Mine
end partMm
section partCx
open PySem PySem.W PySem.Calls PyProof.Rows
set_option Elab.async false
namespace Mine
set_option maxRecDepth 100000
set_option maxHeartbeats 2000000
theorem strLt_asymm {x y : Str} (h : strLt x y = true) : strLt y x = false := by
  unfold strLt at *
  exact decide_eq_false (List.lt_asymm (of_decide_eq_true h))
theorem strLt_conn {x y : Str} (h1 : strLt x y = false) (h2 : strLt y x = false) : x = y := by
  unfold strLt at *
  have h1' := of_decide_eq_false h1
  have h2' := of_decide_eq_false h2
  have e : x.cps.toList = y.cps.toList := List.le_antisymm (List.not_lt.mp h2') (List.not_lt.mp h1')
  obtain ⟨x⟩ := x
  obtain ⟨y⟩ := y
  exact congrArg Str.mk (Array.toList_inj.mp e)
theorem listLt_asymm : ∀ {xs ys : List Str}, listLt xs ys = true → listLt ys xs = false := by
  intro xs
  induction xs with
  | nil => intro ys _; exact listLt_nil' ys
  | cons x xs ih =>
    intro ys h
    cases ys with
    | nil => exact absurd h (by simp [listLt])
    | cons y ys =>
      unfold listLt at h ⊢
      by_cases e : x = y
      · rw [if_pos e] at h; rw [if_pos e.symm]; exact ih h
      · rw [if_neg e] at h; rw [if_neg (fun q => e q.symm)]; exact strLt_asymm h
theorem listLt_conn : ∀ {xs ys : List Str}, listLt xs ys = false → listLt ys xs = false → xs = ys := by
  intro xs
  induction xs with
  | nil => intro ys h1 _; cases ys with | nil => rfl | cons y ys => exact absurd h1 (by simp [listLt])
  | cons x xs ih =>
    intro ys h1 h2
    cases ys with
    | nil => exact absurd h2 (by simp [listLt])
    | cons y ys =>
      unfold listLt at h1 h2
      by_cases e : x = y
      · rw [if_pos e] at h1; rw [if_pos e.symm] at h2; rw [e, ih h1 h2]
      · rw [if_neg e] at h1; rw [if_neg (fun q => e q.symm)] at h2; exact absurd (strLt_conn h1 h2) e
/-- the common front of two lists -/
noncomputable def cp : List Str → List Str → List Str
  | x :: xs, y :: ys => if x = y then x :: cp xs ys else []
  | _, _ => []
theorem cp_comm : ∀ (xs ys : List Str), cp xs ys = cp ys xs := by
  intro xs
  induction xs with
  | nil => intro ys; cases ys <;> rfl
  | cons x xs ih =>
    intro ys
    cases ys with
    | nil => rfl
    | cons y ys =>
      unfold cp
      by_cases e : x = y
      · rw [if_pos e, if_pos e.symm, ih ys, e]
      · rw [if_neg e, if_neg (fun q => e q.symm)]
theorem pick2 {xs ys : List Str} {vx vy : List Value} (hx : StrsAre vx xs) (hy : StrsAre vy ys) (a b : Addr) :
    ∃ v1 v2 xs1 xs2, StrsAre v1 xs1 ∧ StrsAre v2 xs2 ∧ listLt xs2 xs1 = false ∧ cp xs1 xs2 = cp xs ys ∧ (xs1 = xs ∨ xs1 = ys) ∧ (xs2 = xs ∨ xs2 = ys) ∧
      (((if listLt ys xs = true then b else a), LCg.lst v1) = (a, LCg.lst vx) ∨ ((if listLt ys xs = true then b else a), LCg.lst v1) = (b, LCg.lst vy)) ∧
      (((if listLt xs ys = true then b else a), LCg.lst v2) = (a, LCg.lst vx) ∨ ((if listLt xs ys = true then b else a), LCg.lst v2) = (b, LCg.lst vy)) := by
  cases h1 : listLt ys xs with
  | true =>
    have h2 := listLt_asymm h1
    rw [h2]
    exact ⟨vy, vx, ys, xs, hy, hx, h2, cp_comm _ _, .inr rfl, .inl rfl, .inr rfl, .inl rfl⟩
  | false =>
    cases h2 : listLt xs ys with
    | true => exact ⟨vx, vy, xs, ys, hx, hy, h1, rfl, .inl rfl, .inr rfl, .inl rfl, .inr rfl⟩
    | false =>
      have e := listLt_conn h2 h1
      exact ⟨vx, vx, xs, xs, hx, hx, by rw [e] at h2 ⊢; exact h2, by rw [← e], .inl rfl, .inl rfl, .inl rfl, .inl rfl⟩
theorem cp_take {xs1 xs2 : List Str} : ∀ (i : Nat) {c d : Str}, xs1.take i = xs2.take i → xs1[i]? = some c → xs2[i]? = some d → c ≠ d → cp xs1 xs2 = xs1.take i := by
  induction xs1 generalizing xs2 with
  | nil => intro i c d _ h; simp at h
  | cons x xs ih =>
    intro i c d ht h1 h2 hne
    cases xs2 with
    | nil => simp at h2
    | cons y ys =>
      cases i with
      | zero =>
        have e1 : x = c := Option.some.inj h1
        have e2 : y = d := Option.some.inj h2
        unfold cp
        rw [if_neg (by rw [e1, e2]; exact hne)]
        rfl
      | succ i =>
        rw [List.take_succ_cons, List.take_succ_cons] at ht
        injection ht with e1 e2
        unfold cp
        rw [if_pos e1, ih i e2 h1 h2 hne, List.take_succ_cons]
theorem cp_all {xs1 xs2 : List Str} : xs1 = xs2.take xs1.length → cp xs1 xs2 = xs1 := by
  induction xs1 generalizing xs2 with
  | nil => intro _; cases xs2 <;> rfl
  | cons x xs ih =>
    intro h
    cases xs2 with
    | nil => simp at h
    | cons y ys =>
      rw [List.length_cons, List.take_succ_cons] at h
      injection h with e1 e2
      unfold cp
      rw [if_pos e1, ih e2]
theorem short_lt {xs1 xs2 : List Str} : ∀ (i : Nat) {c : Str}, xs1.take i = xs2.take i → xs1[i]? = some c → xs2[i]? = none → listLt xs2 xs1 = true := by
  induction xs1 generalizing xs2 with
  | nil => intro i c _ h; simp at h
  | cons x xs ih =>
    intro i c ht h1 h2
    cases xs2 with
    | nil => rfl
    | cons y ys =>
      cases i with
      | zero => simp at h2
      | succ i =>
        rw [List.take_succ_cons, List.take_succ_cons] at ht
        injection ht with e1 e2
        unfold listLt
        rw [if_pos e1.symm]
        exact ih i e2 h1 h2
end Mine
end partCx
section partCy
open PySem PySem.W PySem.Calls PyProof.Rows
set_option Elab.async false
namespace Mine
set_option maxRecDepth 100000
set_option maxHeartbeats 2000000
noncomputable def wt (l : List Str) : Nat := (l.map (·.length)).sum + l.length
theorem wt_cons (x : Str) (l : List Str) : wt (x :: l) = x.length + 1 + wt l := by unfold wt; rw [List.map_cons, List.sum_cons, List.length_cons]; omega
theorem wt_cp : ∀ (xs ys : List Str), wt (cp xs ys) ≤ wt xs := by
  intro xs
  induction xs with
  | nil => intro ys; cases ys <;> exact Nat.le_refl _
  | cons x xs ih =>
    intro ys
    cases ys with
    | nil => exact Nat.zero_le _
    | cons y ys =>
      unfold cp
      by_cases e : x = y
      · rw [if_pos e, wt_cons, wt_cons]; have := ih ys; omega
      · rw [if_neg e]; exact Nat.zero_le _
theorem wt_filter (p : Str → Bool) (l : List Str) : wt (l.filter p) ≤ wt l := by
  induction l with
  | nil => exact Nat.le_refl _
  | cons x l ih =>
    rw [List.filter_cons]
    split
    · rw [wt_cons, wt_cons]; omega
    · rw [wt_cons]; omega
theorem wt_parts (x y : Str) : wt (cp (parts x) (parts y)) ≤ x.length + 1 := by
  refine Nat.le_trans (wt_cp _ _) (Nat.le_trans (wt_filter _ _) ?_)
  exact PyProof.Rows.split_weight x (Str.ofString "/") (by decide)
theorem txt_join (sep : Str) (l : List Str) : Txt.join sep l = Str.join sep l := by
  unfold Txt.join
  exact StrLaws.glued_eq_join sep l
theorem len_join1 (l : List Str) : (Txt.join (Str.ofString "/") l).length ≤ (l.map (·.length)).sum + l.length := by
  rw [txt_join]
  have h := StrLaws.join_length_le (Str.ofString "/") l
  have : (Str.ofString "/").length = 1 := by decide
  rw [this] at h; omega
theorem strsAre_take {vs : List Value} {xs : List Str} (h : StrsAre vs xs) : ∀ i, StrsAre (vs.take i) (xs.take i) := by
  induction h with
  | nil => intro i; rw [List.take_nil, List.take_nil]; exact .nil
  | cons y t _ ih =>
    intro i
    cases i with
    | zero => exact .nil
    | succ i => exact .cons y t (ih i)
section
variable {prog : Program} {w : World} {A : Around} {E : Value → Shared → Prop} {s : Shared} {h₀ : Heap} {L : Addr} {m : Str → Option Value} {news : List (Addr × Obj)}
theorem slice_to {value slice : PySem.Expr} {l : Addr} {vs : List Value} {i : Nat} {u : Tok} {Q : Value → Shared → Prop}
    (F : Fr h₀ L s.heap m) (N : News h₀ L s.heap news) (hl : s.heap.IsList l vs.toArray) (hi : i ≤ vs.length) (hsz : vs.length ≤ sizeLine)
    (h : ∀ d h', Fr h₀ L h' m → News h₀ L h' ((d, lstO (vs.take i) 0) :: news) → Mine.Off1 d news → Q (.ref d) { s with heap := h' })
    (hs : subscripted slice false (.ref l) (.ref s.heap.objs.size) = operate [.ref s.heap.objs.size, .ref l] (getItem (.ref l) (.ref s.heap.objs.size)) := by with_unfolding_all rfl)
    (ht : ∀ r, letTemporaryGo value (.ref l) r = pure () := by intro _; with_unfolding_all rfl) :
    wpAny (model prog w) A (subscriptTail value slice (.ref l) (.ref s.heap.objs.size)) Q E { s with heap := s.heap.push { cls := .type "slice", data := .fields #[.none, .int (i : Int) u, .none] } } := by
  refine slice_list F N hl .none (.int _ _) (fun h' F' N' => ?_) hs ht (by rw [List.size_toArray]; exact hsz)
  have e : sliceBounds none (some (i : Int)) none vs.toArray.size = (((0 : Nat) : Int), ((i : Nat) : Int), 1) := by
    simp only [sliceBounds, Option.getD_none, show (1 : Int) > 0 by decide, if_true, if_neg (show ¬ ((i : Int) < 0) by omega), List.size_toArray]
    congr 1
    congr 1
    omega
  rw [kmk_pick_nat _ e] at N'
  refine h _ h' F' N' (off1_of fun p hp e => ?_)
  have h1 := Heap.lt_size (N p hp).1
  rw [e] at h1
  exact absurd h1 (Nat.not_lt.mpr (Nat.le_succ _))
end
end Mine
end partCy
open PySem PySem.W PySem.Calls PyProof.Rows in
theorem Mine.calmE1 {prog : Program} {w : World} {A : Around} {E Q : Value → Shared → Prop} {s : Shared} (h : wpAny (model prog w) A (call (.builtin "zz") []) Q E s) : wpAny (model prog w) A (call (.builtin "zz") []) Q E s := by w_top off; first | (walk1; fail) | exact h
section partE1
open PySem PySem.W PySem.Calls PyProof.Rows
set_option Elab.async false
namespace Mine
set_option maxRecDepth 100000
set_option maxHeartbeats 2000000
theorem warmE1 (w : World) : KK w.params = KK w.params ∧ PySem.Challenge.rw_in0209_01 = PySem.Challenge.rw_in0209_01 := by k_fill; exact ⟨rfl, rfl⟩
section
local macro_rules | `(tactic| walk_at "CompSrc") => `(tactic| refine hold ?_)
local macro_rules | `(tactic| walk_at "CompSrcT") => `(tactic| refine hold ?_)
local macro_rules | `(tactic| walk_at "call builtin:min") => `(tactic| refine hold ?_)
local macro_rules | `(tactic| walk_at "call builtin:max") => `(tactic| refine hold ?_)
local macro_rules | `(tactic| walk_at "call type:map") => `(tactic| (k_here; (with_unfolding_all refine' map_own (by k_asm) (by k_asm) (by rename Heap.IsList _ _ _ => hL0; exact fr_list hL0 (by assumption)) ?_); intro it' h' F' N' Z' L8' E8'; (try dsimp only)))
local macro_rules | `(tactic| walk_at "call type:tuple") => `(tactic| (k_here; (refine' tuple_map_own (by k_asm) (by k_asm) (by k_asm) (by k_asm) rfl (by k_asm) (by k_asm) (by k_asm) (by k_asm) (by rename Heap.IsList _ _ _ => hL0; exact fr_list hL0 (by assumption)) (by omega) (by omega) ?_); intro d' h' tk' F' N' Z'; (try dsimp only [Off1] at Z'); (try dsimp only)))
local macro_rules | `(tactic| walk_at "exec Try") => `(tactic| (refine wpAny_Try_except ?_))
local macro_rules | `(tactic| walk_at "exec Assign cons ListComp") => `(tactic| refine hold ?_)
local macro_rules | `(tactic| walk_at "exec Assign cons SetComp") => `(tactic| refine hold ?_)
local macro_rules | `(tactic| walk_at "eval SetComp") => `(tactic| refine hold ?_)
local macro_rules | `(tactic| walk_at "call builtin:str.split") => `(tactic| (k_here; (with_unfolding_all refine' split_own (by k_asm) (by k_asm) (by rfl) (by rw [sizeLine_eq]; omega) ?_); intro d' ws' h' tk' S' F' N' Z'; (try dsimp only)))
local macro_rules | `(tactic| walk_at "CompRest") => `(tactic| (with_unfolding_all first | (refine LCg.CompRest.succ ?_; intro v' I' oI' C' oC' D' m' h' tk' E' hv' hC' hx' F' N' off' ne'; lcg_open hv') | refine LCg.CompRest.zero ?_))
local macro_rules | `(tactic| walk_at "CompEnd") => `(tactic| refine compEnd_head (by assumption) (by assumption) (by assumption) (by assumption) (by lcg_src) ?_)
local macro_rules | `(tactic| walk_at "exec For Tuple Call") => `(tactic| refine hold ?_)
local macro_rules | `(tactic| walk_at "subscriptTail Name Slice ref ref") => `(tactic| (k_here; (with_unfolding_all refine' slice_to (by k_asm) (by k_asm) (News.lst (by k_asm) (by k_mem) rfl rfl) (by omega) (by rw [sizeLine_eq]; omega) ?_ (by with_unfolding_all rfl)); intro d7' h7' F7' N7' Z7'; (try dsimp only)))
local macro_rules | `(tactic| walk_at "subscriptTail Name Name ref int") => `(tactic| (k_here; (with_unfolding_all refine' item_own (News.lst (by k_asm) (by k_mem) rfl rfl) (by assumption) rfl (by omega) ?_ (by with_unfolding_all rfl)); (try dsimp only)))
local macro_rules | `(tactic| walk_at "call builtin:str.join") => `(tactic| (k_here; (refine join_listW (News.lst (by k_asm) (by k_mem) rfl rfl) (by assumption) (by decide) (by assumption) ?_); intro t9' k9'; (try dsimp only)))
local macro_rules | `(tactic| lcg_src) => `(tactic| k_mem)
/-- the way of the last father of both -/
noncomputable def comS (x y : Str) : Str := Str.ofString "/" ++ Txt.join (Str.ofString "/") (cp (parts x) (parts y))
section
variable (g : Heap) (L' : Addr) (gn : Array GenState) (dr : Drawn) (os : OsState) (m0 : Str → Option Value) (w : World) (x y : Str) (oS : Obj)
noncomputable def StB (T : Addr) (oT oC : Obj) (f : Flow) (s' : Shared) : Prop := f = .next ∧ ∃ D a b wx wy h' tk', s' = ⟨h', gn, dr, tk', os⟩ ∧ StrsAre wx (Txt.split x (Str.ofString "/")) ∧ StrsAre wy (Txt.split y (Str.ofString "/")) ∧
  Fr g L' h' (fun z => if z = Str.ofString "split_paths" then some (.ref D) else if z = Str.ofString "paths" then some (.ref T) else m0 z) ∧
  News g L' h' [(D, LCg.lst [.ref a, .ref b]), (b, lstO wy 0), (a, lstO wx 0), (T, oT), (L' + 1 + 1, oC), (L' + 1, oS)]
noncomputable def StC (wx wy : List Value) (D T a b : Addr) (oT oC : Obj) (f : Flow) (s' : Shared) : Prop := f = .next ∧ ∃ h' tk', s' = ⟨h', gn, dr, tk', os⟩ ∧
  Fr g L' h' (fun z => if z = Str.ofString "isabs" then some (.bool true) else if z = Str.ofString "split_paths" then some (.ref D) else if z = Str.ofString "paths" then some (.ref T) else m0 z) ∧
  News g L' h' [(D, LCg.lst [.ref a, .ref b]), (b, lstO wy 0), (a, lstO wx 0), (T, oT), (L' + 1 + 1, oC), (L' + 1, oS)]
noncomputable def StD (T : Addr) (oT oC : Obj) (f : Flow) (s' : Shared) : Prop := f = .next ∧ ∃ D a b vx vy h' tk', s' = ⟨h', gn, dr, tk', os⟩ ∧ StrsAre vx (parts x) ∧ StrsAre vy (parts y) ∧
  Fr g L' h' (fun z => if z = Str.ofString "split_paths" then some (.ref D) else if z = Str.ofString "isabs" then some (.bool true) else if z = Str.ofString "paths" then some (.ref T) else m0 z) ∧
  News g L' h' [(D, LCg.lst [.ref a, .ref b]), (b, LCg.lst vy), (a, LCg.lst vx), (T, oT), (L' + 1 + 1, oC), (L' + 1, oS)]
noncomputable def StF (f : Flow) (s' : Shared) : Prop := f = .next ∧ ∃ (d : Addr) (vd : List Value) (n : Nat) (h' : Heap) (tk' : Nat) (mm : Str → Option Value), s' = ⟨h', gn, dr, tk', os⟩ ∧ StrsAre vd (cp (parts x) (parts y)) ∧
  Fr g L' h' (fun z => if z = Str.ofString "common" then some (.ref d) else if z = Str.ofString "isabs" then some (.bool true) else mm z) ∧
  News g L' h' [(d, lstO vd n), (L' + 1, oS)]
end
set_option maxHeartbeats 8000000 in
theorem common_con (w : World) (l : Addr) (x y : Str) (t u : Tok) (hx1 : x.length ≤ 900) (hy1 : y.length ≤ 900) (hsx : Txt.startswith x (Str.ofString "/") = true) (hsy : Txt.startswith y (Str.ofString "/") = true) : ConS w 169 [.ref l] 3 (fun h => h.IsList l #[.str x t, .str y u]) (comS x y) := by
  refine con_ofC [("paths", .ref l)] (by k_is) (by k_is) (fun s => BindsTo.of_eq rfl) (by rfl) (by decide +kernel) ?_
  intro dp un gd outer A₀ base g L' h₁ tk cells gn dr os mean mg mb R B F N Y X T hdp hun hpre hret
  k_cells Y
  (try k_unmd)
  k_fold
  k_steps
  unfold Hold
  rename Fr _ _ _ _ => F1
  rename News _ _ _ _ => N1
  rename_i tk0 o0 o00 dd1 dd2 itA h4 Z1 L8 E8 T' h3 tk1 Z2 h2 tk2 tk3 tk4 h1b oS dS hB oC dC
  obtain ⟨m0, F1⟩ : ∃ m0 : Str → Option Value, Fr g L' hB (fun y => if y = Str.ofString "paths" then some (.ref T') else m0 y) := ⟨_, F1⟩
  clear dd1 dd2 Z1 L8 E8 Z2
  refine wpAny_mono (Q := StB g L' gn dr os m0 x y oS T' (tuO #[.str x t, .str y u]) oC) (E := fun _ _ => False) ?_ ?_ (fun _ _ hf => hf.elim)
  · refine Assign_ListComp_Tup F1 rfl (by with_unfolding_all rfl) (by with_unfolding_all rfl) (by decide) (by rfl) (by decide) (by rfl) (by rfl) (by rfl) ?_
    k_steps
    refine SrcTup.intro rfl F1 N1 (by k_mem) (by rw [sizeLine_eq]; show 2 ≤ _; decide) ?_
    intro g2
    clear F1 N1
    lcg_lit
    k_steps
    rename Fr _ _ _ _ => F'
    rename News _ _ _ _ => N'
    exact ⟨rfl, _, _, _, _, _, _, _, rfl, by assumption, by assumption, F', N'⟩
  rintro f s' ⟨rfl, D, a, b, wx, wy, h', tk', rfl, hwx, hwy, F, N⟩
  clear F1 N1
  dsimp only
  k_steps
  unfold Hold
  refine wpAny_mono (Q := StC g L' gn dr os m0 oS wx wy D T' a b (tuO #[.str x t, .str y u]) oC) (E := fun _ _ => False) ?_ ?_ (fun _ _ hf => hf.elim)
  · refine Assign_set1 F ?_ (by with_unfolding_all rfl) (by with_unfolding_all rfl)
    refine SetComp_Tup F (by with_unfolding_all rfl) (by decide) (by rfl) (by decide) (by rfl) ?_
    k_steps
    refine ⟨_, _, _, rfl, rfl, F, N, by k_mem, by rw [sizeLine_eq]; show 2 ≤ _; decide, ?_, ?_⟩
    · intro i v I oI C oC D oD m₂ h tk E' hv hC hx F9 N9
      clear F N
      obtain ⟨z, tz, e, hz⟩ : ∃ z tz, v = .str z tz ∧ (z = x ∨ z = y) := by
        have hi : i = 0 ∨ i = 1 := by
          have := (Array.getElem?_eq_some_iff.mp hv).1
          have e2 : #[Value.str x t, Value.str y u].size = 2 := rfl
          omega
        clear F9 N9 T X hC hx hret hpre
        rcases hi with e | e
        · rw [e] at hv; exact ⟨x, t, (Option.some.inj hv).symm, .inl rfl⟩
        · rw [e] at hv; exact ⟨y, u, (Option.some.inj hv).symm, .inr rfl⟩
      subst e
      have hz' : Txt.startswith z (Str.ofString "/") = true := by
        rcases hz with e | e
        · rw [e]; exact hsx
        · rw [e]; exact hsy
      k_steps
      · exact congrArg _ hz'
      · exact F9
      · exact N9
    · intro D h tk F9 N9 o1
      clear F N
      dsimp only
      refine ⟨_, _, rfl, rfl, F9, N9, by k_mem, ?_⟩
      intro h' F' N'
      clear F9 N9
      k_steps
      rename Fr _ _ _ _ => F9
      rename News _ _ _ _ => N9
      exact ⟨rfl, _, _, rfl, F9, fun p hp => N9 p (List.mem_cons_of_mem _ hp)⟩
  rintro f s' ⟨rfl, h', tk', rfl, F9, N9⟩
  clear F N
  dsimp only
  k_steps
  unfold Hold
  refine wpAny_mono (Q := StD g L' gn dr os m0 x y oS T' (tuO #[.str x t, .str y u]) oC) (E := fun _ _ => False) ?_ ?_ (fun _ _ hf => hf.elim)
  · refine LCg.Assign_ListComp_U F9 (by rfl) (by with_unfolding_all rfl) (by with_unfolding_all rfl) (by decide) (by rfl) (by decide) (by rfl) (by rfl) (by rfl) ?_
    k_steps
    unfold Hold
    refine LCg.CompSrc.ledger rfl F9 N9 (by k_mem) (by rw [sizeLine_eq]; show 2 ≤ _; decide) ?_
    intro g3
    clear F9 N9
    lcg_lit
    k_steps
    unfold Hold
    rename Fr _ _ _ _ => F5
    rename News _ _ _ _ => N5
    have lnx := strsAre_length hwx
    have lex := PyProof.Rows.split_le x (Str.ofString "/")
    refine LCt.CompSrcT.ledger rfl F5 N5 (by k_mem) (by rw [List.size_toArray, sizeLine_eq]; omega) ?_
    intro g4
    refine compT_inv (fun i ys news => news = _ ∧ StrsAre ys (((Txt.split x (Str.ofString "/")).take i).filter keepC)) ⟨rfl, .nil⟩ ?_ ?_
    · rintro i ys news v I oI C oC D m₂ h tk E' hi' ⟨rfl, hys⟩ hv hC hx F N off ne
      clear F5 N5
      obtain ⟨c, tc, rfl, hc⟩ := strsAre_item hwx (by simpa using hv)
      have hcl := PyProof.Rows.part_short (List.mem_of_getElem? hc)
      dsimp only
      k_steps
      · refine LCg.CompEnd.intro (by assumption) (by assumption) _ (fun p hp => hp) off (.inr ⟨_, by k_mem, rfl, _, rfl⟩) ⟨rfl, ?_⟩
        rw [filter_take_snoc hc, if_pos (keepC_tt (by assumption) (by assumption))]; exact strsAre_snoc2 _ _ hys
      · refine LCg.CompEnd.intro (by assumption) (by assumption) _ (fun p hp => hp) off (.inr ⟨_, by k_mem, rfl, _, rfl⟩) ⟨rfl, ?_⟩
        rw [filter_take_snoc hc, if_neg (ne_true_of_eq_false (keepC_f1 (by assumption))), List.append_nil]; exact hys
      · refine LCg.CompEnd.intro (by assumption) (by assumption) _ (fun p hp => hp) off (.inr ⟨_, by k_mem, rfl, _, rfl⟩) ⟨rfl, ?_⟩
        rw [filter_take_snoc hc, if_neg (ne_true_of_eq_false (keepC_f2 (by assumption))), List.append_nil]; exact hys
    rintro ys news ⟨rfl, ix⟩
    rw [List.size_toArray, lnx, List.take_length] at ix
    clear F5 N5
    unfold LCg.FinE
    intro Dx hx' tkx Fx Nx ox'
    replace ox' := off1_lcg ox'
    dsimp only
    k_steps
    unfold Hold
    rename Fr _ _ _ _ => F5
    rename News _ _ _ _ => N5
    have lny := strsAre_length hwy
    have ley := PyProof.Rows.split_le y (Str.ofString "/")
    refine LCt.CompSrcT.ledger rfl F5 N5 (by k_mem) (by rw [List.size_toArray, sizeLine_eq]; omega) ?_
    intro g4
    refine compT_inv (fun i ys news => news = _ ∧ StrsAre ys (((Txt.split y (Str.ofString "/")).take i).filter keepC)) ⟨rfl, .nil⟩ ?_ ?_
    · rintro i ys news v I oI C oC D m₂ h tk E' hi' ⟨rfl, hys⟩ hv hC hx F N off ne
      clear F5 N5
      obtain ⟨c, tc, rfl, hc⟩ := strsAre_item hwy (by simpa using hv)
      have hcl := PyProof.Rows.part_short (List.mem_of_getElem? hc)
      dsimp only
      k_steps
      · refine LCg.CompEnd.intro (by assumption) (by assumption) _ (fun p hp => hp) off (.inr ⟨_, by k_mem, rfl, _, rfl⟩) ⟨rfl, ?_⟩
        rw [filter_take_snoc hc, if_pos (keepC_tt (by assumption) (by assumption))]; exact strsAre_snoc2 _ _ hys
      · refine LCg.CompEnd.intro (by assumption) (by assumption) _ (fun p hp => hp) off (.inr ⟨_, by k_mem, rfl, _, rfl⟩) ⟨rfl, ?_⟩
        rw [filter_take_snoc hc, if_neg (ne_true_of_eq_false (keepC_f1 (by assumption))), List.append_nil]; exact hys
      · refine LCg.CompEnd.intro (by assumption) (by assumption) _ (fun p hp => hp) off (.inr ⟨_, by k_mem, rfl, _, rfl⟩) ⟨rfl, ?_⟩
        rw [filter_take_snoc hc, if_neg (ne_true_of_eq_false (keepC_f2 (by assumption))), List.append_nil]; exact hys
    rintro ys news ⟨rfl, iy⟩
    rw [List.size_toArray, lny, List.take_length] at iy
    clear F5 N5
    unfold LCg.FinE
    intro Dy hy' tky Fy Ny oy'
    replace oy' := off1_lcg oy'
    dsimp only
    k_steps
    rename Fr _ _ _ _ => F'
    rename News _ _ _ _ => N'
    have F6 := Fr.as F' map_again
    refine ⟨rfl, _, Dx, Dy, _, _, _, _, rfl, ix, iy, F6, fun p hp => N' p ?_⟩
    simp only [List.mem_cons, List.not_mem_nil, or_false] at hp ⊢
    rcases hp with h | h | h | h | h | h
    · exact .inl h
    · exact .inr (.inl h)
    · exact .inr (.inr (.inl h))
    · exact .inr (.inr (.inr (.inr (.inr (.inr (.inl h))))))
    · exact .inr (.inr (.inr (.inr (.inr (.inr (.inr (.inl h)))))))
    · exact .inr (.inr (.inr (.inr (.inr (.inr (.inr (.inr h)))))))
  rintro f s' ⟨rfl, D2, a2, b2, vx, vy, h', tk', rfl, hvx, hvy, F, N⟩
  clear F9 N9
  dsimp only
  have lvx := strsAre_length hvx
  have lvy := strsAre_length hvy
  k_steps
  unfold Hold
  refine min_two (vs := vx) (ws := vy) rfl (by show un + 2 < cLine; omega) (N (D2, LCg.lst [.ref a2, .ref b2]) (by k_mem)).1 (N (a2, LCg.lst vx) (by k_mem)).1 (N (b2, LCg.lst vy) (by k_mem)).1 hvx hvy ?_
  intro h5 tk5 k5
  replace F := F.keeps k5
  replace N := news_grows N k5
  dsimp only
  k_steps
  unfold Hold
  rename Fr _ _ _ _ => F7
  rename News _ _ _ _ => N7
  refine max_two (vs := vx) (ws := vy) rfl (by show un + 2 < cLine; omega) (N7 (D2, LCg.lst [.ref a2, .ref b2]) (by k_mem)).1 (N7 (a2, LCg.lst vx) (by k_mem)).1 (N7 (b2, LCg.lst vy) (by k_mem)).1 hvx hvy ?_
  intro h6 tk6 k6
  replace F7 := F7.keeps k6
  replace N7 := news_grows N7 k6
  dsimp only
  obtain ⟨v1, v2, xs1, xs2, hv1, hv2, hlt12, hcp, hor1, hor2, hc1, hc2⟩ := pick2 hvx hvy a2 b2
  generalize (if listLt (parts y) (parts x) = true then b2 else a2) = c1 at *
  generalize (if listLt (parts x) (parts y) = true then b2 else a2) = c2 at *
  have N8 : News g L' h6 [(c1, LCg.lst v1), (c2, LCg.lst v2), (L' + 1, oS)] := by
    intro p hp
    simp only [List.mem_cons, List.not_mem_nil, or_false] at hp
    rcases hp with h | h | h
    · rw [h]; rcases hc1 with e | e <;> rw [e] <;> exact N7 _ (by k_mem)
    · rw [h]; rcases hc2 with e | e <;> rw [e] <;> exact N7 _ (by k_mem)
    · rw [h]; exact N7 _ (by k_mem)
  clear N7 hc1 hc2 hvx hvy k5 k6
  k_steps
  unfold Hold
  have lv1 := strsAre_length hv1
  have lv2 := strsAre_length hv2
  have lx1 : xs1.length ≤ 902 := by
    have ex := List.length_filter_le keepC (Txt.split x (Str.ofString "/"))
    have ey := List.length_filter_le keepC (Txt.split y (Str.ofString "/"))
    have e1 := PyProof.Rows.split_le x (Str.ofString "/")
    have e2 := PyProof.Rows.split_le y (Str.ofString "/")
    rcases hor1 with e | e <;> rw [e] <;> unfold parts <;> omega
  have lx2 : xs2.length ≤ 902 := by
    have ex := List.length_filter_le keepC (Txt.split x (Str.ofString "/"))
    have ey := List.length_filter_le keepC (Txt.split y (Str.ofString "/"))
    have e1 := PyProof.Rows.split_le x (Str.ofString "/")
    have e2 := PyProof.Rows.split_le y (Str.ofString "/")
    rcases hor2 with e | e <;> rw [e] <;> unfold parts <;> omega
  refine wpAny_mono (Q := StF g L' gn dr os x y oS) (E := fun _ _ => False) ?_ ?_ (fun _ _ hf => hf.elim)
  rotate_left
  · rintro f s' ⟨rfl, d, vd, nd, h', tk', mm, rfl, hvd, F, N⟩
    have hw : ((cp (parts x) (parts y)).map (·.length)).sum + (cp (parts x) (parts y)).length ≤ 1048576 := Nat.le_trans (wt_parts x y) (by omega)
    have hw2 : (Txt.join (Str.ofString "/") (cp (parts x) (parts y))).length ≤ 1802 := Nat.le_trans (len_join1 _) (by have := wt_parts x y; unfold wt at this; omega)
    dsimp only
    k_steps
    exact hret _ _ _ (Fr.keep (by assumption)) ⟨_, rfl⟩
  refine lp_for ?_
  k_steps
  rename Fr _ _ _ _ => F10
  rename News _ _ _ _ => N10
  have nc1 : c1 ≠ L' := (N10 _ (by k_mem : (c1, LCg.lst v1) ∈ _)).2.1
  refine lp_enum rfl (News.lst N10 (by k_mem : (c1, LCg.lst v1) ∈ _) rfl rfl) nc1 F10 N10
    (fun i m news => news = [(c1, LCg.lst v1), (c2, LCg.lst v2), (L' + 1, oS)] ∧ xs1.take i = xs2.take i ∧ i ≤ xs1.length ∧ ∀ z, z ≠ Str.ofString "i" → z ≠ Str.ofString "c" → m z = if z = Str.ofString "common" then some (.ref c1) else if z = Str.ofString "s2" then some (.ref c2) else if z = Str.ofString "s1" then some (.ref c1) else if z = Str.ofString "split_paths" then some (.ref D2) else if z = Str.ofString "isabs" then some (.bool true) else if z = Str.ofString "paths" then some (.ref T') else m0 z) ?_ ?_ ?_
  · exact ⟨rfl, rfl, Nat.zero_le _, fun z _ _ => rfl⟩
  · rintro i v tI T9 m₁ news₁ h₁ tk₁ own I hI hi hT ⟨rfl, htk, hle, hm⟩ hoff hin hin' hown F₁ N₁
    clear F10 N10
    obtain ⟨c, tc, rfl, hc⟩ := strsAre_item hv1 (by simpa using hi)
    have hlt2 : i < xs2.length := by
      rcases Nat.lt_or_ge i xs2.length with h | h
      · exact h
      · have := short_lt i htk hc (List.getElem?_eq_none h)
        rw [this] at hlt12; cases hlt12
    obtain ⟨v', hv'⟩ : ∃ v', v2[i]? = some v' := ⟨_, List.getElem?_eq_getElem (by omega)⟩
    obtain ⟨d, td, rfl, hd'⟩ := strsAre_item hv2 hv'
    have F₂ := Fr.as F₁ (map_two rfl rfl hm)
    clear F₁
    k_steps
    · rename (c != d) = true => hne
      rename Fr _ _ _ _ => F12
      rename News _ _ _ _ => N12
      have hne' : c ≠ d := by
        intro e
        rw [e] at hne
        simp at hne
      have e := cp_take i htk hc hd' hne'
      refine ⟨rfl, _, v1.take i, 0, _, _, _, rfl, ?_, Fr.as F12 (map_two (by rfl) (by rfl) (fun _ _ _ => rfl)), fun p hp => N12 p ?_⟩
      · exact hcp ▸ e ▸ strsAre_take hv1 i
      · simp only [List.mem_cons, List.not_mem_nil, or_false] at hp
        rcases hp with h | h <;> rw [h] <;> k_mem
    · rename (c != d) = false => hne
      rename Fr _ _ _ _ => F12
      rename News _ _ _ _ => N12
      have hne' : c = d := by
        rcases Decidable.em (c = d) with e | e
        · exact e
        · have : (c != d) = true := by simpa using e
          rw [this] at hne; cases hne
      show LEnd _ _ _ _ _ _ _
      refine LEnd.intro [(c1, LCg.lst v1), (c2, LCg.lst v2), (L' + 1, oS)] F12 N12 (fun p hp => List.mem_append_right _ hp) (fun p hp => List.mem_append_left _ hp) (by
        intro p hp q
        simp only [List.mem_cons, List.not_mem_nil, or_false] at q
        have := hoff p hp
        rcases q with q | q
        · exact this.1 q
        · exact this.2 q) ⟨rfl, ?_, ?_, ?_⟩
      · rw [List.take_add_one, List.take_add_one, htk, hc, hd', hne']
      · have := (List.getElem?_eq_some_iff.mp hc).1; omega
      · intro z z1 z2; simp [z1, z2]
  · rintro h' tk m' news' F' N' ⟨rfl, htk, hle, hm⟩
    clear F10 N10
    rw [List.size_toArray, lv1] at htk
    have e := cp_all (xs1 := xs1) (xs2 := xs2) (by rw [← htk, List.take_length])
    dsimp only
    k_steps
    refine ⟨rfl, _, v1, v1.length, _, _, _, rfl, ?_, Fr.as F' (map_two (by rw [hm _ (by decide) (by decide)]; rfl) (by rw [hm _ (by decide) (by decide)]; rfl) (fun _ _ _ => rfl)), fun p hp => N' p ?_⟩
    · exact hcp ▸ e.symm ▸ hv1
    · simp only [List.mem_cons, List.not_mem_nil, or_false] at hp
      rcases hp with h | h <;> rw [h] <;> k_mem
end
end Mine
end partE1
open PySem PySem.W PySem.Calls PyProof.Rows in
theorem Mine.calmBt {prog : Program} {w : World} {A : Around} {E Q : Value → Shared → Prop} {s : Shared} (h : wpAny (model prog w) A (call (.builtin "zz") []) Q E s) : wpAny (model prog w) A (call (.builtin "zz") []) Q E s := by w_top off; first | (walk1; fail) | exact h
section partBt
open PySem PySem.W PySem.Calls PyProof.Rows
set_option Elab.async false
namespace Mine
set_option maxRecDepth 100000
set_option maxHeartbeats 2000000
theorem warmBt (w : World) : KK w.params = KK w.params ∧ PySem.Challenge.rw_in0209_01 = PySem.Challenge.rw_in0209_01 := by k_fill; exact ⟨rfl, rfl⟩
local macro_rules | `(tactic| walk_at "call ref") => `(tactic| first | (with_reducible refine atc 28 ?_; k_dflt (refine' ConI.useH (xor_con _ _ _ _ _) ?_); walk_at "iI") | (with_reducible refine atc 49 ?_; k_dflt (refine' ConV.useH (getitem_dict_con _ _ _ _ _ _ (by assumption)) ?_ (hpre := by (exact dictOf_keeps (by assumption) (Fr.keep (by assumption))))); walk_at "iV") | (with_reducible refine atc 293 ?_; k_dflt (refine' ConI.useH (up_con _ _ _ _ _ _ _ _ _ (by assumption) (by assumption)) ?_ (hpre := by (exact dictOf_keeps (by assumption) (Fr.keep (by assumption))))); walk_at "iI"))
section
theorem between_con (w : World) (d : Addr) (kvs : List (Str × Value)) (one other : Str) (t u t0 tz : Tok) (x0 y1 y2 z : Int) (n1 n2 : Nat) (h1 : one.length ≤ 900) (h2 : other.length ≤ 900)
    (hs1 : Txt.startswith one (Str.ofString "/") = true) (hs2 : Txt.startswith other (Str.ofString "/") = true) (hr : valueAt kvs "/" = some (.int x0 t0)) (hu1 : UpIs kvs one x0 y1 n1) (hu2 : UpIs kvs other x0 y2 n2)
    (hz : valueAt kvs (comS one other) = some (.int z tz)) :
    ConI w 300 [.ref d, .str one t, .str other u] 4 (fun h => h.DictOf (SK w) d kvs) (Builtin.bitXor (Builtin.bitXor y1 y2) z) := by
  refine con_of [("modes", .ref d), ("one", .str one t), ("other", .str other u)] (by k_is) (by k_is) (fun s => BindsTo.of_eq rfl) (locs rfl) ?_ (by decide)
  intro dp un gd outer A₀ base g L' h₁ tk gn dr os mean mg mb R B F N X T hdp hun hpre hret
  k_fold
  k_steps
  rename Fr _ _ _ _ => F1
  rename News _ _ _ _ => N1
  refine ConS.use (common_con w _ one other t u h1 h2 hs1 hs2) (by k_asm) F1 X T rfl N1 (by omega) (by omega) (News.lst N1 (by k_mem) rfl rfl) ?_
  intro t' h' tk' F2 N2 G2
  clear F1 N1
  dsimp only
  k_steps
  exact hret _ _ _ (Fr.keep (by assumption)) ⟨_, rfl⟩
end
end Mine
end partBt
open PySem PySem.W PySem.Calls PyProof.Rows in
theorem Mine.calmPr {prog : Program} {w : World} {A : Around} {E Q : Value → Shared → Prop} {s : Shared} (h : wpAny (model prog w) A (call (.builtin "zz") []) Q E s) : wpAny (model prog w) A (call (.builtin "zz") []) Q E s := by w_top off; first | (walk1; fail) | exact h
section partPr
open PySem PySem.W PySem.Calls PyProof.Rows
set_option Elab.async false
namespace Mine
set_option maxRecDepth 100000
set_option maxHeartbeats 2000000
theorem warmPr (w : World) : KK w.params = KK w.params ∧ PySem.Challenge.rw_in0209_01 = PySem.Challenge.rw_in0209_01 := by k_fill; exact ⟨rfl, rfl⟩
local macro_rules | `(tactic| walk_at "call ref") => `(tactic| first | (with_reducible refine atc 322 ?_; k_dflt (refine' ConO.useH (odd_con _ _ _ _ _ _ _ _ (by assumption) (by omega) (by omega) (by omega) (by omega)) ?_ (hpre := by (exact ⟨fr_list (by assumption) (by assumption), RowsAre.keeps (by assumption) (Fr.keep (by assumption))⟩))); rintro a' o' h' tk' ⟨ws',n',e9',i9'⟩ F' N' G' Z'; (try subst e9'); (try dsimp only [Off1] at Z'); (try dsimp only)) | (with_reducible refine atc 272 ?_; k_dflt (refine' ConS.useH (filemode_con _ _ _) ?_); walk_at "iS") | (with_reducible refine atc 305 ?_; k_dflt (refine' ConS.useH (kind_con _ _ _) ?_); walk_at "iS") | (with_reducible refine atc 183 ?_; k_dflt (refine' ConI.useH (ifmt_con _ _ _) ?_); walk_at "iI") | (with_reducible refine atc 176 ?_; k_dflt (refine' ConI.useH (imode_con _ _ _) ?_); walk_at "iI"))
theorem signTo_pos (bs : List Int) : ∀ i, 1 ≤ (signTo bs i).length
  | 0 => Nat.le_of_eq (len_item _ _).symm
  | i + 1 => by
    have ih := signTo_pos bs i
    unfold signTo
    split
    · rw [Str.length_append]; omega
    · exact ih
theorem eq_ints2 {prog : Program} {w : World} {dp un : Nat} {gd : Option (List Code)} {cn : Str} {cs : Scope} {L fa : Addr} {ccd : Value} {cl : List (Str × Addr)} {outer : List Env} {E : Value → Shared → Prop} {s : Shared} {a b : Addr} {x y x' y' : Int} {t u t' u' : Tok} {Q : Value → Shared → Prop}
    (ha : IsTup s.heap a #[.int x t, .int y u]) (hb : IsTup s.heap b #[.int x' t', .int y' u']) (hu : un < cLine) (h : Q (.bool (x == x' && y == y')) s) : wpAny (model prog w) (ktrTop dp un gd cn cs L fa ccd cl outer) (compareOp .Eq (.ref a) (.ref b)) Q E s := by
  refine PySem.SeqAt.eq_tupleAt (e := fun j => if j = 0 then x == x' else y == y') ha hb hu ?_ ?_
  · intro j h1 h2
    have h1' : j < 2 := h1
    rcases j with _|_|j
    · exact PySem.SeqAt.EqAt.int_int _ _ _ _
    · exact PySem.SeqAt.EqAt.int_int _ _ _ _
    · omega
  · have e : ((List.range (min (#[Value.int x t, .int y u].size) (#[Value.int x' t', .int y' u'].size))).all (fun j => if j = 0 then x == x' else y == y') && #[Value.int x t, .int y u].size == #[Value.int x' t', .int y' u'].size) = (x == x' && y == y') := by
      simp [List.range_succ]
    rw [e]; exact h
section
local macro_rules | `(tactic| walk_at "subscriptTail Name Name ref int") => `(tactic| refine hold ?_)
local macro_rules | `(tactic| walk_at "call ref") => `(tactic| (k_here; (with_reducible show wpAny _ _ (call (Value.ref 300) _) _ _ _); refine hold ?_))
local macro_rules | `(tactic| walk_at "compareOp Eq ref ref") => `(tactic| refine hold ?_)
theorem pair_con (w : World) (wl d rl : Addr) (ws : List Str) (vsw : List Value) (kvs : List (Str × Value)) (vsr : List Value) (rs : List Row) (a b : Int) (ta tb : Tok) (wa wb : Str) (t0 tz : Tok) (x0 y1 y2 z : Int) (n1 n2 : Nat)
    (hsw : StrsAre vsw ws) (ok : RowsOk rs) (ha0 : 0 ≤ a) (ha1 : a < rs.length) (hb0 : 0 ≤ b) (hb1 : b < rs.length)
    (hwa : ws[a.toNat]? = some wa) (hwb : ws[b.toNat]? = some wb) (h1 : wa.length ≤ 900) (h2 : wb.length ≤ 900)
    (hs1 : Txt.startswith wa (Str.ofString "/") = true) (hs2 : Txt.startswith wb (Str.ofString "/") = true) (hr : valueAt kvs "/" = some (.int x0 t0)) (hu1 : UpIs kvs wa x0 y1 n1) (hu2 : UpIs kvs wb x0 y2 n2)
    (hz : valueAt kvs (comS wa wb) = some (.int z tz)) (BB : Int) (hB : Builtin.bitXor (Builtin.bitXor y1 y2) z = BB) (bs : List Int) (hbs : oddBits rs a b = bs)
    (hb : ∀ k, k < 16 → 0 ≤ bs.getD k 0 ∧ bs.getD k 0 ≤ 1)
    (e1 : Txt.join "" (fmList BB) = signTo bs 3) (e2 : kindS (Builtin.bitAnd BB 61440) = Txt.item (signTo bs 3) 0) (e3 : Builtin.bitAnd BB 4095 = (worthTo (bs.take 12) 12).sum) (e4 : Builtin.bitAnd BB 61440 = 4096 * (worthTo (bs.drop 12) 4).sum) :
    ConV w 341 [.ref wl, .ref d, .ref rl, .int a ta, .int b tb] 5 (fun h => h.IsList wl vsw.toArray ∧ h.DictOf (SK w) d kvs ∧ h.IsList rl vsr.toArray ∧ RowsAre h vsr rs) (.bool true) := by
  refine con_of [("ways", .ref wl), ("modes", .ref d), ("rows", .ref rl), ("one", .int a ta), ("other", .int b tb)] (by k_is) (by k_is) (fun s => BindsTo.of_eq rfl) (locs rfl) ?_ (by decide)
  intro dp un gd outer A₀ base g L' h₁ tk gn dr os mean mg mb R B F N X T hdp hun hpre hret
  k_fold
  obtain ⟨hpw, hpd, hpl, hpr⟩ := hpre
  obtain ⟨vwa, hva⟩ : ∃ v, vsw[a.toNat]? = some v := ⟨_, List.getElem?_eq_getElem (by have := strsAre_length hsw; have := (List.getElem?_eq_some_iff.mp hwa).1; omega)⟩
  obtain ⟨wa', tka, rfl, hwa'⟩ := strsAre_item hsw hva
  rw [hwa] at hwa'
  obtain rfl := Option.some.inj hwa'
  obtain ⟨vwb, hvb⟩ : ∃ v, vsw[b.toNat]? = some v := ⟨_, List.getElem?_eq_getElem (by have := strsAre_length hsw; have := (List.getElem?_eq_some_iff.mp hwb).1; omega)⟩
  obtain ⟨wb', tkb, rfl, hwb'⟩ := strsAre_item hsw hvb
  rw [hwb] at hwb'
  obtain rfl := Option.some.inj hwb'
  have hlt := ok.2.1
  k_steps
  unfold Hold
  refine item_own (fr_list hpw F) hva (by omega) (by omega) ?_ (by with_unfolding_all rfl)
  k_steps
  unfold Hold
  refine item_own (fr_list hpw F) hvb (by omega) (by omega) ?_ (by with_unfolding_all rfl)
  k_steps
  unfold Hold
  refine ConI.use (between_con w d kvs wa wb _ _ t0 tz x0 y1 y2 z n1 n2 h1 h2 hs1 hs2 hr hu1 hu2 hz) (by k_asm) F X T rfl N (by omega) (by omega) (dictOf_keeps hpd F.keep) ?_
  rw [hB]
  intro t' h' tk' F2 N2 G2
  clear F N
  dsimp only
  k_steps
  rename IntsAre _ (oddBits rs a b) => i9
  rw [hbs] at i9
  have hl16 : bs.length = 16 := by rw [← hbs]; unfold oddBits; rw [List.length_map, List.length_range]
  rename Fr _ _ _ _ => F3
  rename News _ _ _ _ => N3
  refine ConS.use (signs_con w _ bs _ i9 hl16 hb) (by k_asm) F3 X T rfl N3 (by omega) (by omega) (News.lst N3 (by k_mem) rfl rfl) ?_
  intro t3' h3' tk3' F4 N4 G4
  clear F3 N3
  have hsl := signTo_len bs 3
  have hsp := signTo_pos bs 3
  dsimp only
  k_steps
  · rename (_ != _) = true => hne
    exact absurd hne (by rw [show Txt.join (Str.ofString "") (fmList BB) = signTo bs 3 from e1]; simp)
  · rename (_ != _) = true => hne
    exact absurd hne (by rw [e2]; simp)
  rename Fr _ _ _ _ => F5
  rename News _ _ _ _ => N5
  rename IntsAre _ (List.take 12 bs) => i12
  have l12 : (List.take 12 bs).length = 12 := by rw [List.length_take, hl16]; rfl
  refine ConI.use (worth_con w _ (bs.take 12) _ i12 (by rw [l12]; decide)) (by k_asm) F5 X T rfl N5 (by omega) (by omega) (News.lst N5 (by k_mem) rfl rfl) ?_
  rw [l12]
  intro t5' h5' tk5' F6 N6 G6
  clear F5 N5
  dsimp only
  k_steps
  rename Fr _ _ _ _ => F5
  rename News _ _ _ _ => N5
  rename IntsAre _ (List.drop 12 bs) => i4
  have l4 : (List.drop 12 bs).length = 4 := by rw [List.length_drop, hl16]
  refine ConI.use (worth_con w _ (bs.drop 12) _ i4 (by rw [l4]; decide)) (by k_asm) F5 X T rfl N5 (by omega) (by omega) (News.lst N5 (by k_mem) rfl rfl) ?_
  rw [l4]
  intro t7' h7' tk7' F8 N8 G8
  clear F5 N5
  dsimp only
  rw [← e3]
  k_steps
  unfold Hold
  rename Fr _ _ _ _ => F9
  rename News _ _ _ _ => N9
  refine eq_ints2 (News.tup N9 (by k_mem) rfl rfl) (News.tup N9 (by k_mem) rfl rfl) (by omega) ?_
  rw [e4, beq_self_eq_true, beq_self_eq_true]
  exact hret _ _ _ F9.keep rfl
end
end Mine
end partPr
section partRg
open PySem PySem.W PySem.Calls PyProof.Rows
set_option Elab.async false
namespace Mine
set_option maxRecDepth 100000
set_option maxHeartbeats 2000000
section
variable {prog : Program} {w : World} {A : Around} {E : Value → Shared → Prop} {s : Shared} {env : Env} {h₀ : Heap} {target : PySem.Expr} {body orelse : List Stmt} {Q : Flow → Shared → Prop}
theorem lp_range {r : Addr} {a b : Int} {t u v : Tok} {n : Nat} {m : Str → Option Value} {news : List (Addr × Obj)} (hh : A.handled = none)
    (hr : IsRange s.heap r a b 1 t u v) (hsm : Builtin.Range.small a b 1 = true) (hn : Builtin.Range.rangeSize a b 1 = ((n : Nat) : Int)) (F : Fr h₀ env.locals s.heap m) (N : News h₀ env.locals s.heap news)
    (J : Nat → (Str → Option Value) → List (Addr × Obj) → Prop) (h0 : J 0 m news)
    (step : ∀ i tv m₁ news₁ h₁ tk₁ own I, i < n → J i m₁ news₁ → (∀ p ∈ news₁, p.1 ≠ I) → (∃ o, (I, o) ∈ own) → Fr h₀ env.locals h₁ m₁ → News h₀ env.locals h₁ (news₁ ++ own) →
      wpAny (model prog w) A (assign target env (.int (a + (i : Int)) tv)) (fun _ s₂ => wpAny (model prog w) A (execs body env) (LPost h₀ env.locals (J (i + 1)) own [I] { s with heap := h₁, toks := tk₁ } Q) (fun _ _ => False) s₂) (fun _ _ => False) { s with heap := h₁, toks := tk₁ })
    (done : ∀ h' tk m' news', Fr h₀ env.locals h' m' → News h₀ env.locals h' news' → J n m' news' → wpAny (model prog w) A (execs orelse env) Q (fun _ _ => False) { s with heap := h', toks := tk })
    (hgo : ∀ (I : Addr) (v : Value) (s : Shared) (Q : Unit → Shared → Prop) (E : Value → Shared → Prop), Q () s → wpAny (model prog w) A (letOwnedTupleGo target (.ref I) v) Q E s) :
    wpAny (model prog w) A (pyIter (.ref r)) (fun it s₂ => codeAny (model prog w) A (.forLoop target it body orelse env) (fun r s' => match r with | .ok f => Q f s' | .error e => cameBackBy (model prog w) A env E e s') s₂) E s := by
  refine wpAny_pyIter_range hr hsm ?_
  refine lp_loop (KTurns.ofWalks (LCg.range_walks hh (I := s.heap.objs.size) a n) fun i v s Q E st q => hgo _ v s Q E q) ?_ ?_ ?_ ?_ (by show IsRangeIter _ _ _ _ _; rw [hn]; simpa using Heap.get?_push_size _ rfl) (F.push _) (fun p hp => ⟨Heap.get?_push_of_some _ (N p hp).1, (N p hp).2⟩) J h0 ?_ ?_
  · rintro i h st b hb
    rw [List.mem_singleton.mp hb]; exact ⟨_, st⟩
  · intro hI
    exact absurd F.ns.lt (List.mem_singleton.mp hI ▸ Nat.lt_irrefl _)
  · intro b hb; rw [List.mem_singleton.mp hb]; exact next_is_new F
  · intro p hp hI
    exact absurd (Heap.lt_size (N p hp).1) ((List.mem_singleton.mp hI) ▸ Nat.lt_irrefl _)
  · intro i v m₁ news₁ h₁ tk₁ own hi hP hJ hoff hin hsub F₁ N₁
    obtain ⟨tv, rfl⟩ := hP
    exact step i tv m₁ news₁ h₁ tk₁ own _ hi hJ (fun p hp e => hoff p hp (by rw [e]; exact List.mem_singleton_self _)) (hin _ (List.mem_singleton_self _)) F₁ N₁
  · intro h' tk m' news' F' N' _ hJ
    exact done h' tk m' news' F' N' hJ
theorem go_name2 {x : Str} {px : Pos} (I : Addr) (v : Value) (s : Shared) (Q : Unit → Shared → Prop) (E : Value → Shared → Prop) (h : Q () s) : wpAny (model prog w) A (letOwnedTupleGo (.Name x px) (.ref I) v) Q E s := wpAny_pure h
end
theorem news_new {h₀ h h' : Heap} {L : Addr} {m : Str → Option Value} {own : List (Addr × Obj)} (F : Fr h₀ L h m) (k : ∀ p ∈ own, h.get? p.1 = none ∧ h'.get? p.1 = some p.2) : News h₀ L h' own := fun p hp => by
  refine ⟨(k p hp).2, fun e => ?_, ?_⟩
  · obtain ⟨oL, _, _, hL, _⟩ := F.ns
    have := (k p hp).1
    rw [e, hL] at this; cases this
  · cases e : h₀.get? p.1 with
    | none => rfl
    | some o => have := F.keep _ _ e; rw [(k p hp).1] at this; cases this
theorem news_app {h₀ h : Heap} {L : Addr} {a b : List (Addr × Obj)} (x : News h₀ L h a) (y : News h₀ L h b) : News h₀ L h (a ++ b) := fun p hp => (List.mem_append.mp hp).elim (x p) (y p)
end Mine
end partRg
section partPq
open PySem PySem.W PySem.Calls PyProof.Rows
set_option Elab.async false
namespace Mine
set_option maxRecDepth 100000
set_option maxHeartbeats 2000000
/-- the walk to the root, in plain words -/
inductive UpM (md : List (Str × Int)) : Str → Int → Int → Nat → Prop
  | done (x : Int) : UpM md "/" x x 0
  | step {way : Str} {x v y : Int} {n : Nat} (h1 : way ≠ "/") (h2 : way.length ≤ 1000) (h3 : modeAt md way = some v) (h : UpM md (dirS way) (Builtin.bitXor x v) y n) : UpM md way x y (n + 1)
theorem upIs_of {kvs : List (Str × Value)} {md : List (Str × Int)} (hk : KvIs kvs md) {way : Str} {x y : Int} {n : Nat} (h : UpM md way x y n) : UpIs kvs way x y n := by
  induction h with
  | done x => exact .done x
  | step h1 h2 h3 _ ih => obtain ⟨t, ht⟩ := kvIs_some hk h3; exact .step t h1 h2 ht ih
/-- what is needed of two places so that the law's pair holds -/
noncomputable def PairOk (ws : List Str) (md : List (Str × Int)) (rs : List Row) (a b : Int) : Prop :=
  ∃ wa wb x0 y1 y2 z n1 n2, ws[a.toNat]? = some wa ∧ ws[b.toNat]? = some wb ∧ wa.length ≤ 900 ∧ wb.length ≤ 900 ∧ Txt.startswith wa (Str.ofString "/") = true ∧ Txt.startswith wb (Str.ofString "/") = true ∧
    modeAt md "/" = some x0 ∧ UpM md wa x0 y1 n1 ∧ UpM md wb x0 y2 n2 ∧ modeAt md (comS wa wb) = some z ∧ (∀ k, k < 16 → 0 ≤ (oddBits rs a b).getD k 0 ∧ (oddBits rs a b).getD k 0 ≤ 1) ∧
    Txt.join "" (fmList (Builtin.bitXor (Builtin.bitXor y1 y2) z)) = signTo (oddBits rs a b) 3 ∧ kindS (Builtin.bitAnd (Builtin.bitXor (Builtin.bitXor y1 y2) z) 61440) = Txt.item (signTo (oddBits rs a b) 3) 0 ∧
    Builtin.bitAnd (Builtin.bitXor (Builtin.bitXor y1 y2) z) 4095 = (worthTo ((oddBits rs a b).take 12) 12).sum ∧ Builtin.bitAnd (Builtin.bitXor (Builtin.bitXor y1 y2) z) 61440 = 4096 * (worthTo ((oddBits rs a b).drop 12) 4).sum
theorem pair_con2 (w : World) (wl d rl : Addr) (ws : List Str) (md : List (Str × Int)) (vsw : List Value) (kvs : List (Str × Value)) (vsr : List Value) (rs : List Row) (a b : Int) (ta tb : Tok)
    (hk : KvIs kvs md) (hsw : StrsAre vsw ws) (ok : RowsOk rs) (ha0 : 0 ≤ a) (ha1 : a < rs.length) (hb0 : 0 ≤ b) (hb1 : b < rs.length) (P : PairOk ws md rs a b) :
    ConV w 341 [.ref wl, .ref d, .ref rl, .int a ta, .int b tb] 5 (fun h => h.IsList wl vsw.toArray ∧ h.DictOf (SK w) d kvs ∧ h.IsList rl vsr.toArray ∧ RowsAre h vsr rs) (.bool true) := by
  obtain ⟨wa, wb, x0, y1, y2, z, n1, n2, q1, q2, q3, q4, q5, q6, q7, q8, q9, q10, q11, q12, q13, q14, q15⟩ := P
  obtain ⟨t0, ht0⟩ := kvIs_some hk q7
  obtain ⟨tz, htz⟩ := kvIs_some hk q10
  exact pair_con w wl d rl ws vsw kvs vsr rs a b ta tb wa wb t0 tz x0 y1 y2 z n1 n2 hsw ok ha0 ha1 hb0 hb1 q1 q2 q3 q4 q5 q6 ht0 (upIs_of hk q8) (upIs_of hk q9) htz _ rfl _ rfl q11 q12 q13 q14 q15
theorem rowsAre_of {own news : List (Addr × Obj)} {vs : List Value} {rs : List Row} {g h : Heap} {L : Addr} (x : OwnRows own vs rs) (N : News g L h news) (k : ∀ p ∈ own, p ∈ news) : RowsAre h vs rs :=
  ⟨x.1, fun i r e => by obtain ⟨a, t1, t2, t3, h1, h2⟩ := x.2 i r e; exact ⟨_, h1, a, t1, t2, t3, rfl, (N _ (k _ h2)).1⟩⟩
/-- what the plain law has to say -/
structure Plain (ns : List Int) : Prop where
  l1 : (treeOf ns).1.length = (rowsOf ns).length
  l2 : (treeOf ns).2.length = (rowsOf ns).length
  ok : RowsOk (rowsOf ns)
  pair : ∀ a b : Int, 0 ≤ a → a < (rowsOf ns).length → 0 ≤ b → b < (rowsOf ns).length → PairOk (treeOf ns).1 (treeOf ns).2 (rowsOf ns) a b
end Mine
end partPq
section partB1
open PySem PySem.W PySem.Calls PyProof.Rows
set_option Elab.async false
namespace Mine
set_option maxRecDepth 100000
set_option maxHeartbeats 2000000
theorem nat_xor_add : ∀ (n x y : Nat), x ≤ n → x + y = (x ^^^ y) + 2 * (x &&& y) := by
  intro n
  induction n with
  | zero => intro x y h; obtain rfl : x = 0 := by omega
            simp
  | succ n ih =>
    intro x y h
    by_cases h0 : x = 0
    · subst h0; simp
    have i := ih (x / 2) (y / 2) (by omega)
    have a1 : (x ^^^ y) / 2 = x / 2 ^^^ y / 2 := Nat.xor_div_two
    have a2 : (x &&& y) / 2 = x / 2 &&& y / 2 := Nat.and_div_two
    have a3 : (x ^^^ y) % 2 = (x + y) % 2 := by
      have := Nat.xor_mod_two_pow (a := x) (b := y) (n := 1)
      rw [Nat.pow_one] at this
      rw [this, Nat.add_mod]
      rcases Nat.mod_two_eq_zero_or_one x with p | p <;> rcases Nat.mod_two_eq_zero_or_one y with q | q <;> simp [p, q]
    have a4 : (x &&& y) % 2 = if x % 2 = 1 ∧ y % 2 = 1 then 1 else 0 := by
      have := Nat.and_mod_two_pow (a := x) (b := y) (n := 1)
      rw [Nat.pow_one] at this
      rw [this]
      rcases Nat.mod_two_eq_zero_or_one x with p | p <;> rcases Nat.mod_two_eq_zero_or_one y with q | q <;> simp [p, q]
    rw [← a1, ← a2] at i
    split at a4 <;> omega
theorem xor_nat (x y : Nat) : Builtin.bitXor (x : Int) (y : Int) = ((x ^^^ y : Nat) : Int) := by
  rw [PyProof.Rows.bitXor_and, PyProof.Rows.bitAnd_pp (by omega) (by omega)]
  have := nat_xor_add x x y (Nat.le_refl _)
  simp only [Int.toNat_natCast]
  omega
theorem and_nat (x y : Nat) : Builtin.bitAnd (x : Int) (y : Int) = ((x &&& y : Nat) : Int) := by
  rw [PyProof.Rows.bitAnd_pp (by omega) (by omega)]
  simp only [Int.toNat_natCast]
/-- a bit, as a number -/
noncomputable def nb (x k : Nat) : Nat := x / 2 ^ k % 2
theorem nb_lt (x k : Nat) : nb x k < 2 := Nat.mod_lt _ (by decide)
theorem nb_test (x k : Nat) : nb x k = if x.testBit k then 1 else 0 := by
  unfold nb
  rw [Nat.testBit_eq_decide_div_mod_eq]
  rcases Nat.mod_two_eq_zero_or_one (x / 2 ^ k) with p | p <;> simp [p]
theorem nb_xor (x y k : Nat) : nb (x ^^^ y) k = (nb x k + nb y k) % 2 := by
  rw [nb_test, nb_test, nb_test, Nat.testBit_xor]
  cases x.testBit k <;> cases y.testBit k <;> rfl
theorem and_pow (x k : Nat) : x &&& 2 ^ k = nb x k * 2 ^ k := by
  rw [nb_test]
  apply Nat.eq_of_testBit_eq
  intro i
  rw [Nat.testBit_and, Nat.testBit_two_pow]
  by_cases h : k = i
  · subst h
    cases x.testBit k <;> simp
  · cases x.testBit k <;> simp [h]
end Mine
end partB1
section partB2
open PySem PySem.W PySem.Calls PyProof.Rows
set_option Elab.async false
namespace Mine
set_option maxRecDepth 100000
set_option maxHeartbeats 2000000
theorem join_empty : ∀ l : List Str, Str.join "" l = l.foldr (fun (a b : Str) => a ++ b) (Str.ofString "") := by
  intro l
  induction l with
  | nil => rfl
  | cons x r ih =>
    cases r with
    | nil =>
      show x = x ++ ("" : Str)
      obtain ⟨a⟩ := x
      exact congrArg Str.mk (Array.append_empty (xs := a)).symm
    | cons y r =>
      show x ++ ("" : Str) ++ Str.join "" (y :: r) = x ++ _
      rw [ih]
      have : x ++ ("" : Str) = x := by obtain ⟨a⟩ := x; exact congrArg Str.mk (Array.append_empty (xs := a))
      rw [this]
theorem str_assoc (x y z : Str) : x ++ y ++ z = x ++ (y ++ z) := by
  obtain ⟨a⟩ := x; obtain ⟨b⟩ := y; obtain ⟨c⟩ := z
  exact congrArg Str.mk (Array.append_assoc ..)
theorem nb01 (N k : Nat) : nb N k = 0 ∨ nb N k = 1 := by have := nb_lt N k; omega
theorem and_kind (N : Nat) : N &&& 61440 = 4096 * (nb N 12 + 2 * nb N 13 + 4 * nb N 14 + 8 * nb N 15) := by
  have e : (61440 : Nat) = ((2 ^ 12 ||| 2 ^ 13) ||| 2 ^ 14) ||| 2 ^ 15 := by decide
  rw [e, Nat.and_or_distrib_left, Nat.and_or_distrib_left, Nat.and_or_distrib_left, and_pow, and_pow, and_pow, and_pow]
  rcases nb01 N 12 with h1 | h1 <;> rcases nb01 N 13 with h2 | h2 <;> rcases nb01 N 14 with h3 | h3 <;> rcases nb01 N 15 with h4 | h4 <;> rw [h1, h2, h3, h4] <;> decide
theorem hit1 (N i k : Nat) (hi : i ≠ 0) : fmHit (N : Int) i ((2 ^ k : Nat) : Int) = (nb N k == 1) := by
  unfold fmHit
  rw [if_neg hi, and_nat, and_pow]
  have hp : 0 < 2 ^ k := Nat.two_pow_pos k
  rcases nb01 N k with h | h
  · rw [h]
    have : (((0 * 2 ^ k : Nat) : Int) == ((2 ^ k : Nat) : Int)) = false := by
      rw [Nat.zero_mul]
      exact beq_false_of_ne (by intro e; have := Int.ofNat.inj e; omega)
    rw [this]; rfl
  · rw [h, Nat.one_mul, beq_self_eq_true]; rfl
theorem hit2 (N i k j : Nat) (hi : i ≠ 0) (hkj : k = 11 ∧ j = 6 ∨ k = 10 ∧ j = 3 ∨ k = 9 ∧ j = 0) : fmHit (N : Int) i ((2 ^ k ||| 2 ^ j : Nat) : Int) = (nb N k == 1 && nb N j == 1) := by
  unfold fmHit
  rw [if_neg hi, and_nat, Nat.and_or_distrib_left, and_pow, and_pow]
  rcases nb01 N k with h | h <;> rcases nb01 N j with h' | h' <;> rw [h, h'] <;> rcases hkj with ⟨e1, e2⟩ | ⟨e1, e2⟩ | ⟨e1, e2⟩ <;> rw [e1, e2] <;> decide
end Mine
end partB2
section partB3
open PySem PySem.W PySem.Calls PyProof.Rows
set_option Elab.async false
namespace Mine
set_option maxRecDepth 100000
set_option maxHeartbeats 2000000
theorem fm_r (N i k : Nat) (hi : i ≠ 0) : fmAt (N : Int) i [(((2 ^ k : Nat) : Int), "r")] = Txt.item "-r" ((nb N k : Nat) : Int) := by
  unfold fmAt fmPick fmPick
  rw [if_neg hi, hit1 N i k hi]
  rcases nb01 N k with h | h <;> rw [h] <;> decide +kernel
theorem fm_w (N i k : Nat) (hi : i ≠ 0) : fmAt (N : Int) i [(((2 ^ k : Nat) : Int), "w")] = Txt.item "-w" ((nb N k : Nat) : Int) := by
  unfold fmAt fmPick fmPick
  rw [if_neg hi, hit1 N i k hi]
  rcases nb01 N k with h | h <;> rw [h] <;> decide +kernel
theorem fm_x (N i k j : Nat) (c d : Str) (x y : Str) (hi : i ≠ 0) (hkj : k = 11 ∧ j = 6 ∨ k = 10 ∧ j = 3 ∨ k = 9 ∧ j = 0) (hc : (c = "s" ∧ d = "S" ∧ y = "Ss") ∨ (c = "t" ∧ d = "T" ∧ y = "Tt")) (hx : x = "-x") :
    fmAt (N : Int) i [(((2 ^ k ||| 2 ^ j : Nat) : Int), c), (((2 ^ k : Nat) : Int), d), (((2 ^ j : Nat) : Int), "x")] = Txt.item (if ((nb N k : Nat) : Int) = 0 then x else y) ((nb N j : Nat) : Int) := by
  unfold fmAt fmPick fmPick fmPick fmPick
  rw [if_neg hi, hit2 N i k j hi hkj, hit1 N i k hi, hit1 N i j hi]
  rcases nb01 N k with h | h <;> rcases nb01 N j with h' | h' <;> rw [h, h'] <;> rcases hc with ⟨rfl, rfl, rfl⟩ | ⟨rfl, rfl, rfl⟩ <;> subst hx <;> decide +kernel
noncomputable def tab0 : List (Int × Str) := [(40960, "l"), (49152, "s"), (32768, "-"), (24576, "b"), (16384, "d"), (8192, "c"), (4096, "p")]
theorem fm_k (N : Nat) : fmAt (N : Int) 0 tab0 = Txt.item "?pc?d?b?-?l?s???" (((nb N 12 : Nat) : Int) + 2 * ((nb N 13 : Nat) : Int) + 4 * ((nb N 14 : Nat) : Int) + 8 * ((nb N 15 : Nat) : Int)) := by
  have e : fmHit (N : Int) 0 = fun b => (((N &&& 61440 : Nat) : Int) == b) := by
    funext b
    unfold fmHit
    rw [if_pos rfl]
    exact congrArg (· == b) (and_nat N 61440)
  unfold fmAt
  rw [e, and_kind]
  rcases nb01 N 12 with h1 | h1 <;> rcases nb01 N 13 with h2 | h2 <;> rcases nb01 N 14 with h3 | h3 <;> rcases nb01 N 15 with h4 | h4 <;> rw [h1, h2, h3, h4] <;> decide +kernel
theorem kind_k (N : Nat) : kindS (Builtin.bitAnd (N : Int) 61440) = Txt.item "?pc?d?b?-?l?s???" (((nb N 12 : Nat) : Int) + 2 * ((nb N 13 : Nat) : Int) + 4 * ((nb N 14 : Nat) : Int) + 8 * ((nb N 15 : Nat) : Int)) := by
  rw [show Builtin.bitAnd (N : Int) 61440 = ((N &&& 61440 : Nat) : Int) from and_nat N 61440, and_kind]
  rcases nb01 N 12 with h1 | h1 <;> rcases nb01 N 13 with h2 | h2 <;> rcases nb01 N 14 with h3 | h3 <;> rcases nb01 N 15 with h4 | h4 <;> rw [h1, h2, h3, h4] <;> decide +kernel
theorem str_append_empty (x : Str) : x ++ Str.ofString "" = x := by obtain ⟨a⟩ := x; exact congrArg Str.mk (Array.append_empty (xs := a))
theorem signs_law (N : Nat) (bs : List Int) (hb : ∀ k, k < 16 → bs.getD k 0 = ((nb N k : Nat) : Int)) : Txt.join "" (fmList (N : Int)) = signTo bs 3 := by
  rw [txt_join, join_empty]
  have e1 : signTo bs 3 = kindAt bs ++ signTurn bs 6 "-x" "Ss" ++ signTurn bs 3 "-x" "Ss" ++ signTurn bs 0 "-x" "Tt" := rfl
  have e2 : fmList (N : Int) = [fmAt N 0 tab0, fmAt N 1 [(((2 ^ 8 : Nat) : Int), "r")], fmAt N 2 [(((2 ^ 7 : Nat) : Int), "w")], fmAt N 3 [(((2 ^ 11 ||| 2 ^ 6 : Nat) : Int), "s"), (((2 ^ 11 : Nat) : Int), "S"), (((2 ^ 6 : Nat) : Int), "x")],
    fmAt N 4 [(((2 ^ 5 : Nat) : Int), "r")], fmAt N 5 [(((2 ^ 4 : Nat) : Int), "w")], fmAt N 6 [(((2 ^ 10 ||| 2 ^ 3 : Nat) : Int), "s"), (((2 ^ 10 : Nat) : Int), "S"), (((2 ^ 3 : Nat) : Int), "x")],
    fmAt N 7 [(((2 ^ 2 : Nat) : Int), "r")], fmAt N 8 [(((2 ^ 1 : Nat) : Int), "w")], fmAt N 9 [(((2 ^ 9 ||| 2 ^ 0 : Nat) : Int), "t"), (((2 ^ 9 : Nat) : Int), "T"), (((2 ^ 0 : Nat) : Int), "x")]] := rfl
  rw [e1, e2, fm_k, fm_r N 1 8 (by decide), fm_w N 2 7 (by decide), fm_x N 3 11 6 "s" "S" "-x" "Ss" (by decide) (.inl ⟨rfl, rfl⟩) (.inl ⟨rfl, rfl, rfl⟩) rfl,
    fm_r N 4 5 (by decide), fm_w N 5 4 (by decide), fm_x N 6 10 3 "s" "S" "-x" "Ss" (by decide) (.inr (.inl ⟨rfl, rfl⟩)) (.inl ⟨rfl, rfl, rfl⟩) rfl,
    fm_r N 7 2 (by decide), fm_w N 8 1 (by decide), fm_x N 9 9 0 "t" "T" "-x" "Tt" (by decide) (.inr (.inr ⟨rfl, rfl⟩)) (.inr ⟨rfl, rfl, rfl⟩) rfl]
  have k0 : kindAt bs = Txt.item "?pc?d?b?-?l?s???" (((nb N 12 : Nat) : Int) + 2 * ((nb N 13 : Nat) : Int) + 4 * ((nb N 14 : Nat) : Int) + 8 * ((nb N 15 : Nat) : Int)) := by
    show Txt.item _ (bs.getD 12 0 + 2 * bs.getD 13 0 + 4 * bs.getD 14 0 + 8 * bs.getD 15 0) = _
    rw [hb 12 (by decide), hb 13 (by decide), hb 14 (by decide), hb 15 (by decide)]
  have t6 : signTurn bs 6 "-x" "Ss" = Txt.item "-r" ((nb N 8 : Nat) : Int) ++ Txt.item "-w" ((nb N 7 : Nat) : Int) ++ Txt.item (if ((nb N 11 : Nat) : Int) = 0 then "-x" else "Ss") ((nb N 6 : Nat) : Int) := by
    show Txt.item "-r" (bs.getD 8 0) ++ Txt.item "-w" (bs.getD 7 0) ++ Txt.item (if bs.getD 11 0 = 0 then "-x" else "Ss") (bs.getD 6 0) = _
    rw [hb 8 (by decide), hb 7 (by decide), hb 11 (by decide), hb 6 (by decide)]
  have t3 : signTurn bs 3 "-x" "Ss" = Txt.item "-r" ((nb N 5 : Nat) : Int) ++ Txt.item "-w" ((nb N 4 : Nat) : Int) ++ Txt.item (if ((nb N 10 : Nat) : Int) = 0 then "-x" else "Ss") ((nb N 3 : Nat) : Int) := by
    show Txt.item "-r" (bs.getD 5 0) ++ Txt.item "-w" (bs.getD 4 0) ++ Txt.item (if bs.getD 10 0 = 0 then "-x" else "Ss") (bs.getD 3 0) = _
    rw [hb 5 (by decide), hb 4 (by decide), hb 10 (by decide), hb 3 (by decide)]
  have t0 : signTurn bs 0 "-x" "Tt" = Txt.item "-r" ((nb N 2 : Nat) : Int) ++ Txt.item "-w" ((nb N 1 : Nat) : Int) ++ Txt.item (if ((nb N 9 : Nat) : Int) = 0 then "-x" else "Tt") ((nb N 0 : Nat) : Int) := by
    show Txt.item "-r" (bs.getD 2 0) ++ Txt.item "-w" (bs.getD 1 0) ++ Txt.item (if bs.getD 9 0 = 0 then "-x" else "Tt") (bs.getD 0 0) = _
    rw [hb 2 (by decide), hb 1 (by decide), hb 9 (by decide), hb 0 (by decide)]
  rw [k0, t6, t3, t0]
  simp only [List.foldr_cons, List.foldr_nil, str_append_empty, str_assoc]
theorem item_head (c : Nat) (r : Str) : Txt.item ((⟨#[c]⟩ : Str) ++ r) 0 = ⟨#[c]⟩ := by
  have e : ((⟨#[c]⟩ : Str) ++ r).cps = #[c] ++ r.cps := rfl
  unfold Txt.item
  have : Txt.charAt ((⟨#[c]⟩ : Str) ++ r) 0 = some c := by
    unfold Txt.charAt
    have hl : ((⟨#[c]⟩ : Str) ++ r).length = 1 + r.length := by rw [Str.length_append]; rfl
    have hs : seqIndex? 0 ((⟨#[c]⟩ : Str) ++ r).length = some 0 := by
      rw [hl]
      unfold seqIndex?
      simp
      omega
    rw [hs]
    show ((⟨#[c]⟩ : Str) ++ r).cps[0]? = some c
    rw [e, Array.getElem?_append_left (show 0 < (#[c] : Array Nat).size from Nat.one_pos)]
    rfl
  rw [this]; rfl
theorem sign0_law (bs : List Int) : Txt.item (signTo bs 3) 0 = kindAt bs := by
  have e1 : signTo bs 3 = kindAt bs ++ signTurn bs 6 "-x" "Ss" ++ signTurn bs 3 "-x" "Ss" ++ signTurn bs 0 "-x" "Tt" := rfl
  rw [e1, str_assoc, str_assoc]
  exact item_head _ _
theorem worth_step (bs : List Int) (i : Nat) (v : Nat) (h : bs.getD i 0 = ((v : Nat) : Int)) (hv : v = 0 ∨ v = 1) : (worthTo bs (i + 1)).sum = (worthTo bs i).sum + ((v * 2 ^ i : Nat) : Int) := by
  rw [worthTo_succ, h]
  rcases hv with rfl | rfl
  · rw [if_neg (by decide), Nat.zero_mul]; simp
  · rw [if_pos (by decide), List.sum_append, Nat.one_mul]; simp
theorem low_sum (bs : List Int) (N n : Nat) : (∀ k, k < n → bs.getD k 0 = ((nb N k : Nat) : Int)) → (worthTo bs n).sum = ((N % 2 ^ n : Nat) : Int) := by
  induction n with
  | zero => intro _; rw [Nat.pow_zero, Nat.mod_one]; rfl
  | succ n ih =>
    intro h
    rw [worth_step bs n _ (h n (Nat.lt_succ_self n)) (nb01 N n), ih fun k hk => h k (Nat.lt_succ_of_lt hk), Nat.mod_pow_succ, Nat.mul_comm (2 ^ n)]
    exact (Int.natCast_add _ _).symm
theorem low_law (N : Nat) (bs : List Int) (hb : ∀ k, k < 16 → bs.getD k 0 = ((nb N k : Nat) : Int)) : Builtin.bitAnd (N : Int) 4095 = (worthTo (bs.take 12) 12).sum := by
  have ht : ∀ k, k < 12 → (bs.take 12).getD k 0 = ((nb N k : Nat) : Int) := fun k hk => by
    rw [← hb k (by omega), List.getD_eq_getElem?_getD, List.getD_eq_getElem?_getD, List.getElem?_take_of_lt hk]
  rw [show Builtin.bitAnd (N : Int) 4095 = ((N &&& (2 ^ 12 - 1) : Nat) : Int) from and_nat N 4095, Nat.and_two_pow_sub_one_eq_mod]
  exact (low_sum _ N 12 ht).symm
theorem high_law (N : Nat) (bs : List Int) (hb : ∀ k, k < 16 → bs.getD k 0 = ((nb N k : Nat) : Int)) : Builtin.bitAnd (N : Int) 61440 = 4096 * (worthTo (bs.drop 12) 4).sum := by
  have ht : ∀ k, k < 4 → (bs.drop 12).getD k 0 = ((nb N (12 + k) : Nat) : Int) := fun k hk => by
    rw [← hb (12 + k) (by omega), List.getD_eq_getElem?_getD, List.getD_eq_getElem?_getD, List.getElem?_drop]
  rw [show Builtin.bitAnd (N : Int) 61440 = ((N &&& 61440 : Nat) : Int) from and_nat N 61440, and_kind]
  rw [worth_step _ 3 (nb N 15) (ht 3 (by decide)) (nb01 N 15), worth_step _ 2 (nb N 14) (ht 2 (by decide)) (nb01 N 14), worth_step _ 1 (nb N 13) (ht 1 (by decide)) (nb01 N 13), worth_step _ 0 (nb N 12) (ht 0 (by decide)) (nb01 N 12)]
  have z : (worthTo (bs.drop 12) 0).sum = 0 := rfl
  rw [z]
  omega
end Mine
end partB3
section partWy
open PySem PySem.W PySem.Calls PyProof.Rows
set_option Elab.async false
namespace Mine
set_option maxRecDepth 100000
set_option maxHeartbeats 2000000
theorem str_ext {x y : Str} (h : x.cps.toList = y.cps.toList) : x = y := by
  obtain ⟨x⟩ := x; obtain ⟨y⟩ := y; exact congrArg Str.mk (Array.toList_inj.mp h)
theorem toL_append (x y : Str) : (x ++ y).cps.toList = x.cps.toList ++ y.cps.toList := by
  obtain ⟨x⟩ := x; obtain ⟨y⟩ := y; exact Array.toList_append ..
/-- a name: some signs, none of them '/', and not '.' -/
noncomputable def Nm (n : Str) : Prop := n = "a" ∨ n = "ab" ∨ n = "b"
theorem nameS_nm (x : Int) : Nm (nameS x) := by
  unfold nameS
  by_cases h1 : (x.fdiv 20).fmod 3 = 0
  · rw [if_pos h1]; exact .inl rfl
  · rw [if_neg h1]
    by_cases h2 : (x.fdiv 20).fmod 3 = 1
    · rw [if_pos h2]; exact .inr (.inl rfl)
    · rw [if_neg h2]; exact .inr (.inr rfl)
theorem nm_free {n : Str} (h : Nm n) : 47 ∉ n.cps.toList := by rcases h with rfl | rfl | rfl <;> decide
theorem nm_last {n : Str} (h : Nm n) : ∃ p c, n.cps.toList = p ++ [c] ∧ c ≠ 47 := by
  rcases h with rfl | rfl | rfl
  · exact ⟨[], 97, by decide, by decide⟩
  · exact ⟨[97], 98, by decide, by decide⟩
  · exact ⟨[], 98, by decide, by decide⟩
theorem nm_head {n : Str} (h : Nm n) : ∃ p c, n.cps.toList = c :: p ∧ c ≠ 47 := by
  rcases h with rfl | rfl | rfl
  · exact ⟨[], 97, by decide, by decide⟩
  · exact ⟨[98], 97, by decide, by decide⟩
  · exact ⟨[], 98, by decide, by decide⟩
theorem nm_len {n : Str} (h : Nm n) : n.length ≤ 2 := by rcases h with rfl | rfl | rfl <;> decide
theorem nm_keep {n : Str} (h : Nm n) : keepC n = true := by rcases h with rfl | rfl | rfl <;> decide
noncomputable def WL (cs : List Str) : List Nat := cs.flatMap fun c => 47 :: c.cps.toList
noncomputable def wayC (cs : List Str) : Str := ⟨(if cs = [] then [47] else WL cs).toArray⟩
theorem WL_snoc (cs : List Str) (c : Str) : WL (cs ++ [c]) = WL cs ++ 47 :: c.cps.toList := by unfold WL; rw [List.flatMap_append]; simp
theorem WL_cons (cs : List Str) (c : Str) : WL (c :: cs) = 47 :: c.cps.toList ++ WL cs := by unfold WL; rw [List.flatMap_cons]
theorem wayC_nil : wayC [] = "/" := by decide
theorem wayC_list {cs : List Str} (h : cs ≠ []) : (wayC cs).cps.toList = WL cs := by unfold wayC; rw [if_neg h]
theorem wayC_snoc_list (cs : List Str) (c : Str) : (wayC (cs ++ [c])).cps.toList = WL cs ++ 47 :: c.cps.toList := by rw [wayC_list (by simp), WL_snoc]
theorem sl : (Str.ofString "/") = (⟨#[47]⟩ : Str) := by decide
theorem at_iff (x : Str) (i : Nat) : StrLaws.At x (Str.ofString "/") x.length i ↔ x.cps.toList[i]? = some 47 := by
  rw [sl]; exact StrLaws.subAt_one x 47 i
theorem wayC_len (cs : List Str) (h : ∀ c ∈ cs, Nm c) : (wayC cs).length ≤ 1 + 3 * cs.length := by
  cases cs with
  | nil => decide
  | cons c cs =>
    show (wayC (c :: cs)).cps.size ≤ _
    rw [← Array.length_toList, wayC_list (by simp)]
    have : ∀ l : List Str, (∀ c ∈ l, Nm c) → (WL l).length ≤ 3 * l.length := by
      intro l
      induction l with
      | nil => intro _; exact Nat.le_refl _
      | cons x r ih =>
        intro hx
        rw [WL_cons, List.length_append, List.length_cons, List.length_cons, Array.length_toList]
        have h1 := ih fun c hc => hx c (List.mem_cons_of_mem _ hc)
        have h2 : x.cps.size ≤ 2 := nm_len (hx x List.mem_cons_self)
        omega
    have := this (c :: cs) h
    omega
theorem wayC_start (cs : List Str) : Txt.startswith (wayC cs) (Str.ofString "/") = true := by
  have h : (wayC cs).cps.toList[0]? = some 47 := by
    cases cs with
    | nil => decide
    | cons c cs => rw [wayC_list (by simp), WL_cons]; rfl
  have := (at_iff (wayC cs) 0).mpr h
  unfold Txt.startswith
  rw [Bool.and_eq_true]
  exact ⟨decide_eq_true this.1, this.2⟩
theorem ends_iff (x : Str) (hx : 0 < x.length) : Txt.endswith x (Str.ofString "/") = true ↔ x.cps.toList[x.length - 1]? = some 47 := by
  rw [← at_iff x (x.length - 1)]
  have h1 : (Str.ofString "/").length = 1 := by decide
  unfold Txt.endswith StrLaws.At
  rw [Bool.and_eq_true, decide_eq_true_iff, h1]
  constructor
  · rintro ⟨a, b⟩; exact ⟨by omega, b⟩
  · rintro ⟨a, b⟩; exact ⟨by omega, b⟩
theorem join_way (cs : List Str) (n : Str) (h : ∀ c ∈ cs, Nm c) (hn : Nm n) : joinS (wayC cs) n = wayC (cs ++ [n]) := by
  have h1 : ¬ (Txt.startswith n "/" = true ∨ ((wayC cs).length : Int) = 0) := by
    rintro (e | e)
    · rcases hn with rfl | rfl | rfl <;> exact absurd e (by decide)
    · have e' : (wayC cs).length = 0 := Int.ofNat.inj e
      have := wayC_start cs
      unfold Txt.startswith at this
      rw [Bool.and_eq_true] at this
      have h2 := of_decide_eq_true this.1
      have h3 : (Str.ofString "/").length = 1 := by decide
      omega
  unfold joinS
  rw [if_neg h1]
  rcases List.eq_nil_or_concat cs with rfl | ⟨ds, m, rfl⟩
  · rw [wayC_nil, if_pos (by decide)]
    apply str_ext
    rw [toL_append, wayC_snoc_list]
    rfl
  · rw [List.concat_eq_append] at *
    have hm := h m (by simp)
    have hlen : 0 < (wayC (ds ++ [m])).length := by
      show 0 < (wayC (ds ++ [m])).cps.size
      rw [← Array.length_toList, wayC_snoc_list, List.length_append, List.length_cons]; omega
    rw [if_neg]
    · apply str_ext
      rw [toL_append, toL_append, wayC_snoc_list (ds ++ [m]), wayC_list (by simp)]
      rfl
    · intro e
      have e' := (ends_iff _ hlen).mp e
      obtain ⟨p, c, hp, hc⟩ := nm_last hm
      have hl : (wayC (ds ++ [m])).length = (WL ds ++ 47 :: p).length + 1 := by
        show (wayC (ds ++ [m])).cps.size = _
        rw [← Array.length_toList, wayC_snoc_list, hp]; simp; try omega
      rw [wayC_snoc_list, hp, hl, show WL ds ++ 47 :: (p ++ [c]) = (WL ds ++ 47 :: p) ++ [c] by simp, Nat.add_sub_cancel, List.getElem?_append_right (Nat.le_refl _), Nat.sub_self] at e'
      exact hc (Option.some.inj e')
theorem rfind_way (x : Str) (P N : List Nat) (hx : x.cps.toList = P ++ 47 :: N) (hN : 47 ∉ N) : Txt.rfind x (Str.ofString "/") = (P.length : Int) := by
  have hat : StrLaws.At x (Str.ofString "/") x.length P.length := by
    rw [at_iff, hx, List.getElem?_append_right (Nat.le_refl _), Nat.sub_self]; rfl
  rcases PyProof.Rows.rfind_whole x (Str.ofString "/") with ⟨_, h⟩ | ⟨i, hi, ha, hn⟩
  · exact absurd hat (h _)
  · rw [hi]
    have h1 : ¬ i < P.length := fun q => hn _ q hat
    rw [at_iff, hx] at ha
    by_cases h2 : i = P.length
    · rw [h2]
    · exfalso
      rw [List.getElem?_append_right (by omega)] at ha
      obtain ⟨j, hj⟩ : ∃ j, i - P.length = j + 1 := ⟨i - P.length - 1, by omega⟩
      rw [hj, List.getElem?_cons_succ] at ha
      exact hN (List.mem_of_getElem? ha)
theorem slice_take (x : Str) (j : Nat) (h : j ≤ x.cps.toList.length) : (Txt.slice x none (some (j : Int))).cps.toList = x.cps.toList.take j := by
  have e : Txt.slice x none (some (j : Int)) = StrLaws.sliceText x none (some (j : Int)) := rfl
  rw [e, StrLaws.sliceText_to ⟨by omega, by omega⟩]
  simp
theorem rstrip_list (x : Str) (P : List Nat) (c : Nat) (hc : c ≠ 47) (hx : x.cps.toList = P ++ [c] ++ [47]) : (Txt.rstripChars x (Str.ofString "/")).cps.toList = P ++ [c] := by
  unfold Txt.rstripChars
  rw [PyProof.Rows.stripBy_eq]
  have h0 : stripLo (Str.ofString "/").cps.contains false x = 0 := rfl
  rw [h0]
  have hl : x.length = P.length + 2 := by
    show x.cps.size = _
    rw [← Array.length_toList, hx]; simp
  have h1 : stripHi (Str.ofString "/").cps.contains true x 0 = P.length + 1 := by
    unfold stripHi
    rw [if_pos rfl, List.drop_zero, hx, hl]
    have e1 : (P ++ [c] ++ [47]).reverse = 47 :: c :: P.reverse := by simp
    rw [e1]
    have e2 : (Str.ofString "/").cps.contains 47 = true := by
      rw [sl]
      show (#[47] : Array Nat).contains 47 = true
      simp
    have e3 : (Str.ofString "/").cps.contains c = false := by
      rw [sl]
      show (#[47] : Array Nat).contains c = false
      simp [hc]
    rw [List.takeWhile_cons, e2, if_pos rfl, List.takeWhile_cons, e3]
    simp
  rw [h1]
  show (x.cps.extract 0 (P.length + 1)).toList = _
  rw [Array.toList_extract, hx]
  simp only [List.extract, List.drop_zero, Nat.sub_zero]
  have : (P ++ [c]).length = P.length + 1 := by simp
  rw [← this, List.take_left]
theorem dir_way (cs : List Str) (n : Str) (h : ∀ c ∈ cs, Nm c) (hn : Nm n) : dirS (wayC (cs ++ [n])) = wayC cs := by
  have hx := wayC_snoc_list cs n
  have hr := rfind_way _ _ _ hx (nm_free hn)
  have hs : (Txt.slice (wayC (cs ++ [n])) none (some (Txt.rfind (wayC (cs ++ [n])) (Str.ofString "/") + 1))).cps.toList = WL cs ++ [47] := by
    rw [hr, show ((WL cs).length : Int) + 1 = (((WL cs).length + 1 : Nat) : Int) by omega, slice_take _ _ (by rw [hx]; simp), hx]
    have e9 : (WL cs ++ [47]).length = (WL cs).length + 1 := by simp
    rw [show WL cs ++ 47 :: n.cps.toList = (WL cs ++ [47]) ++ n.cps.toList by simp, ← e9, List.take_left]
  unfold dirS
  generalize Txt.slice (wayC (cs ++ [n])) none (some (Txt.rfind (wayC (cs ++ [n])) (Str.ofString "/") + 1)) = hh at hs
  dsimp only
  have hl : hh.length = (WL cs).length + 1 := by show hh.cps.size = _; rw [← Array.length_toList, hs]; simp
  rcases List.eq_nil_or_concat cs with rfl | ⟨ds, m, rfl⟩
  · have e : hh = Str.ofString "/" := str_ext (by rw [hs]; rfl)
    rw [e, if_neg (by decide)]
    decide
  · rw [List.concat_eq_append] at *
    have hm := h m (by simp)
    obtain ⟨p, c, hp, hc⟩ := nm_last hm
    rw [if_pos]
    · apply str_ext
      have e1 : hh.cps.toList = (WL ds ++ 47 :: p) ++ [c] ++ [47] := by rw [hs, WL_snoc, hp]; simp
      rw [rstrip_list hh _ c hc e1, wayC_list (by simp), WL_snoc, hp]; simp
    · refine ⟨by rw [hl]; omega, ?_⟩
      have hne : hh ≠ Txt.mul (Str.ofString "/") (hh.length : Int) := by
        intro e
        have e2 := congrArg (fun z : Str => z.cps.toList) e
        change hh.cps.toList = (Txt.mul (Str.ofString "/") (hh.length : Int)).cps.toList at e2
        rw [sl, PyProof.Rows.mul_one_list, hs, WL_snoc, hp] at e2
        have : c ∈ List.replicate ((hh.length : Int)).toNat 47 := by rw [← e2]; simp
        exact hc (List.eq_of_mem_replicate this)
      simpa using hne
end Mine
end partWy
section partWz
open PySem PySem.W PySem.Calls PyProof.Rows
set_option Elab.async false
namespace Mine
set_option maxRecDepth 100000
set_option maxHeartbeats 2000000
noncomputable def JL : List Str → List Nat
  | [] => []
  | [x] => x.cps.toList
  | x :: y :: r => x.cps.toList ++ 47 :: JL (y :: r)
theorem join_list (l : List Str) : (Str.join (Str.ofString "/") l).cps.toList = JL l := by
  induction l with
  | nil => rfl
  | cons x r ih =>
    cases r with
    | nil => rfl
    | cons y r =>
      show (x ++ Str.ofString "/" ++ Str.join (Str.ofString "/") (y :: r)).cps.toList = _
      rw [toL_append, toL_append, ih]
      show x.cps.toList ++ [47] ++ JL (y :: r) = x.cps.toList ++ 47 :: JL (y :: r)
      simp
theorem cut_uniq {a b s t : List Nat} (ha : 47 ∉ a) (hb : 47 ∉ b) (h : a ++ 47 :: s = b ++ 47 :: t) : a = b ∧ s = t := by
  induction a generalizing b with
  | nil =>
    cases b with
    | nil => exact ⟨rfl, by simpa using h⟩
    | cons y b =>
      rw [List.nil_append, List.cons_append] at h
      injection h with h1 h2
      exact absurd (h1 ▸ List.mem_cons_self) hb
  | cons x a ih =>
    cases b with
    | nil =>
      rw [List.nil_append, List.cons_append] at h
      injection h with h1 h2
      exact absurd (h1 ▸ List.mem_cons_self) ha
    | cons y b =>
      rw [List.cons_append, List.cons_append] at h
      injection h with h1 h2
      obtain ⟨e1, e2⟩ := ih (fun q => ha (List.mem_cons_of_mem _ q)) (fun q => hb (List.mem_cons_of_mem _ q)) h2
      exact ⟨by rw [h1, e1], e2⟩
theorem JL_inj : ∀ l1 l2 : List Str, l1 ≠ [] → l2 ≠ [] → (∀ p ∈ l1, 47 ∉ p.cps.toList) → (∀ p ∈ l2, 47 ∉ p.cps.toList) → JL l1 = JL l2 → l1 = l2 := by
  intro l1
  induction l1 with
  | nil => intro l2 h; exact absurd rfl h
  | cons x r ih =>
    intro l2 _ h2 f1 f2 e
    cases l2 with
    | nil => exact absurd rfl h2
    | cons y s =>
      have fx := f1 x List.mem_cons_self
      have fy := f2 y List.mem_cons_self
      cases r with
      | nil =>
        cases s with
        | nil => rw [str_ext (show x.cps.toList = y.cps.toList from e)]
        | cons z s => exact absurd (show 47 ∈ x.cps.toList from (show x.cps.toList = y.cps.toList ++ 47 :: JL (z :: s) from e) ▸ (by simp)) fx
      | cons w r =>
        cases s with
        | nil => exact absurd (show 47 ∈ y.cps.toList from (show y.cps.toList = x.cps.toList ++ 47 :: JL (w :: r) from e.symm) ▸ (by simp)) fy
        | cons z s =>
          obtain ⟨e1, e2⟩ := cut_uniq fx fy (show x.cps.toList ++ 47 :: JL (w :: r) = y.cps.toList ++ 47 :: JL (z :: s) from e)
          rw [str_ext e1, ih (z :: s) (by simp) (by simp) (fun p hp => f1 p (List.mem_cons_of_mem _ hp)) (fun p hp => f2 p (List.mem_cons_of_mem _ hp)) e2]
theorem JL_way : ∀ cs : List Str, cs ≠ [] → 47 :: JL cs = WL cs := by
  intro cs
  induction cs with
  | nil => intro h; exact absurd rfl h
  | cons x r ih =>
    intro _
    cases r with
    | nil => rw [WL_cons]; unfold WL JL; simp
    | cons y r => rw [WL_cons, ← ih (by simp)]; rfl
theorem split_way (cs : List Str) (h : ∀ c ∈ cs, Nm c) : Txt.split (wayC cs) (Str.ofString "/") = if cs = [] then [Str.ofString "", Str.ofString ""] else Str.ofString "" :: cs := by
  have hj := StrLaws.join_split (wayC cs) (Str.ofString "/")
  have hf : ∀ p ∈ Txt.split (wayC cs) (Str.ofString "/"), 47 ∉ p.cps.toList := by rw [sl]; exact StrLaws.split_free (wayC cs) 47
  have hn : Txt.split (wayC cs) (Str.ofString "/") ≠ [] := by
    intro e
    have := PyProof.Rows.split_pos (wayC cs) (Str.ofString "/")
    rw [e] at this; exact absurd this (by decide)
  have he := congrArg (fun z : Str => z.cps.toList) hj
  change (Str.join (Str.ofString "/") (Txt.split (wayC cs) (Str.ofString "/"))).cps.toList = (wayC cs).cps.toList at he
  rw [join_list] at he
  refine JL_inj _ _ hn (by split <;> simp) hf ?_ (he.trans ?_)
  · intro p hp
    split at hp
    · simp only [List.mem_cons, List.not_mem_nil, or_false] at hp
      rcases hp with rfl | rfl <;> decide
    · rcases List.mem_cons.mp hp with rfl | hp
      · decide
      · exact nm_free (h p hp)
  · by_cases e : cs = []
    · subst e; rw [if_pos rfl]; decide
    · rw [if_neg e, wayC_list e, ← JL_way cs e]
      obtain ⟨x, r, rfl⟩ := List.exists_cons_of_ne_nil e
      rfl
theorem parts_way (cs : List Str) (h : ∀ c ∈ cs, Nm c) : parts (wayC cs) = cs := by
  unfold parts
  rw [split_way cs h]
  have h0 : keepC (Str.ofString "") = false := by decide
  by_cases e : cs = []
  · rw [if_pos e, e]; simp [List.filter_cons, h0]
  · rw [if_neg e, List.filter_cons, h0]
    exact List.filter_eq_self.mpr fun c hc => nm_keep (h c hc)
theorem way_inj {cs ds : List Str} (h : ∀ c ∈ cs, Nm c) (h' : ∀ c ∈ ds, Nm c) (e : wayC cs = wayC ds) : cs = ds := by
  rw [← parts_way cs h, ← parts_way ds h', e]
theorem slash_join (es : List Str) : Str.ofString "/" ++ Txt.join (Str.ofString "/") es = wayC es := by
  apply str_ext
  rw [toL_append, txt_join, join_list]
  by_cases e : es = []
  · subst e; decide
  · rw [wayC_list e, ← JL_way es e]; rfl
theorem com_way (cs ds : List Str) (h : ∀ c ∈ cs, Nm c) (h' : ∀ c ∈ ds, Nm c) : comS (wayC cs) (wayC ds) = wayC (cp cs ds) := by
  unfold comS
  rw [parts_way cs h, parts_way ds h', slash_join]
end Mine
end partWz
section partT1
open PySem PySem.W PySem.Calls PyProof.Rows
set_option Elab.async false
namespace Mine
set_option maxRecDepth 100000
set_option maxHeartbeats 2000000
/-- the names from the root down to place k -/
noncomputable def compsN (rs : List Row) : Nat → Nat → List Str
  | 0, _ => []
  | n + 1, k => if k = 0 then [] else compsN rs n (rs.getD k row0).1.toNat ++ [(rs.getD k row0).2.1]
noncomputable def comps (rs : List Row) (k : Nat) : List Str := compsN rs k k
/-- fathers stand ahead -/
noncomputable def Ahead (rs : List Row) : Prop := ∀ k, 0 < k → k < rs.length → 0 ≤ (rs.getD k row0).1 ∧ (rs.getD k row0).1 < k
theorem compsN_fuel {rs : List Row} (h : Ahead rs) : ∀ n k, k < rs.length → k ≤ n → compsN rs n k = comps rs k := by
  intro n
  induction n using Nat.strongRecOn with
  | _ n ih =>
    intro k hk hn
    unfold comps
    cases n with
    | zero => obtain rfl : k = 0 := by omega
              rfl
    | succ n =>
      cases k with
      | zero => unfold compsN; rfl
      | succ k =>
        unfold compsN
        rw [if_neg (by omega), if_neg (by omega)]
        have hf := h (k + 1) (by omega) hk
        by_cases e : k = n
        · rw [e]
        · rw [ih n (by omega) _ (by omega) (by omega), ih k (by omega) _ (by omega) (by omega)]
theorem comps_zero (rs : List Row) : comps rs 0 = [] := rfl
theorem comps_step {rs : List Row} (h : Ahead rs) {k : Nat} (h0 : 0 < k) (hk : k < rs.length) : comps rs k = comps rs (rs.getD k row0).1.toNat ++ [(rs.getD k row0).2.1] := by
  obtain ⟨j, rfl⟩ : ∃ j, k = j + 1 := ⟨k - 1, by omega⟩
  have hf := h (j + 1) (by omega) hk
  show compsN rs (j + 1) (j + 1) = _
  rw [show compsN rs (j + 1) (j + 1) = if j + 1 = 0 then [] else compsN rs j (rs.getD (j + 1) row0).1.toNat ++ [(rs.getD (j + 1) row0).2.1] from rfl, if_neg (by omega), compsN_fuel h j _ (by omega) (by omega)]
theorem comps_congr {rs rs' : List Row} (h : Ahead rs) (h' : Ahead rs') (K : Nat) (hK : K ≤ rs.length) (hK' : K ≤ rs'.length)
    (e : ∀ k, k < K → (rs.getD k row0).1 = (rs'.getD k row0).1 ∧ (rs.getD k row0).2.1 = (rs'.getD k row0).2.1) : ∀ k, k < K → comps rs k = comps rs' k := by
  intro k
  induction k using Nat.strongRecOn with
  | _ k ih =>
    intro hk
    by_cases h0 : k = 0
    · subst h0; rfl
    · have hf := h k (by omega) (by omega)
      rw [comps_step h (by omega) (by omega), comps_step h' (by omega) (by omega), (e k hk).1.symm, (e k hk).2.symm, ih _ (by omega) (by omega)]
theorem setAll_get (r : Row) : ∀ (th : List Int) (rs : List Row) (k : Nat), k < rs.length → (setAll r th rs).getD k row0 = if ∃ c ∈ th, c.toNat = k then r else rs.getD k row0 := by
  intro th
  induction th with
  | nil => intro rs k hk; rw [if_neg (by simp)]; rfl
  | cons c th ih =>
    intro rs k hk
    show (setAll r th (rs.set c.toNat r)).getD k row0 = _
    rw [ih (rs.set c.toNat r) k (by rw [List.length_set]; exact hk)]
    by_cases h1 : ∃ c ∈ th, c.toNat = k
    · rw [if_pos h1, if_pos (by obtain ⟨d, hd, e⟩ := h1; exact ⟨d, List.mem_cons_of_mem _ hd, e⟩)]
    · rw [if_neg h1]
      by_cases h2 : c.toNat = k
      · rw [if_pos ⟨c, List.mem_cons_self, h2⟩, h2, List.getD_eq_getElem?_getD, List.getElem?_set_self hk]; rfl
      · rw [if_neg (by
          rintro ⟨d, hd, e⟩
          rcases List.mem_cons.mp hd with rfl | hd
          · exact h2 e
          · exact h1 ⟨d, hd, e⟩), List.getD_eq_getElem?_getD, List.getElem?_set_ne h2, List.getD_eq_getElem?_getD]
theorem mem_there (rs : List Row) (r : Row) (n : Nat) (c : Int) : c ∈ thereTo rs r n ↔ ∃ k : Nat, k < n ∧ c = 1 + (k : Int) ∧ sameKey (rs.getD (k + 1) row0) r = true := by
  unfold thereTo
  rw [List.mem_map]
  constructor
  · rintro ⟨k, hk, rfl⟩
    rw [List.mem_filter, List.mem_range] at hk
    exact ⟨k, hk.1, rfl, hk.2⟩
  · rintro ⟨k, h1, rfl, h2⟩
    exact ⟨k, by rw [List.mem_filter, List.mem_range]; exact ⟨h1, h2⟩, rfl⟩
noncomputable def Hit (rs : List Row) (r : Row) (k : Nat) : Prop := 0 < k ∧ k < rs.length ∧ sameKey (rs.getD k row0) r = true
theorem put_new {rs : List Row} {r : Row} (h : ∀ k, ¬ Hit rs r k) : putRow rs r = rs ++ [r] := by
  have e : thereTo rs r (rs.length - 1) = [] := by
    cases e : thereTo rs r (rs.length - 1) with
    | nil => rfl
    | cons c l =>
      have : c ∈ thereTo rs r (rs.length - 1) := by rw [e]; exact List.mem_cons_self
      obtain ⟨k, hk, _, hs⟩ := (mem_there _ _ _ _).mp this
      exact absurd ⟨by omega, by omega, hs⟩ (h (k + 1))
  unfold putRow
  rw [e, if_pos rfl]; rfl
theorem put_old {rs : List Row} {r : Row} {k : Nat} (h : Hit rs r k) : (putRow rs r).length = rs.length ∧ ∀ j, j < rs.length → ((Hit rs r j → (putRow rs r).getD j row0 = r) ∧ (¬ Hit rs r j → (putRow rs r).getD j row0 = rs.getD j row0)) := by
  have hm : ((k : Nat) : Int) ∈ thereTo rs r (rs.length - 1) := (mem_there _ _ _ _).mpr ⟨k - 1, by have := h.1; have := h.2.1; omega, by have := h.1; omega, by rw [show k - 1 + 1 = k by have := h.1; omega]; exact h.2.2⟩
  have e : thereTo rs r (rs.length - 1) ≠ [] := fun q => by rw [q] at hm; exact absurd hm (by simp)
  unfold putRow
  rw [if_neg e]
  refine ⟨setAll_len r _ rs, fun j hj => ?_⟩
  rw [setAll_get r _ rs j hj]
  constructor
  · intro hh
    rw [if_pos]
    exact ⟨((j : Nat) : Int), (mem_there _ _ _ _).mpr ⟨j - 1, by have := hh.1; have := hh.2.1; omega, by have := hh.1; omega, by rw [show j - 1 + 1 = j by have := hh.1; omega]; exact hh.2.2⟩, by omega⟩
  · intro hh
    rw [if_neg]
    rintro ⟨c, hc, e⟩
    obtain ⟨i, hi, rfl, hs⟩ := (mem_there _ _ _ _).mp hc
    have : j = i + 1 := by omega
    subst this
    exact hh ⟨by omega, by omega, hs⟩
end Mine
end partT1
section partT2
open PySem PySem.W PySem.Calls PyProof.Rows
set_option Elab.async false
namespace Mine
set_option maxRecDepth 100000
set_option maxHeartbeats 2000000
theorem any_mode (md : List (Str × Int)) (k : Str) : md.any (fun kv => decide (kv.1 = k)) = (modeAt md k).isSome := by
  unfold modeAt
  induction md with
  | nil => rfl
  | cons p r ih =>
    rw [List.any_cons, List.find?_cons]
    by_cases h : p.1 = k
    · rw [decide_eq_true h]; rfl
    · rw [decide_eq_false h, Bool.false_or, ih]
theorem mode_map_same (md : List (Str × Int)) (k : Str) (x : Int) (h : (modeAt md k).isSome = true) : modeAt (md.map fun kv => if kv.1 = k then (kv.1, x) else kv) k = some x := by
  unfold modeAt at *
  induction md with
  | nil => exact absurd h (by simp)
  | cons p r ih =>
    rw [List.map_cons, List.find?_cons]
    rw [List.find?_cons] at h
    by_cases hp : p.1 = k
    · rw [if_pos hp, decide_eq_true (show (p.1, x).1 = k from hp)]; rfl
    · rw [if_neg hp, decide_eq_false hp]
      rw [decide_eq_false hp] at h
      exact ih h
theorem mode_map_other (md : List (Str × Int)) (k k' : Str) (x : Int) (hk : k' ≠ k) : modeAt (md.map fun kv => if kv.1 = k then (kv.1, x) else kv) k' = modeAt md k' := by
  unfold modeAt
  induction md with
  | nil => rfl
  | cons p r ih =>
    rw [List.map_cons, List.find?_cons, List.find?_cons]
    by_cases hp : p.1 = k
    · rw [if_pos hp]; show Option.map _ (match decide (p.1 = k') with | true => some (p.1, x) | false => _) = _; rw [decide_eq_false (show ¬ p.1 = k' from fun e => hk (e.symm.trans hp))]
      exact ih
    · rw [if_neg hp]
      by_cases hq : p.1 = k'
      · rw [decide_eq_true hq]
      · rw [decide_eq_false hq]; exact ih
theorem mode_app (md : List (Str × Int)) (k k' : Str) (x : Int) : modeAt (md ++ [(k, x)]) k' = (modeAt md k').or (if k = k' then some x else none) := by
  unfold modeAt
  induction md with
  | nil =>
    rw [List.nil_append, List.find?_cons]
    by_cases h : k = k'
    · rw [decide_eq_true h, if_pos h]; rfl
    · rw [decide_eq_false h, if_neg h]; rfl
  | cons p r ih =>
    rw [List.cons_append, List.find?_cons, List.find?_cons]
    by_cases h : p.1 = k'
    · rw [decide_eq_true h]; rfl
    · rw [decide_eq_false h]; exact ih
theorem put_same (md : List (Str × Int)) (k : Str) (x : Int) : modeAt (putMode md k x) k = some x := by
  unfold putMode
  rw [any_mode]
  cases h : (modeAt md k).isSome with
  | true => rw [if_pos rfl]; exact mode_map_same md k x h
  | false =>
    rw [if_neg Bool.false_ne_true, mode_app, if_pos rfl]
    cases e : modeAt md k with
    | none => rfl
    | some y => rw [e] at h; cases h
theorem put_other (md : List (Str × Int)) (k k' : Str) (x : Int) (hk : k' ≠ k) : modeAt (putMode md k x) k' = modeAt md k' := by
  unfold putMode
  split
  · exact mode_map_other md k k' x hk
  · rw [mode_app, if_neg (fun e => hk e.symm)]; cases modeAt md k' <;> rfl
theorem put_len_old {md : List (Str × Int)} {k : Str} {x : Int} (h : (modeAt md k).isSome = true) : (putMode md k x).length = md.length := by
  unfold putMode
  rw [any_mode, h, if_pos rfl, List.length_map]
theorem put_len_new {md : List (Str × Int)} {k : Str} {x : Int} (h : (modeAt md k).isSome = false) : (putMode md k x).length = md.length + 1 := by
  unfold putMode
  rw [any_mode, h, if_neg Bool.false_ne_true, List.length_append, List.length_singleton]
structure Inv (rs : List Row) (ws : List Str) (md : List (Str × Int)) : Prop where
  pos : 0 < rs.length
  ahead : Ahead rs
  root : rs.getD 0 row0 = (0, Str.ofString "", 16877)
  nm : ∀ k, 0 < k → k < rs.length → Nm (rs.getD k row0).2.1
  wl : ws.length = rs.length
  we : ∀ k, k < rs.length → ws[k]? = some (wayC (comps rs k))
  inj : ∀ j k, j < rs.length → k < rs.length → comps rs j = comps rs k → j = k
  ml : md.length = rs.length
  me : ∀ k, k < rs.length → modeAt md (wayC (comps rs k)) = some (rs.getD k row0).2.2
  key : ∀ w x, modeAt md w = some x → ∃ k, k < rs.length ∧ w = wayC (comps rs k)
  nn : ∀ k, k < rs.length → 0 ≤ (rs.getD k row0).2.2
theorem comps_nm {rs : List Row} (h : Ahead rs) (hn : ∀ k, 0 < k → k < rs.length → Nm (rs.getD k row0).2.1) : ∀ k, k < rs.length → ∀ c ∈ comps rs k, Nm c := by
  intro k
  induction k using Nat.strongRecOn with
  | _ k ih =>
    intro hk c hc
    by_cases h0 : k = 0
    · subst h0; exact absurd hc (by rw [comps_zero]; simp)
    · have hf := h k (by omega) hk
      rw [comps_step h (by omega) hk] at hc
      rcases List.mem_append.mp hc with q | q
      · exact ih _ (by omega) (by omega) c q
      · rw [List.mem_singleton.mp q]; exact hn k (by omega) hk
theorem inv_start : Inv [(0, Str.ofString "", 16877)] [("/" : Str)] [(("/" : Str), 16877)] := by
  have one : ∀ k, k < ([(0, Str.ofString "", 16877)] : List Row).length → k = 0 := fun k hk => by have : k < 1 := hk; omega
  refine ⟨by decide, fun k h0 hk => absurd (one k hk) (by omega), rfl, fun k h0 hk => absurd (one k hk) (by omega), rfl, fun k hk => ?_, fun j k hj hk _ => (one j hj).trans (one k hk).symm, rfl, fun k hk => ?_, fun w x h => ?_, fun k hk => ?_⟩
  · rw [one k hk, comps_zero, wayC_nil]; rfl
  · rw [one k hk, comps_zero, wayC_nil]; decide
  · refine ⟨0, by decide, ?_⟩
    rw [comps_zero, wayC_nil]
    unfold modeAt at h
    rw [List.find?_cons] at h
    by_cases e : ("/" : Str) = w
    · exact e.symm
    · rw [decide_eq_false e] at h; exact absurd h (by simp)
  · rw [one k hk]; decide
end Mine
end partT2
section partT3
open PySem PySem.W PySem.Calls PyProof.Rows
set_option Elab.async false
namespace Mine
set_option maxRecDepth 100000
set_option maxHeartbeats 2000000
theorem same_iff (a b : Row) : sameKey a b = true ↔ a.1 = b.1 ∧ a.2.1 = b.2.1 := by
  unfold sameKey
  rw [Bool.and_eq_true, beq_iff_eq, beq_iff_eq]
theorem modeI_nonneg (x : Int) : 0 ≤ modeI x := Int.fmod_nonneg_of_pos _ (by decide)
theorem Inv.way {rs : List Row} {ws : List Str} {md : List (Str × Int)} (I : Inv rs ws md) (x : Int) :
    0 ≤ x.fmod rs.length ∧ x.fmod rs.length < rs.length ∧ wayOf (ws, md) x = wayC (comps rs (x.fmod rs.length).toNat ++ [nameS x]) := by
  have hp := I.pos
  have h0 : 0 ≤ x.fmod rs.length := Int.fmod_nonneg_of_pos _ (by omega)
  have h1 : x.fmod rs.length < rs.length := Int.fmod_lt_of_pos _ (by omega)
  refine ⟨h0, h1, ?_⟩
  unfold wayOf
  dsimp only
  rw [I.wl, List.getD_eq_getElem?_getD, I.we _ (by omega)]
  exact join_way _ _ (comps_nm I.ahead I.nm _ (by omega)) (nameS_nm x)
theorem Inv.step {rs : List Row} {ws : List Str} {md : List (Str × Int)} (I : Inv rs ws md) (x : Int) :
    Inv (rowsStep rs x) (treeStep (ws, md) x).1 (treeStep (ws, md) x).2 := by
  have hp := I.pos
  obtain ⟨h0, h1, hw⟩ := I.way x
  have hwl := I.wl
  have hml := I.ml
  unfold rowsStep treeStep
  rw [hw]
  dsimp only
  generalize hr : ((x.fmod rs.length, nameS x, modeI x) : Row) = r
  have r1 : r.1 = x.fmod rs.length := by rw [← hr]
  have r2 : r.2.1 = nameS x := by rw [← hr]
  have r3 : r.2.2 = modeI x := by rw [← hr]
  have hn : Nm r.2.1 := by rw [r2]; exact nameS_nm x
  have hm : 0 ≤ r.2.2 := by rw [r3]; exact modeI_nonneg x
  rw [← r1, ← r2, ← r3]
  rw [← r1] at h0 h1
  clear hr r1 r2 r3 hw
  have cnm := comps_nm I.ahead I.nm
  have hcf : ∀ c ∈ comps rs r.1.toNat ++ [r.2.1], Nm c := by
    intro c hc
    rcases List.mem_append.mp hc with q | q
    · exact cnm _ (by omega) c q
    · rw [List.mem_singleton.mp q]; exact hn
  by_cases hit : ∃ k, Hit rs r k
  · obtain ⟨k, hk⟩ := hit
    have sk := (same_iff _ _).mp hk.2.2
    have ck : comps rs k = comps rs r.1.toNat ++ [r.2.1] := by rw [comps_step I.ahead hk.1 hk.2.1, sk.1, sk.2]
    obtain ⟨pl, pg⟩ := put_old hk
    have hhk : ∀ j, j < rs.length → Hit rs r j → j = k := by
      intro j hj hjj
      have sj := (same_iff _ _).mp hjj.2.2
      refine I.inj j k hj hk.2.1 ?_
      rw [ck, comps_step I.ahead hjj.1 hj, sj.1, sj.2]
    have keyf : ∀ j, j < rs.length → ((putRow rs r).getD j row0).1 = (rs.getD j row0).1 ∧ ((putRow rs r).getD j row0).2.1 = (rs.getD j row0).2.1 := by
      intro j hj
      by_cases q : Hit rs r j
      · have sj := (same_iff _ _).mp q.2.2
        rw [(pg j hj).1 q]; exact ⟨sj.1.symm, sj.2.symm⟩
      · rw [(pg j hj).2 q]; exact ⟨rfl, rfl⟩
    have ah : Ahead (putRow rs r) := fun j j0 hj => by rw [pl] at hj; rw [(keyf j hj).1]; exact I.ahead j j0 hj
    have cc : ∀ j, j < rs.length → comps (putRow rs r) j = comps rs j := fun j hj =>
      (comps_congr I.ahead ah rs.length (Nat.le_refl _) (by rw [pl]; exact Nat.le_refl _) (fun i hi => ⟨(keyf i hi).1.symm, (keyf i hi).2.symm⟩) j hj).symm
    have hsome : (modeAt md (wayC (comps rs r.1.toNat ++ [r.2.1]))).isSome = true := by rw [← ck, I.me k hk.2.1]; rfl
    rw [if_pos hsome]
    refine ⟨by rw [pl]; exact hp, ah, ?_, fun j j0 hj => ?_, by rw [pl]; exact hwl, fun j hj => ?_, fun i j hi hj e => ?_, by rw [put_len_old hsome, pl]; exact hml, fun j hj => ?_, fun w y hwy => ?_, fun j hj => ?_⟩
    · rw [(pg 0 hp).2 (fun q => absurd q.1 (Nat.lt_irrefl _))]; exact I.root
    · rw [pl] at hj; rw [(keyf j hj).2]; exact I.nm j j0 hj
    · rw [pl] at hj; rw [cc j hj]; exact I.we j hj
    · rw [pl] at hi hj; rw [cc i hi, cc j hj] at e; exact I.inj i j hi hj e
    · rw [pl] at hj
      rw [cc j hj]
      by_cases q : j = k
      · rw [q, (pg k hk.2.1).1 hk, ck]; exact put_same _ _ _
      · rw [(pg j hj).2 (fun z => q (hhk j hj z)), put_other, I.me j hj]
        intro e
        rw [← ck] at e
        exact q (I.inj j k hj hk.2.1 (way_inj (cnm j hj) (cnm k hk.2.1) e))
    · rw [pl]
      by_cases q : w = wayC (comps rs r.1.toNat ++ [r.2.1])
      · exact ⟨k, hk.2.1, by rw [cc k hk.2.1, q, ck]⟩
      · rw [put_other _ _ _ _ q] at hwy
        obtain ⟨j, hj, e⟩ := I.key w y hwy
        exact ⟨j, hj, by rw [cc j hj]; exact e⟩
    · rw [pl] at hj
      by_cases q : Hit rs r j
      · rw [(pg j hj).1 q]; exact hm
      · rw [(pg j hj).2 q]; exact I.nn j hj
  · have hno : ∀ k, ¬ Hit rs r k := fun k q => hit ⟨k, q⟩
    rw [put_new hno]
    have hl : (rs ++ [r]).length = rs.length + 1 := by simp
    have g1 : ∀ j, j < rs.length → (rs ++ [r]).getD j row0 = rs.getD j row0 := fun j hj => by
      rw [List.getD_eq_getElem?_getD, List.getElem?_append_left hj, List.getD_eq_getElem?_getD]
    have g2 : (rs ++ [r]).getD rs.length row0 = r := by
      rw [List.getD_eq_getElem?_getD, List.getElem?_append_right (Nat.le_refl _), Nat.sub_self]; rfl
    have split : ∀ j, j < (rs ++ [r]).length → j < rs.length ∨ j = rs.length := fun j hj => by rw [hl] at hj; omega
    have ah : Ahead (rs ++ [r]) := fun j j0 hj => by
      rcases split j hj with q | q
      · rw [g1 j q]; exact I.ahead j j0 q
      · rw [q, g2]; exact ⟨h0, h1⟩
    have cc : ∀ j, j < rs.length → comps (rs ++ [r]) j = comps rs j := fun j hj =>
      (comps_congr I.ahead ah rs.length (Nat.le_refl _) (by omega) (fun i hi => by rw [g1 i hi]; exact ⟨rfl, rfl⟩) j hj).symm
    have cl : comps (rs ++ [r]) rs.length = comps rs r.1.toNat ++ [r.2.1] := by
      rw [comps_step ah hp (by omega), g2, cc _ (by omega)]
    have fresh : ∀ j, j < rs.length → comps rs j ≠ comps rs r.1.toNat ++ [r.2.1] := by
      intro j hj e
      by_cases j0 : j = 0
      · rw [j0, comps_zero] at e; exact absurd e (by simp)
      · have hf := I.ahead j (by omega) hj
        rw [comps_step I.ahead (by omega) hj] at e
        have e1 := List.append_inj' e rfl
        have e2 := I.inj _ _ (by omega) (by omega) e1.1
        have e3 : (rs.getD j row0).2.1 = r.2.1 := by simpa using e1.2
        exact hno j ⟨by omega, hj, (same_iff _ _).mpr ⟨by omega, e3⟩⟩
    have hnone : (modeAt md (wayC (comps rs r.1.toNat ++ [r.2.1]))).isSome = false := by
      cases e : modeAt md (wayC (comps rs r.1.toNat ++ [r.2.1])) with
      | none => rfl
      | some y =>
        obtain ⟨j, hj, e'⟩ := I.key _ _ e
        exact absurd (way_inj hcf (cnm j hj) e').symm (fresh j hj)
    rw [if_neg (by rw [hnone]; decide)]
    refine ⟨by omega, ah, ?_, fun j j0 hj => ?_, by rw [List.length_append, hl, hwl]; rfl, fun j hj => ?_, fun i j hi hj e => ?_, by rw [put_len_new hnone, hl, hml], fun j hj => ?_, fun w y hwy => ?_, fun j hj => ?_⟩
    · rw [g1 0 hp]; exact I.root
    · rcases split j hj with q | q
      · rw [g1 j q]; exact I.nm j j0 q
      · rw [q, g2]; exact hn
    · rcases split j hj with q | q
      · rw [cc j q, List.getElem?_append_left (by omega)]; exact I.we j q
      · rw [q, cl, ← hwl, List.getElem?_append_right (Nat.le_refl _), Nat.sub_self]; rfl
    · rcases split i hi with qi | qi <;> rcases split j hj with qj | qj
      · rw [cc i qi, cc j qj] at e; exact I.inj i j qi qj e
      · rw [cc i qi, qj, cl] at e; exact absurd e (fresh i qi)
      · rw [cc j qj, qi, cl] at e; exact absurd e.symm (fresh j qj)
      · rw [qi, qj]
    · rcases split j hj with q | q
      · rw [cc j q, g1 j q, put_other, I.me j q]
        intro e
        exact fresh j q (way_inj (cnm j q) hcf e)
      · rw [q, cl, g2]; exact put_same _ _ _
    · by_cases q : w = wayC (comps rs r.1.toNat ++ [r.2.1])
      · exact ⟨rs.length, by omega, by rw [cl]; exact q⟩
      · rw [put_other _ _ _ _ q] at hwy
        obtain ⟨j, hj, e⟩ := I.key w y hwy
        exact ⟨j, by omega, by rw [cc j hj]; exact e⟩
    · rcases split j hj with q | q
      · rw [g1 j q]; exact I.nn j q
      · rw [q, g2]; exact hm
theorem inv_of (ns : List Int) : Inv (rowsOf ns) (treeOf ns).1 (treeOf ns).2 := by
  have all : ∀ (l : List Int) (rs : List Row) (st : List Str × List (Str × Int)), Inv rs st.1 st.2 → Inv (l.foldl rowsStep rs) (l.foldl treeStep st).1 (l.foldl treeStep st).2 := by
    intro l
    induction l with
    | nil => intro rs st h; exact h
    | cons x l ih => intro rs st h; exact ih _ _ (h.step x)
  exact all ns _ _ inv_start
end Mine
end partT3
section partT4
open PySem PySem.W PySem.Calls PyProof.Rows
set_option Elab.async false
namespace Mine
set_option maxRecDepth 100000
set_option maxHeartbeats 2000000
theorem rowsOk_of {rs : List Row} {ws : List Str} {md : List (Str × Int)} (I : Inv rs ws md) (hl : rs.length < 100) : RowsOk rs := by
  refine ⟨I.pos, hl, fun k h0 h1 => ?_⟩
  unfold fatherOf
  by_cases hk : k = 0
  · subst hk
    have : (rs.getD (0 : Int).toNat ((0 : Int), ("" : Str), (0 : Int))) = (0, Str.ofString "", 16877) := I.root
    rw [this]; exact ⟨Int.le_refl _, .inl rfl⟩
  · have := I.ahead k.toNat (by omega) (by omega)
    exact ⟨this.1, .inr (by have h2 := this.2; rw [show ((k.toNat : Nat) : Int) = k by omega] at h2; exact h2)⟩
section
variable {rs : List Row} (ok : RowsOk rs)
include ok
theorem ch_zero : chainOf rs 0 = [0] := rfl
theorem ch_head : ∀ {k : Int}, 0 ≤ k → k < rs.length → ∃ t, chainOf rs k = k :: t := by
  intro k h0 h1
  by_cases hk : k = 0
  · subst hk; exact ⟨[], rfl⟩
  · exact ⟨_, chainOf_step ok h0 h1 hk⟩
theorem ch_le : ∀ (n : Nat) (k : Int), k.toNat = n → 0 ≤ k → k < rs.length → ∀ c ∈ chainOf rs k, 0 ≤ c ∧ c ≤ k := by
  intro n
  induction n using Nat.strongRecOn with
  | _ n ih =>
    intro k hn h0 h1 c hc
    by_cases hk : k = 0
    · subst hk
      rw [ch_zero ok] at hc
      rw [List.mem_singleton.mp hc]; omega
    · have hf := ok.2.2 k h0 h1
      have hf2 := hf.2.resolve_left hk
      rw [chainOf_step ok h0 h1 hk] at hc
      rcases List.mem_cons.mp hc with rfl | hc
      · omega
      · have := ih _ (by omega) (fatherOf rs k) rfl hf.1 (by omega) c hc
        omega
theorem ch_split : ∀ (n : Nat) (b : Int), b.toNat = n → 0 ≤ b → b < rs.length → ∀ a ∈ chainOf rs b, ∃ Q, chainOf rs b = Q ++ chainOf rs a ∧ ∀ q ∈ Q, a < q := by
  intro n
  induction n using Nat.strongRecOn with
  | _ n ih =>
    intro b hn h0 h1 a ha
    by_cases hab : a = b
    · subst hab; exact ⟨[], rfl, fun q hq => nomatch hq⟩
    · by_cases hb : b = 0
      · subst hb
        rw [ch_zero ok] at ha
        exact absurd (List.mem_singleton.mp ha) hab
      · have hf := ok.2.2 b h0 h1
        have hf2 := hf.2.resolve_left hb
        have hs := chainOf_step ok h0 h1 hb
        have ha' : a ∈ chainOf rs (fatherOf rs b) := by
          rw [hs] at ha
          exact (List.mem_cons.mp ha).resolve_left hab
        obtain ⟨Q, e, hQ⟩ := ih _ (by omega) (fatherOf rs b) rfl hf.1 (by omega) a ha'
        have hle := ch_le ok _ (fatherOf rs b) rfl hf.1 (by omega) a ha'
        refine ⟨b :: Q, by rw [hs, e]; rfl, fun q hq => ?_⟩
        rcases List.mem_cons.mp hq with rfl | hq
        · omega
        · exact hQ q hq
theorem ch_lca (b : Int) (b0 : 0 ≤ b) (b1 : b < rs.length) : ∀ (n : Nat) (a : Int), a.toNat = n → 0 ≤ a → a < rs.length →
    ∃ P Q c, chainOf rs a = P ++ chainOf rs c ∧ chainOf rs b = Q ++ chainOf rs c ∧ 0 ≤ c ∧ c < rs.length ∧ (∀ p ∈ P, p ∉ chainOf rs b) ∧ ∀ q ∈ Q, q ∉ chainOf rs a := by
  intro n
  induction n using Nat.strongRecOn with
  | _ n ih =>
    intro a hn h0 h1
    by_cases hm : a ∈ chainOf rs b
    · obtain ⟨Q, e, hQ⟩ := ch_split ok _ b rfl b0 b1 a hm
      refine ⟨[], Q, a, rfl, e, h0, h1, fun p hp => (nomatch hp), fun q hq hqa => ?_⟩
      have := hQ q hq
      have := ch_le ok _ a rfl h0 h1 q hqa
      omega
    · have ha : a ≠ 0 := fun e => hm (e ▸ chain_zero ok _ b b0 b1 rfl)
      have hf := ok.2.2 a h0 h1
      have hf2 := hf.2.resolve_left ha
      have hs := chainOf_step ok h0 h1 ha
      obtain ⟨P, Q, c, e1, e2, c0, c1, hP, hQ⟩ := ih _ (by omega) (fatherOf rs a) rfl hf.1 (by omega)
      refine ⟨a :: P, Q, c, by rw [hs, e1]; rfl, e2, c0, c1, fun p hp => ?_, fun q hq hqa => ?_⟩
      · rcases List.mem_cons.mp hp with rfl | hp
        · exact hm
        · exact hP p hp
      · rw [hs] at hqa
        rcases List.mem_cons.mp hqa with rfl | hqa
        · exact hm (e2 ▸ List.mem_append_left _ hq)
        · exact hQ q hq hqa
theorem ch_suffix : ∀ (P : List Int) (a p : Int) (T : List Int), 0 ≤ a → a < rs.length → chainOf rs a = P ++ p :: T → chainOf rs p = p :: T ∧ 0 ≤ p ∧ p < rs.length := by
  intro P
  induction P with
  | nil =>
    intro a p T h0 h1 e
    obtain ⟨t, ht⟩ := ch_head ok h0 h1
    rw [ht, List.nil_append] at e
    injection e with e1 e2
    subst e1 e2
    exact ⟨ht, h0, h1⟩
  | cons x P ih =>
    intro a p T h0 h1 e
    by_cases ha : a = 0
    · subst ha
      rw [ch_zero ok, List.cons_append] at e
      injection e with _ e2
      exact absurd e2.symm (by simp)
    · have hf := ok.2.2 a h0 h1
      have hf2 := hf.2.resolve_left ha
      rw [chainOf_step ok h0 h1 ha, List.cons_append] at e
      injection e with _ e2
      exact ih (fatherOf rs a) p T hf.1 (by omega) e2
end
theorem isIn_iff (ys : List Int) (c : Int) : isIn ys c = true ↔ c ∈ ys := by
  unfold isIn
  rw [List.any_eq_true]
  constructor
  · rintro ⟨x, hx, e⟩; rw [← eq_of_beq e]; exact hx
  · intro h; exact ⟨c, h, beq_self_eq_true c⟩
theorem line_eq {A B P Q C : List Int} (hA : A = P ++ C) (hB : B = Q ++ C) (hP : ∀ p ∈ P, p ∉ B) (hQ : ∀ q ∈ Q, q ∉ A) : lineOf A B = P ++ Q ++ [C.getD 0 0] := by
  have f1 : A.filter (notIn B) = P := by
    rw [hA, List.filter_append]
    have : P.filter (notIn B) = P := List.filter_eq_self.mpr fun p hp => by
      unfold notIn; cases e : isIn B p with
      | true => exact absurd ((isIn_iff _ _).mp e) (hP p hp)
      | false => rfl
    rw [this]
    have : C.filter (notIn B) = [] := List.filter_eq_nil_iff.mpr fun c hc => by
      unfold notIn; rw [(isIn_iff B c).mpr (hB ▸ List.mem_append_right _ hc)]; decide
    rw [this, List.append_nil]
  have f2 : B.filter (notIn A) = Q := by
    rw [hB, List.filter_append]
    have : Q.filter (notIn A) = Q := List.filter_eq_self.mpr fun p hp => by
      unfold notIn; cases e : isIn A p with
      | true => exact absurd ((isIn_iff _ _).mp e) (hQ p hp)
      | false => rfl
    rw [this]
    have : C.filter (notIn A) = [] := List.filter_eq_nil_iff.mpr fun c hc => by
      unfold notIn; rw [(isIn_iff A c).mpr (hA ▸ List.mem_append_right _ hc)]; decide
    rw [this, List.append_nil]
  have f3 : A.filter (isIn B) = C := by
    rw [hA, List.filter_append]
    have : P.filter (isIn B) = [] := List.filter_eq_nil_iff.mpr fun p hp q => hP p hp ((isIn_iff _ _).mp q)
    rw [this, List.nil_append]
    exact List.filter_eq_self.mpr fun c hc => (isIn_iff B c).mpr (hB ▸ List.mem_append_right _ hc)
  unfold lineOf
  rw [f1, f2, f3]
end Mine
end partT4
section partT5
open PySem PySem.W PySem.Calls PyProof.Rows
set_option Elab.async false
namespace Mine
set_option maxRecDepth 100000
set_option maxHeartbeats 2000000
noncomputable def nmOf (rs : List Row) (c : Int) : Str := (rs.getD c.toNat row0).2.1
theorem comps_up {rs : List Row} {ws : List Str} {md : List (Str × Int)} (I : Inv rs ws md) {k : Int} (h0 : 0 < k) (h1 : k < rs.length) : comps rs k.toNat = comps rs (fatherOf rs k).toNat ++ [nmOf rs k] :=
  comps_step I.ahead (by omega) (by omega)
theorem comps_chain {rs : List Row} {ws : List Str} {md : List (Str × Int)} (I : Inv rs ws md) (ok : RowsOk rs) (c : Int) (c0 : 0 ≤ c) (c1 : c < rs.length) :
    ∀ (P : List Int) (a : Int), 0 ≤ a → a < rs.length → chainOf rs a = P ++ chainOf rs c → comps rs a.toNat = comps rs c.toNat ++ P.reverse.map (nmOf rs) := by
  intro P
  induction P with
  | nil =>
    intro a h0 h1 e
    obtain ⟨t, ht⟩ := ch_head ok h0 h1
    obtain ⟨u, hu⟩ := ch_head ok c0 c1
    rw [List.nil_append, ht, hu] at e
    injection e with e1 _
    rw [e1]; simp
  | cons p P ih =>
    intro a h0 h1 e
    obtain ⟨u, hu⟩ := ch_head ok c0 c1
    by_cases ha : a = 0
    · subst ha
      rw [ch_zero ok, hu, List.cons_append] at e
      injection e with _ e2
      exact absurd e2.symm (by simp)
    · have hf := ok.2.2 a h0 h1
      have hf2 := hf.2.resolve_left ha
      rw [chainOf_step ok h0 h1 ha, List.cons_append] at e
      injection e with e1 e2
      subst e1
      rw [comps_up I (by omega) h1, ih (fatherOf rs a) hf.1 (by omega) e2, List.reverse_cons, List.map_append, List.append_assoc]
      rfl
theorem cp_app (X U V : List Str) : cp (X ++ U) (X ++ V) = X ++ cp U V := by
  induction X with
  | nil => rfl
  | cons x X ih =>
    show (if x = x then x :: cp (X ++ U) (X ++ V) else []) = _
    rw [if_pos rfl, ih]; rfl
theorem cp_diff {u v : Str} (U V : List Str) (h : u ≠ v) : cp (u :: U) (v :: V) = [] := by
  show (if u = v then u :: cp U V else []) = []
  rw [if_neg h]
theorem last_child {rs : List Row} (ok : RowsOk rs) {a c p : Int} {P : List Int} (h0 : 0 ≤ a) (h1 : a < rs.length) (c0 : 0 ≤ c) (c1 : c < rs.length) (e : chainOf rs a = (P ++ [p]) ++ chainOf rs c) :
    0 < p ∧ p < rs.length ∧ fatherOf rs p = c := by
  rw [List.append_assoc] at e
  obtain ⟨hs, p0, p1⟩ := ch_suffix ok P a p _ h0 h1 e
  obtain ⟨u, hu⟩ := ch_head ok c0 c1
  have hp : p ≠ 0 := by
    intro q
    subst q
    rw [ch_zero ok, hu] at hs
    injection hs with _ e2
    exact absurd e2 (by simp)
  have hf := ok.2.2 p p0 p1
  have hf2 := hf.2.resolve_left hp
  rw [chainOf_step ok p0 p1 hp] at hs
  injection hs with _ e2
  obtain ⟨v, hv⟩ := ch_head ok hf.1 (by omega : fatherOf rs p < rs.length)
  change chainOf rs (fatherOf rs p) = [] ++ chainOf rs c at e2
  rw [List.nil_append, hv, hu] at e2
  injection e2 with e3 _
  exact ⟨by omega, p1, e3⟩
theorem cp_lca {rs : List Row} {ws : List Str} {md : List (Str × Int)} (I : Inv rs ws md) (ok : RowsOk rs) {a b c : Int} {P Q : List Int} (a0 : 0 ≤ a) (a1 : a < rs.length) (b0 : 0 ≤ b) (b1 : b < rs.length) (c0 : 0 ≤ c) (c1 : c < rs.length)
    (e1 : chainOf rs a = P ++ chainOf rs c) (e2 : chainOf rs b = Q ++ chainOf rs c) (hP : ∀ p ∈ P, p ∉ chainOf rs b) : cp (comps rs a.toNat) (comps rs b.toNat) = comps rs c.toNat := by
  rw [comps_chain I ok c c0 c1 P a a0 a1 e1, comps_chain I ok c c0 c1 Q b b0 b1 e2, cp_app]
  have : cp (P.reverse.map (nmOf rs)) (Q.reverse.map (nmOf rs)) = [] := by
    rcases List.eq_nil_or_concat P with rfl | ⟨P', p, rfl⟩
    · cases Q.reverse.map (nmOf rs) <;> rfl
    rcases List.eq_nil_or_concat Q with rfl | ⟨Q', q, rfl⟩
    · cases (P'.concat p).reverse.map (nmOf rs) <;> rfl
    simp only [List.concat_eq_append] at e1 e2 hP ⊢
    obtain ⟨p0, p1, pf⟩ := last_child ok a0 a1 c0 c1 e1
    obtain ⟨q0, q1, qf⟩ := last_child ok b0 b1 c0 c1 e2
    rw [List.reverse_append, List.reverse_append]
    show cp (nmOf rs p :: _) (nmOf rs q :: _) = []
    apply cp_diff
    intro e
    have h1 := comps_up I p0 p1
    have h2 := comps_up I q0 q1
    rw [pf, e, ← qf, ← h2] at h1
    have := I.inj _ _ (by omega) (by omega) h1
    have hpq : p = q := by omega
    subst hpq
    exact hP p (List.mem_append_right _ (List.mem_singleton_self _)) (e2 ▸ List.mem_append_left _ (List.mem_append_right _ (List.mem_singleton_self _)))
  rw [this, List.append_nil]
/-- the modes as Nats, and the count of a bit over some places -/
noncomputable def mN (rs : List Row) (c : Int) : Nat := (modeOf rs c).toNat
noncomputable def cnt (rs : List Row) (l : List Int) (j : Nat) : Nat := (l.map fun c => nb (mN rs c) j).sum
theorem cnt_app (rs : List Row) (l m : List Int) (j : Nat) : cnt rs (l ++ m) j = cnt rs l j + cnt rs m j := by unfold cnt; rw [List.map_append, List.sum_append]
theorem cnt_cons (rs : List Row) (c : Int) (m : List Int) (j : Nat) : cnt rs (c :: m) j = nb (mN rs c) j + cnt rs m j := by unfold cnt; rw [List.map_cons, List.sum_cons]
theorem bit_cnt {rs : List Row} (nn : ∀ k, k < rs.length → 0 ≤ (rs.getD k row0).2.2) (j : Nat) : ∀ l : List Int, (∀ c ∈ l, 0 ≤ c ∧ c < rs.length) → bitOf rs l j = ((cnt rs l j % 2 : Nat) : Int) := by
  intro l hl
  unfold bitOf
  have key : ((l.map fun c => (modeOf rs c).fdiv (2 ^ j)).sum) % 2 = ((cnt rs l j : Nat) : Int) % 2 := by
    induction l with
    | nil => rfl
    | cons c l ih =>
      have hc := hl c List.mem_cons_self
      have h1 := ih fun d hd => hl d (List.mem_cons_of_mem _ hd)
      rw [List.map_cons, List.sum_cons, cnt_cons]
      have hm : modeOf rs c = ((mN rs c : Nat) : Int) := by
        have := nn c.toNat (by omega)
        unfold mN modeOf
        have : 0 ≤ (rs.getD c.toNat row0).2.2 := this
        omega
      have h2 : (modeOf rs c).fdiv (2 ^ j) = ((mN rs c / 2 ^ j : Nat) : Int) := by
        rw [hm, Int.fdiv_eq_ediv_of_nonneg _ (by exact Int.le_of_lt (Int.pow_pos (by decide)))]
        rw [Int.natCast_ediv]
        congr 1
      rw [h2]
      unfold nb
      omega
  rw [Int.fmod_eq_emod_of_nonneg _ (by decide), key]
  rfl
theorem comps_len {rs : List Row} {ws : List Str} {md : List (Str × Int)} (I : Inv rs ws md) : ∀ k, k < rs.length → (comps rs k).length ≤ k := by
  intro k
  induction k using Nat.strongRecOn with
  | _ k ih =>
    intro hk
    by_cases h0 : k = 0
    · subst h0; exact Nat.le_refl _
    · have hf := I.ahead k (by omega) hk
      have := ih (rs.getD k row0).1.toNat (by omega) (by omega)
      rw [comps_step I.ahead (by omega) hk, List.length_append, List.length_singleton]
      omega
theorem up_way {rs : List Row} {ws : List Str} {md : List (Str × Int)} (I : Inv rs ws md) (ok : RowsOk rs) : ∀ (n : Nat) (k : Int), k.toNat = n → 0 ≤ k → k < rs.length → ∀ x : Nat,
    ∃ (y : Nat) (m : Nat), UpM md (wayC (comps rs k.toNat)) (x : Int) (y : Int) m ∧ ∀ j, nb y j = (nb x j + cnt rs (chainOf rs k) j + nb (mN rs 0) j) % 2 := by
  intro n
  induction n using Nat.strongRecOn with
  | _ n ih =>
    intro k hn h0 h1 x
    have hl := ok.2.1
    by_cases hk : k = 0
    · subst hk
      refine ⟨x, 0, ?_, fun j => ?_⟩
      · rw [show (0 : Int).toNat = 0 from rfl, comps_zero, wayC_nil]; exact .done _
      · rw [ch_zero ok, cnt_cons]
        have : cnt rs [] j = 0 := rfl
        have h2 := nb_lt x j
        omega
    · have hf := ok.2.2 k h0 h1
      have hf2 := hf.2.resolve_left hk
      have hm : modeOf rs k = ((mN rs k : Nat) : Int) := by
        have := I.nn k.toNat (by omega)
        unfold mN modeOf
        have : 0 ≤ (rs.getD k.toNat row0).2.2 := this
        omega
      obtain ⟨y, m, hu, hy⟩ := ih _ (by omega) (fatherOf rs k) rfl hf.1 (by omega) (x ^^^ mN rs k)
      have hc := comps_up I (by omega : 0 < k) h1
      have cn := comps_nm I.ahead I.nm k.toNat (by omega)
      refine ⟨y, m + 1, .step (v := modeOf rs k) ?_ ?_ (I.me k.toNat (by omega)) ?_, fun j => ?_⟩
      · intro e
        rw [← wayC_nil] at e
        have := way_inj cn (by intro c hc; exact absurd hc (by simp)) e
        rw [hc] at this
        exact absurd this (by simp)
      · have h2 := wayC_len _ cn
        have h3 := comps_len I k.toNat (by omega)
        omega
      · have hd : dirS (wayC (comps rs (fatherOf rs k).toNat ++ [nmOf rs k])) = wayC (comps rs (fatherOf rs k).toNat) := dir_way _ _ (comps_nm I.ahead I.nm _ (by omega)) (I.nm k.toNat (by omega) (by omega))
        rw [hm, xor_nat, hc, hd]
        exact hu
      · rw [hy j, nb_xor, chainOf_step ok h0 h1 hk, cnt_cons]
        omega
theorem odd_get (rs : List Row) (a b : Int) (k : Nat) (hk : k < 16) : (oddBits rs a b).getD k 0 = bitOf rs (lineOf (chainOf rs a) (chainOf rs b)) k := by
  unfold oddBits
  rw [List.getD_eq_getElem?_getD, List.getElem?_map, List.getElem?_range hk]
  rfl
theorem pair_ok {rs : List Row} {ws : List Str} {md : List (Str × Int)} (I : Inv rs ws md) (ok : RowsOk rs) (a b : Int) (a0 : 0 ≤ a) (a1 : a < rs.length) (b0 : 0 ≤ b) (b1 : b < rs.length) : PairOk ws md rs a b := by
  have hl := ok.2.1
  obtain ⟨P, Q, c, e1, e2, c0, c1, hP, hQ⟩ := ch_lca ok b b0 b1 _ a rfl a0 a1
  have ca := comps_nm I.ahead I.nm a.toNat (by omega)
  have cb := comps_nm I.ahead I.nm b.toNat (by omega)
  obtain ⟨y1, n1, hu1, hy1⟩ := up_way I ok _ a rfl a0 a1 (mN rs 0)
  obtain ⟨y2, n2, hu2, hy2⟩ := up_way I ok _ b rfl b0 b1 (mN rs 0)
  have mnn : ∀ k : Int, 0 ≤ k → k < rs.length → modeOf rs k = ((mN rs k : Nat) : Int) := by
    intro k k0 k1
    have := I.nn k.toNat (by omega)
    unfold mN modeOf
    have : 0 ≤ (rs.getD k.toNat row0).2.2 := this
    omega
  have hz : Builtin.bitXor (Builtin.bitXor (y1 : Int) (y2 : Int)) (modeOf rs c) = (((y1 ^^^ y2) ^^^ mN rs c : Nat) : Int) := by
    rw [xor_nat, mnn c c0 c1, xor_nat]
  have hin : ∀ d ∈ lineOf (chainOf rs a) (chainOf rs b), 0 ≤ d ∧ d < rs.length := by
    rw [line_eq e1 e2 hP hQ]
    intro d hd
    rcases List.mem_append.mp hd with h | h
    · rcases List.mem_append.mp h with h | h
      · exact chain_in ok _ a a0 a1 rfl d (e1 ▸ List.mem_append_left _ h)
      · exact chain_in ok _ b b0 b1 rfl d (e2 ▸ List.mem_append_left _ h)
    · obtain ⟨u, hu⟩ := ch_head ok c0 c1
      rw [List.mem_singleton.mp h, hu]
      exact ⟨c0, c1⟩
  have hbits : ∀ k, k < 16 → (oddBits rs a b).getD k 0 = ((nb ((y1 ^^^ y2) ^^^ mN rs c) k : Nat) : Int) := by
    intro k hk
    rw [odd_get rs a b k hk, bit_cnt I.nn k _ hin, line_eq e1 e2 hP hQ, cnt_app, cnt_app, cnt_cons, nb_xor, nb_xor, hy1 k, hy2 k, e1, e2, cnt_app, cnt_app]
    obtain ⟨u, hu⟩ := ch_head ok c0 c1
    have h0 : cnt rs [] k = 0 := rfl
    rw [show (chainOf rs c).getD 0 0 = c by rw [hu]; rfl]
    congr 1
    omega
  refine ⟨wayC (comps rs a.toNat), wayC (comps rs b.toNat), modeOf rs 0, (y1 : Int), (y2 : Int), modeOf rs c, n1, n2, I.we _ (by omega), I.we _ (by omega), ?_, ?_, wayC_start _, wayC_start _, ?_, ?_, ?_, ?_, ?_, ?_, ?_, ?_, ?_⟩
  · have h2 := wayC_len _ ca
    have h3 := comps_len I a.toNat (by omega)
    omega
  · have h2 := wayC_len _ cb
    have h3 := comps_len I b.toNat (by omega)
    omega
  · have := I.me 0 I.pos
    rw [comps_zero, wayC_nil] at this
    exact this
  · rw [mnn 0 (by omega) (by have := I.pos; omega)]; exact hu1
  · rw [mnn 0 (by omega) (by have := I.pos; omega)]; exact hu2
  · rw [com_way _ _ ca cb, cp_lca I ok a0 a1 b0 b1 c0 c1 e1 e2 hP]
    exact I.me c.toNat (by omega)
  · intro k hk
    rw [hbits k hk]
    have := nb_lt ((y1 ^^^ y2) ^^^ mN rs c) k
    omega
  · rw [hz]; exact signs_law _ _ hbits
  · rw [hz, kind_k, sign0_law]
    unfold kindAt
    rw [hbits (Int.toNat 12) (by decide), hbits (Int.toNat 13) (by decide), hbits (Int.toNat 14) (by decide), hbits (Int.toNat 15) (by decide)]
    rfl
  · rw [hz]; exact low_law _ _ hbits
  · rw [hz]; exact high_law _ _ hbits
theorem plain_of (ns : List Int) (h : ns.length ≤ 50) : Plain ns := by
  have I := inv_of ns
  have hl : (rowsOf ns).length < 100 := by
    have := (tree_good ns ns.length (Nat.le_refl _)).len
    rw [List.take_length, I.wl] at this
    omega
  have ok := rowsOk_of I hl
  exact ⟨I.wl, I.ml, ok, fun a b a0 a1 b0 b1 => pair_ok I ok a b a0 a1 b0 b1⟩
end Mine
end partT5
open PySem PySem.W PySem.Calls PyProof.Rows in
theorem Mine.calmMn {prog : Program} {w : World} {A : Around} {E Q : Value → Shared → Prop} {s : Shared} (h : wpAny (model prog w) A (call (.builtin "zz") []) Q E s) : wpAny (model prog w) A (call (.builtin "zz") []) Q E s := by w_top off; first | (walk1; fail) | exact h
section partMn
open PySem PySem.W PySem.Calls PyProof.Rows
set_option Elab.async false
namespace Mine
set_option maxRecDepth 100000
set_option maxHeartbeats 2000000
theorem warmMn (w : World) : KK w.params = KK w.params ∧ PySem.Challenge.rw_in0209_01 = PySem.Challenge.rw_in0209_01 := by k_fill; exact ⟨rfl, rfl⟩
noncomputable def numsOf (ns : List Int) : List Int := [33188, 41471, 16893, 28132, 49663] ++ (ns.take 8).map fun a => a.fmod (10 ^ Int.toNat 6)
theorem nums_len (ns : List Int) : (numsOf ns).length ≤ 13 := by unfold numsOf; rw [List.length_append, List.length_map, List.length_take]; have : ([33188, 41471, 16893, 28132, 49663] : List Int).length = 5 := rfl; omega
theorem nums_bound (ns : List Int) : ∀ x ∈ numsOf ns, 0 ≤ x ∧ x < 1000000 := by
  intro x hx
  unfold numsOf at hx
  rcases List.mem_append.mp hx with h | h
  · simp only [List.mem_cons, List.not_mem_nil, or_false] at h; omega
  · obtain ⟨a, _, rfl⟩ := List.mem_map.mp h
    exact ⟨Int.fmod_nonneg_of_pos _ (by decide), Int.fmod_lt_of_pos _ (by decide)⟩
theorem plain_all (ns : List Int) : Plain (numsOf ns) := plain_of _ (Nat.le_trans (nums_len ns) (by decide))
theorem len_dict {prog : Program} {w : World} {A : Around} {E : Value → Shared → Prop} {s : Shared} {h₀ : Heap} {L d : Addr} {o : Obj} {news : List (Addr × Obj)} {kvs : List (Str × Value)} {n : Nat} {Q : Value → Shared → Prop} (N : News h₀ L s.heap news) (hp : (d, o) ∈ news) (hd : o.IsDictOf (PySem.strKind prog w) kvs) (lo : (d == sysModules) = false) (e : kvs.length = n) (hfit : n < 1000)
    (h : Q (.int n (s.toks + 1)) { s with toks := s.toks + 1 + 1 }) : wpAny (model prog w) A (call (.builtin "len") [.ref d]) Q E s := by
  subst e
  exact PySem.W.kda_len N hp hd lo (by omega) h
section
local macro_rules | `(tactic| walk_at "binaryOp Add ref ref") => `(tactic| refine hold ?_)
local macro_rules | `(tactic| walk_at "call ref") => `(tactic| (k_here; (with_reducible show wpAny _ _ (call (Value.ref 286) _) _ _ _); refine hold ?_))
local macro_rules | `(tactic| walk_at "call ref") => `(tactic| (k_here; (with_reducible show wpAny _ _ (call (Value.ref 310) _) _ _ _); refine hold ?_))
local macro_rules | `(tactic| walk_at "call ref") => `(tactic| (k_here; (with_reducible show wpAny _ _ (call (Value.ref 341) _) _ _ _); refine hold ?_))
local macro_rules | `(tactic| walk_at "exec For Name Call cons nil") => `(tactic| refine hold ?_)
local macro_rules | `(tactic| walk_at "pyIter ref") => `(tactic| ((with_reducible show wpAny _ _ (pyIter (Value.ref _)) (fun it s₂ => codeAny _ _ (Code.forLoop _ it _ _ _) _ s₂) _ _); refine hold ?_))
local macro_rules | `(tactic| walk_at "call builtin:len") => `(tactic| (k_here; (with_unfolding_all refine' len_dict (by k_asm) (by k_mem) (by assumption) (by assumption) (by assumption) (by omega) ?_); (try dsimp only)))
local macro_rules | `(tactic| walk_at "call builtin:len") => `(tactic| (k_here; (with_unfolding_all refine' len_of (News.lst (by k_asm) (by k_mem) rfl rfl) (by assumption) (by omega) ?_); (try dsimp only)))
theorem mainT : PySem.Challenge.rw_in0209_01.Holds := by
  refine holds_law wellSaid fun said => ?_
  refine holds_open (q := VV) (loose := [Str.ofString "_filemode_table"]) (Xt := XT) (XP := XL VV []) (Yf := Hook.obs HK) (Ya := Hook.val HK) (YP := Hook.says HK) (N := 4212) left (Hook.of HK) (Hook.keeps HK) (fun s e => xl_of s (Bool.and_eq_true_iff.mp e).1) XL.keeps (by rfl) (by rfl) (by rfl) (fun s e => recFacts_of (Bool.and_eq_true_iff.mp e).2) (by rfl) said okAll ⟨rfl, rfl, rfl, rfl, rfl, whole⟩ ?hw ?hc
  case hw => w_witness2
  clear said
  generalize hVV : VV = vv
  k_go0
  subst hVV
  k_steps
  unfold Hold
  rename Fr _ _ _ _ => F1
  rename News _ _ _ _ => N1
  rename CarriedAll _ _ => hCA
  rename NewPlain _ _ _ _ => hNP
  rename Heap.IsList _ _ _ => hD
  have hys := gn_ints hNP hCA (fun _ => rfl)
  refine add_own (ns := [33188, 41471, 16893, 28132, 49663]) F1 N1 (News.lst N1 (by k_mem) rfl rfl) hD (.cons _ _ (.cons _ _ (.cons _ _ (.cons _ _ (.cons _ _ .nil))))) hys (by rw [List.length_map, List.length_take]; have : ([33188, 41471, 16893, 28132, 49663] : List Int).length = 5 := rfl; omega) ?_
  intro nl h9 F2 N2 I2 Z2
  change IntsAre _ (numsOf _) at I2
  clear F1 N1 hNP hCA
  dsimp only
  k_steps
  unfold Hold
  rename Fr _ _ _ _ => F3
  rename News _ _ _ _ => N3
  generalize ([Value.int 33188 _, Value.int 41471 _, Value.int 16893 _, Value.int 28132 _, Value.int 49663 _] ++ _ : List Value) = vv at I2 N3
  have nl13 := nums_len
  refine Con.use (tree_con _ nl vv (numsOf _) I2 (Nat.le_trans (nums_len _) (by decide)) (nums_bound _)) (by k_asm) F3 (by k_asm) (by k_asm) rfl N3 (by first | omega | decide) (by first | omega | decide) (News.lst N3 (by k_mem) rfl rfl) ?_
  replace N3 : News _ _ _ [(nl, lstO vv 0)] := fun p hp => N3 p (by rw [List.mem_singleton.mp hp]; k_mem)
  rintro r h10 tk10 F4 N4 G4 ⟨tp, wl, dd, vsw, q, kvs, o, rfl, hO, hkv, hsw, lo, hnew⟩
  have N5 := news_app (news_new F3 hnew) (fun p hp => N4 p (by rw [List.mem_singleton.mp hp]; k_mem) : News _ _ _ [(nl, lstO vv 0)])
  simp only [List.cons_append, List.nil_append] at N5
  clear N3 N4 F3 hnew G4
  dsimp only
  k_steps
  unfold Hold
  rename Fr _ _ _ _ => F6
  rename News _ _ _ _ => N6
  refine Con.use (rows_con _ nl vv (numsOf _) I2 (Nat.le_trans (nums_len _) (by decide)) (nums_bound _)) (by k_asm) F6 (by k_asm) (by k_asm) rfl N6 (by first | omega | decide) (by first | omega | decide) (News.lst N6 (by k_mem) rfl rfl) ?_
  rintro r h11 tk11 F7 N7 G7 ⟨rl, vsr, q2, own, rfl, hown, hnew⟩
  have N8 := news_app N7 (news_new F6 hnew)
  have N9 : News _ _ _ ((dd, o) :: (wl, lstO vsw q) :: (rl, lstO vsr q2) :: own) := fun p hp => N8 p (by
    simp only [List.mem_cons, List.mem_append] at hp ⊢
    rcases hp with h | h | h | h
    · exact .inl (.inr (.inl h))
    · exact .inl (.inr (.inr (.inl h)))
    · exact .inr (.inl h)
    · exact .inr (.inr h))
  clear N7 N8 hnew F6 N6 G7
  rename List Int => nsV
  obtain ⟨pl1, pl2, ok, pair⟩ := plain_all nsV
  have lw := strsAre_length hsw
  have lk := kvIs_length hkv
  have lr := hown.1
  rw [pl1] at lw
  rw [pl2] at lk
  have hR := ok.2.1
  have hR0 := ok.1
  generalize rowsOf (numsOf nsV) = rs at *
  generalize hRL : rs.length = R at *
  dsimp only
  k_steps
  unfold Hold
  refine lp_for ?_
  k_steps
  unfold Hold
  rename IsRange _ _ _ _ _ _ _ _ => rgX
  rename Fr _ _ _ _ => FA
  rename News _ _ _ _ => NA
  obtain ⟨mq, FB⟩ : ∃ mq : Str → Option Value, Fr _ _ _ (fun y => if y = Str.ofString "rows" then some (.ref rl) else if y = Str.ofString "modes" then some (.ref dd) else if y = Str.ofString "ways" then some (.ref wl) else mq y) := ⟨_, FA⟩
  clear FA
  refine lp_range (n := R) rfl rgX (small_one (by decide) (by decide) (by omega) (by omega)) ((rangeSize_nat _ _).trans (by omega)) FB NA
    (fun i m news => news = (dd, o) :: (wl, lstO vsw q) :: (rl, lstO vsr q2) :: own ∧ ∀ z, z ≠ Str.ofString "k" → m z = if z = Str.ofString "rows" then some (.ref rl) else if z = Str.ofString "modes" then some (.ref dd) else if z = Str.ofString "ways" then some (.ref wl) else mq z) ⟨rfl, fun _ _ => rfl⟩ ?_ ?_ go_name2
  · rintro i tv m₁ news₁ h₁ tk₁ own0 I hi' ⟨rfl, hm⟩ hIn hin F₁ N₁
    clear FB NA
    have F₂ := Fr.as F₁ (map_one rfl hm)
    clear F₁
    simp only [List.cons_append] at N₁
    k_steps
    unfold Hold
    rename Fr _ _ _ _ => FC
    rename News _ _ _ _ => NC
    refine ConV.use (pair_con2 _ wl dd rl _ _ vsw kvs vsr rs _ _ _ _ hkv hsw ok (by omega) (by rw [hRL]; omega) (Int.fmod_nonneg_of_pos _ (by omega)) (by rw [hRL]; exact Int.fmod_lt_of_pos _ (by omega)) (pair _ _ (by omega) (by omega) (Int.fmod_nonneg_of_pos _ (by omega)) (Int.fmod_lt_of_pos _ (by omega)))) (by k_asm) FC (by k_asm) (by k_asm) rfl NC (by first | omega | decide) (by first | omega | decide) ⟨News.lst NC (by k_mem) rfl rfl, PySem.W.kda_dict NC (by k_mem) hO, News.lst NC (by k_mem) rfl rfl, rowsAre_of hown NC (fun p hp => List.mem_cons_of_mem _ (List.mem_cons_of_mem _ (List.mem_cons_of_mem _ (List.mem_append_left _ hp))))⟩ ?_
    intro hz tkz FD ND GD
    clear FC NC
    dsimp only
    k_steps
    refine LEnd.intro ((dd, o) :: (wl, lstO vsw q) :: (rl, lstO vsr q2) :: own) FD ND (fun p hp => List.mem_cons_of_mem _ (List.mem_cons_of_mem _ (List.mem_cons_of_mem _ (List.mem_append_right _ hp)))) (fun p hp => ?_) (fun p hp q => hIn p hp (List.mem_singleton.mp q)) ⟨rfl, ?_⟩
    · simp only [List.mem_cons, List.mem_append] at hp ⊢
      rcases hp with h | h | h | h
      · exact .inl h
      · exact .inr (.inl h)
      · exact .inr (.inr (.inl h))
      · exact .inr (.inr (.inr (.inl h)))
    · intro z z1; simp [z1]
  · rintro h' tk m' news' F' N' ⟨rfl, hm⟩
    clear FB NA
    have F₂ := Fr.as F' (map_one rfl hm)
    clear F'
    dsimp only
    k_steps
    unfold Hold
    rename Fr _ _ _ _ => FC
    rename News _ _ _ _ => NC
    refine ConV.use (pair_con2 _ wl dd rl _ _ vsw kvs vsr rs _ _ _ _ hkv hsw ok (by omega) (by rw [hRL]; omega) (by omega) (by rw [hRL]; omega) (pair _ _ (by omega) (by omega) (by omega) (by omega))) (by k_asm) FC (by k_asm) (by k_asm) rfl NC (by first | omega | decide) (by first | omega | decide) ⟨News.lst NC (by k_mem) rfl rfl, PySem.W.kda_dict NC (by k_mem) hO, News.lst NC (by k_mem) rfl rfl, rowsAre_of hown NC (fun p hp => List.mem_cons_of_mem _ (List.mem_cons_of_mem _ (List.mem_cons_of_mem _ hp)))⟩ ?_
    intro hz tkz FD ND GD
    clear FC NC
    dsimp only
    k_steps
end
end Mine
end partMn
theorem PySem.Challenge.cw_in0209_01_holds : PySem.Challenge.rw_in0209_01.Holds :=
  Mine.mainT
