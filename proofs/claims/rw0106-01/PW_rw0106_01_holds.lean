import PyProof.Rows.All
import Wide.All
import OpenK.AllK
import Wide.FinOn
import PySem.Challenge.RW_rw0106_01
set_option Elab.async false
set_option linter.unusedVariables false
set_option maxRecDepth 100000
section
open PySem PySem.W PyProof.Rows PySem.W.BT
namespace Mine
noncomputable section
noncomputable abbrev PG := PySem.Challenge.pw_rw0106_01
noncomputable def bdy : List Stmt := behindTheImports PG
noncomputable def stAt (i : Nat) : Stmt := bdy.getD i (.Pass default)
noncomputable def dParams : Stmt → Arguments
  | .FunctionDef _ a _ _ _ _ _ _ _ _ => a
  | _ => default
noncomputable def dBody : Stmt → List Stmt
  | .FunctionDef _ _ b _ _ _ _ _ _ _ => b
  | .ClassDef _ _ _ b _ _ _ _ _ _ _ => b
  | _ => []
noncomputable def dScope : Stmt → Scope
  | .FunctionDef _ _ _ _ _ _ s _ _ _ => s
  | _ => default
noncomputable def mAt (j : Nat) : Stmt := (dBody (stAt 1)).getD j (.Pass default)
noncomputable def kE (P : Params) (x : String) (n : Tok) (v : Value) : DictEntry := ⟨PyData.keyHash P (Str.ofString x), .str (Str.ofString x) n, v⟩
noncomputable def ob11 (P : Params) : Obj := ⟨.type "tuple", none, .seq #[] 0, #[]⟩
noncomputable def ob13 (P : Params) : Obj := ⟨.type "code", none, .fields #[.str (Str.ofString "<module>") 182, .str (Str.ofString "<module>") 183, .str (Str.ofString "/claim/cut.py") 184, .int 1 0, .int 0 0, .int 0 0, .int 0 0, .int 0 0, .ref 11, .bool false, .int 181 0, .ref 12, .none, .none, .none, .none, .int 185 0, .int 1 0, .str (Str.ofString "/claim/cut.py") 186], #[]⟩
noncomputable def ob14 (P : Params) : Obj := ⟨.type "frame", none, .plain, #[some (.ref 13), some (.ref 3), some (.ref 3), none, some (.str (Str.ofString "__main__") 164), none, some (.ref 0)]⟩
noncomputable def ob15 (P : Params) : Obj := ⟨.type "tuple", none, .seq #[] 0, #[]⟩
noncomputable def ob16 (P : Params) : Obj := ⟨.type "builtin_function_or_method", none, .fields #[.builtin "type.__prepare__", .type "type"], #[]⟩
noncomputable def ob17 (P : Params) : Obj := ⟨.type "dict", none, .dict #[kE P "__module__" 196 (.str (Str.ofString "cpy313.netrc") 187), kE P "__qualname__" 198 (.str (Str.ofString "_netrclex") 197), kE P "__firstlineno__" 200 (.int 2 199), kE P "__init__" 208 (.ref 28), kE P "_read_char" 216 (.ref 35), kE P "get_token" 226 (.ref 42), kE P "push_token" 234 (.ref 49), kE P "__static_attributes__" 239 (.ref 50)] 8, #[]⟩
noncomputable def ob18 (P : Params) : Obj := ⟨.type "tuple", none, .seq #[] 0, #[]⟩
noncomputable def ob19 (P : Params) : Obj := ⟨.none, none, .fields #[.int 4 0, .int 4 0, .ref 27, .int 10 0, .int 4 0, .ref 34, .int 16 0, .int 4 0, .ref 41, .int 43 0, .int 4 0, .ref 48], #[]⟩
noncomputable def ob20 (P : Params) : Obj := ⟨.type "code", none, .fields #[.str (Str.ofString "_netrclex") 191, .str (Str.ofString "_netrclex") 192, .str (Str.ofString "/claim/cut.py") 193, .int 2 0, .int 0 0, .int 0 0, .int 0 0, .int 0 0, .ref 18, .bool false, .int 181 0, .ref 19, .none, .none, .none, .none, .int 194 0, .int 2 0, .str (Str.ofString "/claim/cut.py") 195], #[]⟩
noncomputable def ob21 (P : Params) : Obj := ⟨.type "frame", none, .plain, #[some (.ref 20), some (.ref 3), some (.ref 17), none, some (.str (Str.ofString "cpy313.netrc") 187), none, some (.ref 0)]⟩
noncomputable def ob22 (P : Params) : Obj := ⟨.type "tuple", none, .seq #[] 0, #[]⟩
noncomputable def ob23 (P : Params) : Obj := ⟨.none, none, .fields #[], #[]⟩
noncomputable def ob24 (P : Params) : Obj := ⟨.type "tuple", none, .seq #[.str (Str.ofString "self") 204, .str (Str.ofString "fp") 205] 0, #[]⟩
noncomputable def ob25 (P : Params) : Obj := ⟨.type "tuple", none, .seq #[] 0, #[]⟩
noncomputable def ob26 (P : Params) : Obj := ⟨.none, none, .func ⟨(Str.ofString "__init__"), (Str.ofString "_netrclex.__init__"), dParams (mAt 0), .stmts (dBody (mAt 0)), dScope (mAt 0), 0, [], .none, .none, .none, .none, none, .none, .none, 0⟩, #[]⟩
noncomputable def ob27 (P : Params) : Obj := ⟨.type "code", none, .fields #[.str (Str.ofString "__init__") 201, .str (Str.ofString "_netrclex.__init__") 202, .str (Str.ofString "/claim/cut.py") 203, .int 4 0, .int 2 0, .int 0 0, .int 0 0, .int 3 0, .ref 22, .bool true, .int 181 0, .ref 23, .none, .ref 24, .ref 25, .ref 26, .int 206 0, .int 4 0, .str (Str.ofString "/claim/cut.py") 207], #[]⟩
noncomputable def ob28 (P : Params) : Obj := ⟨.type "function", none, .func ⟨(Str.ofString "__init__"), (Str.ofString "_netrclex.__init__"), dParams (mAt 0), .stmts (dBody (mAt 0)), dScope (mAt 0), 3, [], .none, .none, .none, .str (Str.ofString "cpy313.netrc") 187, none, .ref 27, .none, 0⟩, #[]⟩
noncomputable def ob29 (P : Params) : Obj := ⟨.type "tuple", none, .seq #[] 0, #[]⟩
noncomputable def ob30 (P : Params) : Obj := ⟨.none, none, .fields #[], #[]⟩
noncomputable def ob31 (P : Params) : Obj := ⟨.type "tuple", none, .seq #[.str (Str.ofString "self") 212, .str (Str.ofString "ch") 213] 0, #[]⟩
noncomputable def ob32 (P : Params) : Obj := ⟨.type "tuple", none, .seq #[] 0, #[]⟩
noncomputable def ob33 (P : Params) : Obj := ⟨.none, none, .func ⟨(Str.ofString "_read_char"), (Str.ofString "_netrclex._read_char"), dParams (mAt 1), .stmts (dBody (mAt 1)), dScope (mAt 1), 0, [], .none, .none, .none, .none, none, .none, .none, 0⟩, #[]⟩
noncomputable def ob34 (P : Params) : Obj := ⟨.type "code", none, .fields #[.str (Str.ofString "_read_char") 209, .str (Str.ofString "_netrclex._read_char") 210, .str (Str.ofString "/claim/cut.py") 211, .int 10 0, .int 1 0, .int 0 0, .int 0 0, .int 3 0, .ref 29, .bool true, .int 181 0, .ref 30, .none, .ref 31, .ref 32, .ref 33, .int 214 0, .int 10 0, .str (Str.ofString "/claim/cut.py") 215], #[]⟩
noncomputable def ob35 (P : Params) : Obj := ⟨.type "function", none, .func ⟨(Str.ofString "_read_char"), (Str.ofString "_netrclex._read_char"), dParams (mAt 1), .stmts (dBody (mAt 1)), dScope (mAt 1), 3, [], .none, .none, .none, .str (Str.ofString "cpy313.netrc") 187, none, .ref 34, .none, 0⟩, #[]⟩
noncomputable def ob36 (P : Params) : Obj := ⟨.type "tuple", none, .seq #[] 0, #[]⟩
noncomputable def ob37 (P : Params) : Obj := ⟨.none, none, .fields #[], #[]⟩
noncomputable def ob38 (P : Params) : Obj := ⟨.type "tuple", none, .seq #[.str (Str.ofString "self") 220, .str (Str.ofString "token") 221, .str (Str.ofString "fiter") 222, .str (Str.ofString "ch") 223] 0, #[]⟩
noncomputable def ob39 (P : Params) : Obj := ⟨.type "tuple", none, .seq #[] 0, #[]⟩
noncomputable def ob40 (P : Params) : Obj := ⟨.none, none, .func ⟨(Str.ofString "get_token"), (Str.ofString "_netrclex.get_token"), dParams (mAt 2), .stmts (dBody (mAt 2)), dScope (mAt 2), 0, [], .none, .none, .none, .none, none, .none, .none, 0⟩, #[]⟩
noncomputable def ob41 (P : Params) : Obj := ⟨.type "code", none, .fields #[.str (Str.ofString "get_token") 217, .str (Str.ofString "_netrclex.get_token") 218, .str (Str.ofString "/claim/cut.py") 219, .int 16 0, .int 1 0, .int 0 0, .int 0 0, .int 3 0, .ref 36, .bool true, .int 181 0, .ref 37, .none, .ref 38, .ref 39, .ref 40, .int 224 0, .int 16 0, .str (Str.ofString "/claim/cut.py") 225], #[]⟩
noncomputable def ob42 (P : Params) : Obj := ⟨.type "function", none, .func ⟨(Str.ofString "get_token"), (Str.ofString "_netrclex.get_token"), dParams (mAt 2), .stmts (dBody (mAt 2)), dScope (mAt 2), 3, [], .none, .none, .none, .str (Str.ofString "cpy313.netrc") 187, none, .ref 41, .none, 0⟩, #[]⟩
noncomputable def ob43 (P : Params) : Obj := ⟨.type "tuple", none, .seq #[] 0, #[]⟩
noncomputable def ob44 (P : Params) : Obj := ⟨.none, none, .fields #[], #[]⟩
noncomputable def ob45 (P : Params) : Obj := ⟨.type "tuple", none, .seq #[.str (Str.ofString "self") 230, .str (Str.ofString "token") 231] 0, #[]⟩
noncomputable def ob46 (P : Params) : Obj := ⟨.type "tuple", none, .seq #[] 0, #[]⟩
noncomputable def ob47 (P : Params) : Obj := ⟨.none, none, .func ⟨(Str.ofString "push_token"), (Str.ofString "_netrclex.push_token"), dParams (mAt 3), .stmts (dBody (mAt 3)), dScope (mAt 3), 0, [], .none, .none, .none, .none, none, .none, .none, 0⟩, #[]⟩
noncomputable def ob48 (P : Params) : Obj := ⟨.type "code", none, .fields #[.str (Str.ofString "push_token") 227, .str (Str.ofString "_netrclex.push_token") 228, .str (Str.ofString "/claim/cut.py") 229, .int 43 0, .int 2 0, .int 0 0, .int 0 0, .int 3 0, .ref 43, .bool true, .int 181 0, .ref 44, .none, .ref 45, .ref 46, .ref 47, .int 232 0, .int 43 0, .str (Str.ofString "/claim/cut.py") 233], #[]⟩
noncomputable def ob49 (P : Params) : Obj := ⟨.type "function", none, .func ⟨(Str.ofString "push_token"), (Str.ofString "_netrclex.push_token"), dParams (mAt 3), .stmts (dBody (mAt 3)), dScope (mAt 3), 3, [], .none, .none, .none, .str (Str.ofString "cpy313.netrc") 187, none, .ref 48, .none, 0⟩, #[]⟩
noncomputable def ob50 (P : Params) : Obj := ⟨.type "tuple", none, .seq #[.str (Str.ofString "instream") 235, .str (Str.ofString "lineno") 236, .str (Str.ofString "pushback") 237, .str (Str.ofString "whitespace") 238] 0, #[]⟩
noncomputable def ob51 (P : Params) : Obj := ⟨.type "dict", none, .dict #[kE P "__module__" 196 (.str (Str.ofString "cpy313.netrc") 187), kE P "__firstlineno__" 200 (.int 2 199), kE P "__init__" 208 (.ref 28), kE P "_read_char" 216 (.ref 35), kE P "get_token" 226 (.ref 42), kE P "push_token" 234 (.ref 49), kE P "__static_attributes__" 239 (.ref 50), kE P "__dict__" 241 (.ref 53), kE P "__weakref__" 243 (.ref 54), kE P "__doc__" 244 .none] 4, #[]⟩
noncomputable def ob52 (P : Params) : Obj := ⟨.type "type", none, .cls ⟨(Str.ofString "_netrclex"), [.type "object"], [.ref 52, .type "object"], 51, (Str.ofString "_netrclex"), true, [], [], false, none, false⟩, #[none, none, some (.str (Str.ofString "_netrclex") 189), some (.str (Str.ofString "_netrclex") 197), some (.builtin "object.__new__"), some (.bool true)]⟩
noncomputable def ob53 (P : Params) : Obj := ⟨.type "getset_descriptor", none, .fields #[.str (Str.ofString "__dict__") 240, .ref 52, .builtin "function.__dict__", .builtin "function.__dict__#set"], #[]⟩
noncomputable def ob54 (P : Params) : Obj := ⟨.type "getset_descriptor", none, .fields #[.str (Str.ofString "__weakref__") 242, .ref 52, .builtin "ExceptionGroup.__weakref__", .none], #[]⟩
noncomputable def ob55 (P : Params) : Obj := ⟨.type "super", none, .fields #[.ref 52, .ref 52, .ref 52], #[]⟩
noncomputable def ob56 (P : Params) : Obj := ⟨.type "builtin_function_or_method", none, .fields #[.builtin "object.__init_subclass__", .ref 52], #[]⟩
noncomputable def ob57 (P : Params) : Obj := ⟨.type "tuple", none, .seq #[] 0, #[]⟩
noncomputable def ob58 (P : Params) : Obj := ⟨.none, none, .fields #[], #[]⟩
noncomputable def ob59 (P : Params) : Obj := ⟨.type "tuple", none, .seq #[.str (Str.ofString "r") 252, .str (Str.ofString "g") 253, .str (Str.ofString "b") 254, .str (Str.ofString "maxc") 255, .str (Str.ofString "minc") 256, .str (Str.ofString "rangec") 257, .str (Str.ofString "v") 258, .str (Str.ofString "s") 259, .str (Str.ofString "rc") 260, .str (Str.ofString "gc") 261, .str (Str.ofString "bc") 262, .str (Str.ofString "h") 263] 0, #[]⟩
noncomputable def ob60 (P : Params) : Obj := ⟨.type "tuple", none, .seq #[] 0, #[]⟩
noncomputable def ob61 (P : Params) : Obj := ⟨.none, none, .func ⟨(Str.ofString "rgb_to_hsv"), (Str.ofString "rgb_to_hsv"), dParams (stAt 3), .stmts (dBody (stAt 3)), dScope (stAt 3), 0, [], .none, .none, .none, .none, none, .none, .none, 0⟩, #[]⟩
noncomputable def ob62 (P : Params) : Obj := ⟨.type "code", none, .fields #[.str (Str.ofString "rgb_to_hsv") 249, .str (Str.ofString "rgb_to_hsv") 250, .str (Str.ofString "/claim/cut.py") 251, .int 46 0, .int 3 0, .int 0 0, .int 0 0, .int 3 0, .ref 57, .bool true, .int 181 0, .ref 58, .none, .ref 59, .ref 60, .ref 61, .int 264 0, .int 46 0, .str (Str.ofString "/claim/cut.py") 265], #[]⟩
noncomputable def ob63 (P : Params) : Obj := ⟨.type "function", none, .func ⟨(Str.ofString "rgb_to_hsv"), (Str.ofString "rgb_to_hsv"), dParams (stAt 3), .stmts (dBody (stAt 3)), dScope (stAt 3), 3, [], .none, .none, .none, .str (Str.ofString "cpy313.colorsys") 247, none, .ref 62, .none, 0⟩, #[]⟩
noncomputable def ob64 (P : Params) : Obj := ⟨.type "tuple", none, .seq #[] 0, #[]⟩
noncomputable def ob65 (P : Params) : Obj := ⟨.none, none, .fields #[], #[]⟩
noncomputable def ob66 (P : Params) : Obj := ⟨.type "tuple", none, .seq #[.str (Str.ofString "h") 270, .str (Str.ofString "s") 271, .str (Str.ofString "v") 272, .str (Str.ofString "i") 273, .str (Str.ofString "f") 274, .str (Str.ofString "p") 275, .str (Str.ofString "q") 276, .str (Str.ofString "t") 277] 0, #[]⟩
noncomputable def ob67 (P : Params) : Obj := ⟨.type "tuple", none, .seq #[] 0, #[]⟩
noncomputable def ob68 (P : Params) : Obj := ⟨.none, none, .func ⟨(Str.ofString "hsv_to_rgb"), (Str.ofString "hsv_to_rgb"), dParams (stAt 4), .stmts (dBody (stAt 4)), dScope (stAt 4), 0, [], .none, .none, .none, .none, none, .none, .none, 0⟩, #[]⟩
noncomputable def ob69 (P : Params) : Obj := ⟨.type "code", none, .fields #[.str (Str.ofString "hsv_to_rgb") 267, .str (Str.ofString "hsv_to_rgb") 268, .str (Str.ofString "/claim/cut.py") 269, .int 65 0, .int 3 0, .int 0 0, .int 0 0, .int 3 0, .ref 64, .bool true, .int 181 0, .ref 65, .none, .ref 66, .ref 67, .ref 68, .int 278 0, .int 65 0, .str (Str.ofString "/claim/cut.py") 279], #[]⟩
noncomputable def ob70 (P : Params) : Obj := ⟨.type "function", none, .func ⟨(Str.ofString "hsv_to_rgb"), (Str.ofString "hsv_to_rgb"), dParams (stAt 4), .stmts (dBody (stAt 4)), dScope (stAt 4), 3, [], .none, .none, .none, .str (Str.ofString "cpy313.colorsys") 247, none, .ref 69, .none, 0⟩, #[]⟩
noncomputable def ob71 (P : Params) : Obj := ⟨.type "list", none, .seq #[.int 173 283, .int 847 284, .int 6150 285, .int 6155 286, .int 6156 287, .int 6157 288, .int 8203 289, .int 8204 290, .int 8205 291, .int 8288 292, .int 65279 293] 0, #[]⟩
noncomputable def ob72 (P : Params) : Obj := ⟨.type "range", none, .fields #[.int 65024 294, .int 65040 295, .int 1 296], #[]⟩
noncomputable def ob73 (P : Params) : Obj := ⟨.type "list", none, .seq #[.int 65024 299, .int 65025 300, .int 65026 301, .int 65027 302, .int 65028 303, .int 65029 304, .int 65030 305, .int 65031 306, .int 65032 307, .int 65033 308, .int 65034 309, .int 65035 310, .int 65036 311, .int 65037 312, .int 65038 313, .int 65039 314] 18, #[]⟩
noncomputable def ob74 (P : Params) : Obj := ⟨.type "range_iterator", none, .fields #[.int 65040 0, .int 0 0, .int 1 0], #[]⟩
noncomputable def ob75 (P : Params) : Obj := ⟨.type "tuple", none, .seq #[] 0, #[]⟩
noncomputable def ob76 (P : Params) : Obj := ⟨.type "StopIteration", none, .fields #[.ref 75, .none, .none, .none, .bool false, .none], #[]⟩
noncomputable def ob77 (P : Params) : Obj := ⟨.type "list", none, .seq #[.int 173 283, .int 847 284, .int 6150 285, .int 6155 286, .int 6156 287, .int 6157 288, .int 8203 289, .int 8204 290, .int 8205 291, .int 8288 292, .int 65279 293, .int 65024 299, .int 65025 300, .int 65026 301, .int 65027 302, .int 65028 303, .int 65029 304, .int 65030 305, .int 65031 306, .int 65032 307, .int 65033 308, .int 65034 309, .int 65035 310, .int 65036 311, .int 65037 312, .int 65038 313, .int 65039 314] 0, #[]⟩
noncomputable def ob78 (P : Params) : Obj := ⟨.type "set", none, .set #[(65024, .int 65024 299), (65025, .int 65025 300), (65026, .int 65026 301), (65027, .int 65027 302), (65028, .int 65028 303), (65029, .int 65029 304), (6150, .int 6150 285), (65030, .int 65030 305), (65031, .int 65031 306), (65032, .int 65032 307), (65033, .int 65033 308), (6155, .int 6155 286), (6156, .int 6156 287), (6157, .int 6157 288), (8203, .int 8203 289), (8204, .int 8204 290), (8205, .int 8205 291), (65034, .int 65034 309), (65035, .int 65035 310), (65036, .int 65036 311), (65037, .int 65037 312), (65038, .int 65038 313), (65039, .int 65039 314), (173, .int 173 283), (847, .int 847 284), (8288, .int 8288 292), (65279, .int 65279 293)] 29 ⟨127, #[0, 1, 2, 3, 4, 5, 6, 7, 8, 9, 10, 11, 12, 13, 14, 15, 16, 17, 18, 19, 20, 21, 22, 45, 79, 96, 127], #[], 0, !P.followText "set-order", 2, true⟩, #[]⟩
noncomputable def ob79 (P : Params) : Obj := ⟨.type "list_iterator", none, .fields #[.none, .int 27 0], #[]⟩
noncomputable def ob80 (P : Params) : Obj := ⟨.type "tuple", none, .seq #[] 0, #[]⟩
noncomputable def ob81 (P : Params) : Obj := ⟨.type "StopIteration", none, .fields #[.ref 80, .none, .none, .none, .bool false, .none], #[]⟩
noncomputable def ob82 (P : Params) : Obj := ⟨.type "tuple", none, .seq #[] 0, #[]⟩
noncomputable def ob83 (P : Params) : Obj := ⟨.none, none, .fields #[], #[]⟩
noncomputable def ob84 (P : Params) : Obj := ⟨.type "tuple", none, .seq #[.str (Str.ofString "code") 346] 0, #[]⟩
noncomputable def ob85 (P : Params) : Obj := ⟨.type "tuple", none, .seq #[] 0, #[]⟩
noncomputable def ob86 (P : Params) : Obj := ⟨.none, none, .func ⟨(Str.ofString "in_table_b1"), (Str.ofString "in_table_b1"), dParams (stAt 7), .stmts (dBody (stAt 7)), dScope (stAt 7), 0, [], .none, .none, .none, .none, none, .none, .none, 0⟩, #[]⟩
noncomputable def ob87 (P : Params) : Obj := ⟨.type "code", none, .fields #[.str (Str.ofString "in_table_b1") 343, .str (Str.ofString "in_table_b1") 344, .str (Str.ofString "/claim/cut.py") 345, .int 88 0, .int 1 0, .int 0 0, .int 0 0, .int 3 0, .ref 82, .bool true, .int 181 0, .ref 83, .none, .ref 84, .ref 85, .ref 86, .int 347 0, .int 88 0, .str (Str.ofString "/claim/cut.py") 348], #[]⟩
noncomputable def ob88 (P : Params) : Obj := ⟨.type "function", none, .func ⟨(Str.ofString "in_table_b1"), (Str.ofString "in_table_b1"), dParams (stAt 7), .stmts (dBody (stAt 7)), dScope (stAt 7), 3, [], .none, .none, .none, .str (Str.ofString "cpy313.stringprep") 281, none, .ref 87, .none, 0⟩, #[]⟩
noncomputable def ob128 (P : Params) : Obj := ⟨.type "tuple", none, .seq #[] 0, #[]⟩
noncomputable def ob129 (P : Params) : Obj := ⟨.none, none, .fields #[], #[]⟩
noncomputable def ob130 (P : Params) : Obj := ⟨.type "tuple", none, .seq #[.str (Str.ofString "code") 2304, .str (Str.ofString "r") 2305] 0, #[]⟩
noncomputable def ob131 (P : Params) : Obj := ⟨.type "tuple", none, .seq #[] 0, #[]⟩
noncomputable def ob132 (P : Params) : Obj := ⟨.none, none, .func ⟨(Str.ofString "map_table_b3"), (Str.ofString "map_table_b3"), dParams (stAt 9), .stmts (dBody (stAt 9)), dScope (stAt 9), 0, [], .none, .none, .none, .none, none, .none, .none, 0⟩, #[]⟩
noncomputable def ob133 (P : Params) : Obj := ⟨.type "code", none, .fields #[.str (Str.ofString "map_table_b3") 2301, .str (Str.ofString "map_table_b3") 2302, .str (Str.ofString "/claim/cut.py") 2303, .int 91 0, .int 1 0, .int 0 0, .int 0 0, .int 3 0, .ref 128, .bool true, .int 181 0, .ref 129, .none, .ref 130, .ref 131, .ref 132, .int 2306 0, .int 91 0, .str (Str.ofString "/claim/cut.py") 2307], #[]⟩
noncomputable def ob134 (P : Params) : Obj := ⟨.type "function", none, .func ⟨(Str.ofString "map_table_b3"), (Str.ofString "map_table_b3"), dParams (stAt 9), .stmts (dBody (stAt 9)), dScope (stAt 9), 3, [], .none, .none, .none, .str (Str.ofString "cpy313.stringprep") 281, none, .ref 133, .none, 0⟩, #[]⟩
noncomputable def ob135 (P : Params) : Obj := ⟨.type "tuple", none, .seq #[] 0, #[]⟩
noncomputable def ob136 (P : Params) : Obj := ⟨.none, none, .fields #[], #[]⟩
noncomputable def ob137 (P : Params) : Obj := ⟨.type "tuple", none, .seq #[.str (Str.ofString "text") 2314, .str (Str.ofString "stream") 2315] 0, #[]⟩
noncomputable def ob138 (P : Params) : Obj := ⟨.type "tuple", none, .seq #[.str (Str.ofString "signs") 2316] 0, #[]⟩
noncomputable def ob139 (P : Params) : Obj := ⟨.none, none, .func ⟨(Str.ofString "_law_lexer"), (Str.ofString "_law_lexer"), dParams (stAt 11), .stmts (dBody (stAt 11)), dScope (stAt 11), 0, [], .none, .none, .none, .none, none, .none, .none, 0⟩, #[]⟩
noncomputable def ob140 (P : Params) : Obj := ⟨.type "code", none, .fields #[.str (Str.ofString "_law_lexer") 2311, .str (Str.ofString "_law_lexer") 2312, .str (Str.ofString "/claim/cut.py") 2313, .int 97 0, .int 1 0, .int 0 0, .int 0 0, .int 3 0, .ref 135, .bool true, .int 181 0, .ref 136, .none, .ref 137, .ref 138, .ref 139, .int 2317 0, .int 97 0, .str (Str.ofString "/claim/cut.py") 2318], #[]⟩
noncomputable def ob141 (P : Params) : Obj := ⟨.type "function", none, .func ⟨(Str.ofString "_law_lexer"), (Str.ofString "_law_lexer"), dParams (stAt 11), .stmts (dBody (stAt 11)), dScope (stAt 11), 3, [], .none, .none, .none, .str (Str.ofString "law_rw0106_01") 2309, none, .ref 140, .none, 0⟩, #[]⟩
noncomputable def ob142 (P : Params) : Obj := ⟨.type "tuple", none, .seq #[] 0, #[]⟩
noncomputable def ob143 (P : Params) : Obj := ⟨.none, none, .fields #[], #[]⟩
noncomputable def ob144 (P : Params) : Obj := ⟨.none, none, .func ⟨(Str.ofString "_law_written"), (Str.ofString "_law_written"), dParams (stAt 12), .stmts (dBody (stAt 12)), dScope (stAt 12), 0, [], .none, .none, .none, .none, none, .none, .none, 0⟩, #[]⟩
noncomputable def ob145 (P : Params) : Obj := ⟨.type "code", none, .fields #[.str (Str.ofString "_law_written") 2320, .str (Str.ofString "_law_written") 2321, .str (Str.ofString "/claim/cut.py") 2322, .int 102 0, .int 2 0, .int 0 0, .int 0 0, .int 3 0, .ref 142, .bool true, .int 181 0, .ref 143, .none, .none, .none, .ref 144, .int 2323 0, .int 102 0, .str (Str.ofString "/claim/cut.py") 2324], #[]⟩
noncomputable def ob146 (P : Params) : Obj := ⟨.type "function", none, .func ⟨(Str.ofString "_law_written"), (Str.ofString "_law_written"), dParams (stAt 12), .stmts (dBody (stAt 12)), dScope (stAt 12), 3, [], .none, .none, .none, .str (Str.ofString "law_rw0106_01") 2309, none, .ref 145, .none, 0⟩, #[]⟩
noncomputable def ob147 (P : Params) : Obj := ⟨.type "tuple", none, .seq #[] 0, #[]⟩
noncomputable def ob148 (P : Params) : Obj := ⟨.none, none, .fields #[], #[]⟩
noncomputable def ob149 (P : Params) : Obj := ⟨.none, none, .func ⟨(Str.ofString "_law_prepared"), (Str.ofString "_law_prepared"), dParams (stAt 13), .stmts (dBody (stAt 13)), dScope (stAt 13), 0, [], .none, .none, .none, .none, none, .none, .none, 0⟩, #[]⟩
noncomputable def ob150 (P : Params) : Obj := ⟨.type "code", none, .fields #[.str (Str.ofString "_law_prepared") 2326, .str (Str.ofString "_law_prepared") 2327, .str (Str.ofString "/claim/cut.py") 2328, .int 107 0, .int 1 0, .int 0 0, .int 0 0, .int 3 0, .ref 147, .bool true, .int 181 0, .ref 148, .none, .none, .none, .ref 149, .int 2329 0, .int 107 0, .str (Str.ofString "/claim/cut.py") 2330], #[]⟩
noncomputable def ob151 (P : Params) : Obj := ⟨.type "function", none, .func ⟨(Str.ofString "_law_prepared"), (Str.ofString "_law_prepared"), dParams (stAt 13), .stmts (dBody (stAt 13)), dScope (stAt 13), 3, [], .none, .none, .none, .str (Str.ofString "law_rw0106_01") 2309, none, .ref 150, .none, 0⟩, #[]⟩
noncomputable def ob152 (P : Params) : Obj := ⟨.type "tuple", none, .seq #[] 0, #[]⟩
noncomputable def ob153 (P : Params) : Obj := ⟨.none, none, .fields #[], #[]⟩
noncomputable def ob154 (P : Params) : Obj := ⟨.type "tuple", none, .seq #[.str (Str.ofString "form") 2335, .str (Str.ofString "codes") 2336] 0, #[]⟩
noncomputable def ob155 (P : Params) : Obj := ⟨.type "tuple", none, .seq #[] 0, #[]⟩
noncomputable def ob156 (P : Params) : Obj := ⟨.none, none, .func ⟨(Str.ofString "_law_unseen"), (Str.ofString "_law_unseen"), dParams (stAt 14), .stmts (dBody (stAt 14)), dScope (stAt 14), 0, [], .none, .none, .none, .none, none, .none, .none, 0⟩, #[]⟩
noncomputable def ob157 (P : Params) : Obj := ⟨.type "code", none, .fields #[.str (Str.ofString "_law_unseen") 2332, .str (Str.ofString "_law_unseen") 2333, .str (Str.ofString "/claim/cut.py") 2334, .int 112 0, .int 1 0, .int 0 0, .int 0 0, .int 3 0, .ref 152, .bool true, .int 181 0, .ref 153, .none, .ref 154, .ref 155, .ref 156, .int 2337 0, .int 112 0, .str (Str.ofString "/claim/cut.py") 2338], #[]⟩
noncomputable def ob158 (P : Params) : Obj := ⟨.type "function", none, .func ⟨(Str.ofString "_law_unseen"), (Str.ofString "_law_unseen"), dParams (stAt 14), .stmts (dBody (stAt 14)), dScope (stAt 14), 3, [], .none, .none, .none, .str (Str.ofString "law_rw0106_01") 2309, none, .ref 157, .none, 0⟩, #[]⟩
noncomputable def ob159 (P : Params) : Obj := ⟨.type "tuple", none, .seq #[] 0, #[]⟩
noncomputable def ob160 (P : Params) : Obj := ⟨.none, none, .fields #[], #[]⟩
noncomputable def ob161 (P : Params) : Obj := ⟨.type "tuple", none, .seq #[.str (Str.ofString "letter") 2343, .str (Str.ofString "form") 2344, .str (Str.ofString "way") 2345] 0, #[]⟩
noncomputable def ob162 (P : Params) : Obj := ⟨.type "tuple", none, .seq #[] 0, #[]⟩
noncomputable def ob163 (P : Params) : Obj := ⟨.none, none, .func ⟨(Str.ofString "_law_letter"), (Str.ofString "_law_letter"), dParams (stAt 15), .stmts (dBody (stAt 15)), dScope (stAt 15), 0, [], .none, .none, .none, .none, none, .none, .none, 0⟩, #[]⟩
noncomputable def ob164 (P : Params) : Obj := ⟨.type "code", none, .fields #[.str (Str.ofString "_law_letter") 2340, .str (Str.ofString "_law_letter") 2341, .str (Str.ofString "/claim/cut.py") 2342, .int 115 0, .int 2 0, .int 0 0, .int 0 0, .int 3 0, .ref 159, .bool true, .int 181 0, .ref 160, .none, .ref 161, .ref 162, .ref 163, .int 2346 0, .int 115 0, .str (Str.ofString "/claim/cut.py") 2347], #[]⟩
noncomputable def ob165 (P : Params) : Obj := ⟨.type "function", none, .func ⟨(Str.ofString "_law_letter"), (Str.ofString "_law_letter"), dParams (stAt 15), .stmts (dBody (stAt 15)), dScope (stAt 15), 3, [], .none, .none, .none, .str (Str.ofString "law_rw0106_01") 2309, none, .ref 164, .none, 0⟩, #[]⟩
noncomputable def ob166 (P : Params) : Obj := ⟨.type "tuple", none, .seq #[] 0, #[]⟩
noncomputable def ob167 (P : Params) : Obj := ⟨.none, none, .fields #[], #[]⟩
noncomputable def ob168 (P : Params) : Obj := ⟨.none, none, .func ⟨(Str.ofString "_law_word"), (Str.ofString "_law_word"), dParams (stAt 16), .stmts (dBody (stAt 16)), dScope (stAt 16), 0, [], .none, .none, .none, .none, none, .none, .none, 0⟩, #[]⟩
noncomputable def ob169 (P : Params) : Obj := ⟨.type "code", none, .fields #[.str (Str.ofString "_law_word") 2349, .str (Str.ofString "_law_word") 2350, .str (Str.ofString "/claim/cut.py") 2351, .int 122 0, .int 2 0, .int 0 0, .int 0 0, .int 3 0, .ref 166, .bool true, .int 181 0, .ref 167, .none, .none, .none, .ref 168, .int 2352 0, .int 122 0, .str (Str.ofString "/claim/cut.py") 2353], #[]⟩
noncomputable def ob170 (P : Params) : Obj := ⟨.type "function", none, .func ⟨(Str.ofString "_law_word"), (Str.ofString "_law_word"), dParams (stAt 16), .stmts (dBody (stAt 16)), dScope (stAt 16), 3, [], .none, .none, .none, .str (Str.ofString "law_rw0106_01") 2309, none, .ref 169, .none, 0⟩, #[]⟩
noncomputable def ob171 (P : Params) : Obj := ⟨.type "tuple", none, .seq #[] 0, #[]⟩
noncomputable def ob172 (P : Params) : Obj := ⟨.none, none, .fields #[], #[]⟩
noncomputable def ob173 (P : Params) : Obj := ⟨.type "tuple", none, .seq #[.str (Str.ofString "letter") 2358, .str (Str.ofString "form") 2359, .str (Str.ofString "signs") 2360] 0, #[]⟩
noncomputable def ob174 (P : Params) : Obj := ⟨.type "tuple", none, .seq #[] 0, #[]⟩
noncomputable def ob175 (P : Params) : Obj := ⟨.none, none, .func ⟨(Str.ofString "_law_image"), (Str.ofString "_law_image"), dParams (stAt 17), .stmts (dBody (stAt 17)), dScope (stAt 17), 0, [], .none, .none, .none, .none, none, .none, .none, 0⟩, #[]⟩
noncomputable def ob176 (P : Params) : Obj := ⟨.type "code", none, .fields #[.str (Str.ofString "_law_image") 2355, .str (Str.ofString "_law_image") 2356, .str (Str.ofString "/claim/cut.py") 2357, .int 129 0, .int 2 0, .int 0 0, .int 0 0, .int 3 0, .ref 171, .bool true, .int 181 0, .ref 172, .none, .ref 173, .ref 174, .ref 175, .int 2361 0, .int 129 0, .str (Str.ofString "/claim/cut.py") 2362], #[]⟩
noncomputable def ob177 (P : Params) : Obj := ⟨.type "function", none, .func ⟨(Str.ofString "_law_image"), (Str.ofString "_law_image"), dParams (stAt 17), .stmts (dBody (stAt 17)), dScope (stAt 17), 3, [], .none, .none, .none, .str (Str.ofString "law_rw0106_01") 2309, none, .ref 176, .none, 0⟩, #[]⟩
noncomputable def ob178 (P : Params) : Obj := ⟨.type "tuple", none, .seq #[] 0, #[]⟩
noncomputable def ob179 (P : Params) : Obj := ⟨.none, none, .fields #[], #[]⟩
noncomputable def ob180 (P : Params) : Obj := ⟨.type "tuple", none, .seq #[.str (Str.ofString "rounds") 2367, .str (Str.ofString "less") 2368, .str (Str.ofString "more") 2369] 0, #[]⟩
noncomputable def ob181 (P : Params) : Obj := ⟨.type "tuple", none, .seq #[] 0, #[]⟩
noncomputable def ob182 (P : Params) : Obj := ⟨.none, none, .func ⟨(Str.ofString "_law_leads"), (Str.ofString "_law_leads"), dParams (stAt 18), .stmts (dBody (stAt 18)), dScope (stAt 18), 0, [], .none, .none, .none, .none, none, .none, .none, 0⟩, #[]⟩
noncomputable def ob183 (P : Params) : Obj := ⟨.type "code", none, .fields #[.str (Str.ofString "_law_leads") 2364, .str (Str.ofString "_law_leads") 2365, .str (Str.ofString "/claim/cut.py") 2366, .int 136 0, .int 1 0, .int 0 0, .int 0 0, .int 3 0, .ref 178, .bool true, .int 181 0, .ref 179, .none, .ref 180, .ref 181, .ref 182, .int 2370 0, .int 136 0, .str (Str.ofString "/claim/cut.py") 2371], #[]⟩
noncomputable def ob184 (P : Params) : Obj := ⟨.type "function", none, .func ⟨(Str.ofString "_law_leads"), (Str.ofString "_law_leads"), dParams (stAt 18), .stmts (dBody (stAt 18)), dScope (stAt 18), 3, [], .none, .none, .none, .str (Str.ofString "law_rw0106_01") 2309, none, .ref 183, .none, 0⟩, #[]⟩
noncomputable def ob185 (P : Params) : Obj := ⟨.type "tuple", none, .seq #[] 0, #[]⟩
noncomputable def ob186 (P : Params) : Obj := ⟨.none, none, .fields #[], #[]⟩
noncomputable def ob187 (P : Params) : Obj := ⟨.type "tuple", none, .seq #[.str (Str.ofString "sixth") 2376, .str (Str.ofString "rest") 2377, .str (Str.ofString "table") 2378] 0, #[]⟩
noncomputable def ob188 (P : Params) : Obj := ⟨.type "tuple", none, .seq #[] 0, #[]⟩
noncomputable def ob189 (P : Params) : Obj := ⟨.none, none, .func ⟨(Str.ofString "_law_lamps"), (Str.ofString "_law_lamps"), dParams (stAt 19), .stmts (dBody (stAt 19)), dScope (stAt 19), 0, [], .none, .none, .none, .none, none, .none, .none, 0⟩, #[]⟩
noncomputable def ob190 (P : Params) : Obj := ⟨.type "code", none, .fields #[.str (Str.ofString "_law_lamps") 2373, .str (Str.ofString "_law_lamps") 2374, .str (Str.ofString "/claim/cut.py") 2375, .int 141 0, .int 2 0, .int 0 0, .int 0 0, .int 3 0, .ref 185, .bool true, .int 181 0, .ref 186, .none, .ref 187, .ref 188, .ref 189, .int 2379 0, .int 141 0, .str (Str.ofString "/claim/cut.py") 2380], #[]⟩
noncomputable def ob191 (P : Params) : Obj := ⟨.type "function", none, .func ⟨(Str.ofString "_law_lamps"), (Str.ofString "_law_lamps"), dParams (stAt 19), .stmts (dBody (stAt 19)), dScope (stAt 19), 3, [], .none, .none, .none, .str (Str.ofString "law_rw0106_01") 2309, none, .ref 190, .none, 0⟩, #[]⟩
noncomputable def ob192 (P : Params) : Obj := ⟨.type "tuple", none, .seq #[] 0, #[]⟩
noncomputable def ob193 (P : Params) : Obj := ⟨.none, none, .fields #[], #[]⟩
noncomputable def ob194 (P : Params) : Obj := ⟨.none, none, .func ⟨(Str.ofString "law"), (Str.ofString "law"), dParams (stAt 20), .stmts (dBody (stAt 20)), dScope (stAt 20), 0, [], .none, .none, .none, .none, none, .none, .none, 0⟩, #[]⟩
noncomputable def ob195 (P : Params) : Obj := ⟨.type "code", none, .fields #[.str (Str.ofString "law") 2382, .str (Str.ofString "law") 2383, .str (Str.ofString "/claim/cut.py") 2384, .int 144 0, .int 1 0, .int 0 0, .int 0 0, .int 3 0, .ref 192, .bool true, .int 181 0, .ref 193, .none, .none, .none, .ref 194, .int 2385 0, .int 144 0, .str (Str.ofString "/claim/cut.py") 2386], #[]⟩
noncomputable def ob196 (P : Params) : Obj := ⟨.type "function", none, .func ⟨(Str.ofString "law"), (Str.ofString "law"), dParams (stAt 20), .stmts (dBody (stAt 20)), dScope (stAt 20), 3, [], .none, .none, .none, .str (Str.ofString "law_rw0106_01") 2309, none, .ref 195, .none, 0⟩, #[]⟩
noncomputable def ob3x0 (P : Params) : Obj := ⟨.type "dict", none, .dict #[kE P "__name__" 165 (.str (Str.ofString "__main__") 164), kE P "__doc__" 166 .none, kE P "__package__" 167 .none, kE P "__loader__" 168 (.builtin "__main__.__loader__#opaque"), kE P "__spec__" 169 .none, kE P "__annotations__" 170 (.ref 6), kE P "__builtins__" 171 (.ref 4), kE P "__file__" 173 (.str (Str.ofString "/claim/cut.py") 172), kE P "__cached__" 174 .none] 9, #[]⟩
noncomputable def ob12x0 (P : Params) : Obj := ⟨.none, none, .fields #[], #[]⟩
noncomputable def tr0 (P : Params) : BT := (node (boot_o_0 P) (node (boot_o_1 P) (node (ob3x0 P) (node (boot_o_7 P) .nil .nil) (node (ob11 P) .nil .nil)) (node (boot_o_5 P) (node (boot_o_9 P) .nil .nil) (node (ob13 P) .nil .nil))) (node (boot_o_2 P) (node (boot_o_4 P) (node (boot_o_8 P) .nil .nil) (node (ob12x0 P) .nil .nil)) (node (boot_o_6 P) (node (boot_o_10 P) .nil .nil) (node (ob14 P) .nil .nil))))
noncomputable def ob3x1 (P : Params) : Obj := ⟨.type "dict", none, .dict #[kE P "__name__" 165 (.str (Str.ofString "cpy313.netrc") 187), kE P "__doc__" 166 .none, kE P "__package__" 167 .none, kE P "__loader__" 168 (.builtin "__main__.__loader__#opaque"), kE P "__spec__" 169 .none, kE P "__annotations__" 170 (.ref 6), kE P "__builtins__" 171 (.ref 4), kE P "__file__" 173 (.str (Str.ofString "/claim/cut.py") 172), kE P "__cached__" 174 .none] 9, #[]⟩
noncomputable def tr1 (P : Params) : BT := (node (boot_o_0 P) (node (boot_o_1 P) (node (ob3x1 P) (node (boot_o_7 P) .nil .nil) (node (ob11 P) .nil .nil)) (node (boot_o_5 P) (node (boot_o_9 P) .nil .nil) (node (ob13 P) .nil .nil))) (node (boot_o_2 P) (node (boot_o_4 P) (node (boot_o_8 P) .nil .nil) (node (ob12x0 P) .nil .nil)) (node (boot_o_6 P) (node (boot_o_10 P) .nil .nil) (node (ob14 P) .nil .nil))))
noncomputable def ob3x2 (P : Params) : Obj := ⟨.type "dict", none, .dict #[kE P "__name__" 165 (.str (Str.ofString "cpy313.netrc") 187), kE P "__doc__" 166 .none, kE P "__package__" 167 .none, kE P "__loader__" 168 (.builtin "__main__.__loader__#opaque"), kE P "__spec__" 169 .none, kE P "__annotations__" 170 (.ref 6), kE P "__builtins__" 171 (.ref 4), kE P "__file__" 173 (.str (Str.ofString "/claim/cut.py") 172), kE P "__cached__" 174 .none, kE P "_netrclex" 246 (.ref 52)] 10, #[]⟩
noncomputable def ob12x2 (P : Params) : Obj := ⟨.none, none, .fields #[.int 2 0, .int 0 0, .ref 20], #[]⟩
noncomputable def tr2 (P : Params) : BT := (node (boot_o_0 P) (node (boot_o_1 P) (node (ob3x2 P) (node (boot_o_7 P) (node (ob15 P) (node (ob31 P) .nil .nil) (node (ob47 P) .nil .nil)) (node (ob23 P) (node (ob39 P) .nil .nil) (node (ob55 P) .nil .nil))) (node (ob11 P) (node (ob19 P) (node (ob35 P) .nil .nil) (node (ob51 P) .nil .nil)) (node (ob27 P) (node (ob43 P) .nil .nil) .nil))) (node (boot_o_5 P) (node (boot_o_9 P) (node (ob17 P) (node (ob33 P) .nil .nil) (node (ob49 P) .nil .nil)) (node (ob25 P) (node (ob41 P) .nil .nil) .nil)) (node (ob13 P) (node (ob21 P) (node (ob37 P) .nil .nil) (node (ob53 P) .nil .nil)) (node (ob29 P) (node (ob45 P) .nil .nil) .nil)))) (node (boot_o_2 P) (node (boot_o_4 P) (node (boot_o_8 P) (node (ob16 P) (node (ob32 P) .nil .nil) (node (ob48 P) .nil .nil)) (node (ob24 P) (node (ob40 P) .nil .nil) (node (ob56 P) .nil .nil))) (node (ob12x2 P) (node (ob20 P) (node (ob36 P) .nil .nil) (node (ob52 P) .nil .nil)) (node (ob28 P) (node (ob44 P) .nil .nil) .nil))) (node (boot_o_6 P) (node (boot_o_10 P) (node (ob18 P) (node (ob34 P) .nil .nil) (node (ob50 P) .nil .nil)) (node (ob26 P) (node (ob42 P) .nil .nil) .nil)) (node (ob14 P) (node (ob22 P) (node (ob38 P) .nil .nil) (node (ob54 P) .nil .nil)) (node (ob30 P) (node (ob46 P) .nil .nil) .nil)))))
noncomputable def ob3x3 (P : Params) : Obj := ⟨.type "dict", none, .dict #[kE P "__name__" 165 (.str (Str.ofString "cpy313.colorsys") 247), kE P "__doc__" 166 .none, kE P "__package__" 167 .none, kE P "__loader__" 168 (.builtin "__main__.__loader__#opaque"), kE P "__spec__" 169 .none, kE P "__annotations__" 170 (.ref 6), kE P "__builtins__" 171 (.ref 4), kE P "__file__" 173 (.str (Str.ofString "/claim/cut.py") 172), kE P "__cached__" 174 .none, kE P "_netrclex" 246 (.ref 52)] 10, #[]⟩
noncomputable def tr3 (P : Params) : BT := (node (boot_o_0 P) (node (boot_o_1 P) (node (ob3x3 P) (node (boot_o_7 P) (node (ob15 P) (node (ob31 P) .nil .nil) (node (ob47 P) .nil .nil)) (node (ob23 P) (node (ob39 P) .nil .nil) (node (ob55 P) .nil .nil))) (node (ob11 P) (node (ob19 P) (node (ob35 P) .nil .nil) (node (ob51 P) .nil .nil)) (node (ob27 P) (node (ob43 P) .nil .nil) .nil))) (node (boot_o_5 P) (node (boot_o_9 P) (node (ob17 P) (node (ob33 P) .nil .nil) (node (ob49 P) .nil .nil)) (node (ob25 P) (node (ob41 P) .nil .nil) .nil)) (node (ob13 P) (node (ob21 P) (node (ob37 P) .nil .nil) (node (ob53 P) .nil .nil)) (node (ob29 P) (node (ob45 P) .nil .nil) .nil)))) (node (boot_o_2 P) (node (boot_o_4 P) (node (boot_o_8 P) (node (ob16 P) (node (ob32 P) .nil .nil) (node (ob48 P) .nil .nil)) (node (ob24 P) (node (ob40 P) .nil .nil) (node (ob56 P) .nil .nil))) (node (ob12x2 P) (node (ob20 P) (node (ob36 P) .nil .nil) (node (ob52 P) .nil .nil)) (node (ob28 P) (node (ob44 P) .nil .nil) .nil))) (node (boot_o_6 P) (node (boot_o_10 P) (node (ob18 P) (node (ob34 P) .nil .nil) (node (ob50 P) .nil .nil)) (node (ob26 P) (node (ob42 P) .nil .nil) .nil)) (node (ob14 P) (node (ob22 P) (node (ob38 P) .nil .nil) (node (ob54 P) .nil .nil)) (node (ob30 P) (node (ob46 P) .nil .nil) .nil)))))
noncomputable def ob3x4 (P : Params) : Obj := ⟨.type "dict", none, .dict #[kE P "__name__" 165 (.str (Str.ofString "cpy313.colorsys") 247), kE P "__doc__" 166 .none, kE P "__package__" 167 .none, kE P "__loader__" 168 (.builtin "__main__.__loader__#opaque"), kE P "__spec__" 169 .none, kE P "__annotations__" 170 (.ref 6), kE P "__builtins__" 171 (.ref 4), kE P "__file__" 173 (.str (Str.ofString "/claim/cut.py") 172), kE P "__cached__" 174 .none, kE P "_netrclex" 246 (.ref 52), kE P "rgb_to_hsv" 266 (.ref 63)] 11, #[]⟩
noncomputable def ob12x4 (P : Params) : Obj := ⟨.none, none, .fields #[.int 2 0, .int 0 0, .ref 20, .int 46 0, .int 0 0, .ref 62], #[]⟩
noncomputable def tr4 (P : Params) : BT := (node (boot_o_0 P) (node (boot_o_1 P) (node (ob3x4 P) (node (boot_o_7 P) (node (ob15 P) (node (ob31 P) (node (ob63 P) .nil .nil) .nil) (node (ob47 P) .nil .nil)) (node (ob23 P) (node (ob39 P) .nil .nil) (node (ob55 P) .nil .nil))) (node (ob11 P) (node (ob19 P) (node (ob35 P) .nil .nil) (node (ob51 P) .nil .nil)) (node (ob27 P) (node (ob43 P) .nil .nil) (node (ob59 P) .nil .nil)))) (node (boot_o_5 P) (node (boot_o_9 P) (node (ob17 P) (node (ob33 P) .nil .nil) (node (ob49 P) .nil .nil)) (node (ob25 P) (node (ob41 P) .nil .nil) (node (ob57 P) .nil .nil))) (node (ob13 P) (node (ob21 P) (node (ob37 P) .nil .nil) (node (ob53 P) .nil .nil)) (node (ob29 P) (node (ob45 P) .nil .nil) (node (ob61 P) .nil .nil))))) (node (boot_o_2 P) (node (boot_o_4 P) (node (boot_o_8 P) (node (ob16 P) (node (ob32 P) .nil .nil) (node (ob48 P) .nil .nil)) (node (ob24 P) (node (ob40 P) .nil .nil) (node (ob56 P) .nil .nil))) (node (ob12x4 P) (node (ob20 P) (node (ob36 P) .nil .nil) (node (ob52 P) .nil .nil)) (node (ob28 P) (node (ob44 P) .nil .nil) (node (ob60 P) .nil .nil)))) (node (boot_o_6 P) (node (boot_o_10 P) (node (ob18 P) (node (ob34 P) .nil .nil) (node (ob50 P) .nil .nil)) (node (ob26 P) (node (ob42 P) .nil .nil) (node (ob58 P) .nil .nil))) (node (ob14 P) (node (ob22 P) (node (ob38 P) .nil .nil) (node (ob54 P) .nil .nil)) (node (ob30 P) (node (ob46 P) .nil .nil) (node (ob62 P) .nil .nil))))))
noncomputable def ob3x5 (P : Params) : Obj := ⟨.type "dict", none, .dict #[kE P "__name__" 165 (.str (Str.ofString "cpy313.colorsys") 247), kE P "__doc__" 166 .none, kE P "__package__" 167 .none, kE P "__loader__" 168 (.builtin "__main__.__loader__#opaque"), kE P "__spec__" 169 .none, kE P "__annotations__" 170 (.ref 6), kE P "__builtins__" 171 (.ref 4), kE P "__file__" 173 (.str (Str.ofString "/claim/cut.py") 172), kE P "__cached__" 174 .none, kE P "_netrclex" 246 (.ref 52), kE P "rgb_to_hsv" 266 (.ref 63), kE P "hsv_to_rgb" 280 (.ref 70)] 12, #[]⟩
noncomputable def ob12x5 (P : Params) : Obj := ⟨.none, none, .fields #[.int 2 0, .int 0 0, .ref 20, .int 46 0, .int 0 0, .ref 62, .int 65 0, .int 0 0, .ref 69], #[]⟩
noncomputable def tr5 (P : Params) : BT := (node (boot_o_0 P) (node (boot_o_1 P) (node (ob3x5 P) (node (boot_o_7 P) (node (ob15 P) (node (ob31 P) (node (ob63 P) .nil .nil) .nil) (node (ob47 P) .nil .nil)) (node (ob23 P) (node (ob39 P) .nil .nil) (node (ob55 P) .nil .nil))) (node (ob11 P) (node (ob19 P) (node (ob35 P) (node (ob67 P) .nil .nil) .nil) (node (ob51 P) .nil .nil)) (node (ob27 P) (node (ob43 P) .nil .nil) (node (ob59 P) .nil .nil)))) (node (boot_o_5 P) (node (boot_o_9 P) (node (ob17 P) (node (ob33 P) (node (ob65 P) .nil .nil) .nil) (node (ob49 P) .nil .nil)) (node (ob25 P) (node (ob41 P) .nil .nil) (node (ob57 P) .nil .nil))) (node (ob13 P) (node (ob21 P) (node (ob37 P) (node (ob69 P) .nil .nil) .nil) (node (ob53 P) .nil .nil)) (node (ob29 P) (node (ob45 P) .nil .nil) (node (ob61 P) .nil .nil))))) (node (boot_o_2 P) (node (boot_o_4 P) (node (boot_o_8 P) (node (ob16 P) (node (ob32 P) (node (ob64 P) .nil .nil) .nil) (node (ob48 P) .nil .nil)) (node (ob24 P) (node (ob40 P) .nil .nil) (node (ob56 P) .nil .nil))) (node (ob12x5 P) (node (ob20 P) (node (ob36 P) (node (ob68 P) .nil .nil) .nil) (node (ob52 P) .nil .nil)) (node (ob28 P) (node (ob44 P) .nil .nil) (node (ob60 P) .nil .nil)))) (node (boot_o_6 P) (node (boot_o_10 P) (node (ob18 P) (node (ob34 P) (node (ob66 P) .nil .nil) .nil) (node (ob50 P) .nil .nil)) (node (ob26 P) (node (ob42 P) .nil .nil) (node (ob58 P) .nil .nil))) (node (ob14 P) (node (ob22 P) (node (ob38 P) (node (ob70 P) .nil .nil) .nil) (node (ob54 P) .nil .nil)) (node (ob30 P) (node (ob46 P) .nil .nil) (node (ob62 P) .nil .nil))))))
noncomputable def ob3x6 (P : Params) : Obj := ⟨.type "dict", none, .dict #[kE P "__name__" 165 (.str (Str.ofString "cpy313.stringprep") 281), kE P "__doc__" 166 .none, kE P "__package__" 167 .none, kE P "__loader__" 168 (.builtin "__main__.__loader__#opaque"), kE P "__spec__" 169 .none, kE P "__annotations__" 170 (.ref 6), kE P "__builtins__" 171 (.ref 4), kE P "__file__" 173 (.str (Str.ofString "/claim/cut.py") 172), kE P "__cached__" 174 .none, kE P "_netrclex" 246 (.ref 52), kE P "rgb_to_hsv" 266 (.ref 63), kE P "hsv_to_rgb" 280 (.ref 70)] 12, #[]⟩
noncomputable def tr6 (P : Params) : BT := (node (boot_o_0 P) (node (boot_o_1 P) (node (ob3x6 P) (node (boot_o_7 P) (node (ob15 P) (node (ob31 P) (node (ob63 P) .nil .nil) .nil) (node (ob47 P) .nil .nil)) (node (ob23 P) (node (ob39 P) .nil .nil) (node (ob55 P) .nil .nil))) (node (ob11 P) (node (ob19 P) (node (ob35 P) (node (ob67 P) .nil .nil) .nil) (node (ob51 P) .nil .nil)) (node (ob27 P) (node (ob43 P) .nil .nil) (node (ob59 P) .nil .nil)))) (node (boot_o_5 P) (node (boot_o_9 P) (node (ob17 P) (node (ob33 P) (node (ob65 P) .nil .nil) .nil) (node (ob49 P) .nil .nil)) (node (ob25 P) (node (ob41 P) .nil .nil) (node (ob57 P) .nil .nil))) (node (ob13 P) (node (ob21 P) (node (ob37 P) (node (ob69 P) .nil .nil) .nil) (node (ob53 P) .nil .nil)) (node (ob29 P) (node (ob45 P) .nil .nil) (node (ob61 P) .nil .nil))))) (node (boot_o_2 P) (node (boot_o_4 P) (node (boot_o_8 P) (node (ob16 P) (node (ob32 P) (node (ob64 P) .nil .nil) .nil) (node (ob48 P) .nil .nil)) (node (ob24 P) (node (ob40 P) .nil .nil) (node (ob56 P) .nil .nil))) (node (ob12x5 P) (node (ob20 P) (node (ob36 P) (node (ob68 P) .nil .nil) .nil) (node (ob52 P) .nil .nil)) (node (ob28 P) (node (ob44 P) .nil .nil) (node (ob60 P) .nil .nil)))) (node (boot_o_6 P) (node (boot_o_10 P) (node (ob18 P) (node (ob34 P) (node (ob66 P) .nil .nil) .nil) (node (ob50 P) .nil .nil)) (node (ob26 P) (node (ob42 P) .nil .nil) (node (ob58 P) .nil .nil))) (node (ob14 P) (node (ob22 P) (node (ob38 P) (node (ob70 P) .nil .nil) .nil) (node (ob54 P) .nil .nil)) (node (ob30 P) (node (ob46 P) .nil .nil) (node (ob62 P) .nil .nil))))))
noncomputable def ob3x7 (P : Params) : Obj := ⟨.type "dict", none, .dict #[kE P "__name__" 165 (.str (Str.ofString "cpy313.stringprep") 281), kE P "__doc__" 166 .none, kE P "__package__" 167 .none, kE P "__loader__" 168 (.builtin "__main__.__loader__#opaque"), kE P "__spec__" 169 .none, kE P "__annotations__" 170 (.ref 6), kE P "__builtins__" 171 (.ref 4), kE P "__file__" 173 (.str (Str.ofString "/claim/cut.py") 172), kE P "__cached__" 174 .none, kE P "_netrclex" 246 (.ref 52), kE P "rgb_to_hsv" 266 (.ref 63), kE P "hsv_to_rgb" 280 (.ref 70), kE P "b1_set" 342 (.ref 78)] 13, #[]⟩
noncomputable def tr7 (P : Params) : BT := (node (boot_o_0 P) (node (boot_o_1 P) (node (ob3x7 P) (node (boot_o_7 P) (node (ob15 P) (node (ob31 P) (node (ob63 P) .nil .nil) .nil) (node (ob47 P) (node (ob79 P) .nil .nil) .nil)) (node (ob23 P) (node (ob39 P) (node (ob71 P) .nil .nil) .nil) (node (ob55 P) .nil .nil))) (node (ob11 P) (node (ob19 P) (node (ob35 P) (node (ob67 P) .nil .nil) .nil) (node (ob51 P) .nil .nil)) (node (ob27 P) (node (ob43 P) (node (ob75 P) .nil .nil) .nil) (node (ob59 P) .nil .nil)))) (node (boot_o_5 P) (node (boot_o_9 P) (node (ob17 P) (node (ob33 P) (node (ob65 P) .nil .nil) .nil) (node (ob49 P) (node (ob81 P) .nil .nil) .nil)) (node (ob25 P) (node (ob41 P) (node (ob73 P) .nil .nil) .nil) (node (ob57 P) .nil .nil))) (node (ob13 P) (node (ob21 P) (node (ob37 P) (node (ob69 P) .nil .nil) .nil) (node (ob53 P) .nil .nil)) (node (ob29 P) (node (ob45 P) (node (ob77 P) .nil .nil) .nil) (node (ob61 P) .nil .nil))))) (node (boot_o_2 P) (node (boot_o_4 P) (node (boot_o_8 P) (node (ob16 P) (node (ob32 P) (node (ob64 P) .nil .nil) .nil) (node (ob48 P) (node (ob80 P) .nil .nil) .nil)) (node (ob24 P) (node (ob40 P) (node (ob72 P) .nil .nil) .nil) (node (ob56 P) .nil .nil))) (node (ob12x5 P) (node (ob20 P) (node (ob36 P) (node (ob68 P) .nil .nil) .nil) (node (ob52 P) .nil .nil)) (node (ob28 P) (node (ob44 P) (node (ob76 P) .nil .nil) .nil) (node (ob60 P) .nil .nil)))) (node (boot_o_6 P) (node (boot_o_10 P) (node (ob18 P) (node (ob34 P) (node (ob66 P) .nil .nil) .nil) (node (ob50 P) .nil .nil)) (node (ob26 P) (node (ob42 P) (node (ob74 P) .nil .nil) .nil) (node (ob58 P) .nil .nil))) (node (ob14 P) (node (ob22 P) (node (ob38 P) (node (ob70 P) .nil .nil) .nil) (node (ob54 P) .nil .nil)) (node (ob30 P) (node (ob46 P) (node (ob78 P) .nil .nil) .nil) (node (ob62 P) .nil .nil))))))
noncomputable def ob3x8 (P : Params) : Obj := ⟨.type "dict", none, .dict #[kE P "__name__" 165 (.str (Str.ofString "cpy313.stringprep") 281), kE P "__doc__" 166 .none, kE P "__package__" 167 .none, kE P "__loader__" 168 (.builtin "__main__.__loader__#opaque"), kE P "__spec__" 169 .none, kE P "__annotations__" 170 (.ref 6), kE P "__builtins__" 171 (.ref 4), kE P "__file__" 173 (.str (Str.ofString "/claim/cut.py") 172), kE P "__cached__" 174 .none, kE P "_netrclex" 246 (.ref 52), kE P "rgb_to_hsv" 266 (.ref 63), kE P "hsv_to_rgb" 280 (.ref 70), kE P "b1_set" 342 (.ref 78), kE P "in_table_b1" 349 (.ref 88)] 14, #[]⟩
noncomputable def ob12x8 (P : Params) : Obj := ⟨.none, none, .fields #[.int 2 0, .int 0 0, .ref 20, .int 46 0, .int 0 0, .ref 62, .int 65 0, .int 0 0, .ref 69, .int 88 0, .int 0 0, .ref 87], #[]⟩
noncomputable def tr8 (P : Params) : BT := (node (boot_o_0 P) (node (boot_o_1 P) (node (ob3x8 P) (node (boot_o_7 P) (node (ob15 P) (node (ob31 P) (node (ob63 P) .nil .nil) .nil) (node (ob47 P) (node (ob79 P) .nil .nil) .nil)) (node (ob23 P) (node (ob39 P) (node (ob71 P) .nil .nil) .nil) (node (ob55 P) (node (ob87 P) .nil .nil) .nil))) (node (ob11 P) (node (ob19 P) (node (ob35 P) (node (ob67 P) .nil .nil) .nil) (node (ob51 P) (node (ob83 P) .nil .nil) .nil)) (node (ob27 P) (node (ob43 P) (node (ob75 P) .nil .nil) .nil) (node (ob59 P) .nil .nil)))) (node (boot_o_5 P) (node (boot_o_9 P) (node (ob17 P) (node (ob33 P) (node (ob65 P) .nil .nil) .nil) (node (ob49 P) (node (ob81 P) .nil .nil) .nil)) (node (ob25 P) (node (ob41 P) (node (ob73 P) .nil .nil) .nil) (node (ob57 P) .nil .nil))) (node (ob13 P) (node (ob21 P) (node (ob37 P) (node (ob69 P) .nil .nil) .nil) (node (ob53 P) (node (ob85 P) .nil .nil) .nil)) (node (ob29 P) (node (ob45 P) (node (ob77 P) .nil .nil) .nil) (node (ob61 P) .nil .nil))))) (node (boot_o_2 P) (node (boot_o_4 P) (node (boot_o_8 P) (node (ob16 P) (node (ob32 P) (node (ob64 P) .nil .nil) .nil) (node (ob48 P) (node (ob80 P) .nil .nil) .nil)) (node (ob24 P) (node (ob40 P) (node (ob72 P) .nil .nil) .nil) (node (ob56 P) (node (ob88 P) .nil .nil) .nil))) (node (ob12x8 P) (node (ob20 P) (node (ob36 P) (node (ob68 P) .nil .nil) .nil) (node (ob52 P) (node (ob84 P) .nil .nil) .nil)) (node (ob28 P) (node (ob44 P) (node (ob76 P) .nil .nil) .nil) (node (ob60 P) .nil .nil)))) (node (boot_o_6 P) (node (boot_o_10 P) (node (ob18 P) (node (ob34 P) (node (ob66 P) .nil .nil) .nil) (node (ob50 P) (node (ob82 P) .nil .nil) .nil)) (node (ob26 P) (node (ob42 P) (node (ob74 P) .nil .nil) .nil) (node (ob58 P) .nil .nil))) (node (ob14 P) (node (ob22 P) (node (ob38 P) (node (ob70 P) .nil .nil) .nil) (node (ob54 P) (node (ob86 P) .nil .nil) .nil)) (node (ob30 P) (node (ob46 P) (node (ob78 P) .nil .nil) .nil) (node (ob62 P) .nil .nil))))))
noncomputable def ob3x9 (P : Params) : Obj := ⟨.type "dict", none, .dict #[kE P "__name__" 165 (.str (Str.ofString "cpy313.stringprep") 281), kE P "__doc__" 166 .none, kE P "__package__" 167 .none, kE P "__loader__" 168 (.builtin "__main__.__loader__#opaque"), kE P "__spec__" 169 .none, kE P "__annotations__" 170 (.ref 6), kE P "__builtins__" 171 (.ref 4), kE P "__file__" 173 (.str (Str.ofString "/claim/cut.py") 172), kE P "__cached__" 174 .none, kE P "_netrclex" 246 (.ref 52), kE P "rgb_to_hsv" 266 (.ref 63), kE P "hsv_to_rgb" 280 (.ref 70), kE P "b1_set" 342 (.ref 78), kE P "in_table_b1" 349 (.ref 88), kE P "b3_exceptions" 2300 (.ref 89)] 15, #[]⟩
noncomputable def ob3x10 (P : Params) : Obj := ⟨.type "dict", none, .dict #[kE P "__name__" 165 (.str (Str.ofString "cpy313.stringprep") 281), kE P "__doc__" 166 .none, kE P "__package__" 167 .none, kE P "__loader__" 168 (.builtin "__main__.__loader__#opaque"), kE P "__spec__" 169 .none, kE P "__annotations__" 170 (.ref 6), kE P "__builtins__" 171 (.ref 4), kE P "__file__" 173 (.str (Str.ofString "/claim/cut.py") 172), kE P "__cached__" 174 .none, kE P "_netrclex" 246 (.ref 52), kE P "rgb_to_hsv" 266 (.ref 63), kE P "hsv_to_rgb" 280 (.ref 70), kE P "b1_set" 342 (.ref 78), kE P "in_table_b1" 349 (.ref 88), kE P "b3_exceptions" 2300 (.ref 89), kE P "map_table_b3" 2308 (.ref 134)] 16, #[]⟩
noncomputable def ob12x10 (P : Params) : Obj := ⟨.none, none, .fields #[.int 2 0, .int 0 0, .ref 20, .int 46 0, .int 0 0, .ref 62, .int 65 0, .int 0 0, .ref 69, .int 88 0, .int 0 0, .ref 87, .int 91 0, .int 0 0, .ref 133], #[]⟩
noncomputable def ob3x11 (P : Params) : Obj := ⟨.type "dict", none, .dict #[kE P "__name__" 165 (.str (Str.ofString "law_rw0106_01") 2309), kE P "__doc__" 166 .none, kE P "__package__" 167 .none, kE P "__loader__" 168 (.builtin "__main__.__loader__#opaque"), kE P "__spec__" 169 .none, kE P "__annotations__" 170 (.ref 6), kE P "__builtins__" 171 (.ref 4), kE P "__file__" 173 (.str (Str.ofString "/claim/cut.py") 172), kE P "__cached__" 174 .none, kE P "_netrclex" 246 (.ref 52), kE P "rgb_to_hsv" 266 (.ref 63), kE P "hsv_to_rgb" 280 (.ref 70), kE P "b1_set" 342 (.ref 78), kE P "in_table_b1" 349 (.ref 88), kE P "b3_exceptions" 2300 (.ref 89), kE P "map_table_b3" 2308 (.ref 134)] 16, #[]⟩
noncomputable def ob3x12 (P : Params) : Obj := ⟨.type "dict", none, .dict #[kE P "__name__" 165 (.str (Str.ofString "law_rw0106_01") 2309), kE P "__doc__" 166 .none, kE P "__package__" 167 .none, kE P "__loader__" 168 (.builtin "__main__.__loader__#opaque"), kE P "__spec__" 169 .none, kE P "__annotations__" 170 (.ref 6), kE P "__builtins__" 171 (.ref 4), kE P "__file__" 173 (.str (Str.ofString "/claim/cut.py") 172), kE P "__cached__" 174 .none, kE P "_netrclex" 246 (.ref 52), kE P "rgb_to_hsv" 266 (.ref 63), kE P "hsv_to_rgb" 280 (.ref 70), kE P "b1_set" 342 (.ref 78), kE P "in_table_b1" 349 (.ref 88), kE P "b3_exceptions" 2300 (.ref 89), kE P "map_table_b3" 2308 (.ref 134), kE P "_law_lexer" 2319 (.ref 141)] 17, #[]⟩
noncomputable def ob12x12 (P : Params) : Obj := ⟨.none, none, .fields #[.int 2 0, .int 0 0, .ref 20, .int 46 0, .int 0 0, .ref 62, .int 65 0, .int 0 0, .ref 69, .int 88 0, .int 0 0, .ref 87, .int 91 0, .int 0 0, .ref 133, .int 97 0, .int 0 0, .ref 140], #[]⟩
noncomputable def ob3x13 (P : Params) : Obj := ⟨.type "dict", none, .dict #[kE P "__name__" 165 (.str (Str.ofString "law_rw0106_01") 2309), kE P "__doc__" 166 .none, kE P "__package__" 167 .none, kE P "__loader__" 168 (.builtin "__main__.__loader__#opaque"), kE P "__spec__" 169 .none, kE P "__annotations__" 170 (.ref 6), kE P "__builtins__" 171 (.ref 4), kE P "__file__" 173 (.str (Str.ofString "/claim/cut.py") 172), kE P "__cached__" 174 .none, kE P "_netrclex" 246 (.ref 52), kE P "rgb_to_hsv" 266 (.ref 63), kE P "hsv_to_rgb" 280 (.ref 70), kE P "b1_set" 342 (.ref 78), kE P "in_table_b1" 349 (.ref 88), kE P "b3_exceptions" 2300 (.ref 89), kE P "map_table_b3" 2308 (.ref 134), kE P "_law_lexer" 2319 (.ref 141), kE P "_law_written" 2325 (.ref 146)] 18, #[]⟩
noncomputable def ob12x13 (P : Params) : Obj := ⟨.none, none, .fields #[.int 2 0, .int 0 0, .ref 20, .int 46 0, .int 0 0, .ref 62, .int 65 0, .int 0 0, .ref 69, .int 88 0, .int 0 0, .ref 87, .int 91 0, .int 0 0, .ref 133, .int 97 0, .int 0 0, .ref 140, .int 102 0, .int 0 0, .ref 145], #[]⟩
noncomputable def ob3x14 (P : Params) : Obj := ⟨.type "dict", none, .dict #[kE P "__name__" 165 (.str (Str.ofString "law_rw0106_01") 2309), kE P "__doc__" 166 .none, kE P "__package__" 167 .none, kE P "__loader__" 168 (.builtin "__main__.__loader__#opaque"), kE P "__spec__" 169 .none, kE P "__annotations__" 170 (.ref 6), kE P "__builtins__" 171 (.ref 4), kE P "__file__" 173 (.str (Str.ofString "/claim/cut.py") 172), kE P "__cached__" 174 .none, kE P "_netrclex" 246 (.ref 52), kE P "rgb_to_hsv" 266 (.ref 63), kE P "hsv_to_rgb" 280 (.ref 70), kE P "b1_set" 342 (.ref 78), kE P "in_table_b1" 349 (.ref 88), kE P "b3_exceptions" 2300 (.ref 89), kE P "map_table_b3" 2308 (.ref 134), kE P "_law_lexer" 2319 (.ref 141), kE P "_law_written" 2325 (.ref 146), kE P "_law_prepared" 2331 (.ref 151)] 19, #[]⟩
noncomputable def ob12x14 (P : Params) : Obj := ⟨.none, none, .fields #[.int 2 0, .int 0 0, .ref 20, .int 46 0, .int 0 0, .ref 62, .int 65 0, .int 0 0, .ref 69, .int 88 0, .int 0 0, .ref 87, .int 91 0, .int 0 0, .ref 133, .int 97 0, .int 0 0, .ref 140, .int 102 0, .int 0 0, .ref 145, .int 107 0, .int 0 0, .ref 150], #[]⟩
noncomputable def ob3x15 (P : Params) : Obj := ⟨.type "dict", none, .dict #[kE P "__name__" 165 (.str (Str.ofString "law_rw0106_01") 2309), kE P "__doc__" 166 .none, kE P "__package__" 167 .none, kE P "__loader__" 168 (.builtin "__main__.__loader__#opaque"), kE P "__spec__" 169 .none, kE P "__annotations__" 170 (.ref 6), kE P "__builtins__" 171 (.ref 4), kE P "__file__" 173 (.str (Str.ofString "/claim/cut.py") 172), kE P "__cached__" 174 .none, kE P "_netrclex" 246 (.ref 52), kE P "rgb_to_hsv" 266 (.ref 63), kE P "hsv_to_rgb" 280 (.ref 70), kE P "b1_set" 342 (.ref 78), kE P "in_table_b1" 349 (.ref 88), kE P "b3_exceptions" 2300 (.ref 89), kE P "map_table_b3" 2308 (.ref 134), kE P "_law_lexer" 2319 (.ref 141), kE P "_law_written" 2325 (.ref 146), kE P "_law_prepared" 2331 (.ref 151), kE P "_law_unseen" 2339 (.ref 158)] 20, #[]⟩
noncomputable def ob12x15 (P : Params) : Obj := ⟨.none, none, .fields #[.int 2 0, .int 0 0, .ref 20, .int 46 0, .int 0 0, .ref 62, .int 65 0, .int 0 0, .ref 69, .int 88 0, .int 0 0, .ref 87, .int 91 0, .int 0 0, .ref 133, .int 97 0, .int 0 0, .ref 140, .int 102 0, .int 0 0, .ref 145, .int 107 0, .int 0 0, .ref 150, .int 112 0, .int 0 0, .ref 157], #[]⟩
noncomputable def ob3x16 (P : Params) : Obj := ⟨.type "dict", none, .dict #[kE P "__name__" 165 (.str (Str.ofString "law_rw0106_01") 2309), kE P "__doc__" 166 .none, kE P "__package__" 167 .none, kE P "__loader__" 168 (.builtin "__main__.__loader__#opaque"), kE P "__spec__" 169 .none, kE P "__annotations__" 170 (.ref 6), kE P "__builtins__" 171 (.ref 4), kE P "__file__" 173 (.str (Str.ofString "/claim/cut.py") 172), kE P "__cached__" 174 .none, kE P "_netrclex" 246 (.ref 52), kE P "rgb_to_hsv" 266 (.ref 63), kE P "hsv_to_rgb" 280 (.ref 70), kE P "b1_set" 342 (.ref 78), kE P "in_table_b1" 349 (.ref 88), kE P "b3_exceptions" 2300 (.ref 89), kE P "map_table_b3" 2308 (.ref 134), kE P "_law_lexer" 2319 (.ref 141), kE P "_law_written" 2325 (.ref 146), kE P "_law_prepared" 2331 (.ref 151), kE P "_law_unseen" 2339 (.ref 158), kE P "_law_letter" 2348 (.ref 165)] 21, #[]⟩
noncomputable def ob12x16 (P : Params) : Obj := ⟨.none, none, .fields #[.int 2 0, .int 0 0, .ref 20, .int 46 0, .int 0 0, .ref 62, .int 65 0, .int 0 0, .ref 69, .int 88 0, .int 0 0, .ref 87, .int 91 0, .int 0 0, .ref 133, .int 97 0, .int 0 0, .ref 140, .int 102 0, .int 0 0, .ref 145, .int 107 0, .int 0 0, .ref 150, .int 112 0, .int 0 0, .ref 157, .int 115 0, .int 0 0, .ref 164], #[]⟩
noncomputable def ob3x17 (P : Params) : Obj := ⟨.type "dict", none, .dict #[kE P "__name__" 165 (.str (Str.ofString "law_rw0106_01") 2309), kE P "__doc__" 166 .none, kE P "__package__" 167 .none, kE P "__loader__" 168 (.builtin "__main__.__loader__#opaque"), kE P "__spec__" 169 .none, kE P "__annotations__" 170 (.ref 6), kE P "__builtins__" 171 (.ref 4), kE P "__file__" 173 (.str (Str.ofString "/claim/cut.py") 172), kE P "__cached__" 174 .none, kE P "_netrclex" 246 (.ref 52), kE P "rgb_to_hsv" 266 (.ref 63), kE P "hsv_to_rgb" 280 (.ref 70), kE P "b1_set" 342 (.ref 78), kE P "in_table_b1" 349 (.ref 88), kE P "b3_exceptions" 2300 (.ref 89), kE P "map_table_b3" 2308 (.ref 134), kE P "_law_lexer" 2319 (.ref 141), kE P "_law_written" 2325 (.ref 146), kE P "_law_prepared" 2331 (.ref 151), kE P "_law_unseen" 2339 (.ref 158), kE P "_law_letter" 2348 (.ref 165), kE P "_law_word" 2354 (.ref 170)] 22, #[]⟩
noncomputable def ob12x17 (P : Params) : Obj := ⟨.none, none, .fields #[.int 2 0, .int 0 0, .ref 20, .int 46 0, .int 0 0, .ref 62, .int 65 0, .int 0 0, .ref 69, .int 88 0, .int 0 0, .ref 87, .int 91 0, .int 0 0, .ref 133, .int 97 0, .int 0 0, .ref 140, .int 102 0, .int 0 0, .ref 145, .int 107 0, .int 0 0, .ref 150, .int 112 0, .int 0 0, .ref 157, .int 115 0, .int 0 0, .ref 164, .int 122 0, .int 0 0, .ref 169], #[]⟩
noncomputable def ob3x18 (P : Params) : Obj := ⟨.type "dict", none, .dict #[kE P "__name__" 165 (.str (Str.ofString "law_rw0106_01") 2309), kE P "__doc__" 166 .none, kE P "__package__" 167 .none, kE P "__loader__" 168 (.builtin "__main__.__loader__#opaque"), kE P "__spec__" 169 .none, kE P "__annotations__" 170 (.ref 6), kE P "__builtins__" 171 (.ref 4), kE P "__file__" 173 (.str (Str.ofString "/claim/cut.py") 172), kE P "__cached__" 174 .none, kE P "_netrclex" 246 (.ref 52), kE P "rgb_to_hsv" 266 (.ref 63), kE P "hsv_to_rgb" 280 (.ref 70), kE P "b1_set" 342 (.ref 78), kE P "in_table_b1" 349 (.ref 88), kE P "b3_exceptions" 2300 (.ref 89), kE P "map_table_b3" 2308 (.ref 134), kE P "_law_lexer" 2319 (.ref 141), kE P "_law_written" 2325 (.ref 146), kE P "_law_prepared" 2331 (.ref 151), kE P "_law_unseen" 2339 (.ref 158), kE P "_law_letter" 2348 (.ref 165), kE P "_law_word" 2354 (.ref 170), kE P "_law_image" 2363 (.ref 177)] 23, #[]⟩
noncomputable def ob12x18 (P : Params) : Obj := ⟨.none, none, .fields #[.int 2 0, .int 0 0, .ref 20, .int 46 0, .int 0 0, .ref 62, .int 65 0, .int 0 0, .ref 69, .int 88 0, .int 0 0, .ref 87, .int 91 0, .int 0 0, .ref 133, .int 97 0, .int 0 0, .ref 140, .int 102 0, .int 0 0, .ref 145, .int 107 0, .int 0 0, .ref 150, .int 112 0, .int 0 0, .ref 157, .int 115 0, .int 0 0, .ref 164, .int 122 0, .int 0 0, .ref 169, .int 129 0, .int 0 0, .ref 176], #[]⟩
noncomputable def ob3x19 (P : Params) : Obj := ⟨.type "dict", none, .dict #[kE P "__name__" 165 (.str (Str.ofString "law_rw0106_01") 2309), kE P "__doc__" 166 .none, kE P "__package__" 167 .none, kE P "__loader__" 168 (.builtin "__main__.__loader__#opaque"), kE P "__spec__" 169 .none, kE P "__annotations__" 170 (.ref 6), kE P "__builtins__" 171 (.ref 4), kE P "__file__" 173 (.str (Str.ofString "/claim/cut.py") 172), kE P "__cached__" 174 .none, kE P "_netrclex" 246 (.ref 52), kE P "rgb_to_hsv" 266 (.ref 63), kE P "hsv_to_rgb" 280 (.ref 70), kE P "b1_set" 342 (.ref 78), kE P "in_table_b1" 349 (.ref 88), kE P "b3_exceptions" 2300 (.ref 89), kE P "map_table_b3" 2308 (.ref 134), kE P "_law_lexer" 2319 (.ref 141), kE P "_law_written" 2325 (.ref 146), kE P "_law_prepared" 2331 (.ref 151), kE P "_law_unseen" 2339 (.ref 158), kE P "_law_letter" 2348 (.ref 165), kE P "_law_word" 2354 (.ref 170), kE P "_law_image" 2363 (.ref 177), kE P "_law_leads" 2372 (.ref 184)] 24, #[]⟩
noncomputable def ob12x19 (P : Params) : Obj := ⟨.none, none, .fields #[.int 2 0, .int 0 0, .ref 20, .int 46 0, .int 0 0, .ref 62, .int 65 0, .int 0 0, .ref 69, .int 88 0, .int 0 0, .ref 87, .int 91 0, .int 0 0, .ref 133, .int 97 0, .int 0 0, .ref 140, .int 102 0, .int 0 0, .ref 145, .int 107 0, .int 0 0, .ref 150, .int 112 0, .int 0 0, .ref 157, .int 115 0, .int 0 0, .ref 164, .int 122 0, .int 0 0, .ref 169, .int 129 0, .int 0 0, .ref 176, .int 136 0, .int 0 0, .ref 183], #[]⟩
noncomputable def ob3x20 (P : Params) : Obj := ⟨.type "dict", none, .dict #[kE P "__name__" 165 (.str (Str.ofString "law_rw0106_01") 2309), kE P "__doc__" 166 .none, kE P "__package__" 167 .none, kE P "__loader__" 168 (.builtin "__main__.__loader__#opaque"), kE P "__spec__" 169 .none, kE P "__annotations__" 170 (.ref 6), kE P "__builtins__" 171 (.ref 4), kE P "__file__" 173 (.str (Str.ofString "/claim/cut.py") 172), kE P "__cached__" 174 .none, kE P "_netrclex" 246 (.ref 52), kE P "rgb_to_hsv" 266 (.ref 63), kE P "hsv_to_rgb" 280 (.ref 70), kE P "b1_set" 342 (.ref 78), kE P "in_table_b1" 349 (.ref 88), kE P "b3_exceptions" 2300 (.ref 89), kE P "map_table_b3" 2308 (.ref 134), kE P "_law_lexer" 2319 (.ref 141), kE P "_law_written" 2325 (.ref 146), kE P "_law_prepared" 2331 (.ref 151), kE P "_law_unseen" 2339 (.ref 158), kE P "_law_letter" 2348 (.ref 165), kE P "_law_word" 2354 (.ref 170), kE P "_law_image" 2363 (.ref 177), kE P "_law_leads" 2372 (.ref 184), kE P "_law_lamps" 2381 (.ref 191)] 25, #[]⟩
noncomputable def ob12x20 (P : Params) : Obj := ⟨.none, none, .fields #[.int 2 0, .int 0 0, .ref 20, .int 46 0, .int 0 0, .ref 62, .int 65 0, .int 0 0, .ref 69, .int 88 0, .int 0 0, .ref 87, .int 91 0, .int 0 0, .ref 133, .int 97 0, .int 0 0, .ref 140, .int 102 0, .int 0 0, .ref 145, .int 107 0, .int 0 0, .ref 150, .int 112 0, .int 0 0, .ref 157, .int 115 0, .int 0 0, .ref 164, .int 122 0, .int 0 0, .ref 169, .int 129 0, .int 0 0, .ref 176, .int 136 0, .int 0 0, .ref 183, .int 141 0, .int 0 0, .ref 190], #[]⟩
noncomputable def ob3x21 (P : Params) : Obj := ⟨.type "dict", none, .dict #[kE P "__name__" 165 (.str (Str.ofString "law_rw0106_01") 2309), kE P "__doc__" 166 .none, kE P "__package__" 167 .none, kE P "__loader__" 168 (.builtin "__main__.__loader__#opaque"), kE P "__spec__" 169 .none, kE P "__annotations__" 170 (.ref 6), kE P "__builtins__" 171 (.ref 4), kE P "__file__" 173 (.str (Str.ofString "/claim/cut.py") 172), kE P "__cached__" 174 .none, kE P "_netrclex" 246 (.ref 52), kE P "rgb_to_hsv" 266 (.ref 63), kE P "hsv_to_rgb" 280 (.ref 70), kE P "b1_set" 342 (.ref 78), kE P "in_table_b1" 349 (.ref 88), kE P "b3_exceptions" 2300 (.ref 89), kE P "map_table_b3" 2308 (.ref 134), kE P "_law_lexer" 2319 (.ref 141), kE P "_law_written" 2325 (.ref 146), kE P "_law_prepared" 2331 (.ref 151), kE P "_law_unseen" 2339 (.ref 158), kE P "_law_letter" 2348 (.ref 165), kE P "_law_word" 2354 (.ref 170), kE P "_law_image" 2363 (.ref 177), kE P "_law_leads" 2372 (.ref 184), kE P "_law_lamps" 2381 (.ref 191), kE P "law" 2387 (.ref 196)] 26, #[]⟩
noncomputable def ob12x21 (P : Params) : Obj := ⟨.none, none, .fields #[.int 2 0, .int 0 0, .ref 20, .int 46 0, .int 0 0, .ref 62, .int 65 0, .int 0 0, .ref 69, .int 88 0, .int 0 0, .ref 87, .int 91 0, .int 0 0, .ref 133, .int 97 0, .int 0 0, .ref 140, .int 102 0, .int 0 0, .ref 145, .int 107 0, .int 0 0, .ref 150, .int 112 0, .int 0 0, .ref 157, .int 115 0, .int 0 0, .ref 164, .int 122 0, .int 0 0, .ref 169, .int 129 0, .int 0 0, .ref 176, .int 136 0, .int 0 0, .ref 183, .int 141 0, .int 0 0, .ref 190, .int 144 0, .int 0 0, .ref 195], #[]⟩
end
end Mine
end
section
open PySem PySem.W PyProof.Rows PySem.W.BT
namespace Mine
noncomputable section
noncomputable def topEnv : Env := { scope := PG.main.scope, locals := mainNs, globals := mainNs, cells := [], code := .ref 13, frame := some 14 }
noncomputable abbrev cE : Code := .body bdy topEnv
noncomputable abbrev q0 : Pos := ⟨0, 0, 0, 0⟩
noncomputable def stT (T : BT) (n t : Nat) (os : OsState) : SharedT := ⟨T, n, {}, #[], {}, t, os⟩
theorem tw_segRunT : segRunT = PySem.W.Fast.tw10110043849684766642 := PySem.W.Fast.te10110043849684766642
theorem tw_table : treeTable = PySem.W.Fast.tw14364793385576792824 := PySem.W.Fast.te14364793385576792824
theorem pc0 (w : World) : (fun os => segRunT treeTable PG w 11 (some (.ref 6)) 1 10 (stT (tr0 w.params) 15 187 os) (piecesOf [stAt 0] topEnv cE q0 [topFrame q0])) = fun os => some (.next, stT (tr1 w.params) 15 189 os, cE, ⟨1, 0, 1, 8⟩) := by
  rw [tw_segRunT, tw_table]; kernel_rfl
theorem pc2 (w : World) : (fun os => segRunT treeTable PG w 11 (some (.ref 6)) 1 10 (stT (tr2 w.params) 57 247 os) (piecesOf [stAt 2] topEnv cE ⟨2, 0, 44, 35⟩ [topFrame q0])) = fun os => some (.next, stT (tr3 w.params) 57 249 os, cE, ⟨45, 0, 45, 8⟩) := by
  rw [tw_segRunT, tw_table]; kernel_rfl
theorem pc3 (w : World) : (fun os => segRunT treeTable PG w 11 (some (.ref 6)) 1 41 (stT (tr3 w.params) 57 249 os) (piecesOf [stAt 3] topEnv cE ⟨45, 0, 45, 8⟩ [topFrame q0])) = fun os => some (.next, stT (tr4 w.params) 64 267 os, cE, ⟨46, 0, 64, 20⟩) := by
  rw [tw_segRunT, tw_table]; kernel_rfl
theorem pc1 (w : World) : (fun os => segRunT treeTable PG w 11 (some (.ref 6)) 1 324 (stT (tr1 w.params) 15 189 os) (piecesOf [stAt 1] topEnv cE ⟨1, 0, 1, 8⟩ [topFrame q0])) = fun os => some (.next, stT (tr2 w.params) 57 247 os, cE, ⟨2, 0, 44, 35⟩) := by
  rw [tw_segRunT, tw_table]; kernel_rfl
theorem pc4 (w : World) : (fun os => segRunT treeTable PG w 11 (some (.ref 6)) 1 37 (stT (tr4 w.params) 64 267 os) (piecesOf [stAt 4] topEnv cE ⟨46, 0, 64, 20⟩ [topFrame q0])) = fun os => some (.next, stT (tr5 w.params) 71 281 os, cE, ⟨65, 0, 85, 24⟩) := by
  rw [tw_segRunT, tw_table]; kernel_rfl
theorem pc5 (w : World) : (fun os => segRunT treeTable PG w 11 (some (.ref 6)) 1 10 (stT (tr5 w.params) 71 281 os) (piecesOf [stAt 5] topEnv cE ⟨65, 0, 85, 24⟩ [topFrame q0])) = fun os => some (.next, stT (tr6 w.params) 71 283 os, cE, ⟨86, 0, 86, 8⟩) := by
  rw [tw_segRunT, tw_table]; kernel_rfl
theorem pc7 (w : World) : (fun os => segRunT treeTable PG w 11 (some (.ref 6)) 1 30 (stT (tr7 w.params) 82 343 os) (piecesOf [stAt 7] topEnv cE ⟨87, 0, 87, 6⟩ [topFrame q0])) = fun os => some (.next, stT (tr8 w.params) 89 350 os, cE, ⟨88, 0, 89, 30⟩) := by
  rw [tw_segRunT, tw_table]; kernel_rfl
noncomputable def P6 (w : World) : Prop := (fun os => segRunT treeTable PG w 11 (some (.ref 6)) 1 999 (stT (tr6 w.params) 71 283 os) (piecesOf [stAt 6] topEnv cE ⟨86, 0, 86, 8⟩ [topFrame q0])) = fun os => some (.next, stT (tr7 w.params) 82 343 os, cE, ⟨87, 0, 87, 6⟩)
theorem pc6a (w : World) : P6 ((w.withFollow "special-get-raises" false).withFollow "set-order" false) := by
  unfold P6; rw [tw_segRunT, tw_table]; kernel_rfl
theorem pc6b (w : World) : P6 ((w.withFollow "special-get-raises" true).withFollow "set-order" false) := by
  unfold P6; rw [tw_segRunT, tw_table]; kernel_rfl
theorem pc6c (w : World) : P6 ((w.withFollow "special-get-raises" false).withFollow "set-order" true) := by
  unfold P6; rw [tw_segRunT, tw_table]; kernel_rfl
theorem pc6d (w : World) : P6 ((w.withFollow "special-get-raises" true).withFollow "set-order" true) := by
  unfold P6; rw [tw_segRunT, tw_table]; kernel_rfl
theorem pc6 : ∀ w : World, P6 w :=
  byRow2 "set-order" (P := P6) (byRow2 "special-get-raises" (P := fun w => P6 (w.withFollow "set-order" false)) pc6a pc6b) (byRow2 "special-get-raises" (P := fun w => P6 (w.withFollow "set-order" true)) pc6c pc6d)
end
end Mine
end
section
open PySem PySem.W PyProof.Rows PySem.W.BT
namespace Mine
theorem segGo_add {tb : String → Option Builtin} {p : Program} {w : World} {n₀ : Nat} {ann : Option Value} {b : Nat} : ∀ {n m : Nat} {s s' : Shared} {t t' : Thread} {r : Option (Shared × Thread)}, segGo tb p w n₀ ann b n s t = some (s', t') →
    segGo tb p w n₀ ann b m s' t' = r → segGo tb p w n₀ ann b (n + m) s t = r
  | 0, m, s, s', t, t', r, h, k => by
    obtain ⟨rfl, rfl⟩ : s = s' ∧ t = t' := by simpa [segGo] using h
    rw [Nat.zero_add]; exact k
  | n + 1, m, s, s', t, t', r, h, k => by
    rw [show n + 1 + m = n + m + 1 by lia]
    unfold segGo at h ⊢
    cases he : endAt b t with
    | some f => rw [he] at h; cases h
    | none =>
      rw [he] at h
      cases hk : stepOk n₀ ann t with
      | false => rw [hk] at h; cases h
      | true =>
        rw [hk] at h
        cases hs : step (denote tb) p w s t with
        | halt o s₂ => rw [hs] at h; cases h
        | go s₂ t₂ => rw [hs] at h; exact segGo_add h k
noncomputable abbrev an6 : Option Value := some (.ref 6)
noncomputable def Go (w : World) (n : Nat) (s s' : Shared) (p p' : Pos) {α : Type} (x : Sem α) (a : α) : Prop :=
  ∀ (K : α → Sem Fin) (H : Value → Sem Fin) (gd : Bool → Bool) (lv : List Value → List Value), segGo treeTable PG w 11 an6 1 n s ⟨x.wrap K H gd lv, cE, p, [topFrame q0]⟩ = some (s', ⟨K a, cE, p', [topFrame q0]⟩)
section
variable {w : World} {s s' s'' : Shared} {p p' p'' : Pos} {α β : Type}
theorem Go.pure {a : α} : Go w 0 s s p p (Pure.pure a : Sem α) a := fun K H gd lv => rfl
theorem bind_wrap {γ : Type} (x : Sem α) (f : α → Sem β) (K : β → Sem γ) (H gd lv) : (x >>= f).wrap K H gd lv = x.wrap (fun a => (f a).wrap K H gd lv) H gd lv := by
  rw [Sem.bind_eq_wrap', Sem.wrap_wrap]; rfl
theorem Go.bind {n m : Nat} {x : Sem α} {f : α → Sem β} {a : α} {b : β} (h : Go w n s s' p p' x a) (k : Go w m s' s'' p' p'' (f a) b) : Go w (n + m) s s'' p p'' (x >>= f) b := fun K H gd lv => by
  rw [bind_wrap]
  exact segGo_add (h _ H gd lv) (k K H gd lv)
theorem Go.keep {n : Nat} {x : Sem α} {a : α} (vs : List Value) (h : Go w n s s' p p' x a) : Go w n s s' p p' (x.keep vs) a := fun K H gd lv => by
  rw [Sem.keep_eq_wrap, Sem.wrap_wrap]
  exact h _ _ _ _
theorem Go.holding {n : Nat} {x : Sem α} {a : α} (vs : List Value) (h : Go w n s s' p p' x a) : Go w n s s' p p' (PySem.holding vs x) a := by
  unfold PySem.holding
  split
  · exact h
  · exact h.keep _
theorem Go.onRaise {n : Nat} {x : Sem α} {a : α} (f : Value → Sem Unit) (h : Go w n s s' p p' x a) : Go w n s s' p p' (x.onRaise f) a := fun K H gd lv => by
  rw [Sem.onRaise_eq_wrap, Sem.wrap_wrap]
  exact h _ _ _ _
theorem go1 {t t' : Thread} {r : Option (Shared × Thread)} {n : Nat} (h1 : endAt 1 t = none) (h2 : stepOk 11 an6 t = true) (h3 : step (denote treeTable) PG w s t = .go s' t') (h : segGo treeTable PG w 11 an6 1 n s' t' = r) : segGo treeTable PG w 11 an6 1 (n + 1) s t = r := by
  rw [segGo]
  rw [h1, h2, h3]
  exact h
theorem Go.rule {tag : String} : Go w 1 s s p p (PySem.rule tag) () := fun K H gd lv => go1 rfl rfl (by obtain ⟨h, g, d, t, os⟩ := s; rfl) rfl
theorem Go.standAt {q : Pos} : Go w 1 s s p q (PySem.standAt q) () := fun K H gd lv => go1 rfl rfl (by obtain ⟨h, g, d, t, os⟩ := s; rfl) rfl
theorem Go.point : Go w 1 s s p p PySem.point () := fun K H gd lv => go1 rfl rfl (by obtain ⟨h, g, d, t, os⟩ := s; rfl) rfl
theorem Go.fresh : Go w 1 s { s with toks := s.toks + 1 } p p PySem.fresh s.toks := fun K H gd lv => go1 rfl rfl (by obtain ⟨h, g, d, t, os⟩ := s; rfl) rfl
theorem Go.ask : Go w 1 s s p p PySem.ask ⟨PG, w.params⟩ := fun K H gd lv => go1 rfl rfl (by obtain ⟨h, g, d, t, os⟩ := s; rfl) rfl
theorem Go.load {a : Addr} {part : Option Value} {o : Obj} (ho : s.heap.get? a = some o) : Go w 1 s s p p (PySem.loadPart a part) o := fun K H gd lv => go1 rfl rfl (by
  obtain ⟨h, g, d, t, os⟩ := s
  show step _ _ _ _ ⟨.load a part _, _, _, _⟩ = _
  simp only [step, show h.get? a = some o from ho]; rfl) rfl
theorem Go.update {a : Addr} {part : Option Value} {f : Obj → Obj} (ha : Nat.ble 11 a = true) (ho : (s.heap.get? a).isSome = true) : Go w 1 s { s with heap := s.heap.update a f } p p (PySem.updatePart a part f) () := fun K H gd lv => go1 rfl (by
    show (_ && (Nat.ble 11 a || _ || _ || _)) = true
    rw [ha]; rfl) (by
  obtain ⟨h, g, d, t, os⟩ := s
  show step _ _ _ _ ⟨.update a part f _, _, _, _⟩ = _
  simp only [step, show (h.get? a).isSome = true from ho, if_true]; rfl) rfl
theorem Go.alloc {o : Obj} : Go w 1 s { s with heap := s.heap.push o } p p (PySem.alloc o) s.heap.objs.size := fun K H gd lv => go1 rfl rfl (by obtain ⟨h, g, d, t, os⟩ := s; rfl) rfl
theorem hash_call (k : Int) (t : Tok) (w : World) (h : Heap) (g : Array GenState) (d : Drawn) (tk : Nat) (os : OsState) (p : Pos) : Go w 4 ⟨h, g, d, tk, os⟩ ⟨h, g, d, tk + 1, os⟩ p p (PySem.call (.builtin "int.__hash__") [.int k t]) (.int (rawHash k) tk) := fun K H gd lv => by
  kernel_rfl
theorem Go.cast {n m : Nat} {x : Sem α} {a : α} (h : Go w n s s' p p' x a) (e : n = m) : Go w m s s' p p' x a := e ▸ h
theorem Go.eq {n : Nat} {x y : Sem α} {a : α} (h : Go w n s s' p p' x a) (e : y = x) : Go w n s s' p p' y a := e ▸ h
theorem bindSpecial_hash (k : Int) (t : Tok) : bindSpecial (.builtin "int.__hash__") (.int k t) = Pure.pure (.builtin "int.__hash__", [.int k t]) := slot_int_hash.bind (.int k t)
theorem Go.callHash {k : Int} {t : Tok} {r : Sem Value} : Go w 5 s { s with toks := s.toks + 1 } p p (callSpecialIfBoundUnlessNone? (.int k t) "__hash__" r) (some (.int (rawHash k) s.toks)) := by
  have hl : specialOf (Value.int k t) "__hash__" = Pure.pure (some (.builtin "int.__hash__")) := slot_int_hash.lookup
  unfold callSpecialIfBoundUnlessNone? bindSpecialIfBound?
  rw [hl]
  refine Go.holding _ ?_
  refine Go.cast (Go.bind (n := 1) (m := 4) (a := some (Value.builtin "int.__hash__", [Value.int k t])) (s' := s) (p' := p) ?_ ?_) rfl
  · show Go w 1 s s p p (PySem.ask >>= fun st => if st.params.followText "special-get-raises" = true then _ else _) _
    refine Go.cast (Go.bind (m := 0) Go.ask ?_) rfl
    rw [bindSpecial_hash]
    split
    · exact Go.pure
    · exact Go.pure
  · show Go w 4 s _ p p (if (Value.builtin "int.__hash__" == Value.none) = true then _ else (PySem.call (Value.builtin "int.__hash__") [Value.int k t] >>= fun v => Pure.pure (some v))) _
    rw [if_neg (by decide)]
    exact Go.cast (Go.bind (m := 0) (hash_call k t w s.heap s.gens s.drawn s.toks s.os p) Go.pure) rfl
theorem Go.pyHash {k : Int} {t : Tok} : Go w 5 s { s with toks := s.toks + 1 } p p (PySem.pyHash (.int k t)) (hashInt k) := by
  have hr := rawHash_range k
  unfold PySem.pyHash
  show Go _ _ _ _ _ _ (pyHashByItsType (Value.int k t)) _
  unfold pyHashByItsType
  have hv : [Value.int k t].any Value.onHeap = false := rfl
  rw [cRoomFor, if_neg (by rw [hv]; exact Bool.false_ne_true)]
  have hl : specialOf (Value.int k t) "__hash__" = Pure.pure (some (.builtin "int.__hash__")) := slot_int_hash.lookup
  rw [hl]
  show Go _ _ _ _ _ _ (callSpecialIfBoundUnlessNone? (.int k t) "__hash__" _ >>= _) _
  refine Go.cast (Go.bind (m := 0) Go.callHash ?_) rfl
  show Go _ _ _ _ _ _ (if (decide (-(2 : Int) ^ 63 ≤ rawHash k) && decide (rawHash k < 2 ^ 63)) = true then _ else _) _
  rw [if_pos (by rw [decide_eq_true hr.1, decide_eq_true hr.2]; rfl)]
  exact Go.pure
theorem Go.dictEntries {a : Addr} {part : Option Value} {o : Obj} {es : Array DictEntry} {n : Nat} (ho : s.heap.get? a = some o) (hd : o.data = .dict es n) : Go w 1 s s p p (PySem.dictEntries a part) es :=
  Go.cast (Go.bind (m := 0) (Go.load ho) (by rw [hd]; exact Go.pure)) rfl
theorem Go.dictEpoch {a : Addr} {part : Option Value} {o : Obj} {es : Array DictEntry} {n : Nat} (ho : s.heap.get? a = some o) (hd : o.data = .dict es n) : Go w 1 s s p p (PySem.dictEpoch a part) n :=
  Go.cast (Go.bind (m := 0) (Go.load ho) (by rw [hd]; exact Go.pure)) rfl
theorem Go.dictFind {d : Addr} {k h : Int} {t : Tok} {o : Obj} {es : Array DictEntry} {n : Nat} (ho : s.heap.get? d = some o) (hd : o.data = .dict es n) (hn : placesWithHash es.size (fun i => es[i]?.map (·.hash)) h = []) :
    Go w 1 s s p p (PySem.dictFind d (.int k t) h) none := by
  unfold PySem.dictFind
  refine Go.cast (Go.holding _ (Go.bind (m := 0) (Go.dictEntries ho hd) ?_)) rfl
  dsimp only
  rw [hn]
  exact Go.pure
theorem Go.updateKeys {d : Addr} {part : Option Value} {f : Array DictEntry → Array DictEntry} {es : Array DictEntry} {n : Nat} {c : Value} {dd : Option Addr} {sl : Array (Option Value)} (ho : s.heap.get? d = some ⟨c, dd, .dict es n, sl⟩) (h11 : Nat.ble 11 d = true) (hz : (f es).size ≤ sizeLine) :
    Go w 3 s { s with heap := s.heap.update d (Obj.mapDictKeys f) } p p (updateDictKeys d f part) () := by
  unfold updateDictKeys
  refine Go.cast (Go.bind (m := 2) (Go.load ho) (Go.bind (m := 1) (Go.update h11 (by rw [ho]; rfl)) ?_)) rfl
  unfold lookBehind
  refine Go.cast (Go.bind (m := 0) (Go.load (o := ⟨c, dd, .dict (f es) (n + 1), sl⟩) ?_) ?_) rfl
  · exact Heap.get?_update_self _ ho rfl
  · have : Data.pastItsLine (.dict (f es) (n + 1)) = none := by
      show (if (f es).size > sizeLine + 1 then _ else none) = none
      rw [if_neg (by lia)]
    dsimp only
    rw [this]
    exact Go.pure
theorem upd_ext {h h' : Heap} (h1 : ∀ i : Nat, h.objs[i]? = h'.objs[i]?) (h2 : h.life = h'.life) : h = h' := by
  obtain ⟨o, l⟩ := h
  obtain ⟨o', l'⟩ := h'
  have : o = o' := Array.ext_getElem? h1
  subst this
  cases h2
  rfl
theorem upd_get (h : Heap) (a : Addr) (f : Obj → Obj) (i : Nat) : (h.update a f).objs[i]? = if a = i then (h.objs[i]?).map f else h.objs[i]? := by
  unfold Heap.update
  rw [Array.getElem?_modify]
theorem get_objs {h : Heap} {a : Addr} {o : Obj} (ho : h.get? a = some o) : h.objs[a]? = some o := by
  unfold Heap.get? at ho
  split at ho
  · cases ho
  · exact ho
theorem upd_const {h : Heap} {a : Addr} {o : Obj} {f : Obj → Obj} (ho : h.get? a = some o) : h.update a f = h.update a fun _ => f o := by
  refine upd_ext (fun i => ?_) rfl
  rw [upd_get, upd_get]
  by_cases e : a = i
  · subst e; rw [if_pos rfl, if_pos rfl, get_objs ho]; rfl
  · rw [if_neg e, if_neg e]
theorem upd_upd {h : Heap} {a : Addr} {x y : Obj} : (h.update a fun _ => x).update a (fun _ => y) = h.update a fun _ => y := by
  refine upd_ext (fun i => ?_) rfl
  rw [upd_get, upd_get, upd_get]
  by_cases e : a = i
  · subst e; rw [if_pos rfl, if_pos rfl, if_pos rfl, Option.map_map]; rfl
  · rw [if_neg e, if_neg e, if_neg e]
theorem upd_same {h : Heap} {a : Addr} {o : Obj} (ho : h.get? a = some o) : h.update a (fun _ => o) = h := by
  refine upd_ext (fun i => ?_) rfl
  rw [upd_get]
  by_cases e : a = i
  · subst e; rw [if_pos rfl, get_objs ho]; rfl
  · rw [if_neg e]
theorem places_nil {es : List DictEntry} {k : Int} (h : ∀ e ∈ es, e.hash ≠ k) : placesWithHash es.toArray.size (fun i => es.toArray[i]?.map (·.hash)) k = [] := by
  unfold placesWithHash
  rw [List.filter_eq_nil_iff]
  intro i hi
  dsimp only
  rw [List.getElem?_toArray]
  cases q : es[i]? with
  | none => simp
  | some e =>
    have := h e (List.mem_of_getElem? q)
    simpa using this
noncomputable def dO (es : List DictEntry) (n : Nat) : Obj := ⟨.type "dict", none, .dict es.toArray n, #[]⟩
theorem Go.put {d : Addr} {k : Int} {t : Tok} {v : Value} {es : List DictEntry} {n : Nat} (ho : s.heap.get? d = some (dO es n)) (h11 : Nat.ble 11 d = true) (hn : ∀ e ∈ es, e.hash ≠ k) (hz : es.length ≤ 1000) :
    Go w 4 s { s with heap := s.heap.update d fun _ => dO (es ++ [⟨k, .int k t, v⟩]) (n + 1) } p p (dictPut d k (.int k t) v) () := by
  unfold dictPut
  refine Go.cast (Go.bind (m := 3) (Go.dictFind ho rfl (places_nil hn)) ?_) rfl
  have e : s.heap.update d (fun _ => dO (es ++ [⟨k, .int k t, v⟩]) (n + 1)) = s.heap.update d (Obj.mapDictKeys fun es => es.push ⟨k, .int k t, v⟩) := by
    rw [upd_const (f := Obj.mapDictKeys fun es => es.push ⟨k, .int k t, v⟩) ho]
    congr 1
    funext _
    show dO _ _ = (⟨_, _, .dict (es.toArray.push _) (n + 1), _⟩ : Obj)
    rw [List.push_toArray]
    rfl
  rw [e]
  exact Go.updateKeys ho h11 (by rw [List.push_toArray, List.size_toArray, List.length_append, sizeLine_eq]; simp; lia)
theorem Go.setNew {d : Addr} {k : Int} {t : Tok} {v : Value} {es : List DictEntry} {n : Nat} (ho : s.heap.get? d = some (dO es n)) (h11 : Nat.ble 11 d = true) (hk : hashInt k = k) (hn : ∀ e ∈ es, e.hash ≠ k) (hz : es.length ≤ 1000) :
    Go w 10 s { s with heap := s.heap.update d (fun _ => dO (es ++ [⟨k, .int k t, v⟩]) (n + 1)), toks := s.toks + 1 } p p (dictSet d (.int k t) v) () := by
  unfold dictSet dictSetHashed
  refine Go.holding _ (Go.cast (Go.bind (m := 5) Go.pyHash ?_) rfl)
  rw [hk]
  refine Go.holding _ (Go.cast (Go.bind (m := 4) (Go.dictFind (s := { s with toks := s.toks + 1 }) ho rfl (places_nil hn)) (Go.bind (m := 3) Go.rule ?_)) rfl)
  have e : s.heap.update d (fun _ => dO (es ++ [⟨k, .int k t, v⟩]) (n + 1)) = s.heap.update d (Obj.mapDictKeys fun es => es.push ⟨k, .int k t, v⟩) := by
    rw [upd_const (f := Obj.mapDictKeys fun es => es.push ⟨k, .int k t, v⟩) ho]
    congr 1
    funext _
    show dO _ _ = (⟨_, _, .dict (es.toArray.push _) (n + 1), _⟩ : Obj)
    rw [List.push_toArray]
    rfl
  rw [e]
  exact Go.updateKeys (s := { s with toks := s.toks + 1 }) ho h11 (by rw [List.push_toArray, List.size_toArray, List.length_append, sizeLine_eq]; simp; lia)
noncomputable def item (pos : Pos) (x : Int × Str) : Sem Value × Sem Value := (mkInt x.1, do let v ← mkText x.2; standAt pos; Pure.pure v)
noncomputable def ents : Nat → List (Int × Str) → List DictEntry
  | _, [] => []
  | t, (k, v) :: r => ⟨k, .int k t, .str v (t + 1)⟩ :: ents (t + 3) r
theorem ents_hash : ∀ (t : Nat) (L : List (Int × Str)), (ents t L).map (·.hash) = L.map (·.1)
  | _, [] => rfl
  | t, (k, v) :: r => by unfold ents; rw [List.map_cons, List.map_cons, ents_hash]
theorem ents_len : ∀ (t : Nat) (L : List (Int × Str)), (ents t L).length = L.length
  | _, [] => rfl
  | t, (k, v) :: r => by unfold ents; rw [List.length_cons, List.length_cons, ents_len]
noncomputable def turnS (d : Addr) (x : Sem Value × Sem Value) : Sem (ForInStep PUnit) := do
  let kv ← x.1
  let vv ← PySem.holding [kv] x.2
  PySem.holding [kv, vv] (dictSet d kv vv)
  Pure.pure (.yield ⟨⟩)
theorem Go.subLoop {d : Addr} {pos : Pos} {f : (Sem Value × Sem Value) → PUnit → Sem (ForInStep PUnit)} (hf : ∀ x u, f x u = turnS d x) (h11 : Nat.ble 11 d = true) : ∀ (L : List (Int × Str)) (s : Shared) (acc : List DictEntry) (n : Nat), s.heap.get? d = some (dO acc n) →
    (acc.map (·.hash) ++ L.map (·.1)).Nodup → (∀ x ∈ L, hashInt x.1 = x.1) → acc.length + L.length ≤ 1000 →
    Go w (13 * L.length) s { s with heap := s.heap.update d (fun _ => dO (acc ++ ents s.toks L) (n + L.length)), toks := s.toks + 3 * L.length } pos pos (forIn (L.map (item pos)) PUnit.unit f) PUnit.unit
  | [], s, acc, n, ho, hn, hh, hz => by
    have e : s.heap.update d (fun _ => dO (acc ++ ents s.toks []) (n + ([] : List (Int × Str)).length)) = s.heap := by
      unfold ents; rw [List.append_nil]; exact upd_same ho
    rw [e]
    exact Go.pure
  | (k, v) :: L, s, acc, n, ho, hn, hh, hz => by
    rw [List.map_cons, List.forIn_cons, hf]
    have hk : hashInt k = k := hh (k, v) List.mem_cons_self
    have hn' : ∀ e ∈ acc, e.hash ≠ k := fun e he q => by
      rw [List.nodup_append] at hn
      exact hn.2.2 e.hash (List.mem_map_of_mem he) k List.mem_cons_self q
    rw [List.length_cons] at hz
    let s₁ : Shared := { s with heap := s.heap.update d (fun _ => dO (acc ++ [⟨k, .int k s.toks, .str v (s.toks + 1)⟩]) (n + 1)), toks := s.toks + 3 }
    have ho₁ : s₁.heap.get? d = some (dO (acc ++ [⟨k, .int k s.toks, .str v (s.toks + 1)⟩]) (n + 1)) := Heap.get?_update_self _ ho rfl
    have ih := Go.subLoop (pos := pos) hf h11 L s₁ (acc ++ [⟨k, .int k s.toks, .str v (s.toks + 1)⟩]) (n + 1) ho₁ (by simpa using hn) (fun x hx => hh x (List.mem_cons_of_mem _ hx)) (by rw [List.length_append, List.length_singleton]; lia)
    have t : Go w 13 s s₁ pos pos (turnS d (item pos (k, v))) (.yield ⟨⟩) := by
      unfold turnS item
      refine Go.cast (Go.bind (n := 1) (m := 12) (Go.cast (Go.bind (m := 0) Go.fresh Go.pure) rfl) ?_) rfl
      refine Go.cast (Go.bind (n := 2) (m := 10) (Go.holding _ (Go.cast (Go.bind (n := 1) (m := 1) (Go.cast (Go.bind (m := 0) Go.fresh Go.pure) rfl) (Go.bind (m := 0) Go.standAt Go.pure)) rfl)) ?_) rfl
      exact Go.cast (Go.bind (m := 0) (Go.holding _ (Go.setNew (s := { s with toks := s.toks + 2 }) ho h11 hk hn' (by lia))) Go.pure) rfl
    have e : ({ s₁ with heap := s₁.heap.update d (fun _ => dO (acc ++ [⟨k, .int k s.toks, .str v (s.toks + 1)⟩] ++ ents s₁.toks L) (n + 1 + L.length)), toks := s₁.toks + 3 * L.length } : Shared) =
        { s with heap := s.heap.update d (fun _ => dO (acc ++ ents s.toks ((k, v) :: L)) (n + ((k, v) :: L).length)), toks := s.toks + 3 * ((k, v) :: L).length } := by
      show Shared.mk _ _ _ _ _ = Shared.mk _ _ _ _ _
      have e1 : s₁.heap.update d (fun _ => dO (acc ++ [⟨k, .int k s.toks, .str v (s.toks + 1)⟩] ++ ents s₁.toks L) (n + 1 + L.length)) = s.heap.update d (fun _ => dO (acc ++ ents s.toks ((k, v) :: L)) (n + ((k, v) :: L).length)) := by
        rw [show s₁.heap = s.heap.update d (fun _ => dO (acc ++ [⟨k, .int k s.toks, .str v (s.toks + 1)⟩]) (n + 1)) from rfl, upd_upd, List.append_assoc, List.length_cons, show n + 1 + L.length = n + (L.length + 1) by lia]
        rfl
      rw [e1, List.length_cons, show s₁.toks + 3 * L.length = s.toks + 3 * (L.length + 1) by show s.toks + 3 + _ = _; lia]
    rw [← e]
    exact Go.cast (Go.bind t ih) (show 13 + 13 * L.length = 13 * ((k, v) :: L).length by rw [List.length_cons]; lia)
end
end Mine
end
section
open PySem PySem.W PyProof.Rows PySem.W.BT
namespace Mine
section
variable {w : World} {s s' s'' : Shared} {p p' p'' : Pos} {α β : Type}
theorem push_upd {h : Heap} {o : Obj} {f : Obj → Obj} : (h.push o).update h.objs.size f = h.push (f o) := by
  refine upd_ext (fun i => ?_) rfl
  rw [upd_get]
  unfold Heap.push
  dsimp only
  rw [Array.getElem?_push, Array.getElem?_push]
  by_cases e : h.objs.size = i
  · subst e; rw [if_pos rfl, if_pos rfl, if_pos rfl]; rfl
  · rw [if_neg e, if_neg (Ne.symm e), if_neg (Ne.symm e)]
theorem Go.subLong {pos : Pos} {L : List (Int × Str)} (h11 : Nat.ble 11 s.heap.objs.size = true) (hn : (L.map (·.1)).Nodup) (hh : ∀ x ∈ L, hashInt x.1 = x.1) (hz : 15 < L.length) (hz' : L.length ≤ 1000) :
    Go w (13 * L.length + 2) s { s with heap := s.heap.push (dO (ents s.toks L) L.length), toks := s.toks + 3 * L.length } pos pos (subDict (L.map (item pos))) s.heap.objs.size := by
  unfold subDict
  refine Go.cast (Go.bind (n := 1) (m := 13 * L.length + 1) Go.alloc (Go.cast (Go.bind (m := 0) (n := 13 * L.length + 1) (a := PUnit.unit) (Go.holding _ ?_) Go.pure) rfl)) (by lia)
  rw [if_neg (by rw [List.length_map]; lia)]
  have ho : (s.heap.push (dO [] 0)).get? s.heap.objs.size = some (dO [] 0) := Heap.get?_push_size _ rfl
  have := Go.subLoop (w := w) (pos := pos) (f := fun x _ => turnS s.heap.objs.size x) (fun _ _ => rfl) h11 L { s with heap := s.heap.push (dO [] 0) } [] 0 ho (by simpa using hn) hh (by simpa using hz')
  rw [show ({ s with heap := s.heap.push (dO [] 0) } : Shared).heap = s.heap.push (dO [] 0) from rfl, push_upd] at this
  rw [List.nil_append, Nat.zero_add] at this
  refine Go.cast (Go.bind (n := 1) (m := 13 * L.length) Go.rule ?_) (by lia)
  exact Go.bind (m := 0) this Go.pure
noncomputable def ents2 : Nat → List (Int × Str) → List DictEntry
  | _, [] => []
  | t, (k, v) :: r => ⟨k, .int k t, .str v (t + 1)⟩ :: ents2 (t + 2) r
theorem ents2_hash : ∀ (t : Nat) (L : List (Int × Str)), (ents2 t L).map (·.hash) = L.map (·.1)
  | _, [] => rfl
  | t, (k, v) :: r => by unfold ents2; rw [List.map_cons, List.map_cons, ents2_hash]
theorem ents2_len : ∀ (t : Nat) (L : List (Int × Str)), (ents2 t L).length = L.length
  | _, [] => rfl
  | t, (k, v) :: r => by unfold ents2; rw [List.length_cons, List.length_cons, ents2_len]
theorem Go.evalPairs {pos : Pos} : ∀ (L : List (Int × Str)) (s : Shared), Go w (3 * L.length) s { s with toks := s.toks + 2 * L.length } pos pos (PySem.evalPairs (L.map (item pos))) ((ents2 s.toks L).map fun e => (e.key, e.val))
  | [], s => Go.pure
  | (k, v) :: L, s => by
    rw [List.map_cons]
    unfold PySem.evalPairs item
    have ih := Go.evalPairs (pos := pos) L { s with toks := s.toks + 2 }
    have t1 : Go w 1 s { s with toks := s.toks + 1 } pos pos (mkInt k) (.int k s.toks) := Go.cast (Go.bind (m := 0) Go.fresh Go.pure) rfl
    have t2 : Go w 2 { s with toks := s.toks + 1 } { s with toks := s.toks + 2 } pos pos (do let v ← mkText v; PySem.standAt pos; Pure.pure v) (.str v (s.toks + 1)) :=
      Go.cast (Go.bind (n := 1) (m := 1) (Go.cast (Go.bind (m := 0) Go.fresh Go.pure) rfl) (Go.bind (m := 0) Go.standAt Go.pure)) rfl
    refine Go.cast (Go.bind t1 (Go.bind (Go.holding _ t2) (Go.bind (m := 0) (Go.holding _ ih) ?_))) (by rw [List.length_cons]; lia)
    rw [show s.toks + 2 * ((k, v) :: L).length = s.toks + 2 + 2 * L.length by rw [List.length_cons]; lia]
    exact Go.pure
theorem Go.setLoop {d : Addr} {f : Value × Value → PUnit → Sem (ForInStep PUnit)} (hf : ∀ x u, f x u = (do dictSet d x.1 x.2; Pure.pure (.yield ⟨⟩))) (h11 : Nat.ble 11 d = true) : ∀ (E : List DictEntry) (s : Shared) (acc : List DictEntry) (n : Nat), s.heap.get? d = some (dO acc n) →
    (acc.map (·.hash) ++ E.map (·.hash)).Nodup → (∀ x ∈ E, (∃ t, x.key = .int x.hash t) ∧ hashInt x.hash = x.hash) → acc.length + E.length ≤ 1000 →
    Go w (10 * E.length) s { s with heap := s.heap.update d (fun _ => dO (acc ++ E) (n + E.length)), toks := s.toks + E.length } p p (forIn (E.map fun e => (e.key, e.val)) PUnit.unit f) PUnit.unit
  | [], s, acc, n, ho, hn, hh, hz => by
    have e : s.heap.update d (fun _ => dO (acc ++ []) (n + ([] : List DictEntry).length)) = s.heap := by
      rw [List.append_nil]; exact upd_same ho
    rw [e]
    exact Go.pure
  | e :: E, s, acc, n, ho, hn, hh, hz => by
    rw [List.map_cons, List.forIn_cons, hf]
    obtain ⟨⟨t, hk⟩, hk'⟩ := hh e List.mem_cons_self
    have hn' : ∀ e' ∈ acc, e'.hash ≠ e.hash := fun e' he q => by
      rw [List.nodup_append] at hn
      exact hn.2.2 e'.hash (List.mem_map_of_mem he) e.hash List.mem_cons_self q
    rw [List.length_cons] at hz
    obtain ⟨hs, ky, vl⟩ := e
    dsimp only at hk hk' hn'
    subst hk
    let s₁ : Shared := { s with heap := s.heap.update d (fun _ => dO (acc ++ [⟨hs, .int hs t, vl⟩]) (n + 1)), toks := s.toks + 1 }
    have ho₁ : s₁.heap.get? d = some (dO (acc ++ [⟨hs, .int hs t, vl⟩]) (n + 1)) := Heap.get?_update_self _ ho rfl
    have ih := Go.setLoop hf h11 E s₁ (acc ++ [⟨hs, .int hs t, vl⟩]) (n + 1) ho₁ (by simpa using hn) (fun x hx => hh x (List.mem_cons_of_mem _ hx)) (by rw [List.length_append, List.length_singleton]; lia)
    have tt : Go w 10 s s₁ p p (do dictSet d (.int hs t) vl; Pure.pure (ForInStep.yield PUnit.unit)) (.yield ⟨⟩) :=
      Go.cast (Go.bind (m := 0) (Go.setNew ho h11 hk' hn' (by lia)) Go.pure) rfl
    have e : ({ s₁ with heap := s₁.heap.update d (fun _ => dO (acc ++ [⟨hs, .int hs t, vl⟩] ++ E) (n + 1 + E.length)), toks := s₁.toks + E.length } : Shared) =
        { s with heap := s.heap.update d (fun _ => dO (acc ++ ⟨hs, .int hs t, vl⟩ :: E) (n + (E.length + 1))), toks := s.toks + (E.length + 1) } := by
      show Shared.mk _ _ _ _ _ = Shared.mk _ _ _ _ _
      have e1 : s₁.heap.update d (fun _ => dO (acc ++ [⟨hs, .int hs t, vl⟩] ++ E) (n + 1 + E.length)) = s.heap.update d (fun _ => dO (acc ++ ⟨hs, .int hs t, vl⟩ :: E) (n + (E.length + 1))) := by
        rw [show s₁.heap = s.heap.update d (fun _ => dO (acc ++ [⟨hs, .int hs t, vl⟩]) (n + 1)) from rfl, upd_upd, List.append_assoc, show n + 1 + E.length = n + (E.length + 1) by lia]
        rfl
      rw [e1, show s₁.toks + E.length = s.toks + (E.length + 1) by show s.toks + 1 + _ = _; lia]
    rw [List.length_cons, ← e]
    exact Go.cast (Go.bind tt ih) (by lia)
theorem ents2_ok : ∀ (t : Nat) (L : List (Int × Str)), (∀ x ∈ L, hashInt x.1 = x.1) → ∀ e ∈ ents2 t L, (∃ t, e.key = .int e.hash t) ∧ hashInt e.hash = e.hash
  | _, [], _, e, he => by unfold ents2 at he; cases he
  | t, (k, v) :: r, h, e, he => by
    unfold ents2 at he
    rcases List.mem_cons.mp he with rfl | he
    · exact ⟨⟨t, rfl⟩, h (k, v) List.mem_cons_self⟩
    · exact ents2_ok (t + 2) r (fun x hx => h x (List.mem_cons_of_mem _ hx)) e he
theorem ents_ok : ∀ (t : Nat) (L : List (Int × Str)), (∀ x ∈ L, hashInt x.1 = x.1) → ∀ e ∈ ents t L, (∃ t, e.key = .int e.hash t) ∧ hashInt e.hash = e.hash
  | _, [], _, e, he => by unfold ents at he; cases he
  | t, (k, v) :: r, h, e, he => by
    unfold ents at he
    rcases List.mem_cons.mp he with rfl | he
    · exact ⟨⟨t, rfl⟩, h (k, v) List.mem_cons_self⟩
    · exact ents_ok (t + 3) r (fun x hx => h x (List.mem_cons_of_mem _ hx)) e he
theorem Go.subShort {pos : Pos} {L : List (Int × Str)} (h11 : Nat.ble 11 s.heap.objs.size = true) (hn : (L.map (·.1)).Nodup) (hh : ∀ x ∈ L, hashInt x.1 = x.1) (hz : L.length ≤ 15) :
    Go w (13 * L.length + 1) s { s with heap := s.heap.push (dO (ents2 s.toks L) L.length), toks := s.toks + 3 * L.length } pos pos (subDict (L.map (item pos))) s.heap.objs.size := by
  unfold subDict
  refine Go.cast (Go.bind (n := 1) (m := 13 * L.length) Go.alloc (Go.cast (Go.bind (m := 0) (n := 13 * L.length) (a := PUnit.unit) (Go.holding _ ?_) Go.pure) rfl)) (by lia)
  rw [if_pos (by rw [List.length_map]; lia)]
  have ho : (s.heap.push (dO [] 0)).get? s.heap.objs.size = some (dO [] 0) := Heap.get?_push_size _ rfl
  have := Go.setLoop (w := w) (p := pos) (f := fun x _ => (do dictSet s.heap.objs.size x.1 x.2; Pure.pure (.yield ⟨⟩))) (fun _ _ => rfl) h11 (ents2 s.toks L) { s with heap := s.heap.push (dO [] 0), toks := s.toks + 2 * L.length } [] 0 ho (by rw [ents2_hash]; simpa using hn) (ents2_ok _ _ hh) (by rw [ents2_len, List.length_nil]; lia)
  rw [show ({ s with heap := s.heap.push (dO [] 0), toks := s.toks + 2 * L.length } : Shared).heap = s.heap.push (dO [] 0) from rfl, push_upd, List.nil_append, Nat.zero_add, ents2_len] at this
  refine Go.cast (Go.bind (n := 3 * L.length) (Go.evalPairs L { s with heap := s.heap.push (dO [] 0) }) (Go.holding _ ?_)) (show 3 * L.length + 10 * L.length = 13 * L.length by lia)
  rw [show s.toks + 3 * L.length = s.toks + 2 * L.length + L.length by lia]
  exact Go.bind (m := 0) this Go.pure
end
end Mine
end
section
open PySem PySem.W PyProof.Rows PySem.W.BT
namespace Mine
section
variable {w : World} {s s' s'' : Shared} {p p' p'' : Pos} {α β : Type}
theorem get_other {h : Heap} {a d : Addr} {f : Obj → Obj} {o : Obj} (ho : h.get? a = some o) (hne : a ≠ d) : (h.update d f).get? a = some o := (Heap.get?_update_ne _ _ _ _ hne).trans ho
theorem Go.mergeLoop {d a : Addr} (hne : a ≠ d) (h11 : Nat.ble 11 d = true) {E : List DictEntry} {m : Nat} {f : Nat → PUnit → Sem (ForInStep PUnit)}
    (hf : ∀ (i : Nat) (e : DictEntry) (s s' : Shared), E[i]? = some e → s.heap.get? a = some (dO E m) → s'.heap.get? a = some (dO E m) → (∀ vs, Go w 4 s s' p p (PySem.holding vs (dictPut d e.hash e.key e.val)) ()) → Go w 6 s s' p p (f i ⟨⟩) (.yield ⟨⟩)) : ∀ (k i : Nat) (s : Shared) (es : List DictEntry) (n : Nat),
    i + k = E.length → s.heap.get? d = some (dO es n) → s.heap.get? a = some (dO E m) → (es.map (·.hash) ++ (E.drop i).map (·.hash)).Nodup → (∀ x ∈ E, (∃ t, x.key = .int x.hash t) ∧ hashInt x.hash = x.hash) → es.length + k ≤ 1000 →
    Go w (6 * k) s { s with heap := s.heap.update d (fun _ => dO (es ++ E.drop i) (n + k)) } p p (forIn (List.range' i k) PUnit.unit f) PUnit.unit
  | 0, i, s, es, n, hi, hd, ha, hn, hh, hz => by
    rw [List.drop_of_length_le (by lia), List.append_nil, Nat.add_zero, upd_same hd]
    exact Go.pure
  | k + 1, i, s, es, n, hi, hd, ha, hn, hh, hz => by
    rw [List.range'_succ, List.forIn_cons]
    have hlt : i < E.length := by lia
    have he : E[i]? = some E[i] := List.getElem?_eq_getElem hlt
    have hdrop : E.drop i = E[i] :: E.drop (i + 1) := (List.drop_eq_getElem_cons hlt)
    generalize E[i] = e at he hdrop
    rw [hdrop] at hn
    obtain ⟨⟨t, hk⟩, hk'⟩ := hh e (List.mem_of_getElem? he)
    have hn' : ∀ e' ∈ es, e'.hash ≠ e.hash := fun e' he' q => by
      rw [List.nodup_append] at hn
      exact hn.2.2 e'.hash (List.mem_map_of_mem he') e.hash List.mem_cons_self q
    obtain ⟨hs, ky, vl⟩ := e
    dsimp only at hk hk' hn'
    subst hk
    let s₁ : Shared := { s with heap := s.heap.update d (fun _ => dO (es ++ [⟨hs, .int hs t, vl⟩]) (n + 1)) }
    have hd₁ : s₁.heap.get? d = some (dO (es ++ [⟨hs, .int hs t, vl⟩]) (n + 1)) := Heap.get?_update_self _ hd rfl
    have ha₁ : s₁.heap.get? a = some (dO E m) := get_other ha hne
    have ih := Go.mergeLoop hne h11 hf k (i + 1) s₁ (es ++ [⟨hs, .int hs t, vl⟩]) (n + 1) (by lia) hd₁ ha₁ (by simpa using hn) hh (by rw [List.length_append, List.length_singleton]; lia)
    have tt : Go w 6 s s₁ p p (f i ⟨⟩) (.yield ⟨⟩) := hf i _ s s₁ he ha ha₁ fun vs => Go.holding vs (Go.put hd h11 hn' (by lia))
    have e : ({ s₁ with heap := s₁.heap.update d (fun _ => dO (es ++ [⟨hs, .int hs t, vl⟩] ++ E.drop (i + 1)) (n + 1 + k)) } : Shared) = { s with heap := s.heap.update d (fun _ => dO (es ++ E.drop i) (n + (k + 1))) } := by
      show Shared.mk _ _ _ _ _ = Shared.mk _ _ _ _ _
      rw [show s₁.heap = s.heap.update d (fun _ => dO (es ++ [⟨hs, .int hs t, vl⟩]) (n + 1)) from rfl, upd_upd, List.append_assoc, hdrop, show n + 1 + k = n + (k + 1) by lia]
      rfl
    rw [← e]
    exact Go.cast (Go.bind tt ih) (by lia)
theorem Go.typeOfRef {a : Addr} {o : Obj} (ho : s.heap.get? a = some o) : Go w 1 s s p p (typeOf (.ref a)) o.cls := Go.cast (Go.bind (m := 0) (Go.load ho) Go.pure) rfl
theorem dict_iter_lookup : typeLookup (.type "dict") "__iter__" = Pure.pure (some (.builtin "dict.__iter__")) := PySem.F.slot_dict_iter.lookup
theorem Go.isDict {a : Addr} {es : List DictEntry} {n : Nat} (ho : s.heap.get? a = some (dO es n)) : Go w 1 s s p p (isInstance (.ref a) (.type "dict")) true := by
  unfold isInstance
  refine Go.cast (Go.bind (s' := s) (p' := p) (m := 0) (Go.typeOfRef ho) ?_) rfl
  show Go w 0 s s p p (isSubtype (.type "dict") (.type "dict")) true
  rw [isSubtype_dict_dict]; exact Go.pure
theorem Go.dictIter {a : Addr} {es : List DictEntry} {n : Nat} (ho : s.heap.get? a = some (dO es n)) : Go w 1 s s p p (specialOf (.ref a) "__iter__") (some (.builtin "dict.__iter__")) := by
  unfold specialOf
  refine Go.cast (Go.bind (s' := s) (p' := p) (m := 0) (Go.typeOfRef ho) ?_) rfl
  show Go w 0 s s p p (typeLookup (.type "dict") "__iter__") _
  rw [dict_iter_lookup]; exact Go.pure
theorem Go.merge {d a : Addr} {es E : List DictEntry} {n m : Nat} (hne : a ≠ d) (hsys : (a == sysModules) = false) (h11 : Nat.ble 11 d = true) (hd : s.heap.get? d = some (dO es n)) (ha : s.heap.get? a = some (dO E m)) (h0 : es ≠ [])
    (hn : (es.map (·.hash) ++ E.map (·.hash)).Nodup) (hh : ∀ x ∈ E, (∃ t, x.key = .int x.hash t) ∧ hashInt x.hash = x.hash) (hz : es.length + E.length ≤ 1000) :
    Go w (6 * E.length + 5) s { s with heap := s.heap.update d (fun _ => dO (es ++ E) (n + E.length)) } p p (mergeMapping d (.ref a) false) () := by
  unfold mergeMapping
  refine Go.cast (Go.bind (n := 1) (m := 6 * E.length + 4) (Go.isDict ha) ?_) (by lia)
  rw [if_pos rfl]
  refine Go.cast (Go.bind (n := 1) (m := 6 * E.length + 3) (Go.dictIter ha) ?_) (by lia)
  show Go _ _ _ _ _ _ (if (a == sysModules) = true then _ else _) _
  dsimp only
  rw [if_neg (by rw [hsys]; exact Bool.false_ne_true)]
  refine Go.cast (Go.bind (n := 1) (m := 6 * E.length + 2) (Go.dictEntries hd rfl) ?_) (by lia)
  rw [if_neg (by cases es with | nil => exact absurd rfl h0 | cons x xs => simp)]
  refine Go.cast (Go.bind (n := 1) (m := 6 * E.length + 1) (Go.dictEntries ha rfl) ?_) (by lia)
  refine Go.cast (Go.bind (n := 1) (m := 6 * E.length) (Go.dictEpoch ha rfl) ?_) (by lia)
  rw [List.size_toArray, List.range_eq_range']
  refine Go.bind (m := 0) (a := PUnit.unit) ?_ Go.pure
  have key := fun f hf => Go.mergeLoop (p := p) (w := w) (m := m) hne h11 (E := E) (f := f) hf E.length 0 s es n (by lia) hd ha (by rw [List.drop_zero]; exact hn) hh hz
  rw [List.drop_zero] at key
  refine key _ ?_
  intro i e s s' he ha ha' hput
  refine Go.cast (Go.bind (n := 1) (m := 5) (Go.dictEntries ha rfl) ?_) rfl
  rw [List.getElem?_toArray, he]
  dsimp only
  refine Go.cast (Go.bind (n := 4) (m := 1) (hput _) ?_) rfl
  refine Go.cast (Go.bind (n := 1) (m := 0) (Go.dictEpoch ha' rfl) ?_) rfl
  rw [if_neg (by simp)]
  exact Go.pure
end
end Mine
end
section
open PySem PySem.W PyProof.Rows PySem.W.BT
namespace Mine
section
variable {w : World} {s s' s'' : Shared} {p p' p'' : Pos} {α β : Type}
theorem Go.eqS {n : Nat} {x : Sem α} {a : α} {s₁ : Shared} (h : Go w n s s' p p' x a) (e : s₁ = s') : Go w n s s₁ p p' x a := e ▸ h
noncomputable def flushD (run : List (Sem Value × Sem Value)) (main : Option Addr) : Sem (Option Addr) :=
  if run.isEmpty = true then Pure.pure main else match main with
    | none => do
      let a ← subDict run
      Pure.pure (some a)
    | some d => do
      let sub ← PySem.holding [Value.ref d] (subDict run)
      (PySem.holding [Value.ref d, Value.ref sub] (mergeMapping d (Value.ref sub) false)).onRaise fun x => do
        let _ ← PySem.holding [Value.ref d, x] (runValue (Code.builtin "proto.let_go" { }))
        Pure.pure ()
      Pure.pure (some d)
noncomputable abbrev LoopF := Option (Sem Value) × Sem Value → Option Addr × List (Sem Value × Sem Value) → Sem (ForInStep (Option Addr × List (Sem Value × Sem Value)))
noncomputable def LoopIs (f : LoopF) : Prop := ∀ k v m run, f (some k, v) (m, run) =
  if ((run ++ [(k, v)]).length == 17) = true then (do let m' ← flushD (run ++ [(k, v)]) m; Pure.pure (ForInStep.yield (m', []))) else Pure.pure (ForInStep.yield (m, run ++ [(k, v)]))
noncomputable abbrev gi (x : Sem Value × Sem Value) : Option (Sem Value) × Sem Value := (some x.1, x.2)
theorem loop_gather {f : LoopF} (hf : LoopIs f) : ∀ (C run : List (Sem Value × Sem Value)) (rest : List (Option (Sem Value) × Sem Value)) (m : Option Addr), run.length + C.length < 17 → forIn (C.map gi ++ rest) (m, run) f = forIn rest (m, run ++ C) f
  | [], run, rest, m, h => by rw [List.map_nil, List.nil_append, List.append_nil]
  | (k, v) :: C, run, rest, m, h => by
    rw [List.length_cons] at h
    rw [List.map_cons, List.cons_append, List.forIn_cons, hf, if_neg (by rw [List.length_append, List.length_singleton]; simp; lia), pure_bind]
    dsimp only
    rw [loop_gather hf C _ rest m (by rw [List.length_append, List.length_singleton]; lia), List.append_assoc]
    rfl
theorem loop_chunk {f : LoopF} (hf : LoopIs f) (C : List (Sem Value × Sem Value)) (rest : List (Option (Sem Value) × Sem Value)) (m : Option Addr) (hC : C.length = 17) : forIn (C.map gi ++ rest) (m, []) f = (do let m' ← flushD C m; forIn rest (m', []) f) := by
  obtain ⟨I, x, rfl⟩ : ∃ I x, C = I ++ [x] := by
    refine ⟨C.dropLast, C.getLast (by intro e; rw [e] at hC; cases hC), ?_⟩
    rw [List.dropLast_concat_getLast]
  obtain ⟨k, v⟩ := x
  rw [List.length_append, List.length_singleton] at hC
  rw [List.map_append, List.append_assoc, loop_gather hf I [] _ m (by rw [List.length_nil]; lia), List.nil_append]
  rw [List.map_cons, List.map_nil, List.cons_append, List.nil_append, List.forIn_cons, hf, if_pos (by rw [List.length_append, List.length_singleton, hC]; rfl), bind_assoc]
  refine bind_congr fun m' => ?_
  rw [pure_bind]
theorem loop_end {f : LoopF} (hf : LoopIs f) (C : List (Sem Value × Sem Value)) (m : Option Addr) (hC : C.length < 17) : forIn (C.map gi) (m, []) f = Pure.pure (m, C) := by
  have := loop_gather hf C [] [] m (by rw [List.length_nil]; lia)
  rw [List.append_nil, List.nil_append] at this
  rw [this]
  rfl
theorem display_eq (items : List (Sem Value × Sem Value)) : ∃ f, LoopIs f ∧ dictDisplay (items.map gi) = (do let s ← forIn (items.map gi) (none, []) f; let m ← flushD s.2 s.1; match m with | some d => Pure.pure (Value.ref d) | none => newDict) := by
  unfold dictDisplay
  dsimp only
  exact ⟨_, fun k v m run => rfl, rfl⟩
theorem Go.flushSome {d : Addr} {pos : Pos} {L : List (Int × Str)} {E acc : List DictEntry} {N : Nat} {tk : Nat} (hsub : Go w N s { s with heap := s.heap.push (dO E E.length), toks := tk } pos pos (subDict (L.map (item pos))) s.heap.objs.size)
    (h0 : L ≠ []) (hd : s.heap.get? d = some (dO acc acc.length)) (h11 : Nat.ble 11 d = true) (hsys : (s.heap.objs.size == sysModules) = false) (ha : acc ≠ []) (hn : (acc.map (·.hash) ++ E.map (·.hash)).Nodup)
    (hh : ∀ x ∈ E, (∃ t, x.key = .int x.hash t) ∧ hashInt x.hash = x.hash) (hz : acc.length + E.length ≤ 1000) :
    Go w (N + (6 * E.length + 5)) s { s with heap := (s.heap.push (dO E E.length)).update d (fun _ => dO (acc ++ E) (acc ++ E).length), toks := tk } pos pos (flushD (L.map (item pos)) (some d)) (some d) := by
  unfold flushD
  rw [if_neg (by cases L with | nil => exact absurd rfl h0 | cons x xs => simp)]
  dsimp only
  refine Go.bind (Go.holding _ hsub) (Go.cast (Go.bind (m := 0) (a := ()) (Go.onRaise _ (Go.holding _ ?_)) Go.pure) rfl)
  have hlt : d < s.heap.objs.size := Heap.lt_size hd
  have := Go.merge (w := w) (p := pos) (s := { s with heap := s.heap.push (dO E E.length), toks := tk }) (d := d) (a := s.heap.objs.size) (Nat.ne_of_gt hlt) hsys h11 (Heap.get?_push_of_some _ hd) (Heap.get?_push_size _ rfl) ha hn hh hz
  rw [List.length_append]
  exact this
noncomputable def grow (d : Addr) : List (List (Int × Str)) → Shared → List DictEntry → Shared
  | [], s, _ => s
  | C :: cs, s, acc => grow d cs { s with heap := (s.heap.push (dO (ents s.toks C) (ents s.toks C).length)).update d (fun _ => dO (acc ++ ents s.toks C) (acc ++ ents s.toks C).length), toks := s.toks + 3 * C.length } (acc ++ ents s.toks C)
noncomputable def accs : List (List (Int × Str)) → Nat → List DictEntry → List DictEntry
  | [], _, acc => acc
  | C :: cs, t, acc => accs cs (t + 3 * C.length) (acc ++ ents t C)
theorem accs_get (d : Addr) : ∀ (cs : List (List (Int × Str))) (s : Shared) (acc : List DictEntry), s.heap.get? d = some (dO acc acc.length) → (grow d cs s acc).heap.get? d = some (dO (accs cs s.toks acc) (accs cs s.toks acc).length)
  | [], s, acc, h => h
  | C :: cs, s, acc, h => by
    unfold grow accs
    exact accs_get d cs _ _ (Heap.get?_update_self _ (Heap.get?_push_of_some _ h) rfl)
theorem push_size (h : Heap) (o : Obj) : (h.push o).objs.size = h.objs.size + 1 := Array.size_push ..
theorem upd_size (h : Heap) (d : Addr) (f : Obj → Obj) : (h.update d f).objs.size = h.objs.size := by unfold Heap.update; exact Array.size_modify ..
theorem grow_size (d : Addr) : ∀ (cs : List (List (Int × Str))) (s : Shared) (acc : List DictEntry), (grow d cs s acc).heap.objs.size = s.heap.objs.size + cs.length
  | [], s, acc => rfl
  | C :: cs, s, acc => by
    unfold grow
    rw [grow_size, upd_size, push_size, List.length_cons]; lia
theorem grow_toks (d : Addr) : ∀ (cs : List (List (Int × Str))) (s : Shared) (acc : List DictEntry), (∀ C ∈ cs, C.length = 17) → (grow d cs s acc).toks = s.toks + 51 * cs.length
  | [], s, acc, _ => rfl
  | C :: cs, s, acc, h => by
    unfold grow
    rw [grow_toks d cs _ _ fun x hx => h x (List.mem_cons_of_mem _ hx), h C List.mem_cons_self, List.length_cons]
    show s.toks + 3 * 17 + _ = _
    lia
theorem Go.chunks {d : Addr} {pos : Pos} {f : LoopF} (hf : LoopIs f) (h11 : Nat.ble 11 d = true) (last : List (Int × Str)) (hl : last.length < 17) : ∀ (cs : List (List (Int × Str))) (s : Shared) (acc : List DictEntry), s.heap.get? d = some (dO acc acc.length) → acc ≠ [] → (∀ C ∈ cs, C.length = 17) →
    (acc.map (·.hash) ++ cs.flatten.map (·.1)).Nodup → (∀ C ∈ cs, ∀ x ∈ C, hashInt x.1 = x.1) → acc.length + cs.flatten.length ≤ 1000 → @LE.le Nat _ 20 s.heap.objs.size →
    Go w (330 * cs.length) s (grow d cs s acc) pos pos (forIn (((cs.flatten ++ last).map (item pos)).map gi) (some d, []) f) (some d, last.map (item pos))
  | [], s, acc, hd, ha, hC, hn, hh, hz, hs => by
    rw [List.flatten_nil, List.nil_append, loop_end hf _ _ (by rw [List.length_map]; exact hl)]
    exact Go.pure
  | C :: cs, s, acc, hd, ha, hC, hn, hh, hz, hs => by
    have h17 := hC C List.mem_cons_self
    have hCh := hh C List.mem_cons_self
    rw [List.flatten_cons, List.append_assoc, List.map_append, List.map_append, loop_chunk hf _ _ _ (by rw [List.length_map]; exact h17)]
    rw [List.flatten_cons, List.length_append] at hz
    rw [List.flatten_cons, List.map_append] at hn
    have hE : (ents s.toks C).length = C.length := ents_len _ _
    have hn1 : (acc.map (·.hash) ++ (ents s.toks C).map (·.hash)).Nodup := by
      rw [ents_hash]
      rw [← List.append_assoc] at hn
      exact (List.nodup_append.mp hn).1
    have hd' : ((s.heap.push (dO (ents s.toks C) (ents s.toks C).length)).update d (fun _ => dO (acc ++ ents s.toks C) (acc ++ ents s.toks C).length)).get? d = some (dO (acc ++ ents s.toks C) (acc ++ ents s.toks C).length) := Heap.get?_update_self _ (Heap.get?_push_of_some _ hd) rfl
    have hCn : (C.map (·.1)).Nodup := by
      have := (List.nodup_append.mp hn).2.1
      exact (List.nodup_append.mp this).1
    have sub := Go.subLong (w := w) (s := s) (pos := pos) (L := C) (by
      have : @LT.lt Nat _ d s.heap.objs.size := Heap.lt_size hd
      have h : @LE.le Nat _ 11 d := Nat.le_of_ble_eq_true h11
      exact Nat.ble_eq_true_of_le (by lia)) hCn hCh (by lia) (by lia)
    rw [← hE] at sub
    have fl := Go.flushSome sub (by intro e; rw [e] at h17; cases h17) hd h11 (beq_eq_false_iff_ne.mpr fun e => by rw [e] at hs; revert hs; decide) ha hn1 (ents_ok _ _ hCh) (by lia)
    have ih := Go.chunks (pos := pos) hf h11 last hl cs { s with heap := (s.heap.push (dO (ents s.toks C) (ents s.toks C).length)).update d (fun _ => dO (acc ++ ents s.toks C) (acc ++ ents s.toks C).length), toks := s.toks + 3 * C.length } (acc ++ ents s.toks C) hd' (by simp [ha]) (fun x hx => hC x (List.mem_cons_of_mem _ hx))
      (by rw [List.map_append, ents_hash, List.append_assoc]; exact hn) (fun x hx => hh x (List.mem_cons_of_mem _ hx)) (by rw [List.length_append, hE]; lia) (by show @LE.le Nat _ 20 ((s.heap.push _).update _ _).objs.size; rw [upd_size, push_size]; lia)
    refine Go.cast (Go.bind (fl.eqS ?_) ih) (by rw [List.length_cons, hE, h17]; lia)
    rw [hE]
end
end Mine
end
section
open PySem PySem.W PyProof.Rows PySem.W.BT
namespace Mine
noncomputable section
noncomputable def growT (d : Nat) : List (List (Int × Str)) → BT → Nat → Nat → List DictEntry → BT
  | [], T, _, _, _ => T
  | C :: cs, T, n, t, acc => growT d cs ((T.ins n (dO (ents t C) (ents t C).length)).set d (fun _ => dO (acc ++ ents t C) (acc ++ ents t C).length)) (n + 1) (t + 3 * C.length) (acc ++ ents t C)
noncomputable def okIns (d : Nat) : List (List (Int × Str)) → BT → Nat → Nat → List DictEntry → Bool
  | [], _, _, _, _ => true
  | C :: cs, T, n, t, acc => ((T.ins n (dO (ents t C) (ents t C).length)).get n).isSome && okIns d cs ((T.ins n (dO (ents t C) (ents t C).length)).set d (fun _ => dO (acc ++ ents t C) (acc ++ ents t C).length)) (n + 1) (t + 3 * C.length) (acc ++ ents t C)
theorem step_tree {d : Nat} {T : BT} {n : Nat} {o acc acc' : Obj} (hT : T.get d = some acc) (hd : d < n) (hi : ((T.ins n o).get n).isSome = true) :
    ((absHeap T n {}).push o).update d (fun _ => acc') = absHeap ((T.ins n o).set d fun _ => acc') (n + 1) {} ∧ ((T.ins n o).set d fun _ => acc').get d = some acc' := by
  have hg : (T.ins n o).get d = some acc := by rw [get_ins o T n hi, if_neg (Nat.ne_of_lt hd)]; exact hT
  refine ⟨?_, ?_⟩
  · rw [absHeap_set hg, absHeap_ins hi]
  · rw [get_set, if_pos rfl, hg]; rfl
theorem grow_tree {d : Nat} {os : OsState} : ∀ (cs : List (List (Int × Str))) (T : BT) (n t : Nat) (acc : List DictEntry), (∀ C ∈ cs, C.length = 17) → T.get d = some (dO acc acc.length) → d < n → okIns d cs T n t acc = true →
    grow d cs (stT T n t os).abs acc = (stT (growT d cs T n t acc) (n + cs.length) (t + 51 * cs.length) os).abs ∧ (growT d cs T n t acc).get d = some (dO (accs cs t acc) (accs cs t acc).length)
  | [], T, n, t, acc, hC, hT, hd, hk => ⟨rfl, hT⟩
  | C :: cs, T, n, t, acc, hC, hT, hd, hk => by
    unfold okIns at hk
    obtain ⟨k1, k2⟩ := Bool.and_eq_true_iff.mp hk
    have h17 := hC C List.mem_cons_self
    obtain ⟨e1, e2⟩ := step_tree (acc' := dO (acc ++ ents t C) (acc ++ ents t C).length) hT hd k1
    obtain ⟨i1, i2⟩ := grow_tree (os := os) cs _ (n + 1) (t + 3 * C.length) (acc ++ ents t C) (fun x hx => hC x (List.mem_cons_of_mem _ hx)) e2 (Nat.lt_succ_of_lt hd) k2
    refine ⟨?_, i2⟩
    unfold grow growT
    have e : ({ (stT T n t os).abs with heap := (((stT T n t os).abs.heap.push (dO (ents (stT T n t os).abs.toks C) (ents (stT T n t os).abs.toks C).length)).update d (fun _ => dO (acc ++ ents (stT T n t os).abs.toks C) (acc ++ ents (stT T n t os).abs.toks C).length)), toks := (stT T n t os).abs.toks + 3 * C.length } : Shared)
        = (stT ((T.ins n (dO (ents t C) (ents t C).length)).set d (fun _ => dO (acc ++ ents t C) (acc ++ ents t C).length)) (n + 1) (t + 3 * C.length) os).abs := congrArg (fun h => Shared.mk h #[] {} (t + 3 * C.length) os) e1
    rw [e, show (stT T n t os).abs.toks = t from rfl, i1, List.length_cons, show n + 1 + cs.length = n + (cs.length + 1) by lia, show t + 3 * C.length + 51 * cs.length = t + 51 * (cs.length + 1) by rw [h17]; lia]
noncomputable def asgE : Stmt → Expr
  | .Assign _ v _ => v
  | _ => default
noncomputable def asgP : Stmt → Pos
  | .Assign _ _ p => p
  | _ => default
noncomputable def asgN : Stmt → Str
  | .Assign [.Name x _] _ _ => x
  | _ => default
noncomputable def asgNP : Stmt → Pos
  | .Assign [.Name _ p] _ _ => p
  | _ => default
noncomputable def dicK : Expr → List (Option Expr)
  | .Dict k _ _ => k
  | _ => []
noncomputable def dicV : Expr → List Expr
  | .Dict _ v _ => v
  | _ => []
noncomputable def dicP : Expr → Pos
  | .Dict _ _ p => p
  | _ => default
theorem st8_eq : stAt 8 = .Assign [.Name (asgN (stAt 8)) (asgNP (stAt 8))] (.Dict (dicK (asgE (stAt 8))) (dicV (asgE (stAt 8))) (dicP (asgE (stAt 8)))) (asgP (stAt 8)) := by kernel_rfl
noncomputable def keyOf : Option Expr → Int
  | some (.Constant (.int i) _ _) => i
  | _ => 0
noncomputable def strOf : Expr → Str
  | .Constant (.str x) _ _ => x
  | _ => default
noncomputable def L8 : List (Int × Str) := List.zipWith (fun k v => (keyOf k, strOf v)) (dicK (asgE (stAt 8))) (dicV (asgE (stAt 8)))
noncomputable abbrev dp8 : Pos := dicP (asgE (stAt 8))
theorem items8 : (evalEachOpt (dicK (asgE (stAt 8))) topEnv).zip ((evalEach (dicV (asgE (stAt 8))) topEnv).map fun v => do let x ← v; standAt dp8; pure x) = (L8.map (item dp8)).map gi := by kernel_rfl
noncomputable def chunkN : Nat → List (Int × Str) → List (List (Int × Str))
  | 0, _ => []
  | n + 1, l => l.take 17 :: chunkN n (l.drop 17)
theorem chunkN_flat : ∀ (n : Nat) (l : List (Int × Str)), (chunkN n l).flatten ++ l.drop (17 * n) = l
  | 0, l => by rw [Nat.mul_zero, List.drop_zero]; rfl
  | n + 1, l => by
    unfold chunkN
    rw [List.flatten_cons, List.append_assoc, show 17 * (n + 1) = 17 + 17 * n by lia, ← List.drop_drop, chunkN_flat n, List.take_append_drop]
theorem chunkN_len : ∀ (n : Nat) (l : List (Int × Str)), 17 * n ≤ l.length → ∀ C ∈ chunkN n l, C.length = 17
  | 0, l, h, C, hC => by unfold chunkN at hC; cases hC
  | n + 1, l, h, C, hC => by
    unfold chunkN at hC
    rcases List.mem_cons.mp hC with rfl | hC
    · rw [List.length_take]; lia
    · exact chunkN_len n _ (by rw [List.length_drop]; lia) C hC
theorem L8_len : L8.length = 650 := by kernel_rfl
noncomputable def upB : Int → List Int → Bool
  | _, [] => true
  | a, b :: r => decide (a < b) && upB b r
theorem upB_nodup : ∀ (l : List Int) (a : Int), upB a l = true → (∀ x ∈ l, a < x) ∧ l.Nodup
  | [], a, h => ⟨fun x hx => absurd hx List.not_mem_nil, List.nodup_nil⟩
  | b :: r, a, h => by
    unfold upB at h
    obtain ⟨h1, h2⟩ := Bool.and_eq_true_iff.mp h
    obtain ⟨i1, i2⟩ := upB_nodup r b h2
    have h1 := of_decide_eq_true h1
    refine ⟨fun x hx => ?_, List.nodup_cons.mpr ⟨fun q => ?_, i2⟩⟩
    · rcases List.mem_cons.mp hx with rfl | hx
      · exact h1
      · have := i1 x hx; lia
    · have := i1 b q; lia
theorem L8_up : upB 0 (L8.map (·.1)) = true := by kernel_rfl
theorem L8_small : (L8.all fun x => decide (x.1 < 1000000)) = true := by kernel_rfl
theorem hashInt_small {k : Int} (h0 : 0 < k) (h1 : k < 1000000) : hashInt k = k := by
  have h : rawHash k = k := by
    simp only [rawHash]
    have h2 : (k.natAbs : Int) % ((2 ^ 61 - 1 : Nat) : Int) = k := by
      rw [Int.natAbs_of_nonneg (by lia)]
      exact Int.emod_eq_of_lt (by lia) (by lia)
    have e : (if k < 0 then -k else k) = k := if_neg (by lia)
    rw [h2, e]
    exact if_neg (fun q => by have := beq_iff_eq.mp q; lia)
  unfold hashInt
  rw [h]
  exact if_neg (fun q => by have := beq_iff_eq.mp q; lia)
theorem L8_hash : ∀ x ∈ L8, hashInt x.1 = x.1 := fun x hx => by
  have h1 := (upB_nodup _ _ L8_up).1 x.1 (List.mem_map_of_mem hx)
  have h2 := of_decide_eq_true (List.all_eq_true.mp L8_small x hx)
  exact hashInt_small h1 h2
end
end Mine
end
section
open PySem PySem.W PyProof.Rows PySem.W.BT
namespace Mine
noncomputable section
noncomputable def ents8 : List DictEntry := ents 350 (L8.take 646) ++ ents2 2288 (L8.drop 646)
noncomputable def ob89 (P : Params) : Obj := dO ents8 650
noncomputable def ob90 (P : Params) : Obj := dO (ents 401 ((L8.drop 17).take 17)) 17
noncomputable def ob91 (P : Params) : Obj := dO (ents 452 ((L8.drop 34).take 17)) 17
noncomputable def ob92 (P : Params) : Obj := dO (ents 503 ((L8.drop 51).take 17)) 17
noncomputable def ob93 (P : Params) : Obj := dO (ents 554 ((L8.drop 68).take 17)) 17
noncomputable def ob94 (P : Params) : Obj := dO (ents 605 ((L8.drop 85).take 17)) 17
noncomputable def ob95 (P : Params) : Obj := dO (ents 656 ((L8.drop 102).take 17)) 17
noncomputable def ob96 (P : Params) : Obj := dO (ents 707 ((L8.drop 119).take 17)) 17
noncomputable def ob97 (P : Params) : Obj := dO (ents 758 ((L8.drop 136).take 17)) 17
noncomputable def ob98 (P : Params) : Obj := dO (ents 809 ((L8.drop 153).take 17)) 17
noncomputable def ob99 (P : Params) : Obj := dO (ents 860 ((L8.drop 170).take 17)) 17
noncomputable def ob100 (P : Params) : Obj := dO (ents 911 ((L8.drop 187).take 17)) 17
noncomputable def ob101 (P : Params) : Obj := dO (ents 962 ((L8.drop 204).take 17)) 17
noncomputable def ob102 (P : Params) : Obj := dO (ents 1013 ((L8.drop 221).take 17)) 17
noncomputable def ob103 (P : Params) : Obj := dO (ents 1064 ((L8.drop 238).take 17)) 17
noncomputable def ob104 (P : Params) : Obj := dO (ents 1115 ((L8.drop 255).take 17)) 17
noncomputable def ob105 (P : Params) : Obj := dO (ents 1166 ((L8.drop 272).take 17)) 17
noncomputable def ob106 (P : Params) : Obj := dO (ents 1217 ((L8.drop 289).take 17)) 17
noncomputable def ob107 (P : Params) : Obj := dO (ents 1268 ((L8.drop 306).take 17)) 17
noncomputable def ob108 (P : Params) : Obj := dO (ents 1319 ((L8.drop 323).take 17)) 17
noncomputable def ob109 (P : Params) : Obj := dO (ents 1370 ((L8.drop 340).take 17)) 17
noncomputable def ob110 (P : Params) : Obj := dO (ents 1421 ((L8.drop 357).take 17)) 17
noncomputable def ob111 (P : Params) : Obj := dO (ents 1472 ((L8.drop 374).take 17)) 17
noncomputable def ob112 (P : Params) : Obj := dO (ents 1523 ((L8.drop 391).take 17)) 17
noncomputable def ob113 (P : Params) : Obj := dO (ents 1574 ((L8.drop 408).take 17)) 17
noncomputable def ob114 (P : Params) : Obj := dO (ents 1625 ((L8.drop 425).take 17)) 17
noncomputable def ob115 (P : Params) : Obj := dO (ents 1676 ((L8.drop 442).take 17)) 17
noncomputable def ob116 (P : Params) : Obj := dO (ents 1727 ((L8.drop 459).take 17)) 17
noncomputable def ob117 (P : Params) : Obj := dO (ents 1778 ((L8.drop 476).take 17)) 17
noncomputable def ob118 (P : Params) : Obj := dO (ents 1829 ((L8.drop 493).take 17)) 17
noncomputable def ob119 (P : Params) : Obj := dO (ents 1880 ((L8.drop 510).take 17)) 17
noncomputable def ob120 (P : Params) : Obj := dO (ents 1931 ((L8.drop 527).take 17)) 17
noncomputable def ob121 (P : Params) : Obj := dO (ents 1982 ((L8.drop 544).take 17)) 17
noncomputable def ob122 (P : Params) : Obj := dO (ents 2033 ((L8.drop 561).take 17)) 17
noncomputable def ob123 (P : Params) : Obj := dO (ents 2084 ((L8.drop 578).take 17)) 17
noncomputable def ob124 (P : Params) : Obj := dO (ents 2135 ((L8.drop 595).take 17)) 17
noncomputable def ob125 (P : Params) : Obj := dO (ents 2186 ((L8.drop 612).take 17)) 17
noncomputable def ob126 (P : Params) : Obj := dO (ents 2237 ((L8.drop 629).take 17)) 17
noncomputable def ob127 (P : Params) : Obj := dO (ents2 2288 (L8.drop 646)) 4
noncomputable def tr9 (P : Params) : BT := (node (boot_o_0 P) (node (boot_o_1 P) (node (ob3x9 P) (node (boot_o_7 P) (node (ob15 P) (node (ob31 P) (node (ob63 P) (node (ob127 P) .nil .nil) .nil) (node (ob95 P) .nil .nil)) (node (ob47 P) (node (ob79 P) .nil .nil) (node (ob111 P) .nil .nil))) (node (ob23 P) (node (ob39 P) (node (ob71 P) .nil .nil) (node (ob103 P) .nil .nil)) (node (ob55 P) (node (ob87 P) .nil .nil) (node (ob119 P) .nil .nil)))) (node (ob11 P) (node (ob19 P) (node (ob35 P) (node (ob67 P) .nil .nil) (node (ob99 P) .nil .nil)) (node (ob51 P) (node (ob83 P) .nil .nil) (node (ob115 P) .nil .nil))) (node (ob27 P) (node (ob43 P) (node (ob75 P) .nil .nil) (node (ob107 P) .nil .nil)) (node (ob59 P) (node (ob91 P) .nil .nil) (node (ob123 P) .nil .nil))))) (node (boot_o_5 P) (node (boot_o_9 P) (node (ob17 P) (node (ob33 P) (node (ob65 P) .nil .nil) (node (ob97 P) .nil .nil)) (node (ob49 P) (node (ob81 P) .nil .nil) (node (ob113 P) .nil .nil))) (node (ob25 P) (node (ob41 P) (node (ob73 P) .nil .nil) (node (ob105 P) .nil .nil)) (node (ob57 P) (node (ob89 P) .nil .nil) (node (ob121 P) .nil .nil)))) (node (ob13 P) (node (ob21 P) (node (ob37 P) (node (ob69 P) .nil .nil) (node (ob101 P) .nil .nil)) (node (ob53 P) (node (ob85 P) .nil .nil) (node (ob117 P) .nil .nil))) (node (ob29 P) (node (ob45 P) (node (ob77 P) .nil .nil) (node (ob109 P) .nil .nil)) (node (ob61 P) (node (ob93 P) .nil .nil) (node (ob125 P) .nil .nil)))))) (node (boot_o_2 P) (node (boot_o_4 P) (node (boot_o_8 P) (node (ob16 P) (node (ob32 P) (node (ob64 P) .nil .nil) (node (ob96 P) .nil .nil)) (node (ob48 P) (node (ob80 P) .nil .nil) (node (ob112 P) .nil .nil))) (node (ob24 P) (node (ob40 P) (node (ob72 P) .nil .nil) (node (ob104 P) .nil .nil)) (node (ob56 P) (node (ob88 P) .nil .nil) (node (ob120 P) .nil .nil)))) (node (ob12x8 P) (node (ob20 P) (node (ob36 P) (node (ob68 P) .nil .nil) (node (ob100 P) .nil .nil)) (node (ob52 P) (node (ob84 P) .nil .nil) (node (ob116 P) .nil .nil))) (node (ob28 P) (node (ob44 P) (node (ob76 P) .nil .nil) (node (ob108 P) .nil .nil)) (node (ob60 P) (node (ob92 P) .nil .nil) (node (ob124 P) .nil .nil))))) (node (boot_o_6 P) (node (boot_o_10 P) (node (ob18 P) (node (ob34 P) (node (ob66 P) .nil .nil) (node (ob98 P) .nil .nil)) (node (ob50 P) (node (ob82 P) .nil .nil) (node (ob114 P) .nil .nil))) (node (ob26 P) (node (ob42 P) (node (ob74 P) .nil .nil) (node (ob106 P) .nil .nil)) (node (ob58 P) (node (ob90 P) .nil .nil) (node (ob122 P) .nil .nil)))) (node (ob14 P) (node (ob22 P) (node (ob38 P) (node (ob70 P) .nil .nil) (node (ob102 P) .nil .nil)) (node (ob54 P) (node (ob86 P) .nil .nil) (node (ob118 P) .nil .nil))) (node (ob30 P) (node (ob46 P) (node (ob78 P) .nil .nil) (node (ob110 P) .nil .nil)) (node (ob62 P) (node (ob94 P) .nil .nil) (node (ob126 P) .nil .nil)))))))
noncomputable def tr10 (P : Params) : BT := (node (boot_o_0 P) (node (boot_o_1 P) (node (ob3x10 P) (node (boot_o_7 P) (node (ob15 P) (node (ob31 P) (node (ob63 P) (node (ob127 P) .nil .nil) .nil) (node (ob95 P) .nil .nil)) (node (ob47 P) (node (ob79 P) .nil .nil) (node (ob111 P) .nil .nil))) (node (ob23 P) (node (ob39 P) (node (ob71 P) .nil .nil) (node (ob103 P) .nil .nil)) (node (ob55 P) (node (ob87 P) .nil .nil) (node (ob119 P) .nil .nil)))) (node (ob11 P) (node (ob19 P) (node (ob35 P) (node (ob67 P) (node (ob131 P) .nil .nil) .nil) (node (ob99 P) .nil .nil)) (node (ob51 P) (node (ob83 P) .nil .nil) (node (ob115 P) .nil .nil))) (node (ob27 P) (node (ob43 P) (node (ob75 P) .nil .nil) (node (ob107 P) .nil .nil)) (node (ob59 P) (node (ob91 P) .nil .nil) (node (ob123 P) .nil .nil))))) (node (boot_o_5 P) (node (boot_o_9 P) (node (ob17 P) (node (ob33 P) (node (ob65 P) (node (ob129 P) .nil .nil) .nil) (node (ob97 P) .nil .nil)) (node (ob49 P) (node (ob81 P) .nil .nil) (node (ob113 P) .nil .nil))) (node (ob25 P) (node (ob41 P) (node (ob73 P) .nil .nil) (node (ob105 P) .nil .nil)) (node (ob57 P) (node (ob89 P) .nil .nil) (node (ob121 P) .nil .nil)))) (node (ob13 P) (node (ob21 P) (node (ob37 P) (node (ob69 P) (node (ob133 P) .nil .nil) .nil) (node (ob101 P) .nil .nil)) (node (ob53 P) (node (ob85 P) .nil .nil) (node (ob117 P) .nil .nil))) (node (ob29 P) (node (ob45 P) (node (ob77 P) .nil .nil) (node (ob109 P) .nil .nil)) (node (ob61 P) (node (ob93 P) .nil .nil) (node (ob125 P) .nil .nil)))))) (node (boot_o_2 P) (node (boot_o_4 P) (node (boot_o_8 P) (node (ob16 P) (node (ob32 P) (node (ob64 P) (node (ob128 P) .nil .nil) .nil) (node (ob96 P) .nil .nil)) (node (ob48 P) (node (ob80 P) .nil .nil) (node (ob112 P) .nil .nil))) (node (ob24 P) (node (ob40 P) (node (ob72 P) .nil .nil) (node (ob104 P) .nil .nil)) (node (ob56 P) (node (ob88 P) .nil .nil) (node (ob120 P) .nil .nil)))) (node (ob12x10 P) (node (ob20 P) (node (ob36 P) (node (ob68 P) (node (ob132 P) .nil .nil) .nil) (node (ob100 P) .nil .nil)) (node (ob52 P) (node (ob84 P) .nil .nil) (node (ob116 P) .nil .nil))) (node (ob28 P) (node (ob44 P) (node (ob76 P) .nil .nil) (node (ob108 P) .nil .nil)) (node (ob60 P) (node (ob92 P) .nil .nil) (node (ob124 P) .nil .nil))))) (node (boot_o_6 P) (node (boot_o_10 P) (node (ob18 P) (node (ob34 P) (node (ob66 P) (node (ob130 P) .nil .nil) .nil) (node (ob98 P) .nil .nil)) (node (ob50 P) (node (ob82 P) .nil .nil) (node (ob114 P) .nil .nil))) (node (ob26 P) (node (ob42 P) (node (ob74 P) .nil .nil) (node (ob106 P) .nil .nil)) (node (ob58 P) (node (ob90 P) .nil .nil) (node (ob122 P) .nil .nil)))) (node (ob14 P) (node (ob22 P) (node (ob38 P) (node (ob70 P) (node (ob134 P) .nil .nil) .nil) (node (ob102 P) .nil .nil)) (node (ob54 P) (node (ob86 P) .nil .nil) (node (ob118 P) .nil .nil))) (node (ob30 P) (node (ob46 P) (node (ob78 P) .nil .nil) (node (ob110 P) .nil .nil)) (node (ob62 P) (node (ob94 P) .nil .nil) (node (ob126 P) .nil .nil)))))))
noncomputable def tr11 (P : Params) : BT := (node (boot_o_0 P) (node (boot_o_1 P) (node (ob3x11 P) (node (boot_o_7 P) (node (ob15 P) (node (ob31 P) (node (ob63 P) (node (ob127 P) .nil .nil) .nil) (node (ob95 P) .nil .nil)) (node (ob47 P) (node (ob79 P) .nil .nil) (node (ob111 P) .nil .nil))) (node (ob23 P) (node (ob39 P) (node (ob71 P) .nil .nil) (node (ob103 P) .nil .nil)) (node (ob55 P) (node (ob87 P) .nil .nil) (node (ob119 P) .nil .nil)))) (node (ob11 P) (node (ob19 P) (node (ob35 P) (node (ob67 P) (node (ob131 P) .nil .nil) .nil) (node (ob99 P) .nil .nil)) (node (ob51 P) (node (ob83 P) .nil .nil) (node (ob115 P) .nil .nil))) (node (ob27 P) (node (ob43 P) (node (ob75 P) .nil .nil) (node (ob107 P) .nil .nil)) (node (ob59 P) (node (ob91 P) .nil .nil) (node (ob123 P) .nil .nil))))) (node (boot_o_5 P) (node (boot_o_9 P) (node (ob17 P) (node (ob33 P) (node (ob65 P) (node (ob129 P) .nil .nil) .nil) (node (ob97 P) .nil .nil)) (node (ob49 P) (node (ob81 P) .nil .nil) (node (ob113 P) .nil .nil))) (node (ob25 P) (node (ob41 P) (node (ob73 P) .nil .nil) (node (ob105 P) .nil .nil)) (node (ob57 P) (node (ob89 P) .nil .nil) (node (ob121 P) .nil .nil)))) (node (ob13 P) (node (ob21 P) (node (ob37 P) (node (ob69 P) (node (ob133 P) .nil .nil) .nil) (node (ob101 P) .nil .nil)) (node (ob53 P) (node (ob85 P) .nil .nil) (node (ob117 P) .nil .nil))) (node (ob29 P) (node (ob45 P) (node (ob77 P) .nil .nil) (node (ob109 P) .nil .nil)) (node (ob61 P) (node (ob93 P) .nil .nil) (node (ob125 P) .nil .nil)))))) (node (boot_o_2 P) (node (boot_o_4 P) (node (boot_o_8 P) (node (ob16 P) (node (ob32 P) (node (ob64 P) (node (ob128 P) .nil .nil) .nil) (node (ob96 P) .nil .nil)) (node (ob48 P) (node (ob80 P) .nil .nil) (node (ob112 P) .nil .nil))) (node (ob24 P) (node (ob40 P) (node (ob72 P) .nil .nil) (node (ob104 P) .nil .nil)) (node (ob56 P) (node (ob88 P) .nil .nil) (node (ob120 P) .nil .nil)))) (node (ob12x10 P) (node (ob20 P) (node (ob36 P) (node (ob68 P) (node (ob132 P) .nil .nil) .nil) (node (ob100 P) .nil .nil)) (node (ob52 P) (node (ob84 P) .nil .nil) (node (ob116 P) .nil .nil))) (node (ob28 P) (node (ob44 P) (node (ob76 P) .nil .nil) (node (ob108 P) .nil .nil)) (node (ob60 P) (node (ob92 P) .nil .nil) (node (ob124 P) .nil .nil))))) (node (boot_o_6 P) (node (boot_o_10 P) (node (ob18 P) (node (ob34 P) (node (ob66 P) (node (ob130 P) .nil .nil) .nil) (node (ob98 P) .nil .nil)) (node (ob50 P) (node (ob82 P) .nil .nil) (node (ob114 P) .nil .nil))) (node (ob26 P) (node (ob42 P) (node (ob74 P) .nil .nil) (node (ob106 P) .nil .nil)) (node (ob58 P) (node (ob90 P) .nil .nil) (node (ob122 P) .nil .nil)))) (node (ob14 P) (node (ob22 P) (node (ob38 P) (node (ob70 P) (node (ob134 P) .nil .nil) .nil) (node (ob102 P) .nil .nil)) (node (ob54 P) (node (ob86 P) .nil .nil) (node (ob118 P) .nil .nil))) (node (ob30 P) (node (ob46 P) (node (ob78 P) .nil .nil) (node (ob110 P) .nil .nil)) (node (ob62 P) (node (ob94 P) .nil .nil) (node (ob126 P) .nil .nil)))))))
noncomputable def tr12 (P : Params) : BT := (node (boot_o_0 P) (node (boot_o_1 P) (node (ob3x12 P) (node (boot_o_7 P) (node (ob15 P) (node (ob31 P) (node (ob63 P) (node (ob127 P) .nil .nil) .nil) (node (ob95 P) .nil .nil)) (node (ob47 P) (node (ob79 P) .nil .nil) (node (ob111 P) .nil .nil))) (node (ob23 P) (node (ob39 P) (node (ob71 P) (node (ob135 P) .nil .nil) .nil) (node (ob103 P) .nil .nil)) (node (ob55 P) (node (ob87 P) .nil .nil) (node (ob119 P) .nil .nil)))) (node (ob11 P) (node (ob19 P) (node (ob35 P) (node (ob67 P) (node (ob131 P) .nil .nil) .nil) (node (ob99 P) .nil .nil)) (node (ob51 P) (node (ob83 P) .nil .nil) (node (ob115 P) .nil .nil))) (node (ob27 P) (node (ob43 P) (node (ob75 P) (node (ob139 P) .nil .nil) .nil) (node (ob107 P) .nil .nil)) (node (ob59 P) (node (ob91 P) .nil .nil) (node (ob123 P) .nil .nil))))) (node (boot_o_5 P) (node (boot_o_9 P) (node (ob17 P) (node (ob33 P) (node (ob65 P) (node (ob129 P) .nil .nil) .nil) (node (ob97 P) .nil .nil)) (node (ob49 P) (node (ob81 P) .nil .nil) (node (ob113 P) .nil .nil))) (node (ob25 P) (node (ob41 P) (node (ob73 P) (node (ob137 P) .nil .nil) .nil) (node (ob105 P) .nil .nil)) (node (ob57 P) (node (ob89 P) .nil .nil) (node (ob121 P) .nil .nil)))) (node (ob13 P) (node (ob21 P) (node (ob37 P) (node (ob69 P) (node (ob133 P) .nil .nil) .nil) (node (ob101 P) .nil .nil)) (node (ob53 P) (node (ob85 P) .nil .nil) (node (ob117 P) .nil .nil))) (node (ob29 P) (node (ob45 P) (node (ob77 P) (node (ob141 P) .nil .nil) .nil) (node (ob109 P) .nil .nil)) (node (ob61 P) (node (ob93 P) .nil .nil) (node (ob125 P) .nil .nil)))))) (node (boot_o_2 P) (node (boot_o_4 P) (node (boot_o_8 P) (node (ob16 P) (node (ob32 P) (node (ob64 P) (node (ob128 P) .nil .nil) .nil) (node (ob96 P) .nil .nil)) (node (ob48 P) (node (ob80 P) .nil .nil) (node (ob112 P) .nil .nil))) (node (ob24 P) (node (ob40 P) (node (ob72 P) (node (ob136 P) .nil .nil) .nil) (node (ob104 P) .nil .nil)) (node (ob56 P) (node (ob88 P) .nil .nil) (node (ob120 P) .nil .nil)))) (node (ob12x12 P) (node (ob20 P) (node (ob36 P) (node (ob68 P) (node (ob132 P) .nil .nil) .nil) (node (ob100 P) .nil .nil)) (node (ob52 P) (node (ob84 P) .nil .nil) (node (ob116 P) .nil .nil))) (node (ob28 P) (node (ob44 P) (node (ob76 P) (node (ob140 P) .nil .nil) .nil) (node (ob108 P) .nil .nil)) (node (ob60 P) (node (ob92 P) .nil .nil) (node (ob124 P) .nil .nil))))) (node (boot_o_6 P) (node (boot_o_10 P) (node (ob18 P) (node (ob34 P) (node (ob66 P) (node (ob130 P) .nil .nil) .nil) (node (ob98 P) .nil .nil)) (node (ob50 P) (node (ob82 P) .nil .nil) (node (ob114 P) .nil .nil))) (node (ob26 P) (node (ob42 P) (node (ob74 P) (node (ob138 P) .nil .nil) .nil) (node (ob106 P) .nil .nil)) (node (ob58 P) (node (ob90 P) .nil .nil) (node (ob122 P) .nil .nil)))) (node (ob14 P) (node (ob22 P) (node (ob38 P) (node (ob70 P) (node (ob134 P) .nil .nil) .nil) (node (ob102 P) .nil .nil)) (node (ob54 P) (node (ob86 P) .nil .nil) (node (ob118 P) .nil .nil))) (node (ob30 P) (node (ob46 P) (node (ob78 P) .nil .nil) (node (ob110 P) .nil .nil)) (node (ob62 P) (node (ob94 P) .nil .nil) (node (ob126 P) .nil .nil)))))))
noncomputable def tr13 (P : Params) : BT := (node (boot_o_0 P) (node (boot_o_1 P) (node (ob3x13 P) (node (boot_o_7 P) (node (ob15 P) (node (ob31 P) (node (ob63 P) (node (ob127 P) .nil .nil) .nil) (node (ob95 P) .nil .nil)) (node (ob47 P) (node (ob79 P) (node (ob143 P) .nil .nil) .nil) (node (ob111 P) .nil .nil))) (node (ob23 P) (node (ob39 P) (node (ob71 P) (node (ob135 P) .nil .nil) .nil) (node (ob103 P) .nil .nil)) (node (ob55 P) (node (ob87 P) .nil .nil) (node (ob119 P) .nil .nil)))) (node (ob11 P) (node (ob19 P) (node (ob35 P) (node (ob67 P) (node (ob131 P) .nil .nil) .nil) (node (ob99 P) .nil .nil)) (node (ob51 P) (node (ob83 P) .nil .nil) (node (ob115 P) .nil .nil))) (node (ob27 P) (node (ob43 P) (node (ob75 P) (node (ob139 P) .nil .nil) .nil) (node (ob107 P) .nil .nil)) (node (ob59 P) (node (ob91 P) .nil .nil) (node (ob123 P) .nil .nil))))) (node (boot_o_5 P) (node (boot_o_9 P) (node (ob17 P) (node (ob33 P) (node (ob65 P) (node (ob129 P) .nil .nil) .nil) (node (ob97 P) .nil .nil)) (node (ob49 P) (node (ob81 P) (node (ob145 P) .nil .nil) .nil) (node (ob113 P) .nil .nil))) (node (ob25 P) (node (ob41 P) (node (ob73 P) (node (ob137 P) .nil .nil) .nil) (node (ob105 P) .nil .nil)) (node (ob57 P) (node (ob89 P) .nil .nil) (node (ob121 P) .nil .nil)))) (node (ob13 P) (node (ob21 P) (node (ob37 P) (node (ob69 P) (node (ob133 P) .nil .nil) .nil) (node (ob101 P) .nil .nil)) (node (ob53 P) (node (ob85 P) .nil .nil) (node (ob117 P) .nil .nil))) (node (ob29 P) (node (ob45 P) (node (ob77 P) (node (ob141 P) .nil .nil) .nil) (node (ob109 P) .nil .nil)) (node (ob61 P) (node (ob93 P) .nil .nil) (node (ob125 P) .nil .nil)))))) (node (boot_o_2 P) (node (boot_o_4 P) (node (boot_o_8 P) (node (ob16 P) (node (ob32 P) (node (ob64 P) (node (ob128 P) .nil .nil) .nil) (node (ob96 P) .nil .nil)) (node (ob48 P) (node (ob80 P) (node (ob144 P) .nil .nil) .nil) (node (ob112 P) .nil .nil))) (node (ob24 P) (node (ob40 P) (node (ob72 P) (node (ob136 P) .nil .nil) .nil) (node (ob104 P) .nil .nil)) (node (ob56 P) (node (ob88 P) .nil .nil) (node (ob120 P) .nil .nil)))) (node (ob12x13 P) (node (ob20 P) (node (ob36 P) (node (ob68 P) (node (ob132 P) .nil .nil) .nil) (node (ob100 P) .nil .nil)) (node (ob52 P) (node (ob84 P) .nil .nil) (node (ob116 P) .nil .nil))) (node (ob28 P) (node (ob44 P) (node (ob76 P) (node (ob140 P) .nil .nil) .nil) (node (ob108 P) .nil .nil)) (node (ob60 P) (node (ob92 P) .nil .nil) (node (ob124 P) .nil .nil))))) (node (boot_o_6 P) (node (boot_o_10 P) (node (ob18 P) (node (ob34 P) (node (ob66 P) (node (ob130 P) .nil .nil) .nil) (node (ob98 P) .nil .nil)) (node (ob50 P) (node (ob82 P) (node (ob146 P) .nil .nil) .nil) (node (ob114 P) .nil .nil))) (node (ob26 P) (node (ob42 P) (node (ob74 P) (node (ob138 P) .nil .nil) .nil) (node (ob106 P) .nil .nil)) (node (ob58 P) (node (ob90 P) .nil .nil) (node (ob122 P) .nil .nil)))) (node (ob14 P) (node (ob22 P) (node (ob38 P) (node (ob70 P) (node (ob134 P) .nil .nil) .nil) (node (ob102 P) .nil .nil)) (node (ob54 P) (node (ob86 P) .nil .nil) (node (ob118 P) .nil .nil))) (node (ob30 P) (node (ob46 P) (node (ob78 P) (node (ob142 P) .nil .nil) .nil) (node (ob110 P) .nil .nil)) (node (ob62 P) (node (ob94 P) .nil .nil) (node (ob126 P) .nil .nil)))))))
noncomputable def tr14 (P : Params) : BT := (node (boot_o_0 P) (node (boot_o_1 P) (node (ob3x14 P) (node (boot_o_7 P) (node (ob15 P) (node (ob31 P) (node (ob63 P) (node (ob127 P) .nil .nil) .nil) (node (ob95 P) .nil .nil)) (node (ob47 P) (node (ob79 P) (node (ob143 P) .nil .nil) .nil) (node (ob111 P) .nil .nil))) (node (ob23 P) (node (ob39 P) (node (ob71 P) (node (ob135 P) .nil .nil) .nil) (node (ob103 P) .nil .nil)) (node (ob55 P) (node (ob87 P) (node (ob151 P) .nil .nil) .nil) (node (ob119 P) .nil .nil)))) (node (ob11 P) (node (ob19 P) (node (ob35 P) (node (ob67 P) (node (ob131 P) .nil .nil) .nil) (node (ob99 P) .nil .nil)) (node (ob51 P) (node (ob83 P) (node (ob147 P) .nil .nil) .nil) (node (ob115 P) .nil .nil))) (node (ob27 P) (node (ob43 P) (node (ob75 P) (node (ob139 P) .nil .nil) .nil) (node (ob107 P) .nil .nil)) (node (ob59 P) (node (ob91 P) .nil .nil) (node (ob123 P) .nil .nil))))) (node (boot_o_5 P) (node (boot_o_9 P) (node (ob17 P) (node (ob33 P) (node (ob65 P) (node (ob129 P) .nil .nil) .nil) (node (ob97 P) .nil .nil)) (node (ob49 P) (node (ob81 P) (node (ob145 P) .nil .nil) .nil) (node (ob113 P) .nil .nil))) (node (ob25 P) (node (ob41 P) (node (ob73 P) (node (ob137 P) .nil .nil) .nil) (node (ob105 P) .nil .nil)) (node (ob57 P) (node (ob89 P) .nil .nil) (node (ob121 P) .nil .nil)))) (node (ob13 P) (node (ob21 P) (node (ob37 P) (node (ob69 P) (node (ob133 P) .nil .nil) .nil) (node (ob101 P) .nil .nil)) (node (ob53 P) (node (ob85 P) (node (ob149 P) .nil .nil) .nil) (node (ob117 P) .nil .nil))) (node (ob29 P) (node (ob45 P) (node (ob77 P) (node (ob141 P) .nil .nil) .nil) (node (ob109 P) .nil .nil)) (node (ob61 P) (node (ob93 P) .nil .nil) (node (ob125 P) .nil .nil)))))) (node (boot_o_2 P) (node (boot_o_4 P) (node (boot_o_8 P) (node (ob16 P) (node (ob32 P) (node (ob64 P) (node (ob128 P) .nil .nil) .nil) (node (ob96 P) .nil .nil)) (node (ob48 P) (node (ob80 P) (node (ob144 P) .nil .nil) .nil) (node (ob112 P) .nil .nil))) (node (ob24 P) (node (ob40 P) (node (ob72 P) (node (ob136 P) .nil .nil) .nil) (node (ob104 P) .nil .nil)) (node (ob56 P) (node (ob88 P) .nil .nil) (node (ob120 P) .nil .nil)))) (node (ob12x14 P) (node (ob20 P) (node (ob36 P) (node (ob68 P) (node (ob132 P) .nil .nil) .nil) (node (ob100 P) .nil .nil)) (node (ob52 P) (node (ob84 P) (node (ob148 P) .nil .nil) .nil) (node (ob116 P) .nil .nil))) (node (ob28 P) (node (ob44 P) (node (ob76 P) (node (ob140 P) .nil .nil) .nil) (node (ob108 P) .nil .nil)) (node (ob60 P) (node (ob92 P) .nil .nil) (node (ob124 P) .nil .nil))))) (node (boot_o_6 P) (node (boot_o_10 P) (node (ob18 P) (node (ob34 P) (node (ob66 P) (node (ob130 P) .nil .nil) .nil) (node (ob98 P) .nil .nil)) (node (ob50 P) (node (ob82 P) (node (ob146 P) .nil .nil) .nil) (node (ob114 P) .nil .nil))) (node (ob26 P) (node (ob42 P) (node (ob74 P) (node (ob138 P) .nil .nil) .nil) (node (ob106 P) .nil .nil)) (node (ob58 P) (node (ob90 P) .nil .nil) (node (ob122 P) .nil .nil)))) (node (ob14 P) (node (ob22 P) (node (ob38 P) (node (ob70 P) (node (ob134 P) .nil .nil) .nil) (node (ob102 P) .nil .nil)) (node (ob54 P) (node (ob86 P) (node (ob150 P) .nil .nil) .nil) (node (ob118 P) .nil .nil))) (node (ob30 P) (node (ob46 P) (node (ob78 P) (node (ob142 P) .nil .nil) .nil) (node (ob110 P) .nil .nil)) (node (ob62 P) (node (ob94 P) .nil .nil) (node (ob126 P) .nil .nil)))))))
noncomputable def tr15 (P : Params) : BT := (node (boot_o_0 P) (node (boot_o_1 P) (node (ob3x15 P) (node (boot_o_7 P) (node (ob15 P) (node (ob31 P) (node (ob63 P) (node (ob127 P) .nil .nil) .nil) (node (ob95 P) .nil .nil)) (node (ob47 P) (node (ob79 P) (node (ob143 P) .nil .nil) .nil) (node (ob111 P) .nil .nil))) (node (ob23 P) (node (ob39 P) (node (ob71 P) (node (ob135 P) .nil .nil) .nil) (node (ob103 P) .nil .nil)) (node (ob55 P) (node (ob87 P) (node (ob151 P) .nil .nil) .nil) (node (ob119 P) .nil .nil)))) (node (ob11 P) (node (ob19 P) (node (ob35 P) (node (ob67 P) (node (ob131 P) .nil .nil) .nil) (node (ob99 P) .nil .nil)) (node (ob51 P) (node (ob83 P) (node (ob147 P) .nil .nil) .nil) (node (ob115 P) .nil .nil))) (node (ob27 P) (node (ob43 P) (node (ob75 P) (node (ob139 P) .nil .nil) .nil) (node (ob107 P) .nil .nil)) (node (ob59 P) (node (ob91 P) (node (ob155 P) .nil .nil) .nil) (node (ob123 P) .nil .nil))))) (node (boot_o_5 P) (node (boot_o_9 P) (node (ob17 P) (node (ob33 P) (node (ob65 P) (node (ob129 P) .nil .nil) .nil) (node (ob97 P) .nil .nil)) (node (ob49 P) (node (ob81 P) (node (ob145 P) .nil .nil) .nil) (node (ob113 P) .nil .nil))) (node (ob25 P) (node (ob41 P) (node (ob73 P) (node (ob137 P) .nil .nil) .nil) (node (ob105 P) .nil .nil)) (node (ob57 P) (node (ob89 P) (node (ob153 P) .nil .nil) .nil) (node (ob121 P) .nil .nil)))) (node (ob13 P) (node (ob21 P) (node (ob37 P) (node (ob69 P) (node (ob133 P) .nil .nil) .nil) (node (ob101 P) .nil .nil)) (node (ob53 P) (node (ob85 P) (node (ob149 P) .nil .nil) .nil) (node (ob117 P) .nil .nil))) (node (ob29 P) (node (ob45 P) (node (ob77 P) (node (ob141 P) .nil .nil) .nil) (node (ob109 P) .nil .nil)) (node (ob61 P) (node (ob93 P) (node (ob157 P) .nil .nil) .nil) (node (ob125 P) .nil .nil)))))) (node (boot_o_2 P) (node (boot_o_4 P) (node (boot_o_8 P) (node (ob16 P) (node (ob32 P) (node (ob64 P) (node (ob128 P) .nil .nil) .nil) (node (ob96 P) .nil .nil)) (node (ob48 P) (node (ob80 P) (node (ob144 P) .nil .nil) .nil) (node (ob112 P) .nil .nil))) (node (ob24 P) (node (ob40 P) (node (ob72 P) (node (ob136 P) .nil .nil) .nil) (node (ob104 P) .nil .nil)) (node (ob56 P) (node (ob88 P) (node (ob152 P) .nil .nil) .nil) (node (ob120 P) .nil .nil)))) (node (ob12x15 P) (node (ob20 P) (node (ob36 P) (node (ob68 P) (node (ob132 P) .nil .nil) .nil) (node (ob100 P) .nil .nil)) (node (ob52 P) (node (ob84 P) (node (ob148 P) .nil .nil) .nil) (node (ob116 P) .nil .nil))) (node (ob28 P) (node (ob44 P) (node (ob76 P) (node (ob140 P) .nil .nil) .nil) (node (ob108 P) .nil .nil)) (node (ob60 P) (node (ob92 P) (node (ob156 P) .nil .nil) .nil) (node (ob124 P) .nil .nil))))) (node (boot_o_6 P) (node (boot_o_10 P) (node (ob18 P) (node (ob34 P) (node (ob66 P) (node (ob130 P) .nil .nil) .nil) (node (ob98 P) .nil .nil)) (node (ob50 P) (node (ob82 P) (node (ob146 P) .nil .nil) .nil) (node (ob114 P) .nil .nil))) (node (ob26 P) (node (ob42 P) (node (ob74 P) (node (ob138 P) .nil .nil) .nil) (node (ob106 P) .nil .nil)) (node (ob58 P) (node (ob90 P) (node (ob154 P) .nil .nil) .nil) (node (ob122 P) .nil .nil)))) (node (ob14 P) (node (ob22 P) (node (ob38 P) (node (ob70 P) (node (ob134 P) .nil .nil) .nil) (node (ob102 P) .nil .nil)) (node (ob54 P) (node (ob86 P) (node (ob150 P) .nil .nil) .nil) (node (ob118 P) .nil .nil))) (node (ob30 P) (node (ob46 P) (node (ob78 P) (node (ob142 P) .nil .nil) .nil) (node (ob110 P) .nil .nil)) (node (ob62 P) (node (ob94 P) (node (ob158 P) .nil .nil) .nil) (node (ob126 P) .nil .nil)))))))
noncomputable def tr16 (P : Params) : BT := (node (boot_o_0 P) (node (boot_o_1 P) (node (ob3x16 P) (node (boot_o_7 P) (node (ob15 P) (node (ob31 P) (node (ob63 P) (node (ob127 P) .nil .nil) .nil) (node (ob95 P) (node (ob159 P) .nil .nil) .nil)) (node (ob47 P) (node (ob79 P) (node (ob143 P) .nil .nil) .nil) (node (ob111 P) .nil .nil))) (node (ob23 P) (node (ob39 P) (node (ob71 P) (node (ob135 P) .nil .nil) .nil) (node (ob103 P) .nil .nil)) (node (ob55 P) (node (ob87 P) (node (ob151 P) .nil .nil) .nil) (node (ob119 P) .nil .nil)))) (node (ob11 P) (node (ob19 P) (node (ob35 P) (node (ob67 P) (node (ob131 P) .nil .nil) .nil) (node (ob99 P) (node (ob163 P) .nil .nil) .nil)) (node (ob51 P) (node (ob83 P) (node (ob147 P) .nil .nil) .nil) (node (ob115 P) .nil .nil))) (node (ob27 P) (node (ob43 P) (node (ob75 P) (node (ob139 P) .nil .nil) .nil) (node (ob107 P) .nil .nil)) (node (ob59 P) (node (ob91 P) (node (ob155 P) .nil .nil) .nil) (node (ob123 P) .nil .nil))))) (node (boot_o_5 P) (node (boot_o_9 P) (node (ob17 P) (node (ob33 P) (node (ob65 P) (node (ob129 P) .nil .nil) .nil) (node (ob97 P) (node (ob161 P) .nil .nil) .nil)) (node (ob49 P) (node (ob81 P) (node (ob145 P) .nil .nil) .nil) (node (ob113 P) .nil .nil))) (node (ob25 P) (node (ob41 P) (node (ob73 P) (node (ob137 P) .nil .nil) .nil) (node (ob105 P) .nil .nil)) (node (ob57 P) (node (ob89 P) (node (ob153 P) .nil .nil) .nil) (node (ob121 P) .nil .nil)))) (node (ob13 P) (node (ob21 P) (node (ob37 P) (node (ob69 P) (node (ob133 P) .nil .nil) .nil) (node (ob101 P) (node (ob165 P) .nil .nil) .nil)) (node (ob53 P) (node (ob85 P) (node (ob149 P) .nil .nil) .nil) (node (ob117 P) .nil .nil))) (node (ob29 P) (node (ob45 P) (node (ob77 P) (node (ob141 P) .nil .nil) .nil) (node (ob109 P) .nil .nil)) (node (ob61 P) (node (ob93 P) (node (ob157 P) .nil .nil) .nil) (node (ob125 P) .nil .nil)))))) (node (boot_o_2 P) (node (boot_o_4 P) (node (boot_o_8 P) (node (ob16 P) (node (ob32 P) (node (ob64 P) (node (ob128 P) .nil .nil) .nil) (node (ob96 P) (node (ob160 P) .nil .nil) .nil)) (node (ob48 P) (node (ob80 P) (node (ob144 P) .nil .nil) .nil) (node (ob112 P) .nil .nil))) (node (ob24 P) (node (ob40 P) (node (ob72 P) (node (ob136 P) .nil .nil) .nil) (node (ob104 P) .nil .nil)) (node (ob56 P) (node (ob88 P) (node (ob152 P) .nil .nil) .nil) (node (ob120 P) .nil .nil)))) (node (ob12x16 P) (node (ob20 P) (node (ob36 P) (node (ob68 P) (node (ob132 P) .nil .nil) .nil) (node (ob100 P) (node (ob164 P) .nil .nil) .nil)) (node (ob52 P) (node (ob84 P) (node (ob148 P) .nil .nil) .nil) (node (ob116 P) .nil .nil))) (node (ob28 P) (node (ob44 P) (node (ob76 P) (node (ob140 P) .nil .nil) .nil) (node (ob108 P) .nil .nil)) (node (ob60 P) (node (ob92 P) (node (ob156 P) .nil .nil) .nil) (node (ob124 P) .nil .nil))))) (node (boot_o_6 P) (node (boot_o_10 P) (node (ob18 P) (node (ob34 P) (node (ob66 P) (node (ob130 P) .nil .nil) .nil) (node (ob98 P) (node (ob162 P) .nil .nil) .nil)) (node (ob50 P) (node (ob82 P) (node (ob146 P) .nil .nil) .nil) (node (ob114 P) .nil .nil))) (node (ob26 P) (node (ob42 P) (node (ob74 P) (node (ob138 P) .nil .nil) .nil) (node (ob106 P) .nil .nil)) (node (ob58 P) (node (ob90 P) (node (ob154 P) .nil .nil) .nil) (node (ob122 P) .nil .nil)))) (node (ob14 P) (node (ob22 P) (node (ob38 P) (node (ob70 P) (node (ob134 P) .nil .nil) .nil) (node (ob102 P) .nil .nil)) (node (ob54 P) (node (ob86 P) (node (ob150 P) .nil .nil) .nil) (node (ob118 P) .nil .nil))) (node (ob30 P) (node (ob46 P) (node (ob78 P) (node (ob142 P) .nil .nil) .nil) (node (ob110 P) .nil .nil)) (node (ob62 P) (node (ob94 P) (node (ob158 P) .nil .nil) .nil) (node (ob126 P) .nil .nil)))))))
noncomputable def tr17 (P : Params) : BT := (node (boot_o_0 P) (node (boot_o_1 P) (node (ob3x17 P) (node (boot_o_7 P) (node (ob15 P) (node (ob31 P) (node (ob63 P) (node (ob127 P) .nil .nil) .nil) (node (ob95 P) (node (ob159 P) .nil .nil) .nil)) (node (ob47 P) (node (ob79 P) (node (ob143 P) .nil .nil) .nil) (node (ob111 P) .nil .nil))) (node (ob23 P) (node (ob39 P) (node (ob71 P) (node (ob135 P) .nil .nil) .nil) (node (ob103 P) (node (ob167 P) .nil .nil) .nil)) (node (ob55 P) (node (ob87 P) (node (ob151 P) .nil .nil) .nil) (node (ob119 P) .nil .nil)))) (node (ob11 P) (node (ob19 P) (node (ob35 P) (node (ob67 P) (node (ob131 P) .nil .nil) .nil) (node (ob99 P) (node (ob163 P) .nil .nil) .nil)) (node (ob51 P) (node (ob83 P) (node (ob147 P) .nil .nil) .nil) (node (ob115 P) .nil .nil))) (node (ob27 P) (node (ob43 P) (node (ob75 P) (node (ob139 P) .nil .nil) .nil) (node (ob107 P) .nil .nil)) (node (ob59 P) (node (ob91 P) (node (ob155 P) .nil .nil) .nil) (node (ob123 P) .nil .nil))))) (node (boot_o_5 P) (node (boot_o_9 P) (node (ob17 P) (node (ob33 P) (node (ob65 P) (node (ob129 P) .nil .nil) .nil) (node (ob97 P) (node (ob161 P) .nil .nil) .nil)) (node (ob49 P) (node (ob81 P) (node (ob145 P) .nil .nil) .nil) (node (ob113 P) .nil .nil))) (node (ob25 P) (node (ob41 P) (node (ob73 P) (node (ob137 P) .nil .nil) .nil) (node (ob105 P) (node (ob169 P) .nil .nil) .nil)) (node (ob57 P) (node (ob89 P) (node (ob153 P) .nil .nil) .nil) (node (ob121 P) .nil .nil)))) (node (ob13 P) (node (ob21 P) (node (ob37 P) (node (ob69 P) (node (ob133 P) .nil .nil) .nil) (node (ob101 P) (node (ob165 P) .nil .nil) .nil)) (node (ob53 P) (node (ob85 P) (node (ob149 P) .nil .nil) .nil) (node (ob117 P) .nil .nil))) (node (ob29 P) (node (ob45 P) (node (ob77 P) (node (ob141 P) .nil .nil) .nil) (node (ob109 P) .nil .nil)) (node (ob61 P) (node (ob93 P) (node (ob157 P) .nil .nil) .nil) (node (ob125 P) .nil .nil)))))) (node (boot_o_2 P) (node (boot_o_4 P) (node (boot_o_8 P) (node (ob16 P) (node (ob32 P) (node (ob64 P) (node (ob128 P) .nil .nil) .nil) (node (ob96 P) (node (ob160 P) .nil .nil) .nil)) (node (ob48 P) (node (ob80 P) (node (ob144 P) .nil .nil) .nil) (node (ob112 P) .nil .nil))) (node (ob24 P) (node (ob40 P) (node (ob72 P) (node (ob136 P) .nil .nil) .nil) (node (ob104 P) (node (ob168 P) .nil .nil) .nil)) (node (ob56 P) (node (ob88 P) (node (ob152 P) .nil .nil) .nil) (node (ob120 P) .nil .nil)))) (node (ob12x17 P) (node (ob20 P) (node (ob36 P) (node (ob68 P) (node (ob132 P) .nil .nil) .nil) (node (ob100 P) (node (ob164 P) .nil .nil) .nil)) (node (ob52 P) (node (ob84 P) (node (ob148 P) .nil .nil) .nil) (node (ob116 P) .nil .nil))) (node (ob28 P) (node (ob44 P) (node (ob76 P) (node (ob140 P) .nil .nil) .nil) (node (ob108 P) .nil .nil)) (node (ob60 P) (node (ob92 P) (node (ob156 P) .nil .nil) .nil) (node (ob124 P) .nil .nil))))) (node (boot_o_6 P) (node (boot_o_10 P) (node (ob18 P) (node (ob34 P) (node (ob66 P) (node (ob130 P) .nil .nil) .nil) (node (ob98 P) (node (ob162 P) .nil .nil) .nil)) (node (ob50 P) (node (ob82 P) (node (ob146 P) .nil .nil) .nil) (node (ob114 P) .nil .nil))) (node (ob26 P) (node (ob42 P) (node (ob74 P) (node (ob138 P) .nil .nil) .nil) (node (ob106 P) (node (ob170 P) .nil .nil) .nil)) (node (ob58 P) (node (ob90 P) (node (ob154 P) .nil .nil) .nil) (node (ob122 P) .nil .nil)))) (node (ob14 P) (node (ob22 P) (node (ob38 P) (node (ob70 P) (node (ob134 P) .nil .nil) .nil) (node (ob102 P) (node (ob166 P) .nil .nil) .nil)) (node (ob54 P) (node (ob86 P) (node (ob150 P) .nil .nil) .nil) (node (ob118 P) .nil .nil))) (node (ob30 P) (node (ob46 P) (node (ob78 P) (node (ob142 P) .nil .nil) .nil) (node (ob110 P) .nil .nil)) (node (ob62 P) (node (ob94 P) (node (ob158 P) .nil .nil) .nil) (node (ob126 P) .nil .nil)))))))
noncomputable def tr18 (P : Params) : BT := (node (boot_o_0 P) (node (boot_o_1 P) (node (ob3x18 P) (node (boot_o_7 P) (node (ob15 P) (node (ob31 P) (node (ob63 P) (node (ob127 P) .nil .nil) .nil) (node (ob95 P) (node (ob159 P) .nil .nil) .nil)) (node (ob47 P) (node (ob79 P) (node (ob143 P) .nil .nil) .nil) (node (ob111 P) (node (ob175 P) .nil .nil) .nil))) (node (ob23 P) (node (ob39 P) (node (ob71 P) (node (ob135 P) .nil .nil) .nil) (node (ob103 P) (node (ob167 P) .nil .nil) .nil)) (node (ob55 P) (node (ob87 P) (node (ob151 P) .nil .nil) .nil) (node (ob119 P) .nil .nil)))) (node (ob11 P) (node (ob19 P) (node (ob35 P) (node (ob67 P) (node (ob131 P) .nil .nil) .nil) (node (ob99 P) (node (ob163 P) .nil .nil) .nil)) (node (ob51 P) (node (ob83 P) (node (ob147 P) .nil .nil) .nil) (node (ob115 P) .nil .nil))) (node (ob27 P) (node (ob43 P) (node (ob75 P) (node (ob139 P) .nil .nil) .nil) (node (ob107 P) (node (ob171 P) .nil .nil) .nil)) (node (ob59 P) (node (ob91 P) (node (ob155 P) .nil .nil) .nil) (node (ob123 P) .nil .nil))))) (node (boot_o_5 P) (node (boot_o_9 P) (node (ob17 P) (node (ob33 P) (node (ob65 P) (node (ob129 P) .nil .nil) .nil) (node (ob97 P) (node (ob161 P) .nil .nil) .nil)) (node (ob49 P) (node (ob81 P) (node (ob145 P) .nil .nil) .nil) (node (ob113 P) (node (ob177 P) .nil .nil) .nil))) (node (ob25 P) (node (ob41 P) (node (ob73 P) (node (ob137 P) .nil .nil) .nil) (node (ob105 P) (node (ob169 P) .nil .nil) .nil)) (node (ob57 P) (node (ob89 P) (node (ob153 P) .nil .nil) .nil) (node (ob121 P) .nil .nil)))) (node (ob13 P) (node (ob21 P) (node (ob37 P) (node (ob69 P) (node (ob133 P) .nil .nil) .nil) (node (ob101 P) (node (ob165 P) .nil .nil) .nil)) (node (ob53 P) (node (ob85 P) (node (ob149 P) .nil .nil) .nil) (node (ob117 P) .nil .nil))) (node (ob29 P) (node (ob45 P) (node (ob77 P) (node (ob141 P) .nil .nil) .nil) (node (ob109 P) (node (ob173 P) .nil .nil) .nil)) (node (ob61 P) (node (ob93 P) (node (ob157 P) .nil .nil) .nil) (node (ob125 P) .nil .nil)))))) (node (boot_o_2 P) (node (boot_o_4 P) (node (boot_o_8 P) (node (ob16 P) (node (ob32 P) (node (ob64 P) (node (ob128 P) .nil .nil) .nil) (node (ob96 P) (node (ob160 P) .nil .nil) .nil)) (node (ob48 P) (node (ob80 P) (node (ob144 P) .nil .nil) .nil) (node (ob112 P) (node (ob176 P) .nil .nil) .nil))) (node (ob24 P) (node (ob40 P) (node (ob72 P) (node (ob136 P) .nil .nil) .nil) (node (ob104 P) (node (ob168 P) .nil .nil) .nil)) (node (ob56 P) (node (ob88 P) (node (ob152 P) .nil .nil) .nil) (node (ob120 P) .nil .nil)))) (node (ob12x18 P) (node (ob20 P) (node (ob36 P) (node (ob68 P) (node (ob132 P) .nil .nil) .nil) (node (ob100 P) (node (ob164 P) .nil .nil) .nil)) (node (ob52 P) (node (ob84 P) (node (ob148 P) .nil .nil) .nil) (node (ob116 P) .nil .nil))) (node (ob28 P) (node (ob44 P) (node (ob76 P) (node (ob140 P) .nil .nil) .nil) (node (ob108 P) (node (ob172 P) .nil .nil) .nil)) (node (ob60 P) (node (ob92 P) (node (ob156 P) .nil .nil) .nil) (node (ob124 P) .nil .nil))))) (node (boot_o_6 P) (node (boot_o_10 P) (node (ob18 P) (node (ob34 P) (node (ob66 P) (node (ob130 P) .nil .nil) .nil) (node (ob98 P) (node (ob162 P) .nil .nil) .nil)) (node (ob50 P) (node (ob82 P) (node (ob146 P) .nil .nil) .nil) (node (ob114 P) .nil .nil))) (node (ob26 P) (node (ob42 P) (node (ob74 P) (node (ob138 P) .nil .nil) .nil) (node (ob106 P) (node (ob170 P) .nil .nil) .nil)) (node (ob58 P) (node (ob90 P) (node (ob154 P) .nil .nil) .nil) (node (ob122 P) .nil .nil)))) (node (ob14 P) (node (ob22 P) (node (ob38 P) (node (ob70 P) (node (ob134 P) .nil .nil) .nil) (node (ob102 P) (node (ob166 P) .nil .nil) .nil)) (node (ob54 P) (node (ob86 P) (node (ob150 P) .nil .nil) .nil) (node (ob118 P) .nil .nil))) (node (ob30 P) (node (ob46 P) (node (ob78 P) (node (ob142 P) .nil .nil) .nil) (node (ob110 P) (node (ob174 P) .nil .nil) .nil)) (node (ob62 P) (node (ob94 P) (node (ob158 P) .nil .nil) .nil) (node (ob126 P) .nil .nil)))))))
noncomputable def tr19 (P : Params) : BT := (node (boot_o_0 P) (node (boot_o_1 P) (node (ob3x19 P) (node (boot_o_7 P) (node (ob15 P) (node (ob31 P) (node (ob63 P) (node (ob127 P) .nil .nil) .nil) (node (ob95 P) (node (ob159 P) .nil .nil) .nil)) (node (ob47 P) (node (ob79 P) (node (ob143 P) .nil .nil) .nil) (node (ob111 P) (node (ob175 P) .nil .nil) .nil))) (node (ob23 P) (node (ob39 P) (node (ob71 P) (node (ob135 P) .nil .nil) .nil) (node (ob103 P) (node (ob167 P) .nil .nil) .nil)) (node (ob55 P) (node (ob87 P) (node (ob151 P) .nil .nil) .nil) (node (ob119 P) (node (ob183 P) .nil .nil) .nil)))) (node (ob11 P) (node (ob19 P) (node (ob35 P) (node (ob67 P) (node (ob131 P) .nil .nil) .nil) (node (ob99 P) (node (ob163 P) .nil .nil) .nil)) (node (ob51 P) (node (ob83 P) (node (ob147 P) .nil .nil) .nil) (node (ob115 P) (node (ob179 P) .nil .nil) .nil))) (node (ob27 P) (node (ob43 P) (node (ob75 P) (node (ob139 P) .nil .nil) .nil) (node (ob107 P) (node (ob171 P) .nil .nil) .nil)) (node (ob59 P) (node (ob91 P) (node (ob155 P) .nil .nil) .nil) (node (ob123 P) .nil .nil))))) (node (boot_o_5 P) (node (boot_o_9 P) (node (ob17 P) (node (ob33 P) (node (ob65 P) (node (ob129 P) .nil .nil) .nil) (node (ob97 P) (node (ob161 P) .nil .nil) .nil)) (node (ob49 P) (node (ob81 P) (node (ob145 P) .nil .nil) .nil) (node (ob113 P) (node (ob177 P) .nil .nil) .nil))) (node (ob25 P) (node (ob41 P) (node (ob73 P) (node (ob137 P) .nil .nil) .nil) (node (ob105 P) (node (ob169 P) .nil .nil) .nil)) (node (ob57 P) (node (ob89 P) (node (ob153 P) .nil .nil) .nil) (node (ob121 P) .nil .nil)))) (node (ob13 P) (node (ob21 P) (node (ob37 P) (node (ob69 P) (node (ob133 P) .nil .nil) .nil) (node (ob101 P) (node (ob165 P) .nil .nil) .nil)) (node (ob53 P) (node (ob85 P) (node (ob149 P) .nil .nil) .nil) (node (ob117 P) (node (ob181 P) .nil .nil) .nil))) (node (ob29 P) (node (ob45 P) (node (ob77 P) (node (ob141 P) .nil .nil) .nil) (node (ob109 P) (node (ob173 P) .nil .nil) .nil)) (node (ob61 P) (node (ob93 P) (node (ob157 P) .nil .nil) .nil) (node (ob125 P) .nil .nil)))))) (node (boot_o_2 P) (node (boot_o_4 P) (node (boot_o_8 P) (node (ob16 P) (node (ob32 P) (node (ob64 P) (node (ob128 P) .nil .nil) .nil) (node (ob96 P) (node (ob160 P) .nil .nil) .nil)) (node (ob48 P) (node (ob80 P) (node (ob144 P) .nil .nil) .nil) (node (ob112 P) (node (ob176 P) .nil .nil) .nil))) (node (ob24 P) (node (ob40 P) (node (ob72 P) (node (ob136 P) .nil .nil) .nil) (node (ob104 P) (node (ob168 P) .nil .nil) .nil)) (node (ob56 P) (node (ob88 P) (node (ob152 P) .nil .nil) .nil) (node (ob120 P) (node (ob184 P) .nil .nil) .nil)))) (node (ob12x19 P) (node (ob20 P) (node (ob36 P) (node (ob68 P) (node (ob132 P) .nil .nil) .nil) (node (ob100 P) (node (ob164 P) .nil .nil) .nil)) (node (ob52 P) (node (ob84 P) (node (ob148 P) .nil .nil) .nil) (node (ob116 P) (node (ob180 P) .nil .nil) .nil))) (node (ob28 P) (node (ob44 P) (node (ob76 P) (node (ob140 P) .nil .nil) .nil) (node (ob108 P) (node (ob172 P) .nil .nil) .nil)) (node (ob60 P) (node (ob92 P) (node (ob156 P) .nil .nil) .nil) (node (ob124 P) .nil .nil))))) (node (boot_o_6 P) (node (boot_o_10 P) (node (ob18 P) (node (ob34 P) (node (ob66 P) (node (ob130 P) .nil .nil) .nil) (node (ob98 P) (node (ob162 P) .nil .nil) .nil)) (node (ob50 P) (node (ob82 P) (node (ob146 P) .nil .nil) .nil) (node (ob114 P) (node (ob178 P) .nil .nil) .nil))) (node (ob26 P) (node (ob42 P) (node (ob74 P) (node (ob138 P) .nil .nil) .nil) (node (ob106 P) (node (ob170 P) .nil .nil) .nil)) (node (ob58 P) (node (ob90 P) (node (ob154 P) .nil .nil) .nil) (node (ob122 P) .nil .nil)))) (node (ob14 P) (node (ob22 P) (node (ob38 P) (node (ob70 P) (node (ob134 P) .nil .nil) .nil) (node (ob102 P) (node (ob166 P) .nil .nil) .nil)) (node (ob54 P) (node (ob86 P) (node (ob150 P) .nil .nil) .nil) (node (ob118 P) (node (ob182 P) .nil .nil) .nil))) (node (ob30 P) (node (ob46 P) (node (ob78 P) (node (ob142 P) .nil .nil) .nil) (node (ob110 P) (node (ob174 P) .nil .nil) .nil)) (node (ob62 P) (node (ob94 P) (node (ob158 P) .nil .nil) .nil) (node (ob126 P) .nil .nil)))))))
noncomputable def tr20 (P : Params) : BT := (node (boot_o_0 P) (node (boot_o_1 P) (node (ob3x20 P) (node (boot_o_7 P) (node (ob15 P) (node (ob31 P) (node (ob63 P) (node (ob127 P) .nil .nil) (node (ob191 P) .nil .nil)) (node (ob95 P) (node (ob159 P) .nil .nil) .nil)) (node (ob47 P) (node (ob79 P) (node (ob143 P) .nil .nil) .nil) (node (ob111 P) (node (ob175 P) .nil .nil) .nil))) (node (ob23 P) (node (ob39 P) (node (ob71 P) (node (ob135 P) .nil .nil) .nil) (node (ob103 P) (node (ob167 P) .nil .nil) .nil)) (node (ob55 P) (node (ob87 P) (node (ob151 P) .nil .nil) .nil) (node (ob119 P) (node (ob183 P) .nil .nil) .nil)))) (node (ob11 P) (node (ob19 P) (node (ob35 P) (node (ob67 P) (node (ob131 P) .nil .nil) .nil) (node (ob99 P) (node (ob163 P) .nil .nil) .nil)) (node (ob51 P) (node (ob83 P) (node (ob147 P) .nil .nil) .nil) (node (ob115 P) (node (ob179 P) .nil .nil) .nil))) (node (ob27 P) (node (ob43 P) (node (ob75 P) (node (ob139 P) .nil .nil) .nil) (node (ob107 P) (node (ob171 P) .nil .nil) .nil)) (node (ob59 P) (node (ob91 P) (node (ob155 P) .nil .nil) .nil) (node (ob123 P) (node (ob187 P) .nil .nil) .nil))))) (node (boot_o_5 P) (node (boot_o_9 P) (node (ob17 P) (node (ob33 P) (node (ob65 P) (node (ob129 P) .nil .nil) .nil) (node (ob97 P) (node (ob161 P) .nil .nil) .nil)) (node (ob49 P) (node (ob81 P) (node (ob145 P) .nil .nil) .nil) (node (ob113 P) (node (ob177 P) .nil .nil) .nil))) (node (ob25 P) (node (ob41 P) (node (ob73 P) (node (ob137 P) .nil .nil) .nil) (node (ob105 P) (node (ob169 P) .nil .nil) .nil)) (node (ob57 P) (node (ob89 P) (node (ob153 P) .nil .nil) .nil) (node (ob121 P) (node (ob185 P) .nil .nil) .nil)))) (node (ob13 P) (node (ob21 P) (node (ob37 P) (node (ob69 P) (node (ob133 P) .nil .nil) .nil) (node (ob101 P) (node (ob165 P) .nil .nil) .nil)) (node (ob53 P) (node (ob85 P) (node (ob149 P) .nil .nil) .nil) (node (ob117 P) (node (ob181 P) .nil .nil) .nil))) (node (ob29 P) (node (ob45 P) (node (ob77 P) (node (ob141 P) .nil .nil) .nil) (node (ob109 P) (node (ob173 P) .nil .nil) .nil)) (node (ob61 P) (node (ob93 P) (node (ob157 P) .nil .nil) .nil) (node (ob125 P) (node (ob189 P) .nil .nil) .nil)))))) (node (boot_o_2 P) (node (boot_o_4 P) (node (boot_o_8 P) (node (ob16 P) (node (ob32 P) (node (ob64 P) (node (ob128 P) .nil .nil) .nil) (node (ob96 P) (node (ob160 P) .nil .nil) .nil)) (node (ob48 P) (node (ob80 P) (node (ob144 P) .nil .nil) .nil) (node (ob112 P) (node (ob176 P) .nil .nil) .nil))) (node (ob24 P) (node (ob40 P) (node (ob72 P) (node (ob136 P) .nil .nil) .nil) (node (ob104 P) (node (ob168 P) .nil .nil) .nil)) (node (ob56 P) (node (ob88 P) (node (ob152 P) .nil .nil) .nil) (node (ob120 P) (node (ob184 P) .nil .nil) .nil)))) (node (ob12x20 P) (node (ob20 P) (node (ob36 P) (node (ob68 P) (node (ob132 P) .nil .nil) .nil) (node (ob100 P) (node (ob164 P) .nil .nil) .nil)) (node (ob52 P) (node (ob84 P) (node (ob148 P) .nil .nil) .nil) (node (ob116 P) (node (ob180 P) .nil .nil) .nil))) (node (ob28 P) (node (ob44 P) (node (ob76 P) (node (ob140 P) .nil .nil) .nil) (node (ob108 P) (node (ob172 P) .nil .nil) .nil)) (node (ob60 P) (node (ob92 P) (node (ob156 P) .nil .nil) .nil) (node (ob124 P) (node (ob188 P) .nil .nil) .nil))))) (node (boot_o_6 P) (node (boot_o_10 P) (node (ob18 P) (node (ob34 P) (node (ob66 P) (node (ob130 P) .nil .nil) .nil) (node (ob98 P) (node (ob162 P) .nil .nil) .nil)) (node (ob50 P) (node (ob82 P) (node (ob146 P) .nil .nil) .nil) (node (ob114 P) (node (ob178 P) .nil .nil) .nil))) (node (ob26 P) (node (ob42 P) (node (ob74 P) (node (ob138 P) .nil .nil) .nil) (node (ob106 P) (node (ob170 P) .nil .nil) .nil)) (node (ob58 P) (node (ob90 P) (node (ob154 P) .nil .nil) .nil) (node (ob122 P) (node (ob186 P) .nil .nil) .nil)))) (node (ob14 P) (node (ob22 P) (node (ob38 P) (node (ob70 P) (node (ob134 P) .nil .nil) .nil) (node (ob102 P) (node (ob166 P) .nil .nil) .nil)) (node (ob54 P) (node (ob86 P) (node (ob150 P) .nil .nil) .nil) (node (ob118 P) (node (ob182 P) .nil .nil) .nil))) (node (ob30 P) (node (ob46 P) (node (ob78 P) (node (ob142 P) .nil .nil) .nil) (node (ob110 P) (node (ob174 P) .nil .nil) .nil)) (node (ob62 P) (node (ob94 P) (node (ob158 P) .nil .nil) .nil) (node (ob126 P) (node (ob190 P) .nil .nil) .nil)))))))
noncomputable def tr21 (P : Params) : BT := (node (boot_o_0 P) (node (boot_o_1 P) (node (ob3x21 P) (node (boot_o_7 P) (node (ob15 P) (node (ob31 P) (node (ob63 P) (node (ob127 P) .nil .nil) (node (ob191 P) .nil .nil)) (node (ob95 P) (node (ob159 P) .nil .nil) .nil)) (node (ob47 P) (node (ob79 P) (node (ob143 P) .nil .nil) .nil) (node (ob111 P) (node (ob175 P) .nil .nil) .nil))) (node (ob23 P) (node (ob39 P) (node (ob71 P) (node (ob135 P) .nil .nil) .nil) (node (ob103 P) (node (ob167 P) .nil .nil) .nil)) (node (ob55 P) (node (ob87 P) (node (ob151 P) .nil .nil) .nil) (node (ob119 P) (node (ob183 P) .nil .nil) .nil)))) (node (ob11 P) (node (ob19 P) (node (ob35 P) (node (ob67 P) (node (ob131 P) .nil .nil) (node (ob195 P) .nil .nil)) (node (ob99 P) (node (ob163 P) .nil .nil) .nil)) (node (ob51 P) (node (ob83 P) (node (ob147 P) .nil .nil) .nil) (node (ob115 P) (node (ob179 P) .nil .nil) .nil))) (node (ob27 P) (node (ob43 P) (node (ob75 P) (node (ob139 P) .nil .nil) .nil) (node (ob107 P) (node (ob171 P) .nil .nil) .nil)) (node (ob59 P) (node (ob91 P) (node (ob155 P) .nil .nil) .nil) (node (ob123 P) (node (ob187 P) .nil .nil) .nil))))) (node (boot_o_5 P) (node (boot_o_9 P) (node (ob17 P) (node (ob33 P) (node (ob65 P) (node (ob129 P) .nil .nil) (node (ob193 P) .nil .nil)) (node (ob97 P) (node (ob161 P) .nil .nil) .nil)) (node (ob49 P) (node (ob81 P) (node (ob145 P) .nil .nil) .nil) (node (ob113 P) (node (ob177 P) .nil .nil) .nil))) (node (ob25 P) (node (ob41 P) (node (ob73 P) (node (ob137 P) .nil .nil) .nil) (node (ob105 P) (node (ob169 P) .nil .nil) .nil)) (node (ob57 P) (node (ob89 P) (node (ob153 P) .nil .nil) .nil) (node (ob121 P) (node (ob185 P) .nil .nil) .nil)))) (node (ob13 P) (node (ob21 P) (node (ob37 P) (node (ob69 P) (node (ob133 P) .nil .nil) .nil) (node (ob101 P) (node (ob165 P) .nil .nil) .nil)) (node (ob53 P) (node (ob85 P) (node (ob149 P) .nil .nil) .nil) (node (ob117 P) (node (ob181 P) .nil .nil) .nil))) (node (ob29 P) (node (ob45 P) (node (ob77 P) (node (ob141 P) .nil .nil) .nil) (node (ob109 P) (node (ob173 P) .nil .nil) .nil)) (node (ob61 P) (node (ob93 P) (node (ob157 P) .nil .nil) .nil) (node (ob125 P) (node (ob189 P) .nil .nil) .nil)))))) (node (boot_o_2 P) (node (boot_o_4 P) (node (boot_o_8 P) (node (ob16 P) (node (ob32 P) (node (ob64 P) (node (ob128 P) .nil .nil) (node (ob192 P) .nil .nil)) (node (ob96 P) (node (ob160 P) .nil .nil) .nil)) (node (ob48 P) (node (ob80 P) (node (ob144 P) .nil .nil) .nil) (node (ob112 P) (node (ob176 P) .nil .nil) .nil))) (node (ob24 P) (node (ob40 P) (node (ob72 P) (node (ob136 P) .nil .nil) .nil) (node (ob104 P) (node (ob168 P) .nil .nil) .nil)) (node (ob56 P) (node (ob88 P) (node (ob152 P) .nil .nil) .nil) (node (ob120 P) (node (ob184 P) .nil .nil) .nil)))) (node (ob12x21 P) (node (ob20 P) (node (ob36 P) (node (ob68 P) (node (ob132 P) .nil .nil) (node (ob196 P) .nil .nil)) (node (ob100 P) (node (ob164 P) .nil .nil) .nil)) (node (ob52 P) (node (ob84 P) (node (ob148 P) .nil .nil) .nil) (node (ob116 P) (node (ob180 P) .nil .nil) .nil))) (node (ob28 P) (node (ob44 P) (node (ob76 P) (node (ob140 P) .nil .nil) .nil) (node (ob108 P) (node (ob172 P) .nil .nil) .nil)) (node (ob60 P) (node (ob92 P) (node (ob156 P) .nil .nil) .nil) (node (ob124 P) (node (ob188 P) .nil .nil) .nil))))) (node (boot_o_6 P) (node (boot_o_10 P) (node (ob18 P) (node (ob34 P) (node (ob66 P) (node (ob130 P) .nil .nil) (node (ob194 P) .nil .nil)) (node (ob98 P) (node (ob162 P) .nil .nil) .nil)) (node (ob50 P) (node (ob82 P) (node (ob146 P) .nil .nil) .nil) (node (ob114 P) (node (ob178 P) .nil .nil) .nil))) (node (ob26 P) (node (ob42 P) (node (ob74 P) (node (ob138 P) .nil .nil) .nil) (node (ob106 P) (node (ob170 P) .nil .nil) .nil)) (node (ob58 P) (node (ob90 P) (node (ob154 P) .nil .nil) .nil) (node (ob122 P) (node (ob186 P) .nil .nil) .nil)))) (node (ob14 P) (node (ob22 P) (node (ob38 P) (node (ob70 P) (node (ob134 P) .nil .nil) .nil) (node (ob102 P) (node (ob166 P) .nil .nil) .nil)) (node (ob54 P) (node (ob86 P) (node (ob150 P) .nil .nil) .nil) (node (ob118 P) (node (ob182 P) .nil .nil) .nil))) (node (ob30 P) (node (ob46 P) (node (ob78 P) (node (ob142 P) .nil .nil) .nil) (node (ob110 P) (node (ob174 P) .nil .nil) .nil)) (node (ob62 P) (node (ob94 P) (node (ob158 P) .nil .nil) .nil) (node (ob126 P) (node (ob190 P) .nil .nil) .nil)))))))
end
end Mine
end
section
open PySem PySem.W PyProof.Rows PySem.W.BT
namespace Mine
noncomputable section
noncomputable abbrev C8 : List (Int × Str) := L8.take 17
noncomputable def cs8 : List (List (Int × Str)) := chunkN 37 (L8.drop 17)
noncomputable def last8 : List (Int × Str) := L8.drop 646
theorem L8_split : L8 = C8 ++ (cs8.flatten ++ last8) := by
  unfold cs8 last8
  have h := chunkN_flat 37 (L8.drop 17)
  rw [List.drop_drop] at h
  rw [show 646 = 17 + 17 * 37 from rfl, h, List.take_append_drop]
theorem cs8_len : ∀ C ∈ cs8, C.length = 17 := chunkN_len 37 _ (by rw [List.length_drop, L8_len]; lia)
noncomputable def T8a (P : Params) : BT := (tr8 P).ins 89 (dO (ents 350 C8) 17)
noncomputable def T8b (P : Params) : BT := growT 89 cs8 (T8a P) 90 401 (ents 350 C8)
noncomputable def acc8 : List DictEntry := accs cs8 401 (ents 350 C8)
noncomputable def T8c (P : Params) : BT := ((T8b P).ins 127 (dO (ents2 2288 last8) 4)).set 89 fun _ => dO (acc8 ++ ents2 2288 last8) (acc8 ++ ents2 2288 last8).length
theorem T8a_ins (P : Params) : (((tr8 P).ins 89 (dO (ents 350 C8) 17)).get 89).isSome = true := by kernel_rfl
theorem cs8_ok (P : Params) : okIns 89 cs8 (T8a P) 90 401 (ents 350 C8) = true := by kernel_rfl
theorem T8c_ins (P : Params) : (((T8b P).ins 127 (dO (ents2 2288 last8) 4)).get 127).isSome = true := by kernel_rfl
theorem acc8_eq : acc8 ++ ents2 2288 last8 = ents8 := by kernel_rfl
noncomputable def rest8 (v : Value) : Sem Flow := do
  standAt (asgNP (stAt 8))
  bindName topEnv (asgN (stAt 8)) v
  pure .next
theorem exec8 : exec (stAt 8) topEnv = (do standAt (asgP (stAt 8)); let v ← eval (asgE (stAt 8)) topEnv; rest8 v) := by
  conv => lhs; rw [st8_eq]
  rw [exec_Assign_Name _ _ _ _ _ (by kernel_rfl)]
  rfl
theorem pc8end (w : World) : (fun os => segRunT treeTable PG w 11 (some (.ref 6)) 1 8 (stT (T8c w.params) 128 2300 os) ⟨(rest8 (.ref 89)).wrap (fun f => match f with | .next => (execs [] topEnv).wrap doneF deadEnd id id | f => doneF f) deadEnd id id, cE, dp8, [topFrame q0]⟩) = fun os => some (.next, stT (tr9 w.params) 128 2301 os, cE, ⟨90, 0, 90, 13⟩) := by
  rw [tw_segRunT, tw_table]; kernel_rfl
end
end Mine
end
section
open PySem PySem.W PyProof.Rows PySem.W.BT
namespace Mine
noncomputable section
theorem L8_nodup : (L8.map (·.1)).Nodup := (upB_nodup _ _ L8_up).2
theorem C8_mem {x : Int × Str} (h : x ∈ C8) : x ∈ L8 := List.mem_of_mem_take h
theorem cs8_mem {C : List (Int × Str)} (hC : C ∈ cs8) {x : Int × Str} (h : x ∈ C) : x ∈ L8 := by
  rw [L8_split]
  exact List.mem_append_right _ (List.mem_append_left _ (List.mem_flatten.mpr ⟨C, hC, h⟩))
theorem last8_mem {x : Int × Str} (h : x ∈ last8) : x ∈ L8 := List.mem_of_mem_drop h
theorem last8_len : last8.length = 4 := by unfold last8; rw [List.length_drop, L8_len]
theorem C8_len : C8.length = 17 := by rw [List.length_take, L8_len]; rfl
theorem cs8_count : cs8.length = 37 := by kernel_rfl
theorem keys8 : (C8.map (·.1) ++ (cs8.flatten.map (·.1) ++ last8.map (·.1))).Nodup := by
  have := L8_nodup
  rw [L8_split, List.map_append, List.map_append] at this
  exact this
theorem flat8_len : cs8.flatten.length = 629 := by
  have := L8_len
  rw [L8_split, List.length_append, List.length_append, C8_len, last8_len] at this
  lia
theorem accs_hash : ∀ (cs : List (List (Int × Str))) (t : Nat) (acc : List DictEntry), (accs cs t acc).map (·.hash) = acc.map (·.hash) ++ cs.flatten.map (·.1)
  | [], t, acc => by rw [List.flatten_nil, List.map_nil, List.append_nil]; rfl
  | C :: cs, t, acc => by
    unfold accs
    rw [accs_hash, List.map_append, ents_hash, List.flatten_cons, List.map_append, List.append_assoc]
theorem accs_len (cs : List (List (Int × Str))) (t : Nat) (acc : List DictEntry) : (accs cs t acc).length = acc.length + cs.flatten.length := by
  have := congrArg List.length (accs_hash cs t acc)
  rw [List.length_map, List.length_append, List.length_map, List.length_map] at this
  exact this
variable {w : World}
theorem go_display (os : OsState) (pos : Pos) (C last : List (Int × Str)) (cs : List (List (Int × Str))) (T0 : BT) (acc0 accE : List DictEntry) (n k t tb : Nat) (Ta Tb Tc : BT)
    (hC : C.length = 17) (hcs : ∀ C ∈ cs, C.length = 17) (hlast : last.length = 4) (hk : cs.length = k) (hflat : cs.flatten.length ≤ 900)
    (hkeys : (C.map (·.1) ++ (cs.flatten.map (·.1) ++ last.map (·.1))).Nodup) (hC' : ∀ x ∈ C, hashInt x.1 = x.1) (hcs' : ∀ C ∈ cs, ∀ x ∈ C, hashInt x.1 = x.1) (hlast' : ∀ x ∈ last, hashInt x.1 = x.1)
    (hn : 20 ≤ n) (eacc : acc0 = ents t C) (eTa : Ta = T0.ins n (dO acc0 17)) (hTa : ((T0.ins n (dO acc0 17)).get n).isSome = true)
    (eTb : Tb = growT n cs Ta (n + 1) (t + 51) acc0) (hok : okIns n cs Ta (n + 1) (t + 51) acc0 = true) (etb : tb = t + 51 + 51 * k)
    (eaccE : accE = accs cs (t + 51) acc0) (eTc : Tc = ((Tb.ins (n + 1 + k) (dO (ents2 tb last) 4)).set n fun _ => dO (accE ++ ents2 tb last) (accE ++ ents2 tb last).length)) (hTc : ((Tb.ins (n + 1 + k) (dO (ents2 tb last) 4)).get (n + 1 + k)).isSome = true) :
    Go w (223 + 330 * k + 82) (stT T0 n t os).abs (stT Tc (n + 1 + k + 1) (tb + 12) os).abs pos pos (dictDisplay (((C ++ (cs.flatten ++ last)).map (item pos)).map gi)) (.ref n) := by
  obtain ⟨f, hf, e⟩ := display_eq ((C ++ (cs.flatten ++ last)).map (item pos))
  rw [e]
  have h11 : Nat.ble 11 n = true := Nat.ble_eq_true_of_le (by lia)
  have sub0 := Go.subLong (w := w) (s := (stT T0 n t os).abs) (pos := pos) (L := C) (by
    show Nat.ble 11 (absHeap T0 n {}).objs.size = true
    rw [absHeap_size]; exact h11) (List.nodup_append.mp hkeys).1 hC' (by rw [hC]; decide) (by rw [hC]; decide)
  have ea : ({ (stT T0 n t os).abs with heap := (stT T0 n t os).abs.heap.push (dO (ents (stT T0 n t os).abs.toks C) C.length), toks := (stT T0 n t os).abs.toks + 3 * C.length } : Shared) = (stT Ta (n + 1) (t + 51) os).abs := by
    rw [hC, eTa, eacc]
    rw [eacc] at hTa
    exact congrArg (fun h => Shared.mk h #[] {} (t + 51) os) (absHeap_ins hTa).symm
  rw [ea] at sub0
  have hsz : (stT T0 n t os).abs.heap.objs.size = n := absHeap_size _ _ _
  rw [hsz] at sub0
  have hE0 : acc0.length = 17 := by rw [eacc, ents_len, hC]
  have hT8a : Ta.get n = some (dO acc0 acc0.length) := by
    rw [eTa, get_ins _ _ _ hTa, if_pos rfl, hE0]
  have hget : ∀ {T : BT} {m t : Nat} {acc : List DictEntry}, n < m → T.get n = some (dO acc acc.length) → (stT T m t os).abs.heap.get? n = some (dO acc acc.length) := fun hn hT => abs_get hn hT
  have h89 := hget (t := t + 51) (m := n + 1) (by lia) hT8a
  have hne : acc0 ≠ [] := fun q => by rw [q] at hE0; cases hE0
  have hlen := hkeys
  rw [← List.append_assoc] at hlen
  have hn1 : (acc0.map (·.hash) ++ cs.flatten.map (·.1)).Nodup := by
    rw [eacc, ents_hash]
    exact (List.nodup_append.mp hlen).1
  have ch := Go.chunks (w := w) (pos := pos) hf (d := n) h11 last (by rw [hlast]; decide) cs (stT Ta (n + 1) (t + 51) os).abs acc0 h89 hne hcs hn1 hcs' (by rw [hE0]; lia) (by
    show @LE.le Nat _ 20 (absHeap Ta (n + 1) {}).objs.size
    rw [absHeap_size]; lia)
  obtain ⟨g1, g2⟩ := grow_tree (os := os) cs Ta (n + 1) (t + 51) acc0 hcs hT8a (by lia) hok
  rw [g1, hk, ← eTb, ← etb] at ch
  rw [← eTb, ← eaccE] at g2
  have h89b := hget (t := tb) (m := n + 1 + k) (by lia) g2
  have sub1 := Go.subShort (w := w) (s := (stT Tb (n + 1 + k) tb os).abs) (pos := pos) (L := last) (by
    show Nat.ble 11 (absHeap Tb (n + 1 + k) {}).objs.size = true
    rw [absHeap_size]; exact Nat.ble_eq_true_of_le (by lia)) (List.nodup_append.mp hlen).2.1 hlast' (by rw [hlast]; decide)
  have hE1 : (ents2 tb last).length = 4 := by rw [ents2_len, hlast]
  have hsz1 : (stT Tb (n + 1 + k) tb os).abs.heap.objs.size = n + 1 + k := absHeap_size _ _ _
  have sub1' : Go w 53 (stT Tb (n + 1 + k) tb os).abs { (stT Tb (n + 1 + k) tb os).abs with heap := (stT Tb (n + 1 + k) tb os).abs.heap.push (dO (ents2 tb last) (ents2 tb last).length), toks := tb + 12 } pos pos (subDict (last.map (item pos))) (stT Tb (n + 1 + k) tb os).abs.heap.objs.size := by
    rw [hE1]
    rw [hlast] at sub1
    exact sub1
  have hal : accE.length = 17 + cs.flatten.length := by rw [eaccE, accs_len, hE0]
  have hs0 : (n + 1 + k == sysModules) = false := beq_eq_false_iff_ne.mpr fun q => by
    have : @LE.le Nat _ 20 sysModules := by rw [← q]; lia
    revert this; decide
  have ha0 : accE ≠ [] := fun q => by
    rw [q] at hal
    rw [List.length_nil] at hal; lia
  have hk0 : (accE.map (·.hash) ++ (ents2 tb last).map (·.hash)).Nodup := by
    rw [eaccE, accs_hash, eacc, ents_hash, ents2_hash]; exact hlen
  have fl := Go.flushSome (w := w) (d := n) sub1' (fun q => by rw [q] at hlast; cases hlast) h89b h11 (by rw [hsz1]; exact hs0) ha0 hk0 (ents2_ok _ _ hlast') (by rw [hal, hE1]; lia)
  obtain ⟨t1, t2⟩ := step_tree (T := Tb) (n := n + 1 + k) (o := dO (ents2 tb last) 4) (acc' := dO (accE ++ ents2 tb last) (accE ++ ents2 tb last).length) g2 (by lia) hTc
  have ec : ({ (stT Tb (n + 1 + k) tb os).abs with heap := ((stT Tb (n + 1 + k) tb os).abs.heap.push (dO (ents2 tb last) (ents2 tb last).length)).update n (fun _ => dO (accE ++ ents2 tb last) (accE ++ ents2 tb last).length), toks := tb + 12 } : Shared) = (stT Tc (n + 1 + k + 1) (tb + 12) os).abs := by
    rw [eTc, hE1]
    exact congrArg (fun h => Shared.mk h #[] {} (tb + 12) os) t1
  have fl' := fl.eqS ec.symm
  rw [List.map_append, List.map_append]
  refine Go.bind (n := 223 + 330 * k) (m := 82) (a := (some n, last.map (item pos))) (s' := (stT Tb (n + 1 + k) tb os).abs) (p' := pos) ?_ ?_
  · rw [loop_chunk hf _ _ _ (by rw [List.length_map, hC])]
    refine Go.bind (n := 223) (m := 330 * k) (a := some n) (s' := (stT Ta (n + 1) (t + 51) os).abs) (p' := pos) ?_ ch
    unfold flushD
    rw [if_neg (by rw [List.isEmpty_iff]; intro q; have := congrArg List.length q; rw [List.length_map, hC] at this; cases this)]
    rw [hC] at sub0
    exact Go.cast (Go.bind (m := 0) sub0 Go.pure) rfl
  · rw [hE1] at fl'
    exact Go.cast (Go.bind (m := 0) fl' Go.pure) rfl
theorem go8 (os : OsState) : Go w 12515 (stT (tr8 w.params) 89 350 os).abs (stT (T8c w.params) 128 2300 os).abs dp8 dp8 (dictDisplay ((L8.map (item dp8)).map gi)) (.ref 89) := by
  have := go_display (w := w) os dp8 C8 last8 cs8 (tr8 w.params) (ents 350 C8) acc8 89 37 350 2288 (T8a w.params) (T8b w.params) (T8c w.params)
    C8_len cs8_len last8_len cs8_count (by rw [flat8_len]; decide) keys8 (fun x hx => L8_hash x (C8_mem hx)) (fun C hC x hx => L8_hash x (cs8_mem hC hx)) (fun x hx => L8_hash x (last8_mem hx))
    (by decide) rfl rfl (T8a_ins _) rfl (cs8_ok _) rfl rfl rfl (T8c_ins _)
  rw [← L8_split] at this
  exact this
end
end Mine
end
section
open PySem PySem.W PyProof.Rows PySem.W.BT
namespace Mine
noncomputable section
theorem asg8 : asgE (stAt 8) = .Dict (dicK (asgE (stAt 8))) (dicV (asgE (stAt 8))) dp8 := congrArg asgE st8_eq
theorem pc8 (w : World) (os : OsState) : segRun treeTable PG w 11 (some (.ref 6)) 1 (12517 + 8) (stT (tr8 w.params) 89 350 os).abs (piecesOf [stAt 8] topEnv cE ⟨88, 0, 89, 30⟩ [topFrame q0]) = some (.next, (stT (tr9 w.params) 128 2301 os).abs, cE, ⟨90, 0, 90, 13⟩) := by
  have e := segRun_of (congrFun (pc8end w) os)
  have g : Go w 12517 (stT (tr8 w.params) 89 350 os).abs (stT (T8c w.params) 128 2300 os).abs ⟨88, 0, 89, 30⟩ dp8 (do standAt (asgP (stAt 8)); eval (asgE (stAt 8)) topEnv) (.ref 89) := by
    rw [asg8, arm_eval_Dict, items8]
    exact Go.cast (Go.bind (n := 1) (m := 12516) Go.standAt (Go.cast (Go.bind (n := 1) (m := 12515) Go.standAt (go8 os)) rfl)) rfl
  unfold piecesOf
  rw [execs_cons_wrap, exec8]
  have e2 : (do standAt (asgP (stAt 8)); let v ← eval (asgE (stAt 8)) topEnv; rest8 v) = ((do standAt (asgP (stAt 8)); eval (asgE (stAt 8)) topEnv) >>= rest8) := (bind_assoc _ _ _).symm
  rw [e2, bind_wrap]
  exact seg_go (g _ _ _ _) e
theorem pc9 (w : World) : (fun os => segRunT treeTable PG w 11 (some (.ref 6)) 1 31 (stT (tr9 w.params) 128 2301 os) (piecesOf [stAt 9] topEnv cE ⟨90, 0, 90, 13⟩ [topFrame q0])) = fun os => some (.next, stT (tr10 w.params) 135 2309 os, cE, ⟨91, 0, 95, 23⟩) := by
  rw [tw_segRunT, tw_table]; kernel_rfl
theorem pc10 (w : World) : (fun os => segRunT treeTable PG w 11 (some (.ref 6)) 1 10 (stT (tr10 w.params) 135 2309 os) (piecesOf [stAt 10] topEnv cE ⟨91, 0, 95, 23⟩ [topFrame q0])) = fun os => some (.next, stT (tr11 w.params) 135 2311 os, cE, ⟨96, 0, 96, 8⟩) := by
  rw [tw_segRunT, tw_table]; kernel_rfl
theorem pc11 (w : World) : (fun os => segRunT treeTable PG w 11 (some (.ref 6)) 1 32 (stT (tr11 w.params) 135 2311 os) (piecesOf [stAt 11] topEnv cE ⟨96, 0, 96, 8⟩ [topFrame q0])) = fun os => some (.next, stT (tr12 w.params) 142 2320 os, cE, ⟨97, 0, 101, 28⟩) := by
  rw [tw_segRunT, tw_table]; kernel_rfl
theorem pc12 (w : World) : (fun os => segRunT treeTable PG w 11 (some (.ref 6)) 1 27 (stT (tr12 w.params) 142 2320 os) (piecesOf [stAt 12] topEnv cE ⟨97, 0, 101, 28⟩ [topFrame q0])) = fun os => some (.next, stT (tr13 w.params) 147 2326 os, cE, ⟨102, 0, 106, 58⟩) := by
  rw [tw_segRunT, tw_table]; kernel_rfl
theorem pc13 (w : World) : (fun os => segRunT treeTable PG w 11 (some (.ref 6)) 1 27 (stT (tr13 w.params) 147 2326 os) (piecesOf [stAt 13] topEnv cE ⟨102, 0, 106, 58⟩ [topFrame q0])) = fun os => some (.next, stT (tr14 w.params) 152 2332 os, cE, ⟨107, 0, 111, 90⟩) := by
  rw [tw_segRunT, tw_table]; kernel_rfl
theorem pc14 (w : World) : (fun os => segRunT treeTable PG w 11 (some (.ref 6)) 1 31 (stT (tr14 w.params) 152 2332 os) (piecesOf [stAt 14] topEnv cE ⟨107, 0, 111, 90⟩ [topFrame q0])) = fun os => some (.next, stT (tr15 w.params) 159 2340 os, cE, ⟨112, 0, 114, 62⟩) := by
  rw [tw_segRunT, tw_table]; kernel_rfl
theorem pc15 (w : World) : (fun os => segRunT treeTable PG w 11 (some (.ref 6)) 1 32 (stT (tr15 w.params) 159 2340 os) (piecesOf [stAt 15] topEnv cE ⟨112, 0, 114, 62⟩ [topFrame q0])) = fun os => some (.next, stT (tr16 w.params) 166 2349 os, cE, ⟨115, 0, 121, 91⟩) := by
  rw [tw_segRunT, tw_table]; kernel_rfl
theorem pc16 (w : World) : (fun os => segRunT treeTable PG w 11 (some (.ref 6)) 1 27 (stT (tr16 w.params) 166 2349 os) (piecesOf [stAt 16] topEnv cE ⟨115, 0, 121, 91⟩ [topFrame q0])) = fun os => some (.next, stT (tr17 w.params) 171 2355 os, cE, ⟨122, 0, 128, 98⟩) := by
  rw [tw_segRunT, tw_table]; kernel_rfl
theorem pc17 (w : World) : (fun os => segRunT treeTable PG w 11 (some (.ref 6)) 1 32 (stT (tr17 w.params) 171 2355 os) (piecesOf [stAt 17] topEnv cE ⟨122, 0, 128, 98⟩ [topFrame q0])) = fun os => some (.next, stT (tr18 w.params) 178 2364 os, cE, ⟨129, 0, 135, 25⟩) := by
  rw [tw_segRunT, tw_table]; kernel_rfl
theorem pc18 (w : World) : (fun os => segRunT treeTable PG w 11 (some (.ref 6)) 1 32 (stT (tr18 w.params) 178 2364 os) (piecesOf [stAt 18] topEnv cE ⟨129, 0, 135, 25⟩ [topFrame q0])) = fun os => some (.next, stT (tr19 w.params) 185 2373 os, cE, ⟨136, 0, 140, 88⟩) := by
  rw [tw_segRunT, tw_table]; kernel_rfl
theorem pc19 (w : World) : (fun os => segRunT treeTable PG w 11 (some (.ref 6)) 1 32 (stT (tr19 w.params) 185 2373 os) (piecesOf [stAt 19] topEnv cE ⟨136, 0, 140, 88⟩ [topFrame q0])) = fun os => some (.next, stT (tr20 w.params) 192 2382 os, cE, ⟨141, 0, 143, 27⟩) := by
  rw [tw_segRunT, tw_table]; kernel_rfl
theorem pc20 (w : World) : (fun os => segRunT treeTable PG w 11 (some (.ref 6)) 1 27 (stT (tr20 w.params) 192 2382 os) (piecesOf [stAt 20] topEnv cE ⟨141, 0, 143, 27⟩ [topFrame q0])) = fun os => some (.next, stT (tr21 w.params) 197 2388 os, cE, ⟨144, 0, 195, 105⟩) := by
  rw [tw_segRunT, tw_table]; kernel_rfl
end
end Mine
end
section
open PySem PySem.W PyProof.Rows PySem.W.BT
namespace Mine
noncomputable section
noncomputable def finH (P : Params) : Heap := ⟨#[boot_o_0 P, boot_o_1 P, boot_o_2 P, ob3x21 P, boot_o_4 P, boot_o_5 P, boot_o_6 P, boot_o_7 P, boot_o_8 P, boot_o_9 P, boot_o_10 P, ob11 P, ob12x21 P, ob13 P, ob14 P, ob15 P, ob16 P, ob17 P, ob18 P, ob19 P, ob20 P, ob21 P, ob22 P, ob23 P, ob24 P, ob25 P, ob26 P, ob27 P, ob28 P, ob29 P, ob30 P, ob31 P, ob32 P, ob33 P, ob34 P, ob35 P, ob36 P, ob37 P, ob38 P, ob39 P, ob40 P, ob41 P, ob42 P, ob43 P, ob44 P, ob45 P, ob46 P, ob47 P, ob48 P, ob49 P, ob50 P, ob51 P, ob52 P, ob53 P, ob54 P, ob55 P, ob56 P, ob57 P, ob58 P, ob59 P, ob60 P, ob61 P, ob62 P, ob63 P, ob64 P, ob65 P, ob66 P, ob67 P, ob68 P, ob69 P, ob70 P, ob71 P, ob72 P, ob73 P, ob74 P, ob75 P, ob76 P, ob77 P, ob78 P, ob79 P, ob80 P, ob81 P, ob82 P, ob83 P, ob84 P, ob85 P, ob86 P, ob87 P, ob88 P, ob89 P, ob90 P, ob91 P, ob92 P, ob93 P, ob94 P, ob95 P, ob96 P, ob97 P, ob98 P, ob99 P, ob100 P, ob101 P, ob102 P, ob103 P, ob104 P, ob105 P, ob106 P, ob107 P, ob108 P, ob109 P, ob110 P, ob111 P, ob112 P, ob113 P, ob114 P, ob115 P, ob116 P, ob117 P, ob118 P, ob119 P, ob120 P, ob121 P, ob122 P, ob123 P, ob124 P, ob125 P, ob126 P, ob127 P, ob128 P, ob129 P, ob130 P, ob131 P, ob132 P, ob133 P, ob134 P, ob135 P, ob136 P, ob137 P, ob138 P, ob139 P, ob140 P, ob141 P, ob142 P, ob143 P, ob144 P, ob145 P, ob146 P, ob147 P, ob148 P, ob149 P, ob150 P, ob151 P, ob152 P, ob153 P, ob154 P, ob155 P, ob156 P, ob157 P, ob158 P, ob159 P, ob160 P, ob161 P, ob162 P, ob163 P, ob164 P, ob165 P, ob166 P, ob167 P, ob168 P, ob169 P, ob170 P, ob171 P, ob172 P, ob173 P, ob174 P, ob175 P, ob176 P, ob177 P, ob178 P, ob179 P, ob180 P, ob181 P, ob182 P, ob183 P, ob184 P, ob185 P, ob186 P, ob187 P, ob188 P, ob189 P, ob190 P, ob191 P, ob192 P, ob193 P, ob194 P, ob195 P, ob196 P], {}⟩
noncomputable def KF (P : Params) : Frag := [(0, boot_o_0 P), (1, boot_o_1 P), (2, boot_o_2 P), (3, ob3x21 P), (4, boot_o_4 P), (5, boot_o_5 P), (6, boot_o_6 P), (7, boot_o_7 P), (9, boot_o_9 P), (10, boot_o_10 P), (11, ob11 P), (13, ob13 P), (14, ob14 P), (15, ob15 P), (16, ob16 P), (17, ob17 P), (18, ob18 P), (20, ob20 P), (21, ob21 P), (22, ob22 P), (24, ob24 P), (25, ob25 P), (27, ob27 P), (28, ob28 P), (29, ob29 P), (31, ob31 P), (32, ob32 P), (34, ob34 P), (35, ob35 P), (36, ob36 P), (38, ob38 P), (39, ob39 P), (41, ob41 P), (42, ob42 P), (43, ob43 P), (45, ob45 P), (46, ob46 P), (48, ob48 P), (49, ob49 P), (50, ob50 P), (51, ob51 P), (52, ob52 P), (53, ob53 P), (54, ob54 P), (55, ob55 P), (56, ob56 P), (57, ob57 P), (59, ob59 P), (60, ob60 P), (62, ob62 P), (63, ob63 P), (64, ob64 P), (66, ob66 P), (67, ob67 P), (69, ob69 P), (70, ob70 P), (71, ob71 P), (72, ob72 P), (73, ob73 P), (74, ob74 P), (75, ob75 P), (76, ob76 P), (77, ob77 P), (78, ob78 P), (79, ob79 P), (80, ob80 P), (81, ob81 P), (82, ob82 P), (84, ob84 P), (85, ob85 P), (87, ob87 P), (88, ob88 P), (89, ob89 P), (90, ob90 P), (91, ob91 P), (92, ob92 P), (93, ob93 P), (94, ob94 P), (95, ob95 P), (96, ob96 P), (97, ob97 P), (98, ob98 P), (99, ob99 P), (100, ob100 P), (101, ob101 P), (102, ob102 P), (103, ob103 P), (104, ob104 P), (105, ob105 P), (106, ob106 P), (107, ob107 P), (108, ob108 P), (109, ob109 P), (110, ob110 P), (111, ob111 P), (112, ob112 P), (113, ob113 P), (114, ob114 P), (115, ob115 P), (116, ob116 P), (117, ob117 P), (118, ob118 P), (119, ob119 P), (120, ob120 P), (121, ob121 P), (122, ob122 P), (123, ob123 P), (124, ob124 P), (125, ob125 P), (126, ob126 P), (127, ob127 P), (128, ob128 P), (130, ob130 P), (131, ob131 P), (133, ob133 P), (134, ob134 P), (135, ob135 P), (137, ob137 P), (138, ob138 P), (140, ob140 P), (141, ob141 P), (142, ob142 P), (145, ob145 P), (146, ob146 P), (147, ob147 P), (150, ob150 P), (151, ob151 P), (152, ob152 P), (154, ob154 P), (155, ob155 P), (157, ob157 P), (158, ob158 P), (159, ob159 P), (161, ob161 P), (162, ob162 P), (164, ob164 P), (165, ob165 P), (166, ob166 P), (169, ob169 P), (170, ob170 P), (171, ob171 P), (173, ob173 P), (174, ob174 P), (176, ob176 P), (177, ob177 P), (178, ob178 P), (180, ob180 P), (181, ob181 P), (183, ob183 P), (184, ob184 P), (185, ob185 P), (187, ob187 P), (188, ob188 P), (190, ob190 P), (191, ob191 P), (192, ob192 P), (195, ob195 P), (196, ob196 P)]
theorem top_cast {w : World} {n m : Nat} {s : Shared} {t : Thread} {r : Option Shared} (h : topRun treeTable PG w 11 (some (.ref 6)) n s t = r) (e : n = m) : topRun treeTable PG w 11 (some (.ref 6)) m s t = r := e ▸ h
theorem finH_eq (P : Params) : absHeap (tr21 P) 197 {} = finH P := by kernel_rfl
theorem bdy_eq : bdy = [stAt 0] ++ ([stAt 1] ++ ([stAt 2] ++ ([stAt 3] ++ ([stAt 4] ++ ([stAt 5] ++ ([stAt 6] ++ ([stAt 7] ++ ([stAt 8] ++ ([stAt 9] ++ ([stAt 10] ++ ([stAt 11] ++ ([stAt 12] ++ ([stAt 13] ++ ([stAt 14] ++ ([stAt 15] ++ ([stAt 16] ++ ([stAt 17] ++ ([stAt 18] ++ ([stAt 19] ++ ([stAt 20] ++ [])))))))))))))))))))) := by kernel_rfl
theorem pcPre (w : World) : (fun os => topGo treeTable PG w 11 (some (.ref 6)) 12 ⟨boot_heap w.params, Array.mk [], boot_drawn, boot_toks, os⟩ (topStub PG)) = fun os => some ((stT (tr0 w.params) 15 187 os).abs, ⟨denote treeTable cE, cE, q0, [topFrame q0]⟩) := by kernel_rfl
theorem pcBlock (w : World) : (fun os => segRun treeTable PG w 11 (some (.ref 6)) 1 1 (stT (tr0 w.params) 15 187 os).abs (blockOf bdy topEnv cE q0 [topFrame q0])) = fun os => some (.next, (stT (tr0 w.params) 15 187 os).abs, cE, q0) := by kernel_rfl
theorem pcFin (w : World) (os : OsState) : topRun treeTable PG w 11 (some (.ref 6)) 2 (stT (tr21 w.params) 197 2388 os).abs ⟨doneF .next, cE, ⟨144, 0, 195, 105⟩, [topFrame q0]⟩ = some ⟨finH w.params, Array.mk [], {}, 2388, os⟩ := by
  have h : topRun treeTable PG w 11 (some (.ref 6)) 2 (stT (tr21 w.params) 197 2388 os).abs ⟨doneF .next, cE, ⟨144, 0, 195, 105⟩, [topFrame q0]⟩ = some (stT (tr21 w.params) 197 2388 os).abs := by rfl
  rw [h]
  exact congrArg (fun h => some (Shared.mk h (Array.mk []) {} 2388 os)) (finH_eq w.params)
theorem run_fin (w : World) (os : OsState) : topRun treeTable PG w 11 (some (.ref 6)) 2 (stT (tr21 w.params) 197 2388 os).abs (restOf [] topEnv cE ⟨144, 0, 195, 105⟩ [topFrame q0]) = some ⟨finH w.params, Array.mk [], {}, 2388, os⟩ := piece_nil (pcFin w os)
theorem run_20 (w : World) (os : OsState) : topRun treeTable PG w 11 (some (.ref 6)) 29 (stT (tr20 w.params) 192 2382 os).abs (restOf ([stAt 20] ++ []) topEnv cE ⟨141, 0, 143, 27⟩ [topFrame q0]) = some ⟨finH w.params, Array.mk [], {}, 2388, os⟩ :=
  top_cast (piece_app (segRun_of (congrFun (pc20 w) os)) (run_fin w os)) rfl
theorem run_19 (w : World) (os : OsState) : topRun treeTable PG w 11 (some (.ref 6)) 61 (stT (tr19 w.params) 185 2373 os).abs (restOf ([stAt 19] ++ ([stAt 20] ++ [])) topEnv cE ⟨136, 0, 140, 88⟩ [topFrame q0]) = some ⟨finH w.params, Array.mk [], {}, 2388, os⟩ :=
  top_cast (piece_app (segRun_of (congrFun (pc19 w) os)) (run_20 w os)) rfl
theorem run_18 (w : World) (os : OsState) : topRun treeTable PG w 11 (some (.ref 6)) 93 (stT (tr18 w.params) 178 2364 os).abs (restOf ([stAt 18] ++ ([stAt 19] ++ ([stAt 20] ++ []))) topEnv cE ⟨129, 0, 135, 25⟩ [topFrame q0]) = some ⟨finH w.params, Array.mk [], {}, 2388, os⟩ :=
  top_cast (piece_app (segRun_of (congrFun (pc18 w) os)) (run_19 w os)) rfl
theorem run_17 (w : World) (os : OsState) : topRun treeTable PG w 11 (some (.ref 6)) 125 (stT (tr17 w.params) 171 2355 os).abs (restOf ([stAt 17] ++ ([stAt 18] ++ ([stAt 19] ++ ([stAt 20] ++ [])))) topEnv cE ⟨122, 0, 128, 98⟩ [topFrame q0]) = some ⟨finH w.params, Array.mk [], {}, 2388, os⟩ :=
  top_cast (piece_app (segRun_of (congrFun (pc17 w) os)) (run_18 w os)) rfl
theorem run_16 (w : World) (os : OsState) : topRun treeTable PG w 11 (some (.ref 6)) 152 (stT (tr16 w.params) 166 2349 os).abs (restOf ([stAt 16] ++ ([stAt 17] ++ ([stAt 18] ++ ([stAt 19] ++ ([stAt 20] ++ []))))) topEnv cE ⟨115, 0, 121, 91⟩ [topFrame q0]) = some ⟨finH w.params, Array.mk [], {}, 2388, os⟩ :=
  top_cast (piece_app (segRun_of (congrFun (pc16 w) os)) (run_17 w os)) rfl
theorem run_15 (w : World) (os : OsState) : topRun treeTable PG w 11 (some (.ref 6)) 184 (stT (tr15 w.params) 159 2340 os).abs (restOf ([stAt 15] ++ ([stAt 16] ++ ([stAt 17] ++ ([stAt 18] ++ ([stAt 19] ++ ([stAt 20] ++ [])))))) topEnv cE ⟨112, 0, 114, 62⟩ [topFrame q0]) = some ⟨finH w.params, Array.mk [], {}, 2388, os⟩ :=
  top_cast (piece_app (segRun_of (congrFun (pc15 w) os)) (run_16 w os)) rfl
theorem run_14 (w : World) (os : OsState) : topRun treeTable PG w 11 (some (.ref 6)) 215 (stT (tr14 w.params) 152 2332 os).abs (restOf ([stAt 14] ++ ([stAt 15] ++ ([stAt 16] ++ ([stAt 17] ++ ([stAt 18] ++ ([stAt 19] ++ ([stAt 20] ++ []))))))) topEnv cE ⟨107, 0, 111, 90⟩ [topFrame q0]) = some ⟨finH w.params, Array.mk [], {}, 2388, os⟩ :=
  top_cast (piece_app (segRun_of (congrFun (pc14 w) os)) (run_15 w os)) rfl
theorem run_13 (w : World) (os : OsState) : topRun treeTable PG w 11 (some (.ref 6)) 242 (stT (tr13 w.params) 147 2326 os).abs (restOf ([stAt 13] ++ ([stAt 14] ++ ([stAt 15] ++ ([stAt 16] ++ ([stAt 17] ++ ([stAt 18] ++ ([stAt 19] ++ ([stAt 20] ++ [])))))))) topEnv cE ⟨102, 0, 106, 58⟩ [topFrame q0]) = some ⟨finH w.params, Array.mk [], {}, 2388, os⟩ :=
  top_cast (piece_app (segRun_of (congrFun (pc13 w) os)) (run_14 w os)) rfl
theorem run_12 (w : World) (os : OsState) : topRun treeTable PG w 11 (some (.ref 6)) 269 (stT (tr12 w.params) 142 2320 os).abs (restOf ([stAt 12] ++ ([stAt 13] ++ ([stAt 14] ++ ([stAt 15] ++ ([stAt 16] ++ ([stAt 17] ++ ([stAt 18] ++ ([stAt 19] ++ ([stAt 20] ++ []))))))))) topEnv cE ⟨97, 0, 101, 28⟩ [topFrame q0]) = some ⟨finH w.params, Array.mk [], {}, 2388, os⟩ :=
  top_cast (piece_app (segRun_of (congrFun (pc12 w) os)) (run_13 w os)) rfl
theorem run_11 (w : World) (os : OsState) : topRun treeTable PG w 11 (some (.ref 6)) 301 (stT (tr11 w.params) 135 2311 os).abs (restOf ([stAt 11] ++ ([stAt 12] ++ ([stAt 13] ++ ([stAt 14] ++ ([stAt 15] ++ ([stAt 16] ++ ([stAt 17] ++ ([stAt 18] ++ ([stAt 19] ++ ([stAt 20] ++ [])))))))))) topEnv cE ⟨96, 0, 96, 8⟩ [topFrame q0]) = some ⟨finH w.params, Array.mk [], {}, 2388, os⟩ :=
  top_cast (piece_app (segRun_of (congrFun (pc11 w) os)) (run_12 w os)) rfl
theorem run_10 (w : World) (os : OsState) : topRun treeTable PG w 11 (some (.ref 6)) 311 (stT (tr10 w.params) 135 2309 os).abs (restOf ([stAt 10] ++ ([stAt 11] ++ ([stAt 12] ++ ([stAt 13] ++ ([stAt 14] ++ ([stAt 15] ++ ([stAt 16] ++ ([stAt 17] ++ ([stAt 18] ++ ([stAt 19] ++ ([stAt 20] ++ []))))))))))) topEnv cE ⟨91, 0, 95, 23⟩ [topFrame q0]) = some ⟨finH w.params, Array.mk [], {}, 2388, os⟩ :=
  top_cast (piece_app (segRun_of (congrFun (pc10 w) os)) (run_11 w os)) rfl
theorem run_9 (w : World) (os : OsState) : topRun treeTable PG w 11 (some (.ref 6)) 342 (stT (tr9 w.params) 128 2301 os).abs (restOf ([stAt 9] ++ ([stAt 10] ++ ([stAt 11] ++ ([stAt 12] ++ ([stAt 13] ++ ([stAt 14] ++ ([stAt 15] ++ ([stAt 16] ++ ([stAt 17] ++ ([stAt 18] ++ ([stAt 19] ++ ([stAt 20] ++ [])))))))))))) topEnv cE ⟨90, 0, 90, 13⟩ [topFrame q0]) = some ⟨finH w.params, Array.mk [], {}, 2388, os⟩ :=
  top_cast (piece_app (segRun_of (congrFun (pc9 w) os)) (run_10 w os)) rfl
theorem run_8 (w : World) (os : OsState) : topRun treeTable PG w 11 (some (.ref 6)) 12867 (stT (tr8 w.params) 89 350 os).abs (restOf ([stAt 8] ++ ([stAt 9] ++ ([stAt 10] ++ ([stAt 11] ++ ([stAt 12] ++ ([stAt 13] ++ ([stAt 14] ++ ([stAt 15] ++ ([stAt 16] ++ ([stAt 17] ++ ([stAt 18] ++ ([stAt 19] ++ ([stAt 20] ++ []))))))))))))) topEnv cE ⟨88, 0, 89, 30⟩ [topFrame q0]) = some ⟨finH w.params, Array.mk [], {}, 2388, os⟩ :=
  top_cast (piece_app (pc8 w os) (run_9 w os)) rfl
theorem run_7 (w : World) (os : OsState) : topRun treeTable PG w 11 (some (.ref 6)) 12897 (stT (tr7 w.params) 82 343 os).abs (restOf ([stAt 7] ++ ([stAt 8] ++ ([stAt 9] ++ ([stAt 10] ++ ([stAt 11] ++ ([stAt 12] ++ ([stAt 13] ++ ([stAt 14] ++ ([stAt 15] ++ ([stAt 16] ++ ([stAt 17] ++ ([stAt 18] ++ ([stAt 19] ++ ([stAt 20] ++ [])))))))))))))) topEnv cE ⟨87, 0, 87, 6⟩ [topFrame q0]) = some ⟨finH w.params, Array.mk [], {}, 2388, os⟩ :=
  top_cast (piece_app (segRun_of (congrFun (pc7 w) os)) (run_8 w os)) rfl
theorem run_6 (w : World) (os : OsState) : topRun treeTable PG w 11 (some (.ref 6)) 13896 (stT (tr6 w.params) 71 283 os).abs (restOf ([stAt 6] ++ ([stAt 7] ++ ([stAt 8] ++ ([stAt 9] ++ ([stAt 10] ++ ([stAt 11] ++ ([stAt 12] ++ ([stAt 13] ++ ([stAt 14] ++ ([stAt 15] ++ ([stAt 16] ++ ([stAt 17] ++ ([stAt 18] ++ ([stAt 19] ++ ([stAt 20] ++ []))))))))))))))) topEnv cE ⟨86, 0, 86, 8⟩ [topFrame q0]) = some ⟨finH w.params, Array.mk [], {}, 2388, os⟩ :=
  top_cast (piece_app (segRun_of (congrFun (pc6 w) os)) (run_7 w os)) rfl
theorem run_5 (w : World) (os : OsState) : topRun treeTable PG w 11 (some (.ref 6)) 13906 (stT (tr5 w.params) 71 281 os).abs (restOf ([stAt 5] ++ ([stAt 6] ++ ([stAt 7] ++ ([stAt 8] ++ ([stAt 9] ++ ([stAt 10] ++ ([stAt 11] ++ ([stAt 12] ++ ([stAt 13] ++ ([stAt 14] ++ ([stAt 15] ++ ([stAt 16] ++ ([stAt 17] ++ ([stAt 18] ++ ([stAt 19] ++ ([stAt 20] ++ [])))))))))))))))) topEnv cE ⟨65, 0, 85, 24⟩ [topFrame q0]) = some ⟨finH w.params, Array.mk [], {}, 2388, os⟩ :=
  top_cast (piece_app (segRun_of (congrFun (pc5 w) os)) (run_6 w os)) rfl
theorem run_4 (w : World) (os : OsState) : topRun treeTable PG w 11 (some (.ref 6)) 13943 (stT (tr4 w.params) 64 267 os).abs (restOf ([stAt 4] ++ ([stAt 5] ++ ([stAt 6] ++ ([stAt 7] ++ ([stAt 8] ++ ([stAt 9] ++ ([stAt 10] ++ ([stAt 11] ++ ([stAt 12] ++ ([stAt 13] ++ ([stAt 14] ++ ([stAt 15] ++ ([stAt 16] ++ ([stAt 17] ++ ([stAt 18] ++ ([stAt 19] ++ ([stAt 20] ++ []))))))))))))))))) topEnv cE ⟨46, 0, 64, 20⟩ [topFrame q0]) = some ⟨finH w.params, Array.mk [], {}, 2388, os⟩ :=
  top_cast (piece_app (segRun_of (congrFun (pc4 w) os)) (run_5 w os)) rfl
theorem run_3 (w : World) (os : OsState) : topRun treeTable PG w 11 (some (.ref 6)) 13984 (stT (tr3 w.params) 57 249 os).abs (restOf ([stAt 3] ++ ([stAt 4] ++ ([stAt 5] ++ ([stAt 6] ++ ([stAt 7] ++ ([stAt 8] ++ ([stAt 9] ++ ([stAt 10] ++ ([stAt 11] ++ ([stAt 12] ++ ([stAt 13] ++ ([stAt 14] ++ ([stAt 15] ++ ([stAt 16] ++ ([stAt 17] ++ ([stAt 18] ++ ([stAt 19] ++ ([stAt 20] ++ [])))))))))))))))))) topEnv cE ⟨45, 0, 45, 8⟩ [topFrame q0]) = some ⟨finH w.params, Array.mk [], {}, 2388, os⟩ :=
  top_cast (piece_app (segRun_of (congrFun (pc3 w) os)) (run_4 w os)) rfl
theorem run_2 (w : World) (os : OsState) : topRun treeTable PG w 11 (some (.ref 6)) 13994 (stT (tr2 w.params) 57 247 os).abs (restOf ([stAt 2] ++ ([stAt 3] ++ ([stAt 4] ++ ([stAt 5] ++ ([stAt 6] ++ ([stAt 7] ++ ([stAt 8] ++ ([stAt 9] ++ ([stAt 10] ++ ([stAt 11] ++ ([stAt 12] ++ ([stAt 13] ++ ([stAt 14] ++ ([stAt 15] ++ ([stAt 16] ++ ([stAt 17] ++ ([stAt 18] ++ ([stAt 19] ++ ([stAt 20] ++ []))))))))))))))))))) topEnv cE ⟨2, 0, 44, 35⟩ [topFrame q0]) = some ⟨finH w.params, Array.mk [], {}, 2388, os⟩ :=
  top_cast (piece_app (segRun_of (congrFun (pc2 w) os)) (run_3 w os)) rfl
theorem run_1 (w : World) (os : OsState) : topRun treeTable PG w 11 (some (.ref 6)) 14318 (stT (tr1 w.params) 15 189 os).abs (restOf ([stAt 1] ++ ([stAt 2] ++ ([stAt 3] ++ ([stAt 4] ++ ([stAt 5] ++ ([stAt 6] ++ ([stAt 7] ++ ([stAt 8] ++ ([stAt 9] ++ ([stAt 10] ++ ([stAt 11] ++ ([stAt 12] ++ ([stAt 13] ++ ([stAt 14] ++ ([stAt 15] ++ ([stAt 16] ++ ([stAt 17] ++ ([stAt 18] ++ ([stAt 19] ++ ([stAt 20] ++ [])))))))))))))))))))) topEnv cE ⟨1, 0, 1, 8⟩ [topFrame q0]) = some ⟨finH w.params, Array.mk [], {}, 2388, os⟩ :=
  top_cast (piece_app (segRun_of (congrFun (pc1 w) os)) (run_2 w os)) rfl
theorem run_0 (w : World) (os : OsState) : topRun treeTable PG w 11 (some (.ref 6)) 14328 (stT (tr0 w.params) 15 187 os).abs (restOf ([stAt 0] ++ ([stAt 1] ++ ([stAt 2] ++ ([stAt 3] ++ ([stAt 4] ++ ([stAt 5] ++ ([stAt 6] ++ ([stAt 7] ++ ([stAt 8] ++ ([stAt 9] ++ ([stAt 10] ++ ([stAt 11] ++ ([stAt 12] ++ ([stAt 13] ++ ([stAt 14] ++ ([stAt 15] ++ ([stAt 16] ++ ([stAt 17] ++ ([stAt 18] ++ ([stAt 19] ++ ([stAt 20] ++ []))))))))))))))))))))) topEnv cE ⟨0, 0, 0, 0⟩ [topFrame q0]) = some ⟨finH w.params, Array.mk [], {}, 2388, os⟩ :=
  top_cast (piece_app (segRun_of (congrFun (pc0 w) os)) (run_1 w os)) rfl
theorem run_top (w : World) (os : OsState) : topRun treeTable PG w 11 (some (.ref 6)) 14341 ⟨boot_heap w.params, Array.mk [], boot_drawn, boot_toks, os⟩ (topStub PG) = some ⟨finH w.params, Array.mk [], {}, 2388, os⟩ := by
  have h := run_0 w os
  rw [← bdy_eq] at h
  exact top_cast (go_top (congrFun (pcPre w) os) (piece_block (congrFun (pcBlock w) os) h)) rfl
end
end Mine
end
section
open PySem PySem.W PyProof.Rows
namespace Mine
noncomputable abbrev PM := Addr → Option Obj
noncomputable def Sub (F G : PM) : Prop := ∀ a o, F a = some o → G a = some o
theorem Sub.refl (F : PM) : Sub F F := fun _ _ h => h
theorem Sub.trans {F G H : PM} (x : Sub F G) (y : Sub G H) : Sub F H := fun a o h => y a o (x a o h)
set_option genInjectivity false in
set_option genSizeOfSpec false in
inductive SV where
  | none
  | bool (b : Bool)
  | int (n : Int)
  | flt (x : UInt64)
  | str (s : Str)
  | bi (id : String)
  | ty (t : String)
  | ref (a : Addr)
  | tup (xs : List SV)
  | lst (xs : List SV)
mutual
noncomputable def VR (F : PM) : SV → Value → Prop
  | .none, v => v = .none
  | .bool b, v => v = .bool b
  | .int n, v => ∃ t, v = .int n t
  | .flt x, v => ∃ t, v = .float x t
  | .str s, v => ∃ t, v = .str s t
  | .bi id, v => v = .builtin id
  | .ty t, v => v = .type t
  | .ref a, v => v = .ref a
  | .tup xs, v => ∃ D vs n, v = .ref D ∧ F D = some { cls := .type "tuple", data := .seq (List.toArray vs) n } ∧ VRs F xs vs
  | .lst xs, v => ∃ D vs n, v = .ref D ∧ F D = some { cls := .type "list", data := .seq (List.toArray vs) n } ∧ VRs F xs vs
noncomputable def VRs (F : PM) : List SV → List Value → Prop
  | [], vs => vs = []
  | x :: xs, vs => ∃ v r, vs = v :: r ∧ VR F x v ∧ VRs F xs r
end
mutual
theorem VR.mono {F G : PM} (h : Sub F G) : ∀ {x : SV} {v : Value}, VR F x v → VR G x v
  | .none, _, e => e
  | .bool _, _, e => e
  | .int _, _, e => e
  | .flt _, _, e => e
  | .str _, _, e => e
  | .bi _, _, e => e
  | .ty _, _, e => e
  | .ref _, _, e => e
  | .tup xs, v, e => by
    unfold VR at e ⊢
    obtain ⟨D, vs, n, e1, e2, e3⟩ := e
    exact ⟨D, vs, n, e1, h _ _ e2, VRs.mono h e3⟩
  | .lst xs, v, e => by
    unfold VR at e ⊢
    obtain ⟨D, vs, n, e1, e2, e3⟩ := e
    exact ⟨D, vs, n, e1, h _ _ e2, VRs.mono h e3⟩
theorem VRs.mono {F G : PM} (h : Sub F G) : ∀ {xs : List SV} {vs : List Value}, VRs F xs vs → VRs G xs vs
  | [], _, e => e
  | x :: xs, vs, e => by
    unfold VRs at e ⊢
    obtain ⟨v, r, e1, e2, e3⟩ := e
    exact ⟨v, r, e1, VR.mono h e2, VRs.mono h e3⟩
end
structure Ext (F : PM) (s : Shared) (F' : PM) (s' : Shared) : Prop where
  sub : Sub F F'
  inn : Sub F' s'.heap.get?
  keep : ∀ a o, s.heap.get? a = some o → s'.heap.get? a = some o
  new : ∀ a o, F' a = some o → F a = some o ∨ s.heap.get? a = none
  rest : ∃ h tk, s' = { s with heap := h, toks := tk }
theorem Ext.refl {F : PM} {s : Shared} (h : Sub F s.heap.get?) : Ext F s F s := ⟨Sub.refl _, h, fun _ _ e => e, fun _ _ e => .inl e, ⟨_, _, rfl⟩⟩
theorem Ext.trans {F F' F'' : PM} {s s' s'' : Shared} (x : Ext F s F' s') (y : Ext F' s' F'' s'') : Ext F s F'' s'' := by
  refine ⟨x.sub.trans y.sub, y.inn, fun a o e => y.keep a o (x.keep a o e), fun a o e => ?_, ?_⟩
  · rcases y.new a o e with q | q
    · exact x.new a o q
    · right
      cases e' : s.heap.get? a with
      | none => rfl
      | some o' => rw [x.keep a o' e'] at q; cases q
  · obtain ⟨h, tk, rfl⟩ := x.rest
    obtain ⟨h', tk', rfl⟩ := y.rest
    exact ⟨h', tk', rfl⟩
theorem Ext.toks {F F' : PM} {s s' : Shared} (x : Ext F s F' s') (t : Nat) : Ext F s F' { s' with toks := t } :=
  ⟨x.sub, x.inn, x.keep, x.new, by obtain ⟨h, tk, rfl⟩ := x.rest; exact ⟨h, t, rfl⟩⟩
theorem Ext.tok {F : PM} {s : Shared} (h : Sub F s.heap.get?) (t : Nat) : Ext F s F { s with toks := t } := (Ext.refl h).toks t
noncomputable def put (F : PM) (D : Addr) (o : Obj) : PM := fun a => if a = D then some o else F a
theorem Ext.alloc {F : PM} {s : Shared} (h : Sub F s.heap.get?) (o : Obj) (ho : o.isFreed = false) : Ext F s (put F s.heap.objs.size o) { s with heap := s.heap.push o } := by
  have hn : ∀ x, F s.heap.objs.size ≠ some x := fun x e => Nat.lt_irrefl _ (Heap.lt_size (h _ _ e))
  refine ⟨fun a x e => ?_, fun a x e => ?_, fun a x e => Heap.get?_push_of_some _ e, fun a x e => ?_, ⟨_, _, rfl⟩⟩
  · unfold put
    by_cases q : a = s.heap.objs.size
    · subst q; exact absurd e (hn x)
    · rw [if_neg q]; exact e
  · unfold put at e
    by_cases q : a = s.heap.objs.size
    · subst q; rw [if_pos rfl] at e; cases e; exact Heap.get?_push_size _ ho
    · rw [if_neg q] at e; exact Heap.get?_push_of_some _ (h _ _ e)
  · unfold put at e
    by_cases q : a = s.heap.objs.size
    · right
      subst q
      cases e' : s.heap.get? s.heap.objs.size with
      | none => rfl
      | some o' => exact absurd (Heap.lt_size e') (Nat.lt_irrefl _)
    · rw [if_neg q] at e; exact .inl e
theorem put_self (F : PM) (D : Addr) (o : Obj) : put F D o D = some o := by unfold put; rw [if_pos rfl]
noncomputable def Has (env : Env) (F : PM) (s : Shared) (x : Str) (sv : SV) : Prop :=
  (env.kindOf x = some .local ∧ ∃ m v, s.heap.Ns env.locals m ∧ m x = some v ∧ VR F sv v) ∨
  ((env.kindOf x = some .cell ∨ env.kindOf x = some .free) ∧ (x == ("__classdict__" : Str)) = false ∧ ∃ c v, env.cells.lookup x = some c ∧ s.heap.IsCell c (some v) ∧ VR F sv v)
theorem Has.ext {env : Env} {F F' : PM} {s s' : Shared} {x : Str} {sv : SV} (h : Has env F s x sv) (e : Ext F s F' s') : Has env F' s' x sv := by
  rcases h with ⟨k, m, v, hn, hm, hv⟩ | ⟨k, kd, c, v, hc, hx, hv⟩
  · exact .inl ⟨k, m, v, hn.at' (fun o q => e.keep _ _ q), hm, hv.mono e.sub⟩
  · exact .inr ⟨k, kd, c, v, hc, hx.keeps e.keep, hv.mono e.sub⟩
structure St (K : Frag) (env : Env) (ρ : List (Str × SV)) (F : PM) (s : Shared) : Prop where
  sub : Sub F s.heap.get?
  base : ∀ a o, K.lookup a = some o → F a = some o
  vars : ∀ x sv, ρ.lookup x = some sv → Has env F s x sv
theorem St.ext {K : Frag} {env : Env} {ρ : List (Str × SV)} {F F' : PM} {s s' : Shared} (h : St K env ρ F s) (e : Ext F s F' s') : St K env ρ F' s' :=
  ⟨e.inn, fun a o q => e.sub _ _ (h.base a o q), fun x sv q => (h.vars x sv q).ext e⟩
theorem St.inK {K : Frag} {env : Env} {ρ : List (Str × SV)} {F : PM} {s : Shared} (h : St K env ρ F s) : K.In s.heap := fun a o e => h.sub _ _ (h.base a o e)
structure Room (A : Around) (d : Nat) : Prop where
  depth : A.depth + d < recursionLimit
  units : A.units + 8 * d + 100 < cLine
  handled : A.handled = none
theorem Room.deeper {A : Around} {d : Nat} {env : Env} (r : Room A (d + 1)) : Room (A.deeper env) d := ⟨by have := r.depth; show A.depth + 1 + d < _; lia, by have := r.units; show A.units + 3 + 8 * d + 100 < _; lia, r.handled⟩
theorem Room.le {A : Around} {d d' : Nat} (r : Room A d) (h : d' ≤ d) : Room A d' := ⟨by have := r.depth; lia, by have := r.units; lia, r.handled⟩
structure Cx where
  K : Frag
  prog : Program
  w : World
  A : Around
  env : Env
  own : List Str := []
structure Ev (c : Cx) (ρ : List (Str × SV)) (e : Expr) (sv : SV) : Prop where
  run : ∀ F s Q E, St c.K c.env ρ F s → (∀ v F' s', Ext F s F' s' → VR F' sv v → Q v s') → wpAny (model c.prog c.w) c.A (eval e c.env) Q E s
structure EvT (c : Cx) (ρ : List (Str × SV)) (e : Expr) (b : Bool) : Prop where
  run : ∀ F s (Q : Bool → Shared → Prop) E, St c.K c.env ρ F s → (∀ F' s', Ext F s F' s' → Q b s') → wpAny (model c.prog c.w) c.A (isTrue e c.env (eval e c.env)) Q E s
noncomputable def Op (c : Cx) (t : List Value → Sem Value) (args : List SV) (r : SV) : Prop :=
  ∀ F s vs Q E, Sub F s.heap.get? → (∀ a o, c.K.lookup a = some o → F a = some o) → VRs F args vs → (∀ v F' s', Ext F s F' s' → VR F' r v → Q v s') → wpAny (model c.prog c.w) c.A (t vs) Q E s
section rules
variable {c : Cx} {ρ : List (Str × SV)}
theorem Ev.int {i : Int} {k : Nat} {p : Pos} : Ev c ρ (.Constant (.int i) k p) (.int i) := .mk fun F s Q E h hQ =>
  wpAny_Constant_int (hQ _ F _ (Ext.tok h.sub _) ⟨_, rfl⟩)
theorem Ev.str {x : Str} {k : Nat} {p : Pos} : Ev c ρ (.Constant (.str x) k p) (.str x) := .mk fun F s Q E h hQ =>
  wpAny_Constant_str (hQ _ F _ (Ext.tok h.sub _) ⟨_, rfl⟩)
theorem Ev.flt {x : UInt64} {k : Nat} {p : Pos} : Ev c ρ (.Constant (.float x) k p) (.flt x) := .mk fun F s Q E h hQ =>
  wpAny_Constant_float (hQ _ F _ (Ext.tok h.sub _) ⟨_, rfl⟩)
theorem Ev.nothing {k : Nat} {p : Pos} : Ev c ρ (.Constant .none k p) .none := .mk fun F s Q E h hQ =>
  wpAny_Constant_none (hQ _ F _ (Ext.refl h.sub) rfl)
theorem Ev.bool {b : Bool} {k : Nat} {p : Pos} : Ev c ρ (.Constant (.bool b) k p) (.bool b) := .mk fun F s Q E h hQ =>
  wpAny_Constant_bool (hQ _ F _ (Ext.refl h.sub) rfl)
theorem Ev.name {x : Str} {p : Pos} {sv : SV} (hk : c.env.scope.kind = .function) (hx : ρ.lookup x = some sv) (hd : (x == ("__debug__" : Str)) = false) : Ev c ρ (.Name x p) sv := .mk fun F s Q E h hQ => by
  rcases h.vars x sv hx with ⟨k, m, v, hn, hm, hv⟩ | ⟨k, kd, a, v, hc, hx, hv⟩
  · exact wpAny_Name (wpAny_loadName_local hk k hn hm (hQ _ F _ (Ext.refl h.sub) hv)) hd
  · rcases k with k | k
    · exact wpAny_Name (wpAny_loadName_cell hk k hc hx (hQ _ F _ (Ext.refl h.sub) hv)) hd
    · exact wpAny_Name (wpAny_loadName_free hk k hc hx (hQ _ F _ (Ext.refl h.sub) hv) kd) hd
theorem VRs.two {F : PM} {a b : SV} {v u : Value} (h : VR F a v) (k : VR F b u) : VRs F [a, b] [v, u] := by
  unfold VRs VRs VRs; exact ⟨_, _, rfl, h, _, _, rfl, k, rfl⟩
theorem VRs.one {F : PM} {a : SV} {v : Value} (h : VR F a v) : VRs F [a] [v] := by
  unfold VRs VRs; exact ⟨_, _, rfl, h, rfl⟩
theorem Ev.binop {op : Operator} {l r : Expr} {p : Pos} {a b sv : SV} (hl : Ev c ρ l a) (hr : Ev c ρ r b) (ho : Op c (fun vs => binaryOp op (vs.getD 0 .none) (vs.getD 1 .none)) [a, b] sv) : Ev c ρ (.BinOp l op r p) sv := .mk fun F s Q E h hQ =>
  wpAny_BinOp (hl.run F s _ E h fun v F₁ s₁ x₁ hv => hr.run F₁ s₁ _ E (h.ext x₁) fun u F₂ s₂ x₂ hu =>
    ho F₂ s₂ [v, u] Q E x₂.inn ((h.ext x₁).ext x₂).base (VRs.two (hv.mono x₂.sub) hu) fun r F₃ s₃ x₃ hr => hQ r F₃ s₃ ((x₁.trans x₂).trans x₃) hr)
theorem Ev.unop {op : UnaryOp} {l : Expr} {p : Pos} {a sv : SV} (hl : Ev c ρ l a) (ho : Op c (fun vs => unaryOp op (vs.getD 0 .none)) [a] sv) : Ev c ρ (.UnaryOp op l p) sv := .mk fun F s Q E h hQ =>
  wpAny_UnaryOp (hl.run F s _ E h fun v F₁ s₁ x₁ hv => ho F₁ s₁ [v] Q E x₁.inn (h.ext x₁).base (VRs.one hv) fun r F₃ s₃ x₃ hr => hQ r F₃ s₃ (x₁.trans x₃) hr)
theorem Ev.compare {op : CmpOp} {l r : Expr} {p : Pos} {a b sv : SV} (hl : Ev c ρ l a) (hr : Ev c ρ r b) (ho : Op c (fun vs => compareOp op (vs.getD 0 .none) (vs.getD 1 .none)) [a, b] sv)
    (hm : behindInMarks op r = false := by with_unfolding_all rfl) : Ev c ρ (.Compare l [op] [r] p) sv := .mk fun F s Q E h hQ =>
  wpAny_Compare1 (hl.run F s _ E h fun v F₁ s₁ x₁ hv => hr.run F₁ s₁ _ E (h.ext x₁) fun u F₂ s₂ x₂ hu =>
    ho F₂ s₂ [v, u] Q E x₂.inn ((h.ext x₁).ext x₂).base (VRs.two (hv.mono x₂.sub) hu) fun r F₃ s₃ x₃ hr => hQ r F₃ s₃ ((x₁.trans x₂).trans x₃) hr) hm
theorem EvT.compare {op : CmpOp} {l r : Expr} {p : Pos} {a b : SV} {t : Bool} (hl : Ev c ρ l a) (hr : Ev c ρ r b) (ho : Op c (fun vs => compareOp op (vs.getD 0 .none) (vs.getD 1 .none)) [a, b] (.bool t))
    (hm : behindInMarks op r = false := by with_unfolding_all rfl) : EvT c ρ (.Compare l [op] [r] p) t := .mk fun F s Q E h hQ =>
  wpAny_isTrue_Compare1 (hl.run F s _ E h fun v F₁ s₁ x₁ hv => hr.run F₁ s₁ _ E (h.ext x₁) fun u F₂ s₂ x₂ hu =>
    ho F₂ s₂ [v, u] _ E x₂.inn ((h.ext x₁).ext x₂).base (VRs.two (hv.mono x₂.sub) hu) fun r F₃ s₃ x₃ hr => by
      unfold VR at hr; subst hr; exact wpAny_truthy_bool (hQ F₃ s₃ ((x₁.trans x₂).trans x₃))) hm
theorem Ev.ifexp {t b o : Expr} {p : Pos} {d : Bool} {sv : SV} (ht : EvT c ρ t d) (hb : d = true → Ev c ρ b sv) (ho : d = false → Ev c ρ o sv) : Ev c ρ (.IfExp t b o p) sv := .mk fun F s Q E h hQ =>
  wpAny_IfExp (ht.run F s _ E h fun F₁ s₁ x₁ => by
    cases d with
    | true => exact (hb rfl).run F₁ s₁ Q E (h.ext x₁) fun v F₂ s₂ x₂ hv => hQ v F₂ s₂ (x₁.trans x₂) hv
    | false => exact (ho rfl).run F₁ s₁ Q E (h.ext x₁) fun v F₂ s₂ x₂ hv => hQ v F₂ s₂ (x₁.trans x₂) hv)
noncomputable def notStar : Expr → Bool
  | .Starred _ _ => false
  | _ => true
theorem starEach_cons {e : Expr} {es : List Expr} {env : Env} (h : notStar e = true) : starEach (e :: es) env = (false, eval e env) :: starEach es env := by
  cases e <;> first | rfl | cases h
noncomputable def plainL (es : List Expr) : Bool := es.all notStar
theorem plain_any {es : List Expr} {pos : Pos} {env : Env} (h : plainL es = true) : (backTo pos (starEach es env)).any (·.1) = false := by
  induction es with
  | nil => rfl
  | cons e es ih =>
    unfold plainL at h
    rw [List.all_cons, Bool.and_eq_true] at h
    rw [starEach_cons h.1]
    have := ih h.2
    unfold backTo at this ⊢
    rw [List.map_cons, List.any_cons, this]
    rfl
theorem plain_few {es : List Expr} {pos : Pos} {env : Env} (h : plainL es = true) (hl : decide (es.length < 30) = true) : ((backTo pos (starEach es env)).all (fun x => !x.1) && (backToKw pos (keywordEach [] env)).all (fun x => x.1.isSome)
      && decide (es.length + ([] : List Keyword).length + (if ([] : List Keyword).isEmpty then 0 else 1) < 30)) = true := by
  have h1 : (backTo pos (starEach es env)).all (fun x => !x.1) = true := by
    have := plain_any (pos := pos) (env := env) h
    rw [List.all_eq_true]
    intro x hx
    rw [List.any_eq_false] at this
    simpa using this x hx
  rw [h1]
  exact hl
noncomputable def notSlice : Expr → Bool
  | .Slice _ _ _ _ => false
  | _ => true
theorem sub_plain {slice : Expr} (h : notSlice slice = true) (o i : Value) : subscripted slice false o i = operate [o, i] (getItem o i) := by
  cases slice <;> first | rfl | cases h
noncomputable def notCall : Expr → Bool
  | .Call _ _ _ _ => false
  | _ => true
theorem attr_plain {o : Expr} {name : Str} {env : Env} {whole : Sem Value} (h : notCall o = true) : attributeBase o name env whole = whole := by
  cases o <;> first | rfl | cases h
noncomputable def notSet : Expr → Bool
  | .Set _ _ _ => false
  | _ => true
theorem fold_plain {e : Expr} {env : Env} (h : notSet e = true) (x : Value) : foldedSetIterable e env x = pure x := by
  cases e <;> first | rfl | cases h
noncomputable def notComp : Expr → Bool
  | .ListComp _ _ _ _ => false
  | .SetComp _ _ _ _ => false
  | .DictComp _ _ _ _ _ => false
  | _ => true
theorem swaps_plain {e : Expr} {t : Option Expr} {l : Nat} {env : Env} (h : notComp e = true) : swapsWith e t l env = pure false := by
  cases e <;> first | rfl | cases h
structure Evs (c : Cx) (ρ : List (Str × SV)) (es : List Expr) (svs : List SV) : Prop where
  run : ∀ F s (Q : List Value → Shared → Prop) E p, St c.K c.env ρ F s → (∀ vs F' s', Ext F s F' s' → VRs F' svs vs → Q vs s') → wpAny (model c.prog c.w) c.A (spliced (backTo p (starEach es c.env))) Q E s
theorem Evs.nil : Evs c ρ [] [] := .mk fun F s Q E p h hQ => wpAny_items_nil (hQ [] F s (Ext.refl h.sub) rfl)
theorem Evs.cons {e : Expr} {es : List Expr} {a : SV} {as : List SV} (he : Ev c ρ e a) (hs : Evs c ρ es as) (hst : ∀ env, starEach (e :: es) env = (false, eval e env) :: starEach es env := by exact fun _ => starEach_cons rfl) : Evs c ρ (e :: es) (a :: as) := .mk fun F s Q E p h hQ =>
  wpAny_items_cons (he.run F s _ E h fun v F₁ s₁ x₁ hv => hs.run F₁ s₁ _ E p (h.ext x₁) fun vs F₂ s₂ x₂ hvs => hQ _ F₂ s₂ (x₁.trans x₂) (by unfold VRs; exact ⟨v, vs, rfl, hv.mono x₂.sub, hvs⟩)) (hst _)
theorem Evs.co {e : Expr} {es : List Expr} {a : SV} {as : List SV} (hst : notStar e = true) (he : Ev c ρ e a) (hs : Evs c ρ es as) : Evs c ρ (e :: es) (a :: as) := Evs.cons he hs fun _ => starEach_cons hst
theorem VRs.length {F : PM} : ∀ {xs : List SV} {vs : List Value}, VRs F xs vs → vs.length = xs.length
  | [], vs, h => by unfold VRs at h; subst h; rfl
  | x :: xs, vs, h => by
    unfold VRs at h
    obtain ⟨v, r, rfl, _, h⟩ := h
    rw [List.length_cons, List.length_cons, VRs.length h]
theorem Ev.tuple {es : List Expr} {k : Nat} {p : Pos} {svs : List SV} (h : Evs c ρ es svs) (hl : Nat.ble svs.length 1000 = true) : Ev c ρ (.Tuple es k p) (.tup svs) := .mk fun F s Q E hs hQ =>
  wpAny_Tuple (h.run F s _ E p hs fun vs F₁ s₁ x₁ hv => ⟨by rw [hv.length]; exact Nat.le_trans (Nat.le_of_ble_eq_true hl) (by decide), by
    have a := Ext.alloc (F := F₁) (s := s₁) x₁.inn { cls := .type "tuple", data := .seq vs.toArray } rfl
    refine hQ _ _ _ (x₁.trans a) ?_
    unfold VR
    exact ⟨_, vs, 0, rfl, put_self _ _ _, hv.mono a.sub⟩⟩)
theorem Ev.list {es : List Expr} {p : Pos} {svs : List SV} (h : Evs c ρ es svs) (hl : Nat.ble svs.length 1000 = true) : Ev c ρ (.List es p) (.lst svs) := .mk fun F s Q E hs hQ =>
  wpAny_List (h.run F s _ E p hs fun vs F₁ s₁ x₁ hv => ⟨by rw [hv.length]; exact Nat.le_trans (Nat.le_of_ble_eq_true hl) (by decide), by
    have a := Ext.alloc (F := F₁) (s := s₁) x₁.inn { cls := .type "list", data := .seq vs.toArray } rfl
    refine hQ _ _ _ (x₁.trans a) ?_
    unfold VR
    exact ⟨_, vs, 0, rfl, put_self _ _ _, hv.mono a.sub⟩⟩)
end rules
end Mine
end
section
open PySem PySem.W PyProof.Rows
namespace Mine
section
variable {c : Cx}
theorem Op.two {t : List Value → Sem Value} {a b r : SV}
    (h : ∀ F s v u (Q : Value → Shared → Prop) E, Sub F s.heap.get? → (∀ x o, c.K.lookup x = some o → F x = some o) → VR F a v → VR F b u → (∀ v F' s', Ext F s F' s' → VR F' r v → Q v s') → wpAny (model c.prog c.w) c.A (t [v, u]) Q E s) : Op c t [a, b] r := by
  intro F s vs Q E hs hb hv hQ
  unfold VRs VRs VRs at hv
  obtain ⟨v, _, rfl, hv, u, _, rfl, hu, rfl⟩ := hv
  exact h F s v u Q E hs hb hv hu hQ
theorem Op.one {t : List Value → Sem Value} {a r : SV}
    (h : ∀ F s v (Q : Value → Shared → Prop) E, Sub F s.heap.get? → (∀ x o, c.K.lookup x = some o → F x = some o) → VR F a v → (∀ v F' s', Ext F s F' s' → VR F' r v → Q v s') → wpAny (model c.prog c.w) c.A (t [v]) Q E s) : Op c t [a] r := by
  intro F s vs Q E hs hb hv hQ
  unfold VRs VRs at hv
  obtain ⟨v, _, rfl, hv, rfl⟩ := hv
  exact h F s v Q E hs hb hv hQ
theorem Op.three {t : List Value → Sem Value} {a b d r : SV}
    (h : ∀ F s v u z (Q : Value → Shared → Prop) E, Sub F s.heap.get? → (∀ x o, c.K.lookup x = some o → F x = some o) → VR F a v → VR F b u → VR F d z → (∀ v F' s', Ext F s F' s' → VR F' r v → Q v s') → wpAny (model c.prog c.w) c.A (t [v, u, z]) Q E s) : Op c t [a, b, d] r := by
  intro F s vs Q E hs hb hv hQ
  unfold VRs VRs VRs VRs at hv
  obtain ⟨v, _, rfl, hv, u, _, rfl, hu, z, _, rfl, hz, rfl⟩ := hv
  exact h F s v u z Q E hs hb hv hu hz hQ
theorem Op.ints {t : List Value → Sem Value} {a b : Int} {r : SV}
    (h : ∀ s (x y : Tok) (Q : Value → Shared → Prop) E, (∀ v tk, (∀ F, VR F r v) → Q v { s with toks := tk }) → wpAny (model c.prog c.w) c.A (t [.int a x, .int b y]) Q E s) : Op c t [.int a, .int b] r :=
  Op.two fun F s v u Q E hs hb hv hu hQ => by
    unfold VR at hv hu
    obtain ⟨x, rfl⟩ := hv
    obtain ⟨y, rfl⟩ := hu
    exact h s x y Q E fun v tk hv => hQ v F _ (Ext.tok hs tk) (hv F)
theorem VR.int {F : PM} {n : Int} {t : Tok} : VR F (.int n) (.int n t) := by unfold VR; exact ⟨t, rfl⟩
theorem VR.str {F : PM} {n : Str} {t : Tok} : VR F (.str n) (.str n t) := by unfold VR; exact ⟨t, rfl⟩
theorem VR.flt {F : PM} {n : UInt64} {t : Tok} : VR F (.flt n) (.float n t) := by unfold VR; exact ⟨t, rfl⟩
theorem VR.bool {F : PM} {n : Bool} : VR F (.bool n) (.bool n) := by unfold VR; rfl
theorem Op.add {a b : Int} : Op c (fun vs => binaryOp .Add (vs.getD 0 .none) (vs.getD 1 .none)) [.int a, .int b] (.int (a + b)) := Op.ints fun s x y Q E h => add_int (h _ _ fun _ => VR.int)
theorem Op.sub {a b : Int} : Op c (fun vs => binaryOp .Sub (vs.getD 0 .none) (vs.getD 1 .none)) [.int a, .int b] (.int (a - b)) := Op.ints fun s x y Q E h => sub_int (h _ _ fun _ => VR.int)
theorem Op.mul {a b : Int} (hm : IntMulOk a b) : Op c (fun vs => binaryOp .Mult (vs.getD 0 .none) (vs.getD 1 .none)) [.int a, .int b] (.int (a * b)) := Op.ints fun s x y Q E h => mul_int (h _ _ fun _ => VR.int) hm
theorem Op.fdiv {a b : Int} (hb : b ≠ 0) (hp : Builtin.divisionGoesByPylong a b = false) : Op c (fun vs => binaryOp .FloorDiv (vs.getD 0 .none) (vs.getD 1 .none)) [.int a, .int b] (.int (a.fdiv b)) := Op.ints fun s x y Q E h => floordiv_int hb (h _ _ fun _ => VR.int) (.inl hp)
theorem Op.fmod {a b : Int} (hb : b ≠ 0) : Op c (fun vs => binaryOp .Mod (vs.getD 0 .none) (vs.getD 1 .none)) [.int a, .int b] (.int (a.fmod b)) := Op.ints fun s x y Q E h => mod_int' hb (h _ _ fun _ => VR.int)
theorem Op.pow {a b : Int} (hn : 0 ≤ b) (hn2 : b ≤ 1000000) (ha : a.natAbs < 2 ^ 64) : Op c (fun vs => binaryOp .Pow (vs.getD 0 .none) (vs.getD 1 .none)) [.int a, .int b] (.int (a ^ b.toNat)) := Op.ints fun s x y Q E h => PyProof.Rows.pow_int_small hn hn2 ha (h _ _ fun _ => VR.int)
theorem Op.eq {a b : Int} : Op c (fun vs => compareOp .Eq (vs.getD 0 .none) (vs.getD 1 .none)) [.int a, .int b] (.bool (a == b)) := Op.ints fun s x y Q E h => eq_int (h _ s.toks fun _ => VR.bool)
theorem Op.lt {a b : Int} : Op c (fun vs => compareOp .Lt (vs.getD 0 .none) (vs.getD 1 .none)) [.int a, .int b] (.bool (decide (a < b))) := Op.ints fun s x y Q E h => wpAny_lt_int (h _ s.toks fun _ => VR.bool)
theorem Op.addStr {a b : Str} (hl : a.length + b.length ≤ sizeLine) : Op c (fun vs => binaryOp .Add (vs.getD 0 .none) (vs.getD 1 .none)) [.str a, .str b] (.str (a ++ b)) :=
  Op.two fun F s v u Q E hs hb hv hu hQ => by
    unfold VR at hv hu
    obtain ⟨x, rfl⟩ := hv
    obtain ⟨y, rfl⟩ := hu
    exact add_str (fun t' tk => hQ _ F _ (Ext.tok hs tk) VR.str) hl
theorem Op.eqStr {a b : Str} : Op c (fun vs => compareOp .Eq (vs.getD 0 .none) (vs.getD 1 .none)) [.str a, .str b] (.bool (a == b)) :=
  Op.two fun F s v u Q E hs hb hv hu hQ => by
    unfold VR at hv hu
    obtain ⟨x, rfl⟩ := hv
    obtain ⟨y, rfl⟩ := hu
    exact eq_str (hQ _ F _ (Ext.refl hs) VR.bool)
theorem Op.chr {i : Int} (h0 : 0 ≤ i) (h1 : i ≤ 1114111) : Op c (fun vs => PySem.call (.builtin "chr") vs) [.int i] (.str { cps := #[i.toNat] }) :=
  Op.one fun F s v Q E hs hb hv hQ => by
    unfold VR at hv
    obtain ⟨x, rfl⟩ := hv
    exact chr_of_range h0 h1 (hQ _ F _ (Ext.tok hs _) VR.str)
theorem Op.ord {x : Nat} : Op c (fun vs => PySem.call (.builtin "ord") vs) [.str { cps := #[x] }] (.int x) :=
  Op.one fun F s v Q E hs hb hv hQ => by
    unfold VR at hv
    obtain ⟨x, rfl⟩ := hv
    exact P.ord_of_char (hQ _ F _ (Ext.tok hs _) VR.int)
end
end Mine
end
section
open PySem PySem.W PyProof.Rows
namespace Mine
section
variable {c : Cx} {ρ : List (Str × SV)}
theorem Ev.glob {x : Str} {p : Pos} {a : Addr} (hk : c.env.scope.kind = .function) (hx : c.env.kindOf x = some .globalImplicit) (hg : c.env.globals = mainGlobals) (e : nsIn c.K mainGlobals x = some (some (.ref a)))
    (hd : (x == ("__debug__" : Str)) = false) : Ev c ρ (.Name x p) (.ref a) := .mk fun F s Q E h hQ => by
  refine Calls.Name_function_global hk hx ?_ hd
  unfold loadGlobal
  rw [hg]
  exact wpAny_bind ((looks_nsIn h.inK e).here (wpAny_pure (hQ _ F _ (Ext.refl h.sub) (by unfold VR; rfl))))
theorem Ev.bltin {x : Str} {p : Pos} {id : String} (hk : c.env.scope.kind = .function) (hx : c.env.kindOf x = some .globalImplicit) (hg : c.env.globals = mainGlobals) (hb : c.env.builtins = builtinsNs) (e : nsIn c.K mainGlobals x = some none)
    (e' : nsIn c.K builtinsNs x = some (some (.builtin id))) (hd : (x == ("__debug__" : Str)) = false) : Ev c ρ (.Name x p) (.bi id) := .mk fun F s Q E h hQ => by
  refine Calls.Name_function_global hk hx ?_ hd
  unfold loadGlobal
  rw [hg, hb]
  refine wpAny_bind ((looks_nsIn h.inK e).here ?_)
  exact wpAny_bind ((looks_nsIn h.inK e').here (wpAny_pure (hQ _ F _ (Ext.refl h.sub) (by unfold VR; rfl))))
theorem Ev.tyin {x : Str} {p : Pos} {t : String} (hk : c.env.scope.kind = .function) (hx : c.env.kindOf x = some .globalImplicit) (hg : c.env.globals = mainGlobals) (hb : c.env.builtins = builtinsNs) (e : nsIn c.K mainGlobals x = some none)
    (e' : nsIn c.K builtinsNs x = some (some (.type t))) (hd : (x == ("__debug__" : Str)) = false) : Ev c ρ (.Name x p) (.ty t) := .mk fun F s Q E h hQ => by
  refine Calls.Name_function_global hk hx ?_ hd
  unfold loadGlobal
  rw [hg, hb]
  refine wpAny_bind ((looks_nsIn h.inK e).here ?_)
  exact wpAny_bind ((looks_nsIn h.inK e').here (wpAny_pure (hQ _ F _ (Ext.refl h.sub) (by unfold VR; rfl))))
theorem evalArgs_of {c : Cx} {f : Value} {es : List Expr} {pos : Pos} {Q : Args → Shared → Prop} {E : Value → Shared → Prop} {s : Shared} {M : Model}
    (hst : ∀ env : Env, (backTo pos (starEach es env)).any (·.1) = false)
    (h : wpAny M c.A (spliced (backTo pos (starEach es c.env))) (fun vs s' => Q ⟨vs, []⟩ s') E s) : wpAny M c.A (evalArgs f true (backTo pos (starEach es c.env)) []) Q E s := by
  have h0 := hst c.env
  revert h h0
  generalize backTo pos (starEach es c.env) = l
  intro h h0
  match l, h0, h with
  | [], _, h =>
    unfold evalArgs
    show wpAny M c.A (spliced [] >>= _) Q E s
    refine wpAny_bind (wpAny_mono h (fun vs s' h' => ?_) fun _ _ x => x)
    refine wpAny_bind (wpAny_pure ?_)
    exact wpAny_holding (wpAny_bind (wpAny_pure (wpAny_bind (wpAny_pure (wpAny_pure h')))))
  | (false, x) :: rest, _, h => exact Calls.evalArgs_plain h
  | (true, x) :: rest, h0, _ => simp at h0
theorem callWith_machine {M : Model} {A : Around} {E : Value → Shared → Prop} {s : Shared} {pos : Pos} {f : Value} {first : List Value} {args : List (Bool × Sem Value)} {Q : Value → Shared → Prop} (hf : keeperOf f = pure .machine) (hplain : args.any (·.1) = false)
    (h : wpAny M A (evalArgs f true args []) (fun a s₁ => wpAny M A (PySem.call f (first ++ a.pos) a.kw) Q E s₁) E s) :
    wpAny M A (callWith pos f first args []) Q E s := by
  unfold callWith
  refine wpAny_bind (wpAny_holding (wpAny_mono h (fun a s₁ h₁ => wpAny_bind (wpAny_standAt ?_)) fun _ _ x => x))
  simp only [hplain, List.any_nil, Bool.or_false, hf]
  refine wpAny_bind (wpAny_pure ?_)
  exact wpAny_bind (wpAny_mono h₁ (fun r s₂ hr => wpAny_bind (wpAny_holding (wpAny_point (wpAny_pure hr)))) fun _ _ x => x)
theorem Ev.callM {x : Str} {p pos : Pos} {es : List Expr} {fv : SV} {f : Value} {svs : List SV} {sv : SV} (hf : Ev c ρ (.Name x p) fv) (hfv : ∀ F v, VR F fv v → v = f) (hm : keeperOf f = pure .machine) (he : Evs c ρ es svs)
    (ho : Op c (fun vs => PySem.call f vs) svs sv) (hst : ∀ env : Env, (backTo pos (starEach es env)).any (·.1) = false := by exact fun _ => plain_any rfl) : Ev c ρ (.Call (.Name x p) es [] pos) sv := .mk fun F s Q E h hQ => by
  refine wpAny_Call_Name_kw (hf.run F s _ E h fun v F₁ s₁ x₁ hv => ?_)
  cases hfv _ _ hv
  refine callWith_machine hm (hst _) (evalArgs_of hst (he.run F₁ s₁ _ E pos (h.ext x₁) fun vs F₂ s₂ x₂ hvs => ?_))
  exact ho F₂ s₂ vs Q E x₂.inn ((h.ext x₁).ext x₂).base hvs fun r F₃ s₃ x₃ hr => hQ r F₃ s₃ ((x₁.trans x₂).trans x₃) hr
theorem Ev.callB {x : Str} {p pos : Pos} {es : List Expr} {id : String} {svs : List SV} {sv : SV} (hf : Ev c ρ (.Name x p) (.bi id)) (he : Evs c ρ es svs)
    (ho : Op c (fun vs => PySem.call (.builtin id) vs) svs sv) (hst : ∀ env : Env, (backTo pos (starEach es env)).any (·.1) = false := by exact fun _ => plain_any rfl) : Ev c ρ (.Call (.Name x p) es [] pos) sv :=
  Ev.callM hf (fun F v h => by unfold VR at h; exact h) rfl he ho hst
theorem Ev.callT {x : Str} {p pos : Pos} {es : List Expr} {t : String} {svs : List SV} {sv : SV} (hf : Ev c ρ (.Name x p) (.ty t)) (he : Evs c ρ es svs)
    (ho : Op c (fun vs => PySem.call (.type t) vs) svs sv) (hst : ∀ env : Env, (backTo pos (starEach es env)).any (·.1) = false := by exact fun _ => plain_any rfl) : Ev c ρ (.Call (.Name x p) es [] pos) sv :=
  Ev.callM hf (fun F v h => by unfold VR at h; exact h) rfl he ho hst
noncomputable def PureFn (K : Frag) (prog : Program) (w : World) (d : Nat) (f : Addr) (args : List SV) (r : SV) : Prop :=
  ∀ A F s vals (Q : Value → Shared → Prop) E, Room A d → Sub F s.heap.get? → (∀ a o, K.lookup a = some o → F a = some o) → VRs F args vals → (∀ v F' s', Ext F s F' s' → VR F' r v → Q v s') →
    wpAny (model prog w) A (PySem.call (.ref f) vals) Q E s
theorem Ev.callF {x : Str} {p pos : Pos} {es : List Expr} {a : Addr} {o : Obj} {fd : FuncData} {d : Nat} {svs : List SV} {sv : SV} (hf : Ev c ρ (.Name x p) (.ref a)) (he : Evs c ρ es svs)
    (hr : Room c.A d) (hK : c.K.lookup a = some o) (hd : o.data = .func fd) (ho : PureFn c.K c.prog c.w d a svs sv) (hst : ∀ env : Env, (backTo pos (starEach es env)).any (·.1) = false := by exact fun _ => plain_any rfl) : Ev c ρ (.Call (.Name x p) es [] pos) sv := .mk fun F s Q E h hQ => by
  refine wpAny_Call_Name_kw (hf.run F s _ E h fun v F₁ s₁ x₁ hv => ?_)
  unfold VR at hv
  subst hv
  refine Calls.callWith_function (o := o) (fd := fd) (evalArgs_of hst (he.run F₁ s₁ _ E pos (h.ext x₁) fun vs F₂ s₂ x₂ hvs => ?_))
  have h₂ := (h.ext x₁).ext x₂
  exact ⟨⟨h₂.inK _ _ hK, hd⟩, ho c.A F₂ s₂ vs Q E hr x₂.inn h₂.base hvs fun r F₃ s₃ x₃ hr => hQ r F₃ s₃ ((x₁.trans x₂).trans x₃) hr⟩
end
noncomputable def Vol (c : Cx) (a : Addr) : Prop := a = c.env.locals ∨ ∃ n ∈ c.own, c.env.cells.lookup n = some a
noncomputable def Rel (c : Cx) (a : Addr) : Prop := a = c.env.locals ∨ ∃ n, c.env.cells.lookup n = some a
theorem Vol.rel {c : Cx} {a : Addr} (h : Vol c a) : Rel c a := h.imp id fun ⟨n, _, e⟩ => ⟨n, e⟩
structure ExtV (V : Addr → Prop) (F : PM) (s : Shared) (F' : PM) (s' : Shared) : Prop where
  sub : Sub F F'
  inn : Sub F' s'.heap.get?
  keep : ∀ a o, ¬ V a → s.heap.get? a = some o → s'.heap.get? a = some o
  new : ∀ a o, F' a = some o → F a = some o ∨ s.heap.get? a = none ∨ V a
  rest : ∃ h tk, s' = { s with heap := h, toks := tk }
theorem Ext.v {V : Addr → Prop} {F F' : PM} {s s' : Shared} (x : Ext F s F' s') : ExtV V F s F' s' := ⟨x.sub, x.inn, fun a o _ e => x.keep a o e, fun a o e => (x.new a o e).imp id .inl, x.rest⟩
theorem ExtV.trans {V : Addr → Prop} {F F' F'' : PM} {s s' s'' : Shared} (x : ExtV V F s F' s') (y : ExtV V F' s' F'' s'') : ExtV V F s F'' s'' := by
  refine ⟨x.sub.trans y.sub, y.inn, fun a o n e => y.keep a o n (x.keep a o n e), fun a o e => ?_, ?_⟩
  · rcases y.new a o e with q | q | q
    · exact x.new a o q
    · cases e' : s.heap.get? a with
      | none => exact .inr (.inl rfl)
      | some o' =>
        refine .inr (.inr (Classical.byContradiction fun hv => ?_))
        rw [x.keep a o' hv e'] at q; cases q
    · exact .inr (.inr q)
  · obtain ⟨h, tk, rfl⟩ := x.rest
    obtain ⟨h', tk', rfl⟩ := y.rest
    exact ⟨h', tk', rfl⟩
theorem ExtV.mono {V W : Addr → Prop} {F F' : PM} {s s' : Shared} (x : ExtV V F s F' s') (h : ∀ a, V a → W a) : ExtV W F s F' s' :=
  ⟨x.sub, x.inn, fun a o n e => x.keep a o (fun q => n (h a q)) e, fun a o e => (x.new a o e).imp id (Or.imp id (h a)), x.rest⟩
theorem ExtV.drop {V W : Addr → Prop} {F F' : PM} {s s' : Shared} (x : ExtV V F s F' s') (h : ∀ a, V a → s.heap.get? a = none ∨ W a) : ExtV W F s F' s' := by
  refine ⟨x.sub, x.inn, fun a o n e => x.keep a o (fun q => ?_) e, fun a o e => ?_, x.rest⟩
  · rcases h a q with z | z
    · rw [z] at e; cases e
    · exact n z
  · rcases x.new a o e with q | q | q
    · exact .inl q
    · exact .inr (.inl q)
    · rcases h a q with z | z
      · exact .inr (.inl z)
      · exact .inr (.inr z)
theorem ExtV.ext {V : Addr → Prop} {F F' : PM} {s s' : Shared} (x : ExtV V F s F' s') (h : ∀ a, V a → s.heap.get? a = none) : Ext F s F' s' := by
  refine ⟨x.sub, x.inn, fun a o e => x.keep a o (fun q => ?_) e, fun a o e => ?_, x.rest⟩
  · rw [h a q] at e; cases e
  · rcases x.new a o e with q | q | q
    · exact .inl q
    · exact .inr q
    · exact .inr (h a q)
theorem Has.extV {V : Addr → Prop} {env : Env} {F F' : PM} {s s' : Shared} {x : Str} {sv : SV} (h : Has env F s x sv) (e : ExtV V F s F' s') (hl : ¬ V env.locals) (hc : ∀ n a, env.cells.lookup n = some a → ¬ V a) : Has env F' s' x sv := by
  rcases h with ⟨k, m, v, hn, hm, hv⟩ | ⟨k, kd, c, v, hcc, hx, hv⟩
  · exact .inl ⟨k, m, v, hn.at' (fun o q => e.keep _ _ hl q), hm, hv.mono e.sub⟩
  · obtain ⟨o, ho, hd⟩ := hx
    exact .inr ⟨k, kd, c, v, hcc, ⟨o, e.keep _ _ (hc _ _ hcc) ho, hd⟩, hv.mono e.sub⟩
structure Fm (c : Cx) (ρ : List (Str × SV)) (F : PM) (s : Shared) : Prop where
  st : St c.K c.env ρ F s
  loc : ∃ m, s.heap.Ns c.env.locals m
  vol : ∀ a, Vol c a → F a = none
  apart : ∀ n ∈ c.own, ∀ m a, c.env.cells.lookup n = some a → c.env.cells.lookup m = some a → m = n
  lit : ∀ n a, c.env.cells.lookup n = some a → ∃ o, s.heap.get? a = some o
  cell : ∀ n ∈ c.own, c.env.kindOf n = some .cell ∧ (n == ("__classdict__" : Str)) = false ∧ ∃ a v, c.env.cells.lookup n = some a ∧ s.heap.IsCell a v
theorem Fm.extV {V : Addr → Prop} {c : Cx} {ρ : List (Str × SV)} {F F' : PM} {s s' : Shared} (h : Fm c ρ F s) (e : ExtV V F s F' s') (hv : ∀ a, V a → ¬ Rel c a) : Fm c ρ F' s' := by
  have hl : ¬ V c.env.locals := fun q => hv _ q (.inl rfl)
  have hc : ∀ n a, c.env.cells.lookup n = some a → ¬ V a := fun n a e q => hv _ q (.inr ⟨n, e⟩)
  refine ⟨⟨e.inn, fun a o q => e.sub _ _ (h.st.base a o q), fun x sv q => (h.st.vars x sv q).extV e hl hc⟩, ?_, fun a ha => ?_, h.apart, fun n a hl => ?_, fun n hn => ?_⟩
  · obtain ⟨m, hm⟩ := h.loc
    exact ⟨m, hm.at' fun o q => e.keep _ _ hl q⟩
  · cases q : F' a with
    | none => rfl
    | some o =>
      rcases e.new a o q with q' | q' | q'
      · rw [h.vol a ha] at q'; cases q'
      · exfalso
        rcases ha with rfl | ⟨n, hk, hl⟩
        · obtain ⟨m, o', _, _, ho, _⟩ := h.loc
          rw [ho] at q'; cases q'
        · obtain ⟨_, _, a', v, hl', o', ho, _⟩ := h.cell n hk
          rw [hl] at hl'; cases hl'
          rw [ho] at q'; cases q'
      · exact absurd ha.rel (hv a q')
  · obtain ⟨o, ho⟩ := h.lit n a hl
    exact ⟨o, e.keep _ _ (hc n a hl) ho⟩
  · obtain ⟨h1, h2, a, v, hl, o, ho, hd⟩ := h.cell n hn
    exact ⟨h1, h2, a, v, hl, o, e.keep _ _ (hc _ _ hl) ho, hd⟩
theorem Fm.ext {c : Cx} {ρ : List (Str × SV)} {F F' : PM} {s s' : Shared} (h : Fm c ρ F s) (e : Ext F s F' s') : Fm c ρ F' s' := h.extV (V := fun _ => False) e.v fun _ q => q.elim
theorem Fm.sub {c : Cx} {ρ ρ' : List (Str × SV)} {F : PM} {s : Shared} (h : Fm c ρ F s) (hρ : ∀ x sv, ρ'.lookup x = some sv → ρ.lookup x = some sv) : Fm c ρ' F s :=
  ⟨⟨h.st.sub, h.st.base, fun x sv q => h.st.vars x sv (hρ x sv q)⟩, h.loc, h.vol, h.apart, h.lit, h.cell⟩
theorem Fm.live {c : Cx} {ρ : List (Str × SV)} {F : PM} {s : Shared} (h : Fm c ρ F s) {a : Addr} (ha : Rel c a) : ∃ o, s.heap.get? a = some o := by
  rcases ha with rfl | ⟨n, hn⟩
  · obtain ⟨m, o, _, _, ho, _⟩ := h.loc
    exact ⟨o, ho⟩
  · exact h.lit n a hn
theorem Fm.stored {c : Cx} {ρ : List (Str × SV)} {F : PM} {s : Shared} {x : Str} {sv : SV} {a : Addr} {h' : Heap} {tk : Nat} (h : Fm c ρ F s) (ha : Vol c a) (hs : Heap.SameBut a s.heap h')
    (hx : Has c.env F { s with heap := h', toks := tk } x sv) (hl : ∃ m, h'.Ns c.env.locals m) (hal : ∃ o, h'.get? a = some o) (hold : ∀ y sy, y ≠ x → Has c.env F s y sy → Has c.env F { s with heap := h', toks := tk } y sy)
    (hcell : ∀ n ∈ c.own, ∃ a v, c.env.cells.lookup n = some a ∧ h'.IsCell a v) : Fm c ((x, sv) :: ρ) F { s with heap := h', toks := tk } ∧ ExtV (Vol c) F s F { s with heap := h', toks := tk } := by
  have hF : ∀ b o, F b = some o → h'.get? b = some o := fun b o e => (hs.2 b (by rintro rfl; rw [h.vol _ ha] at e; cases e)).trans (h.st.sub b o e)
  refine ⟨⟨⟨hF, h.st.base, fun y sy hy => ?_⟩, hl, h.vol, h.apart, fun n b hb => ?_, fun n hn => ⟨(h.cell n hn).1, (h.cell n hn).2.1, hcell n hn⟩⟩, ?_⟩
  · rw [List.lookup_cons] at hy
    cases q : y == x with
    | true =>
      rw [q] at hy; cases hy
      have := beq_iff_eq.mp q; subst this
      exact hx
    | false =>
      rw [q] at hy
      exact hold y sy (fun e => by subst e; simp at q) (h.st.vars y sy hy)
  · by_cases q : b = a
    · subst q; exact hal
    · obtain ⟨o, ho⟩ := h.lit n b hb
      exact ⟨o, (hs.2 b q).trans ho⟩
  · exact ⟨Sub.refl _, hF, fun b o hV e => (hs.2 b (fun q => hV (q ▸ ha))).trans e, fun b o e => .inl e, ⟨_, _, rfl⟩⟩
theorem Fm.store {c : Cx} {ρ : List (Str × SV)} {F : PM} {s : Shared} {x : Str} {sv : SV} {v : Value} {Q : Unit → Shared → Prop} {E : Value → Shared → Prop} (h : Fm c ρ F s) (hk : c.env.scope.kind = .function) (hx : c.env.kindOf x = some .local) (hv : VR F sv v)
    (hQ : ∀ s', Fm c ((x, sv) :: ρ) F s' → ExtV (Vol c) F s F s' → Q () s') : wpAny (model c.prog c.w) c.A (storeName c.env x v) Q E s := by
  obtain ⟨m, hm⟩ := h.loc
  refine wpAny_storeName_local hx hm (fun h' hn hs => ?_) (by rw [hk]; rfl)
  have hC : ∀ a w, s.heap.IsCell a w → h'.IsCell a w := fun a w hc => by
    refine hc.sameBut hs ?_
    rintro rfl
    obtain ⟨o, ho, hd⟩ := hc
    obtain ⟨o', es, ep, ho', hd', _⟩ := hm
    rw [ho] at ho'; cases ho'; rw [hd] at hd'; cases hd'
  obtain ⟨z1, z2⟩ := h.stored (x := x) (sv := sv) (.inl rfl) hs (.inl ⟨hx, _, v, hn, if_pos rfl, hv⟩) ⟨_, hn⟩ (by obtain ⟨o, _, _, ho, _⟩ := hn; exact ⟨o, ho⟩) (fun y sy hne hy => by
    rcases hy with ⟨k, m', v', hn', hm', hv'⟩ | ⟨k, kd, a, v', hc, hx', hv'⟩
    · refine .inl ⟨k, _, v', hn, ?_, hv'⟩
      rw [if_neg hne]
      have e1 : ∀ z, m z = m' z := fun z => by
        obtain ⟨o, es, ep, ho, hd, _, hz⟩ := hm
        obtain ⟨o', es', ep', ho', hd', _, hz'⟩ := hn'
        rw [ho] at ho'; cases ho'; rw [hd] at hd'; cases hd'
        rw [← hz, ← hz']
      rw [e1]; exact hm'
    · exact .inr ⟨k, kd, a, v', hc, hC _ _ hx', hv'⟩) (fun n hn' => by
      obtain ⟨h1, h2, a, w, hl, hw⟩ := h.cell n hn'
      exact ⟨a, w, hl, hC _ _ hw⟩)
  exact hQ _ z1 z2
theorem Fm.storeC {c : Cx} {ρ : List (Str × SV)} {F : PM} {s : Shared} {x : Str} {sv : SV} {v : Value} {Q : Unit → Shared → Prop} {E : Value → Shared → Prop} (h : Fm c ρ F s) (hk : c.env.scope.kind = .function) (hx : x ∈ c.own) (hv : VR F sv v)
    (hQ : ∀ s', Fm c ((x, sv) :: ρ) F s' → ExtV (Vol c) F s F s' → Q () s') : wpAny (model c.prog c.w) c.A (storeName c.env x v) Q E s := by
  obtain ⟨hk', hd, a, v₀, hl, hc⟩ := h.cell x hx
  refine wpAny_storeName_cell hk hk' hl hc fun h' hc' hs => ?_
  have hC : ∀ y b w, y ≠ x → c.env.cells.lookup y = some b → s.heap.IsCell b w → h'.IsCell b w := fun y b w hne hy hb =>
    hb.sameBut hs fun e => hne (h.apart x hx y a hl (by rw [← e]; exact hy))
  obtain ⟨m, hm⟩ := h.loc
  have hL : c.env.locals ≠ a := by
    rintro rfl
    obtain ⟨o, ho, hd⟩ := hc
    obtain ⟨o', es, ep, ho', hd', _⟩ := hm
    rw [ho] at ho'; cases ho'; rw [hd] at hd'; cases hd'
  obtain ⟨z1, z2⟩ := h.stored (x := x) (sv := sv) (.inr ⟨x, hx, hl⟩) hs (.inr ⟨.inl hk', hd, a, v, hl, hc', hv⟩) ⟨_, hm.sameBut hs hL⟩ (by obtain ⟨o, ho, _⟩ := hc'; exact ⟨o, ho⟩) (fun y sy hne hy => by
    rcases hy with ⟨k, m', v', hn', hm', hv'⟩ | ⟨k, kd, b', v', hy, hx', hv'⟩
    · exact .inl ⟨k, m', v', hn'.sameBut hs hL, hm', hv'⟩
    · exact .inr ⟨k, kd, b', v', hy, hC y b' _ hne hy hx', hv'⟩) (fun n hn => by
      obtain ⟨_, _, b, w, hb, hw⟩ := h.cell n hn
      by_cases hne : n = x
      · subst hne
        rw [hb] at hl; cases hl
        exact ⟨_, _, hb, hc'⟩
      · exact ⟨b, w, hb, hC n b w hne hb hw⟩)
  exact hQ _ z1 z2
structure Held (V : Addr → Prop) (P : PM → Shared → Prop) : Prop where
  dry : ∀ F s, P F s → ∀ a, V a → F a = none ∧ ∃ o, s.heap.get? a = some o
  keep : ∀ W F s F' s', (∀ a, W a → F a = none → ¬ V a) → (∀ a, W a → F a = none) → P F s → ExtV W F s F' s' → P F' s'
structure Side where
  U : Addr → Prop
  P : PM → Shared → Prop
  held : Held U P
noncomputable def Side.nil : Side := ⟨fun _ => False, fun _ _ => True, ⟨fun _ _ _ _ q => q.elim, fun _ _ _ _ _ _ _ _ _ => trivial⟩⟩
structure Runs (c : Cx) (S : Side) (ρ : List (Str × SV)) (b : List Stmt) (Φ : Flow → PM → Shared → Prop) : Prop where
  run : ∀ F s (Q : Flow → Shared → Prop) E, Fm c ρ F s → S.P F s → (∀ a, S.U a → ¬ Rel c a) → (∀ fl F' s', ExtV (fun a => Vol c a ∨ S.U a) F s F' s' → Φ fl F' s' → Q fl s') → wpAny (model c.prog c.w) c.A (execs b c.env) Q E s
noncomputable def Ret (r : SV) : Flow → PM → Shared → Prop := fun fl F s => ∃ v, fl = .ret v ∧ VR F r v
noncomputable def Nxt (c : Cx) (S : Side) (ρ : List (Str × SV)) : Flow → PM → Shared → Prop := fun fl F s => fl = .next ∧ Fm c ρ F s ∧ S.P F s
theorem Side.ext {S : Side} {F F' : PM} {s s' : Shared} (h : S.P F s) (e : Ext F s F' s') : S.P F' s' := S.held.keep (fun _ => False) F s F' s' (fun _ q => q.elim) (fun _ q => q.elim) h e.v
theorem Side.vol {S : Side} {c : Cx} {ρ : List (Str × SV)} {F F' : PM} {s s' : Shared} (h : S.P F s) (hU : ∀ a, S.U a → ¬ Rel c a) (hf : Fm c ρ F s) (e : ExtV (Vol c) F s F' s') : S.P F' s' := S.held.keep (Vol c) F s F' s' (fun a q _ hu => hU a hu q.rel) hf.vol h e
section
variable {c : Cx} {S : Side} {ρ : List (Str × SV)}
theorem Runs.ret {e : Expr} {p : Pos} {rest : List Stmt} {r : SV} (he : Ev c ρ e r) : Runs c S ρ (.Return (some e) p :: rest) (Ret r) := .mk fun F s Q E h hS hU hQ =>
  wpAny_execs_cons (wpAny_Return_some (he.run F s _ E h.st fun v F' s' x hv => hQ (.ret v) F' s' x.v ⟨v, rfl, hv⟩))
theorem Runs.assign {x : Str} {px p : Pos} {e : Expr} {rest : List Stmt} {sv : SV} {Φ : Flow → PM → Shared → Prop} (he : Ev c ρ e sv) (hk : c.env.scope.kind = .function) (hx : c.env.kindOf x = some .local) (hr : Runs c S ((x, sv) :: ρ) rest Φ)
    (hs : swapsWith e (some (.Name x px)) p.line c.env = pure false) : Runs c S ρ (.Assign [.Name x px] e p :: rest) Φ := .mk fun F s Q E h hS hU hQ =>
  wpAny_execs_cons (wpAny_Assign_Name (he.run F s _ E h.st fun v F₁ s₁ x₁ hv => (h.ext x₁).store hk hx hv fun s₂ h₂ x₂ =>
    hr.run F₁ s₂ Q E h₂ (Side.vol (Side.ext hS x₁) hU (h.ext x₁) x₂) hU fun r F₃ s₃ x₃ hr => hQ r F₃ s₃ ((x₁.v.trans (x₂.mono fun _ q => .inl q)).trans x₃) hr) hs)
theorem Runs.assignC {x : Str} {px p : Pos} {e : Expr} {rest : List Stmt} {sv : SV} {Φ : Flow → PM → Shared → Prop} (he : Ev c ρ e sv) (hk : c.env.scope.kind = .function) (hx : x ∈ c.own) (hr : Runs c S ((x, sv) :: ρ) rest Φ)
    (hs : swapsWith e (some (.Name x px)) p.line c.env = pure false) : Runs c S ρ (.Assign [.Name x px] e p :: rest) Φ := .mk fun F s Q E h hS hU hQ =>
  wpAny_execs_cons (wpAny_Assign_Name (he.run F s _ E h.st fun v F₁ s₁ x₁ hv => (h.ext x₁).storeC hk hx hv fun s₂ h₂ x₂ =>
    hr.run F₁ s₂ Q E h₂ (Side.vol (Side.ext hS x₁) hU (h.ext x₁) x₂) hU fun r F₃ s₃ x₃ hr => hQ r F₃ s₃ ((x₁.v.trans (x₂.mono fun _ q => .inl q)).trans x₃) hr) hs)
theorem Runs.nil {Φ : Flow → PM → Shared → Prop} (h : ∀ F s, Fm c ρ F s → S.P F s → Φ .next F s) : Runs c S ρ [] Φ := .mk fun F s Q E hf hS hU hQ => by
  rw [show execs ([] : List Stmt) c.env = pure .next from rfl]
  exact wpAny_pure (hQ .next F s (Ext.refl hf.st.sub).v (h F s hf hS))
theorem Runs.nxt : Runs c S ρ [] (Nxt c S ρ) := Runs.nil fun _ _ hf hS => ⟨rfl, hf, hS⟩
theorem execs_append (l rest : List Stmt) (env : Env) : execs (l ++ rest) env = (do match ← execs l env with | .next => execs rest env | f => pure f) := by
  induction l with
  | nil => rfl
  | cons st l ih =>
    rw [List.cons_append, execs_cons, execs_cons, ih, bind_assoc]
    refine bind_congr fun f => ?_
    cases f <;> rfl
theorem Runs.ite {t : Expr} {b o rest : List Stmt} {p : Pos} {d : Bool} {Φ : Flow → PM → Shared → Prop} (ht : EvT c ρ t d) (hb : d = true → Runs c S ρ (b ++ rest) Φ) (ho : d = false → Runs c S ρ (o ++ rest) Φ) : Runs c S ρ (.If t b o p :: rest) Φ := .mk fun F s Q E h hS hU hQ Γ q hΓ => by
  rw [execs_cons, exec_If, bind_assoc, Sem.wp_bind', Sem.wp_cmd_standAt, bind_assoc, Sem.wp_bind']
  have z : wpAny (model c.prog c.w) c.A (isTrue t c.env (eval t c.env)) (fun b' s' => wpAny (model c.prog c.w) c.A (execs ((if b' then b else o) ++ rest) c.env) Q E s') E s := ht.run F s _ E h.st fun F₁ s₁ x₁ => by
    cases d with
    | true => exact (hb rfl).run F₁ s₁ Q E (h.ext x₁) (Side.ext hS x₁) hU fun v F' s' y hv => hQ v F' s' (x₁.v.trans y) hv
    | false => exact (ho rfl).run F₁ s₁ Q E (h.ext x₁) (Side.ext hS x₁) hU fun v F' s' y hv => hQ v F' s' (x₁.v.trans y) hv
  refine Sem.wp_mono _ Γ _ (fun b' p' s' h' => ?_) (fun _ _ _ h => h) _ _ (z Γ _ hΓ)
  have z := h' Γ p' hΓ
  cases b' with
  | true => rw [if_pos rfl, execs_append] at z; exact z
  | false => rw [if_neg (by decide), execs_append] at z; exact z
end
end Mine
end
section
open PySem PySem.W PyProof.Rows
namespace Mine
noncomputable def isStrB : Value → Bool
  | .str _ _ => true
  | _ => false
noncomputable def strNsIn (K : Frag) (a : Addr) : Bool := match K.lookup a with
  | some ⟨_, _, .dict es _, _⟩ => es.toList.all fun e => isStrB e.key
  | _ => false
theorem ns_of_strNs {K : Frag} {h : Heap} {a : Addr} (X : K.In h) (e : strNsIn K a = true) : ∃ m, h.Ns a m ∧ ∀ x r, nsIn K a x = some r → m x = r := by
  unfold strNsIn at e
  split at e
  · rename_i cl d es n sl ho
    refine ⟨_, ⟨_, es, n, X _ _ ho, rfl, fun y hy => ?_, fun _ => rfl⟩, fun x r hr => ?_⟩
    · have := List.all_eq_true.mp e y (Array.mem_toList_iff.mpr hy)
      cases hk : y.key with
      | str x t => exact ⟨x, t, rfl⟩
      | _ => rw [hk] at this; cases this
    · unfold nsIn at hr
      rw [ho] at hr
      dsimp only at hr
      unfold nsFind findBy
      rw [← Array.find?_toList]
      split at hr
      · rename_i en he; rw [he]; exact Option.some.inj hr
      · rename_i he
        rw [he]
        split at hr
        · cases hr
        · exact Option.some.inj hr
  · cases e
theorem noLimit_of {K : Frag} {h : Heap} (X : K.In h) (e : strNsIn K cStatics = true) (e' : nsIn K cStatics "sys.recursionlimit" = some none) : h.NoLimit := by
  obtain ⟨m, hm, hx⟩ := ns_of_strNs X e
  exact ⟨m, hm, hx _ _ e'⟩
theorem lookup_reverse {α β : Type} [BEq α] [LawfulBEq α] : ∀ {l : List (α × β)} (x : α), (l.map (·.1)).Nodup → l.reverse.lookup x = l.lookup x
  | [], _, _ => rfl
  | (k, v) :: r, x, h => by
    rw [List.map_cons, List.nodup_cons] at h
    rw [List.reverse_cons, List.lookup_append, lookup_reverse x h.2, List.lookup_cons]
    cases q : x == k with
    | false => simp [List.lookup_cons, q]
    | true =>
      have := beq_iff_eq.mp q
      subst this
      have : r.lookup x = none := by
        rw [List.lookup_eq_none_iff]
        intro p hp
        cases e : x == p.1 with
        | false => simpa using (beq_eq_false_iff_ne.mp e)
        | true => exact absurd (beq_iff_eq.mp e ▸ List.mem_map_of_mem (f := (·.1)) hp) h.1
      simp [this]
theorem zip_has {F : PM} : ∀ {names : List Str} {args : List SV} {vals : List Value} {x : Str} {sv : SV}, VRs F args vals → (names.zip args).lookup x = some sv → ∃ v, (names.zip vals).lookup x = some v ∧ VR F sv v
  | [], _, _, _, _, _, h => by simp at h
  | _ :: _, [], _, _, _, _, h => by simp at h
  | n :: names, a :: args, vals, x, sv, hv, h => by
    unfold VRs at hv
    obtain ⟨v, r, rfl, hv, hr⟩ := hv
    rw [List.zip_cons_cons, List.lookup_cons] at h ⊢
    cases q : x == n with
    | true => rw [q] at h; cases h; exact ⟨v, rfl, hv⟩
    | false => rw [q] at h; exact zip_has hr h
theorem zip_keys : ∀ (names : List Str) (vals : List Value), (names.map id).Nodup → ((names.zip vals).map (·.1)).Nodup
  | [], _, _ => List.nodup_nil
  | _ :: _, [], _ => List.nodup_nil
  | n :: names, v :: vals, h => by
    rw [List.map_cons, List.nodup_cons] at h
    rw [List.zip_cons_cons, List.map_cons, List.nodup_cons]
    refine ⟨fun hm => h.1 ?_, zip_keys names vals h.2⟩
    obtain ⟨p, hp, e⟩ := List.mem_map.mp hm
    rw [List.map_id]
    have := (List.of_mem_zip (a := p.1) (b := p.2) hp).1
    rw [e] at this; exact this
theorem PureFn.of_body {K : Frag} {prog : Program} {w : World} {d : Nat} {f : Addr} {o : Obj} {fd : FuncData} {body : List Stmt} {names : List Str} {args : List SV} {r : SV}
    (hK : K.lookup f = some o) (hd : o.data = .func fd) (hb : fd.body = .stmts body) (hcl : fd.closure = []) (hcode : codeIn K fd.code fd.qualname = true)
    (hs : strNsIn K cStatics = true) (hnl : nsIn K cStatics "sys.recursionlimit" = some Option.none)
    (hbind : ∀ F vals, VRs F args vals → bindArgs fd ⟨vals, []⟩ = pure (names.zip vals)) (hnd : (names.map id).Nodup)
    (hloc : ∀ x ∈ names, fd.scope.names.lookup x = some .local) (hcell : ∀ x ∈ fd.scope.names, x.2 ≠ .cell)
    (hco : fd.scope.isCoroutine = false) (hgen : fd.scope.isGenerator = false) (hk : fd.scope.kind = .function)
    (hrun : ∀ (A : Around) (L : Addr), Room (A.deeper (callEnv fd L f)) d → Runs ⟨K, prog, w, A.deeper (callEnv fd L f), callEnv fd L f, []⟩ .nil (names.zip args) body (Ret r)) : PureFn K prog w (d + 1) f args r := by
  intro A F s vals Q E hr hsub hbase hv hQ
  have X : K.In s.heap := fun a o e => hsub _ _ (hbase a o e)
  refine wpAny_call (codeAny_call_def (binds := names.zip vals) (by have := hr.depth; lia) (X _ _ hK) hd (noLimit_of X hs hnl) (codeRec_of X hcode) hb (BindsTo.of_eq (hbind F vals hv)) hcell
    (fun x hx => hloc _ (List.of_mem_zip (l₁ := names) (l₂ := vals) (a := x.1) (b := x.2) hx).1) (fun h₀ hns hk₀ => ?_) hco hgen hk)
  have hroom : Room (A.deeper (callEnv fd s.heap.objs.size f)) d := hr.deeper
  have hfree : s.heap.get? s.heap.objs.size = none := by
    cases e : s.heap.get? s.heap.objs.size with
    | none => rfl
    | some o => exact absurd (Heap.lt_size e) (Nat.lt_irrefl _)
  have hnoc : ∀ a, ¬ (∃ n ∈ ([] : List Str), (callEnv fd s.heap.objs.size f).cells.lookup n = some a) := by
    rintro a ⟨n, hn, _⟩
    cases hn
  refine wpAny_mono ((hrun A s.heap.objs.size hroom).run F { s with heap := h₀, toks := s.toks + (names.zip vals).length } (fun fl s' => match fl with | .ret v => Q v s' | _ => False) _ ⟨⟨fun a o e => hk₀ _ _ (hsub a o e), hbase, fun x sv hx => ?_⟩, ⟨_, hns⟩, fun a ha => ?_, fun n hn => absurd hn List.not_mem_nil, fun n a hl => ?_, fun n hn => absurd hn List.not_mem_nil⟩ trivial (fun _ q => q.elim) fun fl F' s' x hfl => ?_) (fun fl s' h => ?_) fun _ _ h => h
  · obtain ⟨v, hl, hv⟩ := zip_has hv hx
    refine .inl ⟨hloc x ?_, _, v, hns, ?_, hv⟩
    · exact (List.of_mem_zip (mem_of_lookup hl)).1
    · show (names.zip vals).reverse.lookup x = some v
      rw [lookup_reverse _ (zip_keys _ _ hnd)]; exact hl
  · rcases ha with rfl | ha
    · cases q : F s.heap.objs.size with
      | none => exact q
      | some o => have := hsub _ _ q; rw [hfree] at this; cases this
    · exact absurd ha (hnoc a)
  · have : (callEnv fd s.heap.objs.size f).cells = [] := by unfold callEnv newEnv; exact hcl
    rw [show (Cx.env ⟨K, prog, w, A.deeper (callEnv fd s.heap.objs.size f), callEnv fd s.heap.objs.size f, []⟩).cells = [] from this] at hl; cases hl
  · obtain ⟨v, rfl, hv'⟩ := hfl
    have y : ExtV (fun a => a = s.heap.objs.size) F s F' s' := by
      refine ⟨x.sub, x.inn, fun a o n e => x.keep a o ?_ (hk₀ _ _ e), fun a o e => ?_, ?_⟩
      · rintro ((rfl | ha) | ha)
        · exact n rfl
        · exact hnoc a ha
        · exact ha
      · rcases x.new a o e with q | q | ((q | q) | q)
        · exact .inl q
        · refine .inr (.inl ?_)
          cases e' : s.heap.get? a with
          | none => rfl
          | some o' => rw [show ({ s with heap := h₀, toks := s.toks + (names.zip vals).length } : Shared).heap.get? a = h₀.get? a from rfl, hk₀ _ _ e'] at q; cases q
        · exact .inr (.inr q)
        · exact absurd q (hnoc a)
        · exact q.elim
      · obtain ⟨h, tk, e⟩ := x.rest
        exact ⟨h, tk, e⟩
    exact hQ v F' s' (y.ext fun a q => by subst q; exact hfree) hv'
  · cases fl <;> first | exact h | exact h.elim
end Mine
end
section
open PySem PySem.W PyProof.Rows
namespace Mine
noncomputable def tgNames : Expr → List Str
  | .Name x _ => [x]
  | .Tuple es _ _ => es.filterMap fun e => match e with | .Name x _ => some x | _ => none
  | _ => []
structure Src {α : Type} (c : Cx) (it : Addr) (tg : Expr) (V : Addr → Prop) (xs : List α) (b : α → List (Str × SV)) (J : Nat → PM → Shared → Prop) : Prop where
  held : ∀ i, Held V (J i)
  turn : ∀ i x ρ F s (Q : Unit → Shared → Prop) E, xs[i]? = some x → J i F s → Fm c ρ F s → (∀ a, V a → ¬ Rel c a) →
    (∀ F' s', J (i + 1) F' s' → Fm c (b x ++ ρ) F' s' → ExtV (fun a => V a ∨ Vol c a) F s F' s' → Q () s') →
    wpAny (model c.prog c.w) c.A (pyNext (.ref it)) (fun r s₁ => match r with
      | none => False
      | some v => wpAny (model c.prog c.w) c.A (letOwnedTupleGo tg (.ref it) v) (fun _ s₂ => wpAny (model c.prog c.w) c.A (assign tg c.env v) Q E s₂) E s₁) E s
  done : ∀ F s (Q : Option Value → Shared → Prop) E, J xs.length F s → (∀ F' s', ExtV V F s F' s' → Q none s') → wpAny (model c.prog c.w) c.A (pyNext (.ref it)) Q E s
  self : ∀ i F s (Q : Value → Shared → Prop) E, J i F s → Q (.ref it) s → wpAny (model c.prog c.w) c.A (pyIter (.ref it)) Q E s
noncomputable def Source {α : Type} (c : Cx) (ρ : List (Str × SV)) (iter tg : Expr) (xs : List α) (b : α → List (Str × SV)) : Prop :=
  ∀ F s (Q : Value → Shared → Prop) E, St c.K c.env ρ F s → (∀ it V J F' s', Ext F s F' s' → (∀ a, V a → s.heap.get? a = none) → J 0 F' s' →
      (∀ c' : Cx, c'.prog = c.prog → c'.w = c.w → c'.A = c.A → c'.env.scope.kind = .function → (∀ y ∈ tgNames tg, c'.env.kindOf y = some .local) → Src c' it tg V xs b J) → Q (.ref it) s') →
    wpAny (model c.prog c.w) c.A (eval iter c.env) (fun xv s₁ => wpAny (model c.prog c.w) c.A (pyIter xv) Q E s₁) E s
theorem Src.map {α β : Type} {c : Cx} {it : Addr} {tg : Expr} {V : Addr → Prop} {b : α → List (Str × SV)} {J : Nat → PM → Shared → Prop} {g : β → α} {ys : List β} (h : Src c it tg V (ys.map g) b J) : Src c it tg V ys (fun y => b (g y)) J where
  held := h.held
  turn := fun i x ρ F s Q E hx => h.turn i (g x) ρ F s Q E (by rw [List.getElem?_map, hx]; rfl)
  done := by have := h.done; rwa [List.length_map] at this
  self := h.self
theorem Source.map {α β : Type} {c : Cx} {ρ : List (Str × SV)} {iter tg : Expr} {b : α → List (Str × SV)} {g : β → α} {ys : List β} (h : Source c ρ iter tg (ys.map g) b) : Source c ρ iter tg ys (fun y => b (g y)) :=
  fun F s Q E hs hQ => h F s Q E hs fun it V J F' s' x hv hj hc => hQ it V J F' s' x hv hj fun c' h1 h2 h3 h4 h5 => (hc c' h1 h2 h3 h4 h5).map
theorem comp_loop {prog : Program} {w : World} {A : Around} {elt target iter : Expr} {ifs : List Expr} {scope : Scope} {pos : Pos} {it acc : Value} {env : Env} {R : Result → Shared → Prop} {s : Shared} (I : Nat → Shared → Prop)
    (turn : ∀ n s, I n s → wpAny (model prog w) A (pyNext it) (fun r s₁ => match r with
      | none => R (.ok .next) s₁
      | some v => wpAny (model prog w) A (letOwnedTupleGo target it v) (fun _ s₀ => wpAny (model prog w) A (assign target env v) (fun _ s₂ =>
          wpAny (model prog w) A (forIn ifs true fun c r => if r = true then do let ok ← isTrue c env (eval c env); pure (ForInStep.yield ok) else pure (ForInStep.yield r)) (fun ok s₃ =>
            if ok = true then wpAny (model prog w) A (eval elt env) (fun x s₄ =>
              wpAny (model prog w) A (call (.builtin "list.append") [acc, x]) (fun _ s₅ => ∃ m, m < n ∧ I m s₅) (notedBy (model prog w) A env fun e s' => R (.error e) s') s₄) (notedBy (model prog w) A env fun e s' => R (.error e) s') s₃
            else ∃ m, m < n ∧ I m s₃) (notedBy (model prog w) A env fun e s' => R (.error e) s') s₂) (notedBy (model prog w) A env fun e s' => R (.error e) s') s₀) (notedBy (model prog w) A env fun e s' => R (.error e) s') s₁) (notedBy (model prog w) A env fun e s' => R (.error e) s') s)
    (n : Nat) (h : I n s) : codeAny (model prog w) A (.compLoop (.ListComp elt [⟨target, iter, ifs, 0⟩] scope pos) 0 it acc env) R s := by
  refine codeAny_loop rfl I (fun n s hI => ?_) n h
  refine wpAny_noted ?_
  rw [compTurn_list]
  refine wpAny_bind (wpAny_standAt (wpAny_bind (wpAny_mono (turn n s hI) (fun r s₁ h₁ => ?_) fun _ _ h' => h')))
  cases r with
  | none => exact wpAny_pure h₁
  | some v =>
    refine wpAny_bind (wpAny_mono h₁ (fun _ s₀ h₀ => ?_) fun _ _ h' => h')
    refine wpAny_bind (wpAny_mono h₀ (fun _ s₂ h₂ => ?_) fun _ _ h' => h')
    refine wpAny_bind (wpAny_mono h₂ (fun okb s₃ h₃ => ?_) fun _ _ h' => h')
    cases okb with
    | false => exact wpAny_pure ⟨rfl, h₃⟩
    | true => exact wpAny_bind (wpAny_bind (wpAny_mono h₃ (fun x s₄ h₄ => wpAny_bind (wpAny_mono h₄ (fun _ s₅ h₅ => wpAny_pure (wpAny_pure ⟨rfl, h₅⟩)) fun _ _ h' => h')) fun _ _ h' => h'))
noncomputable def inner (c : Cx) (scope : Scope) (cl : List (Str × Addr)) (C : Addr) : Cx := { c with env := compEnvC scope cl C c.env, own := [] }
noncomputable def TestsOk (c : Cx) (ρ : List (Str × SV)) (ifs : List Expr) (b : Bool) : Prop := (ifs = [] ∧ b = true) ∨ ∃ t, ifs = [t] ∧ EvT c ρ t b
theorem TestsOk.nil {c : Cx} {ρ : List (Str × SV)} : TestsOk c ρ [] true := .inl ⟨rfl, rfl⟩
theorem TestsOk.one {c : Cx} {ρ : List (Str × SV)} {t : Expr} {b : Bool} (h : EvT c ρ t b) : TestsOk c ρ [t] b := .inr ⟨t, rfl, h⟩
theorem TestsOk.run {c : Cx} {ρ : List (Str × SV)} {ifs : List Expr} {b : Bool} (h : TestsOk c ρ ifs b) {F s} {Q : Bool → Shared → Prop} {E} (hs : St c.K c.env ρ F s) (hQ : ∀ F' s', Ext F s F' s' → Q b s') :
    wpAny (model c.prog c.w) c.A (forIn ifs true fun t r => if r = true then do let ok ← isTrue t c.env (eval t c.env); pure (ForInStep.yield ok) else pure (ForInStep.yield r)) Q E s := by
  rcases h with ⟨rfl, rfl⟩ | ⟨t, rfl, h⟩
  · exact wpAny_tests_nil (hQ F s (Ext.refl hs.sub))
  · exact wpAny_tests_one (h.run F s _ E hs hQ)
noncomputable def Caps (c : Cx) (ρ : List (Str × SV)) (scope : Scope) : List (Str × SV) → Prop
  | [] => True
  | (x, sv) :: r => ρ.lookup x = some sv ∧ scope.names.lookup x = some .free ∧ (c.env.kindOf x = some .cell ∨ c.env.kindOf x = some .free) ∧ Caps c ρ scope r
theorem Caps.get {c : Cx} {ρ : List (Str × SV)} {scope : Scope} : ∀ {l : List (Str × SV)}, Caps c ρ scope l → ∀ {x sv}, l.lookup x = some sv → ρ.lookup x = some sv ∧ scope.names.lookup x = some .free ∧ (c.env.kindOf x = some .cell ∨ c.env.kindOf x = some .free)
  | [], _, _, _, h => by cases h
  | (y, sy) :: r, hc, x, sv, h => by
    rw [List.lookup_cons] at h
    cases q : x == y with
    | true =>
      rw [q] at h; cases h
      have := beq_iff_eq.mp q; subst this
      exact ⟨hc.1, hc.2.1, hc.2.2.1⟩
    | false => rw [q] at h; exact Caps.get hc.2.2.2 h
theorem closure_go {env : Env} : ∀ (names : List (Str × NameKind)) (acc : List (Str × Addr)), (∀ x ∈ names, x.2 = .free → (env.cells.lookup x.1).isSome = true) →
    ∃ cl, (∀ (f : Str × NameKind → List (Str × Addr) → Sem (ForInStep (List (Str × Addr)))), (∀ n k cs, f (n, k) cs = if k == .free then (do let a ← cellOf env n; pure (.yield ((n, a) :: cs))) else pure (.yield cs)) → forIn names acc f = (pure cl : Sem _)) ∧
      (∀ n a, (n, a) ∈ cl → (n, a) ∈ acc ∨ (env.cells.lookup n = some a ∧ (n, NameKind.free) ∈ names)) ∧ (∀ x, (x, NameKind.free) ∈ names → ∃ a, (x, a) ∈ cl) ∧ (∀ p ∈ acc, p ∈ cl)
  | [], acc, _ => ⟨acc, fun f hf => by rw [List.forIn_nil], fun n a h => .inl h, fun x h => (List.not_mem_nil h).elim, fun p h => h⟩
  | (n, k) :: r, acc, h => by
    by_cases hk : k = .free
    · subst hk
      have hs := h (n, .free) List.mem_cons_self rfl
      obtain ⟨a, ha⟩ := Option.isSome_iff_exists.mp hs
      obtain ⟨cl, h1, h3, h4, h5⟩ := closure_go r ((n, a) :: acc) fun x hx => h x (List.mem_cons_of_mem _ hx)
      refine ⟨cl, fun f hf => ?_, fun m b hb => ?_, fun x hx => ?_, fun p hp => h5 p (List.mem_cons_of_mem _ hp)⟩
      · have : cellOf env n = pure a := by unfold cellOf; rw [ha]
        rw [List.forIn_cons, hf, this]
        exact h1 f hf
      · rcases h3 m b hb with q | q
        · rcases List.mem_cons.mp q with e | q
          · cases e; exact .inr ⟨ha, List.mem_cons_self⟩
          · exact .inl q
        · exact .inr ⟨q.1, List.mem_cons_of_mem _ q.2⟩
      · rcases List.mem_cons.mp hx with e | hx
        · cases e; exact ⟨a, h5 _ List.mem_cons_self⟩
        · exact h4 x hx
    · obtain ⟨cl, h1, h3, h4, h5⟩ := closure_go r acc fun x hx => h x (List.mem_cons_of_mem _ hx)
      refine ⟨cl, fun f hf => ?_, fun n a hn => (h3 n a hn).imp id fun q => ⟨q.1, List.mem_cons_of_mem _ q.2⟩, fun x hx => ?_, h5⟩
      · rw [List.forIn_cons, hf, if_neg (by simpa using hk)]
        exact h1 f hf
      · rcases List.mem_cons.mp hx with e | hx
        · cases e; exact absurd rfl hk
        · exact h4 x hx
theorem lookup_mem {α : Type} : ∀ {l : List (Str × α)} {n : Str} {a : α}, (n, a) ∈ l → ∃ b, l.lookup n = some b
  | (k, v) :: r, n, a, h => by
    rw [List.lookup_cons]
    cases q : n == k with
    | true => exact ⟨v, rfl⟩
    | false =>
      rcases List.mem_cons.mp h with e | h
      · cases e; simp at q
      · exact lookup_mem h
theorem closure_of {scope : Scope} {env : Env} (h : ∀ x ∈ scope.names, x.2 = .free → (env.cells.lookup x.1).isSome = true) :
    ∃ cl, closureFor scope env = pure cl ∧ (∀ x, (x, NameKind.free) ∈ scope.names → cl.lookup x = env.cells.lookup x) ∧ ∀ n a, cl.lookup n = some a → env.cells.lookup n = some a ∧ (n, NameKind.free) ∈ scope.names := by
  obtain ⟨cl, h1, h3, h4, _⟩ := closure_go scope.names [] h
  have h3' : ∀ n a, cl.lookup n = some a → env.cells.lookup n = some a ∧ (n, NameKind.free) ∈ scope.names := fun n a e => by
    rcases h3 n a (mem_of_lookup e) with q | q
    · cases q
    · exact q
  refine ⟨cl, ?_, fun x hx => ?_, h3'⟩
  · unfold closureFor
    show (forIn scope.names [] (fun (x : Str × NameKind) cs => match x with | (name, kind) => if (kind == NameKind.free) = true then (do let a ← cellOf env name; pure (ForInStep.yield ((name, a) :: cs))) else pure (ForInStep.yield cs)) >>= fun cs => pure cs) = pure cl
    rw [h1 _ fun n k cs => by cases k <;> rfl]
    rfl
  · obtain ⟨a, ha⟩ := h4 x hx
    obtain ⟨b, hb⟩ := lookup_mem ha
    rw [hb, (h3' x b hb).1]
theorem lookup_relabel {env : Env} : ∀ {names : List (Str × NameKind)} {x : Str}, names.lookup x = some .free →
    (names.map fun (n, k) => if (k == NameKind.free && env.scope.kind == .function && env.kindOf n == some .cell) then (n, NameKind.cell) else (n, k)).lookup x = some .cell ∨
    (names.map fun (n, k) => if (k == NameKind.free && env.scope.kind == .function && env.kindOf n == some .cell) then (n, NameKind.cell) else (n, k)).lookup x = some .free
  | [], _, h => by simp at h
  | (n, k) :: r, x, h => by
    have ih := @lookup_relabel env r x
    show List.lookup x ((if (k == NameKind.free && env.scope.kind == .function && env.kindOf n == some .cell) = true then (n, NameKind.cell) else (n, k)) :: _) = _ ∨ List.lookup x ((if (k == NameKind.free && env.scope.kind == .function && env.kindOf n == some .cell) = true then (n, NameKind.cell) else (n, k)) :: _) = _
    cases hx : x == n with
    | true =>
      simp only [List.lookup_cons, hx] at h
      cases h
      by_cases hc : (NameKind.free == NameKind.free && env.scope.kind == .function && env.kindOf n == some .cell) = true
      · rw [if_pos hc]; left; simp only [List.lookup_cons, hx]
      · rw [if_neg hc]; right; simp only [List.lookup_cons, hx]
    | false =>
      simp only [List.lookup_cons, hx] at h
      by_cases hc : (k == NameKind.free && env.scope.kind == .function && env.kindOf n == some .cell) = true
      · rw [if_pos hc]; simp only [List.lookup_cons, hx]; exact ih h
      · rw [if_neg hc]; simp only [List.lookup_cons, hx]; exact ih h
theorem Has.in {c : Cx} {ρ ρ' : List (Str × SV)} {scope : Scope} {cl : List (Str × Addr)} {C : Addr} {F : PM} {s : Shared} (hs : ∀ x sv, ρ.lookup x = some sv → Has c.env F s x sv) (hc : Caps c ρ scope ρ')
    (hcl : ∀ x, (x, NameKind.free) ∈ scope.names → cl.lookup x = c.env.cells.lookup x) : ∀ x sv, ρ'.lookup x = some sv → Has (inner c scope cl C).env F s x sv := fun x sv hx => by
  obtain ⟨h1, h2, h3⟩ := hc.get hx
  rcases hs x sv h1 with ⟨k, _⟩ | ⟨k, kd, a, v, hca, hcell, hv⟩
  · rcases h3 with h3 | h3 <;> rw [h3] at k <;> cases k
  · exact .inr ⟨lookup_relabel h2, kd, a, v, (hcl x (mem_of_lookup h2)).trans hca, hcell, hv⟩
theorem VRs.append {F : PM} : ∀ {xs : List SV} {vs : List Value} {x : SV} {v : Value}, VRs F xs vs → VR F x v → VRs F (xs ++ [x]) (vs ++ [v])
  | [], vs, x, v, h, hv => by
    unfold VRs at h; subst h
    exact VRs.one hv
  | y :: xs, vs, x, v, h, hv => by
    unfold VRs at h
    obtain ⟨u, r, rfl, hu, hr⟩ := h
    rw [List.cons_append]
    unfold VRs
    exact ⟨u, r ++ [v], rfl, hu, hr.append hv⟩
theorem take_succ_map {α : Type} (p : α → Bool) (f : α → SV) (xs : List α) (i : Nat) (x : α) (h : xs[i]? = some x) :
    ((xs.take (i + 1)).filter p).map f = ((xs.take i).filter p).map f ++ (if p x then [f x] else []) := by
  rw [take_succ_filter p xs i x h, List.map_append]
  cases p x <;> rfl
structure CompFin (U : Addr → Prop) (Pn : PM → Shared → Prop) (F : PM) (s : Shared) (res : List SV) (D C : Addr) (F₂ : PM) (s₂ : Shared) (ys : List Value) (n : Nat) : Prop where
  ext : ExtV U F s F₂ s₂
  held : Pn F₂ s₂
  UD : ¬ U D
  UC : ¬ U C
  DC : D ≠ C
  D0 : s.heap.get? D = none
  C0 : s.heap.get? C = none
  FD : F₂ D = none
  FC : F₂ C = none
  loc : ∃ m, s₂.heap.Ns C m
  obj : s₂.heap.get? D = some { cls := .type "list", data := .seq ys.toArray n }
  vrs : VRs F₂ res ys
theorem comp_core {α : Type} {use : Option (Value → Sem Unit)} {c : Cx} {ρ ρ' : List (Str × SV)} {tg iter elt : Expr} {ifs : List Expr} {scope : Scope} {pos : Pos} {xs : List α} {b : α → List (Str × SV)} {U : Addr → Prop} {P : Nat → PM → Shared → Prop}
    (hP : ∀ i, Held U (P i)) (p : α → Bool) (f : α → SV) (hsrc : Source c ρ iter tg xs b) (hlen : xs.length ≤ 1000)
    (hcell : ∀ y ∈ scope.names, y.2 ≠ .cell) (hkind : scope.kind = .function) (hnames : ∀ y ∈ scope.names, y.2 = .local → scope.names.lookup y.1 = some .local)
    (htg : ∀ y ∈ tgNames tg, scope.names.lookup y = some .local) (hcaps : Caps c ρ scope ρ') (hfree : ∀ x ∈ scope.names, x.2 = .free → (ρ'.lookup x.1).isSome = true)
    (hb : ∀ x ∈ xs, ∀ y sy, ρ'.lookup y = some sy → (b x).lookup y = none)
    (htest : ∀ cl C, ∀ x ∈ xs, TestsOk (inner c scope cl C) (b x ++ ρ') ifs (p x))
    (hskip : ∀ i x F s, xs[i]? = some x → p x = false → P i F s → P (i + 1) F s)
    (helt : ∀ cl C i x F s (Q : Value → Shared → Prop) E, xs[i]? = some x → p x = true → Fm (inner c scope cl C) (b x ++ ρ') F s → (∀ a, U a → ¬ Rel (inner c scope cl C) a) → P i F s →
      (∀ v F' s', ExtV U F s F' s' → P (i + 1) F' s' → VR F' (f x) v → Q v s') → wpAny (model c.prog c.w) c.A (eval elt (inner c scope cl C).env) Q E s)
    (hs : ∀ x, foldedSetIterable iter c.env x = pure x) {F : PM} {s : Shared} {Q : Value → Shared → Prop} {E : Value → Shared → Prop} (hst : St c.K c.env ρ F s) (h0 : P 0 F s) (hU : ∀ a, U a → ¬ Rel c a)
    (hfin : ∀ D C F₂ s₂ ys n, CompFin U (P xs.length) F s ((xs.filter p).map f) D C F₂ s₂ ys n → compPost (model c.prog c.w) c.A E use Q (.ref D) C (.ok .next) s₂) {npos : Pos} :
    wpAny (model c.prog c.w) c.A (comprehension (.ListComp elt [⟨tg, iter, ifs, 0⟩] scope pos) scope c.env npos (newList []) false (eval iter c.env) use) Q E s := by
  have hcellOf : ∀ x, (x, NameKind.free) ∈ scope.names → ∃ a v, c.env.cells.lookup x = some a ∧ s.heap.IsCell a v := fun x hx => by
    obtain ⟨sv, hsv⟩ := Option.isSome_iff_exists.mp (hfree _ hx rfl)
    obtain ⟨h1, h2, h3⟩ := hcaps.get hsv
    rcases hst.vars x sv h1 with ⟨k, _⟩ | ⟨_, _, a, v, ha, hc, _⟩
    · rcases h3 with h3 | h3 <;> rw [h3] at k <;> cases k
    · exact ⟨a, _, ha, hc⟩
  obtain ⟨cl, hclos, hcl, hclr⟩ := closure_of (scope := scope) (env := c.env) fun x hx hf => by
    obtain ⟨n, k⟩ := x
    dsimp only at hf; subst hf
    obtain ⟨a, v, ha, _⟩ := hcellOf n hx
    rw [ha]; rfl
  refine wpAny_comprehension_free rfl hs hclos hkind hnames (hsrc F s _ E hst fun it V J F₁ s₁ x₁ hV hJ hsr => ?_)
  have live1 : ∀ a o, s.heap.get? a = some o → s₁.heap.get? a = some o := x₁.keep
  refine wpAny_newList (wpAny_newFunctionEnv hcell (fun y hy => (List.not_mem_nil hy).elim) (fun h₂ hns₂ hsb₂ => ?_) hkind) (Nat.zero_le _)
  dsimp only at hns₂ hsb₂ ⊢
  generalize hH2 : s₁.heap.push { cls := .type "list", data := .seq ([] : List Value).toArray } = H2 at hns₂ hsb₂ ⊢
  generalize hD : s₁.heap.objs.size = D
  have eC : H2.objs.size = D + 1 := by rw [← hH2, Heap.size_push, hD]
  generalize hC : H2.objs.size = C at *
  have hDC : D ≠ C := by lia
  have dead1 : ∀ a, D ≤ a → s₁.heap.get? a = none := fun a ha => by
    cases e : s₁.heap.get? a with
    | none => rfl
    | some o => have := Heap.lt_size e; rw [hD] at this; exact absurd this (Nat.not_lt.mpr ha)
  have dead0 : ∀ a, s₁.heap.get? a = none → s.heap.get? a = none := fun a ha => by
    cases e : s.heap.get? a with
    | none => rfl
    | some o => rw [live1 a o e] at ha; cases ha
  have old : ∀ a o, s₁.heap.get? a = some o → h₂.get? a = some o := fun a o e => by
    have hlt := Heap.lt_size e
    rw [hD] at hlt
    have e1 : H2.get? a = some o := hH2 ▸ Heap.get?_push_of_some _ e
    exact hsb₂.extBut a o (Nat.ne_of_lt (by rw [eC]; exact Nat.lt_succ_of_lt hlt)) (Heap.get?_push_of_some _ e1)
  have hlD : h₂.get? D = some { cls := .type "list", data := .seq ([] : List Value).toArray } := by
    have e1 : H2.get? D = some { cls := .type "list", data := .seq ([] : List Value).toArray } := by rw [← hH2, ← hD]; exact Heap.get?_push_size _ rfl
    exact hsb₂.extBut D _ hDC (Heap.get?_push_of_some _ e1)
  have F1dead : ∀ a, D ≤ a → F₁ a = none := fun a ha => by
    cases e : F₁ a with
    | none => rfl
    | some o => have := x₁.inn _ _ e; rw [dead1 a ha] at this; cases this
  have hsr' := hsr (inner c scope cl C) rfl rfl rfl hkind (fun y hy => lookup_relabel_local (htg y hy))
  have Ulive : ∀ a, U a → ∃ o, s.heap.get? a = some o := fun a ha => ((hP 0).dry F s h0 a ha).2
  have Vlive : ∀ a, V a → ∃ o, s₁.heap.get? a = some o := fun a ha => ((hsr'.held 0).dry F₁ s₁ hJ a ha).2
  have Ulive1 : ∀ a, U a → ∃ o, s₁.heap.get? a = some o := fun a ha => (Ulive a ha).imp fun o e => live1 a o e
  have UV : ∀ a, U a → ¬ V a := fun a ha hv => by obtain ⟨o, e⟩ := Ulive a ha; rw [hV a hv] at e; cases e
  have nDC : ∀ a, (∃ o, s₁.heap.get? a = some o) → a ≠ D ∧ a ≠ C := fun a ⟨o, e⟩ => by
    constructor
    · rintro rfl; rw [dead1 _ (Nat.le_refl _)] at e; cases e
    · rintro rfl; rw [dead1 _ (by lia)] at e; cases e
  have relIn : ∀ a, Rel (inner c scope cl C) a → a = C ∨ ((∃ n, c.env.cells.lookup n = some a) ∧ ∃ o, s.heap.get? a = some o) := fun a ha => by
    rcases ha with rfl | ⟨n, hn⟩
    · exact .inl rfl
    · obtain ⟨h1, h2⟩ := hclr n a hn
      obtain ⟨a', v, e, o, ho, _⟩ := hcellOf n h2
      rw [h1] at e; cases e
      exact .inr ⟨⟨n, h1⟩, o, ho⟩
  have Urel : ∀ a, U a → ¬ Rel (inner c scope cl C) a := fun a ha hr => by
    rcases relIn a hr with rfl | ⟨⟨n, hn⟩, _⟩
    · exact (nDC _ (Ulive1 _ ha)).2 rfl
    · exact hU a ha (.inr ⟨n, hn⟩)
  have Vrel : ∀ a, V a → ¬ Rel (inner c scope cl C) a := fun a ha hr => by
    rcases relIn a hr with rfl | ⟨_, o, ho⟩
    · exact (nDC _ (Vlive _ ha)).2 rfl
    · rw [hV a ha] at ho; cases ho
  have Drel : ¬ Rel (inner c scope cl C) D := fun hr => by
    rcases relIn D hr with e | ⟨_, o, ho⟩
    · exact hDC e
    · rw [dead0 D (dead1 _ (Nat.le_refl _))] at ho; cases ho
  have UD : ¬ U D := fun ha => (nDC _ (Ulive1 _ ha)).1 rfl
  have VD : ¬ V D := fun ha => (nDC _ (Vlive _ ha)).1 rfl
  have UC : ¬ U C := fun ha => (nDC _ (Ulive1 _ ha)).2 rfl
  have VC : ¬ V C := fun ha => (nDC _ (Vlive _ ha)).2 rfl
  have hvol : ∀ a, Vol (inner c scope cl C) a → a = C := fun a ha => by
    rcases ha with rfl | ⟨n, hn, _⟩
    · rfl
    · exact absurd hn List.not_mem_nil
  have y₂ : ExtV (fun a => a = D ∨ a = C) F₁ s₁ F₁ { s₁ with heap := h₂, toks := s₁.toks + ([] : List (Str × Value)).length } :=
    ⟨Sub.refl _, fun a o e => old a o (x₁.inn a o e), fun a o _ e => old a o e, fun a o e => .inl e, ⟨_, _, rfl⟩⟩
  have start : ∀ s₃ : Shared, s₃ = { s₁ with heap := h₂, toks := s₁.toks + ([] : List (Str × Value)).length } →
      codeAny (model c.prog c.w) c.A (.compLoop (.ListComp elt [⟨tg, iter, ifs, 0⟩] scope pos) 0 (.ref it) (.ref D) (compEnvC scope cl C c.env)) (compPost (model c.prog c.w) c.A E use Q (.ref D) C) s₃ := by
    intro s₃ hs₃
    have y₃ : Ext F₁ s₁ F₁ s₃ := by rw [hs₃]; exact ⟨Sub.refl _, y₂.inn, fun a o e => old a o e, fun a o e => .inl e, ⟨_, _, rfl⟩⟩
    have y₂ : ExtV (fun a => a = D ∨ a = C) F₁ s₁ F₁ s₃ := by rw [hs₃]; exact y₂
    have hns₃ : ∃ m, s₃.heap.Ns C m := ⟨_, by rw [hs₃]; exact hns₂⟩
    have hlD₃ : s₃.heap.PlainList D #[] := ⟨0, by rw [hs₃]; exact hlD⟩
    refine comp_loop (fun k s' => ∃ i F' ys, i ≤ xs.length ∧ k = xs.length + 1 - i ∧ J i F' s' ∧ P i F' s' ∧ Fm (inner c scope cl C) ρ' F' s' ∧ F' D = none ∧ s'.heap.PlainList D ys.toArray ∧
      VRs F' (((xs.take i).filter p).map f) ys ∧ ys.length ≤ i ∧ ExtV (fun a => V a ∨ U a ∨ a = D ∨ a = C) F₁ s₁ F' s') ?_ (xs.length + 1)
      ⟨0, F₁, [], Nat.zero_le _, rfl, (hsr'.held 0).keep (fun a => a = D ∨ a = C) F₁ s₁ _ _ ?_ ?_ hJ y₂, (hP 0).keep (fun a => a = D ∨ a = C) F₁ s₁ _ _ ?_ ?_ ((hP 0).keep (fun _ => False) F s _ _ (fun _ q => q.elim) (fun _ q => q.elim) h0 x₁.v) y₂,
        ⟨⟨y₂.inn, fun a o e => x₁.sub _ _ (hst.base a o e), ?_⟩, hns₃, ?_, fun n hn => absurd hn List.not_mem_nil, ?_, fun n hn => absurd hn List.not_mem_nil⟩, F1dead D (Nat.le_refl _), hlD₃, ?_, Nat.le_refl _, y₂.mono fun a q => .inr (.inr q)⟩
    rotate_left
    · rintro a (rfl | rfl) _
      · exact VD
      · exact VC
    · rintro a (rfl | rfl)
      · exact F1dead _ (Nat.le_refl _)
      · exact F1dead _ (by lia)
    · rintro a (rfl | rfl) _
      · exact UD
      · exact UC
    · rintro a (rfl | rfl)
      · exact F1dead _ (Nat.le_refl _)
      · exact F1dead _ (by lia)
    · refine Has.in (ρ := ρ) (fun x sv hx => ?_) hcaps hcl
      exact ((hst.vars x sv hx).ext x₁).ext y₃
    · intro a ha
      rw [hvol a ha]
      exact F1dead _ (by lia)
    · intro n a hl
      obtain ⟨h1, h2⟩ := hclr n a hl
      obtain ⟨a', v, e, o, ho, _⟩ := hcellOf n h2
      rw [h1] at e; cases e
      exact ⟨o, y₃.keep _ _ (live1 _ _ ho)⟩
    · rw [List.take_zero]; unfold VRs; rfl
    rintro k s' ⟨i, F', ys, hi, rfl, hJ', hP', hf', hD', hl', hv', hy', e'⟩
    by_cases hlt : i < xs.length
    · have hx : xs[i]? = some xs[i] := List.getElem?_eq_getElem hlt
      generalize xs[i] = x at hx
      have hxm : x ∈ xs := List.mem_of_getElem? hx
      refine wpAny_mono (hsr'.turn i x ρ' F' s' ?Q0 _ hx hJ' hf' Vrel ?turn) (fun r s₄ h₄ => ?conv) fun _ _ e => e
      case conv =>
        cases r with
        | none => exact h₄.elim
        | some v => exact h₄
      intro F₂ s₂ hJ₂ hf₂ e₂
      have W₂ : ∀ a, (V a ∨ Vol (inner c scope cl C) a) → F' a = none := fun a ha => ha.elim (fun q => ((hsr'.held i).dry F' s' hJ' a q).1) (hf'.vol a)
      have hP₂ : P i F₂ s₂ := (hP i).keep _ F' s' F₂ s₂ (fun a ha _ hu => ha.elim (fun q => UV a hu q) (fun q => by rw [hvol a q] at hu; exact UC hu)) W₂ hP' e₂
      have nW₂ : ¬ (V D ∨ Vol (inner c scope cl C) D) := fun ha => ha.elim VD fun q => hDC (hvol D q)
      have hl₂ : s₂.heap.PlainList D ys.toArray := hl'.at fun o e => e₂.keep D o nW₂ e
      have hD₂ : F₂ D = none := by
        cases q : F₂ D with
        | none => rfl
        | some o =>
          rcases e₂.new D o q with q' | q' | q'
          · rw [hD'] at q'; cases q'
          · obtain ⟨n, hn⟩ := hl'; rw [hn] at q'; cases q'
          · exact absurd q' nW₂
      refine (htest cl C x hxm).run (c := inner c scope cl C) hf₂.st fun F₃ s₃ e₃ => ?_
      have hJ₃ : J (i + 1) F₃ s₃ := (hsr'.held (i + 1)).keep (fun _ => False) F₂ s₂ F₃ s₃ (fun _ q => q.elim) (fun _ q => q.elim) hJ₂ e₃.v
      have hP₃ : P i F₃ s₃ := (hP i).keep (fun _ => False) F₂ s₂ F₃ s₃ (fun _ q => q.elim) (fun _ q => q.elim) hP₂ e₃.v
      have hf₃ := hf₂.ext e₃
      have hl₃ : s₃.heap.PlainList D ys.toArray := hl₂.at fun o e => e₃.keep D o e
      have hD₃ : F₃ D = none := by
        cases q : F₃ D with
        | none => rfl
        | some o =>
          rcases e₃.new D o q with q' | q'
          · rw [hD₂] at q'; cases q'
          · obtain ⟨n, hn⟩ := hl₂; rw [hn] at q'; cases q'
      have e₁₃ : ExtV (fun a => V a ∨ U a ∨ a = D ∨ a = C) F₁ s₁ F₃ s₃ := (e'.trans (e₂.mono fun a q => q.elim .inl fun q => .inr (.inr (.inr (hvol a q))))).trans e₃.v
      have sub₃ : Sub F' F₃ := e₂.sub.trans e₃.sub
      have hρ : ∀ y sy, ρ'.lookup y = some sy → (b x ++ ρ').lookup y = some sy := fun y sy hy => by
        rw [List.lookup_append, hb x hxm y sy hy]; exact hy
      cases hp : p x with
      | false =>
        rw [if_neg (by decide)]
        refine ⟨xs.length + 1 - (i + 1), by lia, i + 1, F₃, ys, hlt, rfl, hJ₃, hskip i x F₃ s₃ hx hp hP₃, hf₃.sub hρ, hD₃, hl₃, ?_, Nat.le_succ_of_le hy', e₁₃⟩
        rw [take_succ_map p f xs i x hx, hp, if_neg (by decide), List.append_nil]
        exact hv'.mono sub₃
      | true =>
        rw [if_pos rfl]
        refine helt cl C i x F₃ s₃ _ _ hx hp hf₃ Urel hP₃ fun v F₄ s₄ e₄ hP₄ hv₄ => ?_
        have hJ₄ : J (i + 1) F₄ s₄ := (hsr'.held (i + 1)).keep U F₃ s₃ F₄ s₄ (fun a ha _ hv => UV a ha hv) (fun a ha => ((hP i).dry F₃ s₃ hP₃ a ha).1) hJ₃ e₄
        have hf₄ := hf₃.extV e₄ Urel
        have hl₄ : s₄.heap.PlainList D ys.toArray := hl₃.at fun o e => e₄.keep D o UD e
        have hD₄ : F₄ D = none := by
          cases q : F₄ D with
          | none => rfl
          | some o =>
            rcases e₄.new D o q with q' | q' | q'
            · rw [hD₃] at q'; cases q'
            · obtain ⟨n, hn⟩ := hl₃; rw [hn] at q'; cases q'
            · exact absurd q' UD
        refine wpAny_list_append_plain hl₄ (fun h₅ hl₅ hs₅ => ?_) (by rw [List.size_toArray]; exact Nat.le_trans hy' (Nat.le_trans hi (Nat.le_trans hlen (by decide))))
        have e₅ : ExtV (fun a => a = D) F₄ s₄ F₄ { s₄ with heap := h₅ } :=
          ⟨Sub.refl _, fun a o e => (hs₅.2 a (by rintro rfl; rw [hD₄] at e; cases e)).trans (e₄.inn a o e), fun a o n e => (hs₅.2 a n).trans e, fun a o e => .inl e, ⟨_, _, rfl⟩⟩
        refine ⟨xs.length + 1 - (i + 1), by lia, i + 1, F₄, ys ++ [v], hlt, rfl, (hsr'.held (i + 1)).keep _ F₄ s₄ F₄ _ (fun a ha _ hv => by subst ha; exact VD hv) (fun a ha => by subst ha; exact hD₄) hJ₄ e₅,
          (hP (i + 1)).keep _ F₄ s₄ F₄ _ (fun a ha _ hv => by subst ha; exact UD hv) (fun a ha => by subst ha; exact hD₄) hP₄ e₅, (hf₄.extV e₅ fun a ha => by subst ha; exact Drel).sub hρ, hD₄, ?_, ?_, ?_, ?_⟩
        · rw [List.push_toArray] at hl₅; exact hl₅
        · rw [take_succ_map p f xs i x hx, hp, if_pos rfl]
          exact (hv'.mono (sub₃.trans e₄.sub)).append hv₄
        · rw [List.length_append, List.length_singleton]; lia
        · exact (e₁₃.trans (e₄.mono fun a q => .inr (.inl q))).trans (e₅.mono fun a q => .inr (.inr (.inl q)))
    · obtain rfl : i = xs.length := Nat.le_antisymm hi (Nat.not_lt.mp hlt)
      refine hsr'.done F' s' _ _ hJ' fun F₂ s₂ e₂ => ?_
      have hf₂ := hf'.extV e₂ Vrel
      have hl₂ : s₂.heap.PlainList D ys.toArray := hl'.at fun o e => e₂.keep D o VD e
      have hD₂ : F₂ D = none := by
        cases q : F₂ D with
        | none => rfl
        | some o =>
          rcases e₂.new D o q with q' | q' | q'
          · rw [hD'] at q'; cases q'
          · obtain ⟨n, hn⟩ := hl'; rw [hn] at q'; cases q'
          · exact absurd q' VD
      have hP₂ : P xs.length F₂ s₂ := (hP xs.length).keep V F' s' F₂ s₂ (fun a ha _ hu => UV a hu ha) (fun a ha => ((hsr'.held _).dry F' s' hJ' a ha).1) hP' e₂
      obtain ⟨n, hl₂⟩ := hl₂
      have e₄ := e'.trans (e₂.mono (W := fun a => V a ∨ U a ∨ a = D ∨ a = C) fun a q => .inl q)
      have eF : ExtV U F s F₂ s₂ := (x₁.v.trans e₄).drop fun a q => by
        rcases q with q | q | rfl | rfl
        · exact .inl (hV a q)
        · exact .inr q
        · exact .inl (dead0 _ (dead1 _ (Nat.le_refl _)))
        · exact .inl (dead0 _ (dead1 _ (by lia)))
      refine hfin D C F₂ s₂ ys n ⟨eF, hP₂, UD, UC, hDC, dead0 _ (dead1 _ (Nat.le_refl _)), dead0 _ (dead1 _ (by lia)), hD₂, hf₂.vol C (.inl rfl), hf₂.loc, hl₂, ?_⟩
      rw [List.take_length] at hv'
      exact hv'.mono e₂.sub
  refine codeAny_compStart_list (start _ rfl) (hsr'.self 0 F₁ _ _ _ ((hsr'.held 0).keep (fun a => a = D ∨ a = C) F₁ s₁ _ _ ?_ ?_ hJ y₂) (start _ rfl))
  · rintro a (rfl | rfl) _
    · exact VD
    · exact VC
  · rintro a (rfl | rfl)
    · exact F1dead _ (Nat.le_refl _)
    · exact F1dead _ (by lia)
theorem CompFin.done {U : Addr → Prop} {Pn : PM → Shared → Prop} {F : PM} {s : Shared} {res : List SV} {D C : Addr} {F₂ : PM} {s₂ : Shared} {ys : List Value} {n : Nat} (z : CompFin U Pn F s res D C F₂ s₂ ys n) (hP : Held U Pn) {h' : Heap} (hs' : Heap.SameBut C s₂.heap h') :
    ∃ F₃, ExtV U F s F₃ { s₂ with heap := h' } ∧ Pn F₃ { s₂ with heap := h' } ∧ VR F₃ (.lst res) (.ref D) ∧ F₃ C = none := by
  have hlD' : h'.get? D = some { cls := .type "list", data := .seq ys.toArray n } := (hs'.2 D z.DC).trans z.obj
  have in' : Sub F₂ h'.get? := fun a o e => (hs'.2 a (by rintro rfl; rw [z.FC] at e; cases e)).trans (z.ext.inn a o e)
  have subp : Sub F₂ (put F₂ D { cls := .type "list", data := .seq ys.toArray n }) := fun a o e => by
    unfold put
    rw [if_neg (by rintro rfl; rw [z.FD] at e; cases e)]; exact e
  have inp : Sub (put F₂ D { cls := .type "list", data := .seq ys.toArray n }) h'.get? := fun a o e => by
    unfold put at e
    by_cases q : a = D
    · subst q; rw [if_pos rfl] at e; cases e; exact hlD'
    · rw [if_neg q] at e; exact in' a o e
  have newp : ∀ a o, put F₂ D { cls := .type "list", data := .seq ys.toArray n } a = some o → a = D ∨ F₂ a = some o := fun a o e => by
    unfold put at e
    by_cases q : a = D
    · exact .inl q
    · rw [if_neg q] at e; exact .inr e
  have e₃ : ExtV (fun a => a = D ∨ a = C) F₂ s₂ (put F₂ D { cls := .type "list", data := .seq ys.toArray n }) { s₂ with heap := h' } :=
    ⟨subp, inp, fun a o q e => (hs'.2 a fun q' => q (.inr q')).trans e, fun a o e => (newp a o e).elim (fun q => .inr (.inr (.inl q))) .inl, ⟨_, _, rfl⟩⟩
  refine ⟨_, ((z.ext.mono (W := fun a => U a ∨ a = D ∨ a = C) fun a q => .inl q).trans (e₃.mono fun a q => .inr q)).drop fun a q => ?_, hP.keep _ F₂ s₂ _ _ ?_ ?_ z.held e₃, ?_, ?_⟩
  · rcases q with q | rfl | rfl
    · exact .inr q
    · exact .inl z.D0
    · exact .inl z.C0
  · rintro a (rfl | rfl) _
    · exact z.UD
    · exact z.UC
  · rintro a (rfl | rfl)
    · exact z.FD
    · exact z.FC
  · unfold VR
    exact ⟨D, ys, n, rfl, put_self _ _ _, z.vrs.mono subp⟩
  · unfold put; rw [if_neg (Ne.symm z.DC)]; exact z.FC
noncomputable def freeOk (names : List (Str × NameKind)) (ks : List Str) : Bool := names.all fun x => !(x.2 == .free) || ks.contains x.1
noncomputable def keysApart (b : List (Str × SV)) (ks : List Str) : Bool := b.all fun p => !ks.contains p.1
theorem lookup_key {α : Type} : ∀ {l : List (Str × α)} {x : Str}, (l.map (·.1)).contains x = true → ∃ v, l.lookup x = some v
  | [], x, h => by simp at h
  | (k, v) :: r, x, h => by
    rw [List.lookup_cons]
    cases q : x == k with
    | true => exact ⟨v, rfl⟩
    | false =>
      rw [List.map_cons, List.contains_cons, q, Bool.false_or] at h
      exact lookup_key h
theorem key_lookup {α : Type} : ∀ {l : List (Str × α)} {x : Str} {v : α}, l.lookup x = some v → (l.map (·.1)).contains x = true
  | (k, u) :: r, x, v, h => by
    rw [List.lookup_cons] at h
    rw [List.map_cons, List.contains_cons]
    cases q : x == k with
    | true => rfl
    | false => rw [q] at h; rw [Bool.false_or]; exact key_lookup h
theorem freeOk_get {names : List (Str × NameKind)} {ρ : List (Str × SV)} (h : freeOk names (ρ.map (·.1)) = true) : ∀ x ∈ names, x.2 = .free → (ρ.lookup x.1).isSome = true := fun x hx hf => by
  have := List.all_eq_true.mp h x hx
  rw [hf] at this
  obtain ⟨v, hv⟩ := lookup_key (l := ρ) (x := x.1) (by simpa using this)
  rw [hv]; rfl
theorem keysApart_get {b ρ : List (Str × SV)} (h : keysApart b (ρ.map (·.1)) = true) : ∀ y sy, ρ.lookup y = some sy → b.lookup y = none := fun y sy hy => by
  cases q : b.lookup y with
  | none => rfl
  | some v =>
    have h1 := List.all_eq_true.mp h (y, v) (mem_of_lookup q)
    have h2 := key_lookup hy
    rw [show (y, v).1 = y from rfl, h2] at h1
    cases h1
structure CompOk {α : Type} (c : Cx) (ρ ρ' : List (Str × SV)) (tg iter elt : Expr) (ifs : List Expr) (scope : Scope) (xs : List α) (b : α → List (Str × SV)) (p : α → Bool) (f : α → SV) : Prop where
  src : Source c ρ iter tg xs b
  len : xs.length ≤ 1000
  cell : ∀ y ∈ scope.names, y.2 ≠ .cell
  kind : scope.kind = .function
  names : ∀ y ∈ scope.names, y.2 = .local → scope.names.lookup y.1 = some .local
  tg : ∀ y ∈ tgNames tg, scope.names.lookup y = some .local
  caps : Caps c ρ scope ρ'
  free : freeOk scope.names (ρ'.map (·.1)) = true
  apart : ∀ x ∈ xs, keysApart (b x) (ρ'.map (·.1)) = true
  fold : ∀ x, foldedSetIterable iter c.env x = pure x
theorem Ev.comp {α : Type} {c : Cx} {ρ ρ' : List (Str × SV)} {tg iter elt : Expr} {ifs : List Expr} {scope : Scope} {pos : Pos} {xs : List α} {b : α → List (Str × SV)} {p : α → Bool} {f : α → SV}
    (k : CompOk c ρ ρ' tg iter elt ifs scope xs b p f)
    (htest : ∀ cl C, ∀ x ∈ xs, TestsOk (inner c scope cl C) (b x ++ ρ') ifs (p x))
    (helt : ∀ cl C, ∀ x ∈ xs, p x = true → Ev (inner c scope cl C) (b x ++ ρ') elt (f x)) : Ev c ρ (.ListComp elt [⟨tg, iter, ifs, 0⟩] scope pos) (.lst ((xs.filter p).map f)) := .mk fun F s Q E hst hQ => by
  have hH : Held (fun _ => False) (fun _ _ => True) := ⟨fun _ _ _ _ q => q.elim, fun _ _ _ _ _ _ _ _ _ => trivial⟩
  rw [eval_ListComp]
  refine comp_core (U := fun _ => False) (P := fun _ _ _ => True) (fun _ => hH) p f k.src k.len k.cell k.kind k.names k.tg k.caps (freeOk_get k.free) (fun x hx => keysApart_get (k.apart x hx)) htest (fun _ _ _ _ _ _ _ => trivial)
    (fun cl C i x F s Q E hx hp hf _ _ hQ => (helt cl C x (List.mem_of_getElem? hx) hp).run F s Q E hf.st fun v F' s' e hv => hQ v F' s' e.v trivial hv) k.fold hst trivial (fun _ q => q.elim) fun D C F₂ s₂ ys n z => ?_
  obtain ⟨m, hm⟩ := z.loc
  refine ⟨m, hm, fun h' hs' => ?_⟩
  obtain ⟨F₃, e₃, _, hv, _⟩ := z.done hH hs'
  exact hQ _ F₃ _ (e₃.ext fun _ q => q.elim) hv
theorem Ev.compR {α : Type} {c : Cx} {ρ ρ' : List (Str × SV)} {tg iter elt : Expr} {ifs : List Expr} {scope : Scope} {pos : Pos} {xs : List α} {b : α → List (Str × SV)} {r : List SV} (p : α → Bool) (f : α → SV)
    (k : CompOk c ρ ρ' tg iter elt ifs scope xs b p f)
    (htest : ∀ cl C, ∀ x ∈ xs, TestsOk (inner c scope cl C) (b x ++ ρ') ifs (p x))
    (helt : ∀ cl C, ∀ x ∈ xs, p x = true → Ev (inner c scope cl C) (b x ++ ρ') elt (f x)) (hr : (xs.filter p).map f = r) : Ev c ρ (.ListComp elt [⟨tg, iter, ifs, 0⟩] scope pos) (.lst r) := hr ▸ Ev.comp k htest helt
theorem filter_true {α : Type} (xs : List α) : xs.filter (fun _ => true) = xs := List.filter_eq_self.mpr fun _ _ => rfl
theorem Ev.comp0 {α : Type} {c : Cx} {ρ ρ' : List (Str × SV)} {tg iter elt : Expr} {scope : Scope} {pos : Pos} {xs : List α} {b : α → List (Str × SV)} {f : α → SV}
    (k : CompOk c ρ ρ' tg iter elt [] scope xs b (fun _ => true) f)
    (helt : ∀ cl C, ∀ x ∈ xs, Ev (inner c scope cl C) (b x ++ ρ') elt (f x)) : Ev c ρ (.ListComp elt [⟨tg, iter, [], 0⟩] scope pos) (.lst (xs.map f)) := by
  have := Ev.comp k (pos := pos) (fun _ _ _ _ => TestsOk.nil) fun cl C x hx _ => helt cl C x hx
  rw [filter_true] at this
  exact this
theorem Ev.compS {α : Type} {c : Cx} {ρ ρ' : List (Str × SV)} {tg iter elt : Expr} {scope : Scope} {pos : Pos} {xs : List α} {b : α → List (Str × SV)} {g : α → Str}
    (k : CompOk c ρ ρ' tg iter elt [] scope xs b (fun _ => true) (fun x => .str (g x)))
    (helt : ∀ cl C, ∀ x ∈ xs, Ev (inner c scope cl C) (b x ++ ρ') elt (.str (g x))) : Ev c ρ (.ListComp elt [⟨tg, iter, [], 0⟩] scope pos) (.lst ((xs.map g).map .str)) := by
  have := Ev.comp0 k (pos := pos) helt
  rw [List.map_map]
  exact this
end Mine
end
section
open PySem PySem.W PyProof.Rows
namespace Mine
noncomputable def ItJ (F₀ : PM) (wr : List Addr) (St : Nat → Heap → Prop) (i : Nat) (F : PM) (s : Shared) : Prop := St i s.heap ∧ Sub F₀ F ∧ (∀ a ∈ wr, F a = none ∧ ∃ o, s.heap.get? a = some o) ∧ Sub F s.heap.get?
theorem ItJ.held {F₀ : PM} {fp wr : List Addr} {St : Nat → Heap → Prop} (hfr : ∀ i h h', St i h → (∀ b ∈ fp, ∀ o, h.get? b = some o → h'.get? b = some o) → St i h')
    (hfp : ∀ b ∈ fp, b ∈ wr ∨ ∃ o, F₀ b = some o) (i : Nat) : Held (fun a => a ∈ wr) (ItJ F₀ wr St i) where
  dry := fun F s h a ha => h.2.2.1 a ha
  keep := fun W F s F' s' hW hW' h e => by
    have nW : ∀ a ∈ wr, ¬ W a := fun a ha hw => hW a hw (hW' a hw) ha
    refine ⟨hfr i _ _ h.1 fun b hb o q => e.keep b o (fun hw => ?_) q, h.2.1.trans e.sub, fun a ha => ?_, e.inn⟩
    · rcases hfp b hb with hb | ⟨o', ho⟩
      · exact nW b hb hw
      · have := hW' b hw; rw [h.2.1 _ _ ho] at this; cases this
    · obtain ⟨h1, o, h2⟩ := h.2.2.1 a ha
      refine ⟨?_, o, e.keep a o (nW a ha) h2⟩
      cases q : F' a with
      | none => rfl
      | some o' =>
        rcases e.new a o' q with z | z | z
        · rw [h1] at z; cases z
        · rw [h2] at z; cases z
        · exact absurd z (nW a ha)
theorem Src.ofWalks {α : Type} {c : Cx} {I : Addr} {fp wr : List Addr} {xs : List α} {n : Nat} {P : Nat → Value → Prop} {Sx : Nat → Heap → Prop} {F₀ : PM} {x : Str} {px : Pos} {g : α → SV} (W : Walks c.prog c.w c.A I fp wr n P Sx) (hn : n = xs.length)
    (hfp : ∀ b ∈ fp, b ∈ wr ∨ ∃ o, F₀ b = some o) (hlive : ∀ i h, Sx i h → ∀ a ∈ wr, ∃ o, h.get? a = some o) (hP : ∀ i v y, P i v → xs[i]? = some y → VR F₀ (g y) v)
    (hk : c.env.scope.kind = .function) (hx : c.env.kindOf x = some .local) : Src c I (.Name x px) (fun a => a ∈ wr) xs (fun y => [(x, g y)]) (ItJ F₀ wr Sx) where
  held := ItJ.held W.frame hfp
  turn := fun i y ρ F s Q E hy hJ hf hV hQ => by
    have hi : i < n := by rw [hn]; exact (List.getElem?_eq_some_iff.mp hy).1
    refine W.item i s _ E hi hJ.1 fun v h' tk hPv hst hkeep => ?_
    have e₁ : ExtV (fun a => a ∈ wr) F s F { s with heap := h', toks := tk } :=
      ⟨Sub.refl _, fun a o q => hkeep a o (fun ha => by have := (hJ.2.2.1 a ha).1; rw [q] at this; cases this) (hf.st.sub a o q), fun a o hn q => hkeep a o hn q, fun a o q => .inl q, ⟨_, _, rfl⟩⟩
    have hf₁ := hf.extV e₁ hV
    refine wpAny_of_eq (a := ()) rfl ?_
    refine wpAny_assign_Name (hf₁.store hk hx ((hP i v y hPv hy).mono hJ.2.1) fun s₂ hf₂ e₂ => ?_)
    have hJ₁ : ItJ F₀ wr Sx (i + 1) F { s with heap := h', toks := tk } := ⟨hst, hJ.2.1, fun a ha => ⟨(hJ.2.2.1 a ha).1, hlive (i + 1) h' hst a ha⟩, e₁.inn⟩
    refine hQ F s₂ ((ItJ.held W.frame hfp (i + 1)).keep _ F _ F s₂ (fun a ha _ hw => hV a hw ha.rel) hf₁.vol hJ₁ e₂) hf₂ ((e₁.mono fun a q => .inl q).trans (e₂.mono fun a q => .inr q))
  done := fun F s Q E hJ hQ => by
    have hst := hJ.1
    rw [← hn] at hst
    exact W.done s Q E hst fun h' tk hkeep => hQ F _ ⟨Sub.refl _, fun a o q => hkeep a o (fun ha => by have := (hJ.2.2.1 a ha).1; rw [q] at this; cases this) (hJ.2.2.2 a o q), fun a o hn q => hkeep a o hn q, fun a o q => .inl q, ⟨_, _, rfl⟩⟩
  self := fun i F s Q E hJ hQ => W.self i s Q E hJ.1 hQ
theorem Src.ofWalksU {α : Type} {c : Cx} {I : Addr} {fp wr : List Addr} {xs : List α} {n : Nat} {P : Nat → Array Value → Prop} {Sx : Nat → Heap → Prop} {Mid : Nat → Addr → Heap → Prop} {F₀ : PM} {x y : Str} {px py tp : Pos} {k : Nat} {g₁ g₂ : α → SV}
    (W : WalksU c.prog c.w c.A I fp wr n P Sx Mid) (hh : c.A.handled = none) (hn : n = xs.length)
    (hfp : ∀ b ∈ fp, b ∈ wr ∨ ∃ o, F₀ b = some o) (hlive : ∀ i h, Sx i h → ∀ a ∈ wr, ∃ o, h.get? a = some o) (hP : ∀ i vals z, P i vals → xs[i]? = some z → ∃ v u, vals = #[v, u] ∧ VR F₀ (g₁ z) v ∧ VR F₀ (g₂ z) u)
    (hk : c.env.scope.kind = .function) (hx : c.env.kindOf x = some .local) (hy : c.env.kindOf y = some .local) : Src c I (.Tuple [.Name x px, .Name y py] k tp) (fun a => a ∈ wr) xs (fun z => [(y, g₂ z), (x, g₁ z)]) (ItJ F₀ wr Sx) where
  held := ItJ.held W.frame hfp
  turn := fun i z ρ F s Q E hz hJ hf hV hQ => by
    have hi : i < n := by rw [hn]; exact (List.getElem?_eq_some_iff.mp hz).1
    refine W.item i s _ E hi hJ.1 fun T vals h' tk hPv hT hmid hkeep => ?_
    obtain ⟨v, u, rfl, hv, hu⟩ := hP i vals z hPv hz
    refine W.go _ _ _ i T _ _ E hmid fun h'' hst hkeep'' => ?_
    have nw : ∀ a o, F a = some o → a ∉ wr := fun a o q ha => by have := (hJ.2.2.1 a ha).1; rw [q] at this; cases this
    have e₁ : ExtV (fun a => a ∈ wr) F s F { s with heap := h'', toks := tk } :=
      ⟨Sub.refl _, fun a o q => hkeep'' a o (nw a o q) (hkeep a o (nw a o q) (hf.st.sub a o q)), fun a o hn q => hkeep'' a o hn (hkeep a o hn q), fun a o q => .inl q, ⟨_, _, rfl⟩⟩
    have hT' : h''.IsTuple T #[v, u] := hT.at fun o q => hkeep'' T o (W.apart i T h' hmid) q
    obtain ⟨oT, hoT, hcT, nT, hdT⟩ := hT'
    refine assign_Tuple_tuple hh (s := { s with heap := h'', toks := tk }) ⟨oT, hoT, hcT, nT, hdT⟩ rfl rfl fun h₃ he => ?_
    have e₂ : Ext F { s with heap := h'', toks := tk } F { s with heap := h₃, toks := tk } := by
      have kp : ∀ a o, h''.get? a = some o → h₃.get? a = some o := fun a o q => he a o (Nat.ne_of_lt (Heap.lt_size q)) q
      exact ⟨Sub.refl _, fun a o q => kp a o (e₁.inn a o q), fun a o q => kp a o q, fun a o q => .inl q, ⟨_, _, rfl⟩⟩
    have hf₂ := (hf.extV e₁ hV).ext e₂
    refine assignInOrder_cons (wpAny_assign_Name (hf₂.store hk hx (hv.mono hJ.2.1) fun s₃ hf₃ e₃ => ?_))
    refine assignInOrder_cons (wpAny_assign_Name (hf₃.store hk hy (hu.mono hJ.2.1) fun s₄ hf₄ e₄ => ?_))
    refine assignInOrder_nil ?_
    have hJ₁ : ItJ F₀ wr Sx (i + 1) F { s with heap := h'', toks := tk } := ⟨hst, hJ.2.1, fun a ha => ⟨(hJ.2.2.1 a ha).1, hlive (i + 1) h'' hst a ha⟩, e₁.inn⟩
    have hJ₂ := (ItJ.held W.frame hfp (i + 1)).keep (fun _ => False) F _ F _ (fun _ q => q.elim) (fun _ q => q.elim) hJ₁ e₂.v
    refine hQ F s₄ ((ItJ.held W.frame hfp (i + 1)).keep _ F _ F s₄ (fun a ha _ hw => hV a hw ha.rel) hf₂.vol hJ₂ (e₃.trans e₄)) hf₄ (((e₁.mono fun a q => .inl q).trans e₂.v).trans ((e₃.trans e₄).mono fun a q => .inr q))
  done := fun F s Q E hJ hQ => by
    have hst := hJ.1
    rw [← hn] at hst
    exact W.done s Q E hst fun h' tk hkeep => hQ F _ ⟨Sub.refl _, fun a o q => hkeep a o (fun ha => by have := (hJ.2.2.1 a ha).1; rw [q] at this; cases this) (hJ.2.2.2 a o q), fun a o hn q => hkeep a o hn q, fun a o q => .inl q, ⟨_, _, rfl⟩⟩
  self := fun i F s Q E hJ hQ => W.self i s Q E hJ.1 hQ
theorem dead_of {s : Shared} {a : Addr} (h : s.heap.objs.size ≤ a) : s.heap.get? a = none := by
  cases e : s.heap.get? a with
  | none => rfl
  | some o => exact absurd (Heap.lt_size e) (Nat.not_lt.mpr h)
theorem dryF {F : PM} {s : Shared} (h : Sub F s.heap.get?) {a : Addr} (ha : s.heap.objs.size ≤ a) : F a = none := by
  cases e : F a with
  | none => rfl
  | some o => have := h _ _ e; rw [dead_of ha] at this; cases this
theorem Ext.made {F : PM} {s : Shared} (h : Sub F s.heap.get?) {h' : Heap} {tk : Nat} (hk : ∀ a o, s.heap.get? a = some o → h'.get? a = some o) : Ext F s F { s with heap := h', toks := tk } :=
  ⟨Sub.refl _, fun a o e => hk a o (h a o e), hk, fun a o e => .inl e, ⟨_, _, rfl⟩⟩
section
variable {c : Cx} {ρ : List (Str × SV)}
theorem Source.str {iter : Expr} {y : Str} {py : Pos} {x : Str} (he : Ev c ρ iter (.str x)) (hh : c.A.handled = none) : Source c ρ iter (.Name y py) x.cps.toList (fun cp => [(y, .str ⟨#[cp]⟩)]) := fun F s Q E hs hQ =>
  he.run F s _ E hs fun v F₁ s₁ x₁ hv => by
    unfold VR at hv
    obtain ⟨t, rfl⟩ := hv
    have hfresh : ∀ a ∈ [s₁.heap.objs.size], F₁ a = none := fun a ha => by rw [List.mem_singleton.mp ha]; exact dryF x₁.inn (Nat.le_refl _)
    have hdead : ∀ a ∈ [s₁.heap.objs.size], s.heap.get? a = none := fun a ha => by
      rw [List.mem_singleton.mp ha]
      cases e : s.heap.get? s₁.heap.objs.size with
      | none => rfl
      | some o => have := x₁.keep _ _ e; rw [dead_of (Nat.le_refl _)] at this; cases this
    cases ha : x.cps.all (· < 128)
    · refine wpAny_pyIter_wide ha ?_
      have e₂ := Ext.made (F := F₁) (s := s₁) (tk := s₁.toks) x₁.inn (h' := s₁.heap.push { cls := .type "str_iterator", data := .fields #[.str x t, .int 0 0] }) fun a o q => Heap.get?_push_of_some _ q
      refine hQ s₁.heap.objs.size (fun a => a ∈ [s₁.heap.objs.size]) (ItJ F₁ [s₁.heap.objs.size] (fun i h => h.IsStrIter s₁.heap.objs.size "str_iterator" x t i)) F₁ _ (x₁.trans e₂) hdead ?_ ?_
      · exact ⟨⟨_, Heap.get?_push_size _ rfl, rfl, rfl⟩, Sub.refl _, fun a ha => by rw [List.mem_singleton.mp ha]; exact ⟨dryF x₁.inn (Nat.le_refl _), _, Heap.get?_push_size _ rfl⟩, e₂.inn⟩
      · intro c' h1 h2 h3 h4 h5
        refine Src.ofWalks (n := x.cps.size) (by rw [h1, h2, h3]; exact Walks.strWide hh _ x t) (by simp) (fun b hb => .inl hb) (fun i h hst a ha => ?_) (fun i v z hP hz => ?_) h4 (h5 y (by simp [tgNames]))
        · rw [List.mem_singleton.mp ha]; obtain ⟨o, ho, _⟩ := hst; exact ⟨o, ho⟩
        · obtain ⟨cp, u, hcp, rfl⟩ := hP
          have : z = cp := by rw [Array.getElem?_toList] at hz; rw [hcp] at hz; exact (Option.some.inj hz).symm
          rw [this]; exact VR.str
    · refine wpAny_pyIter_ascii ha ?_
      have e₂ := Ext.made (F := F₁) (s := s₁) (tk := s₁.toks) x₁.inn (h' := s₁.heap.push { cls := .type "str_ascii_iterator", data := .fields #[.str x t, .int 0 0] }) fun a o q => Heap.get?_push_of_some _ q
      refine hQ s₁.heap.objs.size (fun a => a ∈ [s₁.heap.objs.size]) (ItJ F₁ [s₁.heap.objs.size] (fun i h => h.IsStrIter s₁.heap.objs.size "str_ascii_iterator" x t i)) F₁ _ (x₁.trans e₂) hdead ?_ ?_
      · exact ⟨⟨_, Heap.get?_push_size _ rfl, rfl, rfl⟩, Sub.refl _, fun a ha => by rw [List.mem_singleton.mp ha]; exact ⟨dryF x₁.inn (Nat.le_refl _), _, Heap.get?_push_size _ rfl⟩, e₂.inn⟩
      · intro c' h1 h2 h3 h4 h5
        refine Src.ofWalks (n := x.cps.size) (by rw [h1, h2, h3]; exact Walks.strAscii hh _ x t) (by simp) (fun b hb => .inl hb) (fun i h hst a ha => ?_) (fun i v z hP hz => ?_) h4 (h5 y (by simp [tgNames]))
        · rw [List.mem_singleton.mp ha]; obtain ⟨o, ho, _⟩ := hst; exact ⟨o, ho⟩
        · obtain ⟨cp, u, hcp, rfl⟩ := hP
          have : z = cp := by rw [Array.getElem?_toList] at hz; rw [hcp] at hz; exact (Option.some.inj hz).symm
          rw [this]; exact VR.str
theorem VRs.at {F : PM} : ∀ {xs : List SV} {vs : List Value} {j : Nat} {v : Value} {x : SV}, VRs F xs vs → vs[j]? = some v → xs[j]? = some x → VR F x v
  | [], _, _, _, _, h, _, hx => by simp at hx
  | x :: xs, vs, 0, v, y, h, hv, hx => by
    unfold VRs at h
    obtain ⟨u, r, rfl, hu, hr⟩ := h
    simp at hv hx; subst hv; subst hx; exact hu
  | x :: xs, vs, j + 1, v, y, h, hv, hx => by
    unfold VRs at h
    obtain ⟨u, r, rfl, hu, hr⟩ := h
    rw [List.getElem?_cons_succ] at hv hx
    exact hr.at hv hx
theorem Source.list {iter : Expr} {y : Str} {py : Pos} {xs : List SV} (he : Ev c ρ iter (.lst xs)) (hh : c.A.handled = none) : Source c ρ iter (.Name y py) xs (fun v => [(y, v)]) := fun F s Q E hs hQ =>
  he.run F s _ E hs fun v F₁ s₁ x₁ hv => by
    unfold VR at hv
    obtain ⟨D, vs, n, rfl, hD, hvs⟩ := hv
    have hDh := x₁.inn _ _ hD
    have hlt := Heap.lt_size hDh
    have hl : s₁.heap.IsList D vs.toArray := ⟨_, hDh, rfl, n, rfl⟩
    refine wpAny_pyIter_list hl ?_
    have e₂ := Ext.made (F := F₁) (s := s₁) (tk := s₁.toks) x₁.inn (h' := s₁.heap.push { cls := .type "list_iterator", data := .fields #[.ref D, .int 0 0] }) fun a o q => Heap.get?_push_of_some _ q
    refine hQ s₁.heap.objs.size (fun a => a ∈ [s₁.heap.objs.size]) (ItJ F₁ [s₁.heap.objs.size] (fun i h => h.IsListIter s₁.heap.objs.size D i ∧ h.IsList D vs.toArray)) F₁ _ (x₁.trans e₂) ?_ ?_ ?_
    · intro a ha
      rw [List.mem_singleton.mp ha]
      cases e : s.heap.get? s₁.heap.objs.size with
      | none => rfl
      | some o => have := x₁.keep _ _ e; rw [dead_of (Nat.le_refl _)] at this; cases this
    · exact ⟨⟨⟨_, Heap.get?_push_size _ rfl, rfl, rfl⟩, ⟨_, Heap.get?_push_of_some _ hDh, rfl, n, rfl⟩⟩, Sub.refl _, fun a ha => by rw [List.mem_singleton.mp ha]; exact ⟨dryF x₁.inn (Nat.le_refl _), _, Heap.get?_push_size _ rfl⟩, e₂.inn⟩
    · intro c' h1 h2 h3 h4 h5
      refine Src.ofWalks (n := vs.toArray.size) (by rw [h1, h2, h3]; exact Walks.list hh _ D (Nat.ne_of_lt hlt) vs.toArray) (by rw [List.size_toArray]; exact hvs.length) (fun b hb => ?_) (fun i h hst a ha => ?_) (fun i v z hP hz => ?_) h4 (h5 y (by simp [tgNames]))
      · rcases List.mem_cons.mp hb with rfl | hb
        · exact .inl (List.mem_singleton.mpr rfl)
        · rw [List.mem_singleton.mp hb]; exact .inr ⟨_, hD⟩
      · rw [List.mem_singleton.mp ha]; obtain ⟨⟨o, ho, _⟩, _⟩ := hst; exact ⟨o, ho⟩
      · exact hvs.at (by simpa using hP) hz
end
end Mine
end
section
open PySem PySem.W PyProof.Rows
namespace Mine
theorem bindL_skip {kindOf : Str → Option NameKind} {x : Str} : ∀ (l : List (Str × Value)) (m : Str → Option Value), (∀ p ∈ l, p.1 ≠ x) → bindL kindOf l m x = m x
  | [], _, _ => rfl
  | (n, v) :: r, m, h => by
    unfold bindL
    rw [bindL_skip r _ fun p hp => h p (List.mem_cons_of_mem _ hp)]
    have hn : ¬ x = n := fun e => h (n, v) List.mem_cons_self e.symm
    split
    · exact if_neg hn
    · rfl
theorem bindC_skip {kindOf : Str → Option NameKind} {x : Str} : ∀ (l : List (Str × Value)) (m : Str → Option Value), (∀ p ∈ l, p.1 ≠ x) → bindC kindOf l m x = m x
  | [], _, _ => rfl
  | (n, v) :: r, m, h => by
    unfold bindC
    rw [bindC_skip r _ fun p hp => h p (List.mem_cons_of_mem _ hp)]
    have hn : ¬ x = n := fun e => h (n, v) List.mem_cons_self e.symm
    split
    · rfl
    · exact if_neg hn
theorem bindL_get {kindOf : Str → Option NameKind} {x : Str} {v : Value} (hk : kindOf x = some .local) : ∀ (l : List (Str × Value)) (m : Str → Option Value), (l.map (·.1)).Nodup → l.lookup x = some v → bindL kindOf l m x = some v
  | [], _, _, h => by cases h
  | (n, u) :: r, m, hn, h => by
    rw [List.map_cons, List.nodup_cons] at hn
    rw [List.lookup_cons] at h
    unfold bindL
    cases q : x == n with
    | true =>
      rw [q] at h; cases h
      have := beq_iff_eq.mp q; subst this
      rw [bindL_skip r _ fun p hp e => hn.1 (List.mem_map.mpr ⟨p, hp, e⟩), if_pos hk]
      exact if_pos rfl
    | false => rw [q] at h; exact bindL_get hk r _ hn.2 h
theorem bindC_get {kindOf : Str → Option NameKind} {x : Str} {v : Value} (hk : ¬ kindOf x = some .local) : ∀ (l : List (Str × Value)) (m : Str → Option Value), (l.map (·.1)).Nodup → l.lookup x = some v → bindC kindOf l m x = some v
  | [], _, _, h => by cases h
  | (n, u) :: r, m, hn, h => by
    rw [List.map_cons, List.nodup_cons] at hn
    rw [List.lookup_cons] at h
    unfold bindC
    cases q : x == n with
    | true =>
      rw [q] at h; cases h
      have := beq_iff_eq.mp q; subst this
      rw [bindC_skip r _ fun p hp e => hn.1 (List.mem_map.mpr ⟨p, hp, e⟩), if_neg hk]
      exact if_pos rfl
    | false => rw [q] at h; exact bindC_get hk r _ hn.2 h
theorem cellsFrom_has : ∀ (names : List (Str × NameKind)) (n : Nat) (acc : List (Str × Addr)) (x : Str), ((x, NameKind.cell) ∈ names ∨ (acc.lookup x).isSome = true) → ((cellsFrom n names acc).lookup x).isSome = true
  | [], n, acc, x, h => by
    rcases h with h | h
    · cases h
    · exact h
  | (y, k) :: r, n, acc, x, h => by
    unfold cellsFrom
    split
    · rename_i hk
      refine cellsFrom_has r _ _ x ?_
      rcases h with h | h
      · rcases List.mem_cons.mp h with e | h
        · cases e; right; rw [List.lookup_cons]; simp
        · exact .inl h
      · right
        rw [List.lookup_cons]
        cases x == y <;> first | rfl | exact h
    · rename_i hk
      refine cellsFrom_has r _ _ x ?_
      rcases h with h | h
      · rcases List.mem_cons.mp h with e | h
        · cases e; simp at hk
        · exact .inl h
      · exact .inr h
theorem PureFn.of_bodyC {K : Frag} {prog : Program} {w : World} {d : Nat} {f : Addr} {o : Obj} {fd : FuncData} {body : List Stmt} {names own : List Str} {args : List SV} {r : SV}
    (hK : K.lookup f = some o) (hd : o.data = .func fd) (hb : fd.body = .stmts body) (hcl : fd.closure = []) (hcode : codeIn K fd.code fd.qualname = true)
    (hs : strNsIn K cStatics = true) (hnl : nsIn K cStatics "sys.recursionlimit" = some Option.none)
    (hbind : ∀ F vals, VRs F args vals → bindArgs fd ⟨vals, []⟩ = pure (names.zip vals)) (hnd : (names.map id).Nodup)
    (hloc : ∀ x ∈ names, fd.scope.names.lookup x = some .local ∨ (fd.scope.names.lookup x = some .cell ∧ (x == ("__classdict__" : Str)) = false)) (hown : ∀ x ∈ own, (x, NameKind.cell) ∈ fd.scope.names ∧ fd.scope.names.lookup x = some .cell ∧ (x == ("__classdict__" : Str)) = false)
    (hall : ∀ x ∈ fd.scope.names, x.2 = .cell → x.1 ∈ own)
    (hco : fd.scope.isCoroutine = false) (hgen : fd.scope.isGenerator = false) (hk : fd.scope.kind = .function)
    (hrun : ∀ (A : Around) (L : Addr), Room (A.deeper (callEnvC fd L f)) d → Runs ⟨K, prog, w, A.deeper (callEnvC fd L f), callEnvC fd L f, own⟩ .nil (names.zip args) body (Ret r)) : PureFn K prog w (d + 1) f args r := by
  intro A F s vals Q E hr hsub hbase hv hQ
  have X : K.In s.heap := fun a o e => hsub _ _ (hbase a o e)
  have hroom : Room (A.deeper (callEnvC fd s.heap.objs.size f)) d := hr.deeper
  have hcells : ∀ x, fd.scope.names.lookup x = some .cell → ((cellsFrom (s.heap.objs.size + 1) fd.scope.names []).lookup x).isSome = true := fun x hx => cellsFrom_has _ _ _ _ (.inl (mem_of_lookup hx))
  refine wpAny_call (codeAny_call_cells (binds := names.zip vals) (by have := hr.depth; lia) (X _ _ hK) hd (noLimit_of X hs hnl) (codeRec_of X hcode) hb (hbind F vals hv) hcl
    (fun x hx => (hloc _ (List.of_mem_zip (l₁ := names) (l₂ := vals) (a := x.1) (b := x.2) hx).1).imp id fun q => ⟨q.1, hcells _ q.1⟩) (fun s₁ hin => ?_) hco hgen hk)
  generalize hL : s.heap.objs.size = L at *
  have dead : ∀ a, L ≤ a → s.heap.get? a = none := fun a ha => dead_of (by rw [hL]; exact ha)
  have dry : ∀ a, L ≤ a → F a = none := fun a ha => dryF hsub (by rw [hL]; exact ha)
  obtain ⟨⟨hsame, hns, hkeep, hfresh⟩, hcell, hapart, habove⟩ := hin
  have hLc : ∀ n a, (callEnvC fd L f).cells.lookup n = some a → L ≤ a := fun n a h => Nat.le_of_lt (habove n a (mem_of_lookup h))
  have hvol : ∀ a, Vol ⟨K, prog, w, A.deeper (callEnvC fd L f), callEnvC fd L f, own⟩ a → L ≤ a := fun a ha => by
    rcases ha with rfl | ⟨n, _, hn⟩
    · exact Nat.le_refl _
    · exact hLc n a hn
  have hcl' : ∀ n ∈ own, ∃ a, (callEnvC fd L f).cells.lookup n = some a := fun n hn => Option.isSome_iff_exists.mp (cellsFrom_has _ _ _ _ (.inl (hown n hn).1))
  refine wpAny_mono ((hrun A L hroom).run F s₁ (fun fl s' => match fl with | .ret v => Q v s' | _ => False) _ ⟨⟨fun a o e => hkeep _ _ (hsub a o e), hbase, fun x sv hx => ?_⟩, ⟨_, hns⟩, fun a ha => dry a (hvol a ha), fun n hn m a h1 h2 => name_of_addr hapart (mem_of_lookup h2) (mem_of_lookup h1), fun n a hn => ?_, fun n hn => ?_⟩ trivial (fun _ q => q.elim) fun fl F' s' x hfl => ?_) (fun fl s' h => ?_) fun _ _ h => h
  · obtain ⟨v, hl, hv⟩ := zip_has hv hx
    have hm : x ∈ names := (List.of_mem_zip (mem_of_lookup hl)).1
    rcases hloc x hm with hk' | ⟨hk', hcd⟩
    · exact .inl ⟨hk', _, v, hns, bindL_get hk' _ _ (zip_keys _ _ hnd) hl, hv⟩
    · obtain ⟨a, ha⟩ := Option.isSome_iff_exists.mp (hcells x hk')
      refine .inr ⟨.inl hk', hcd, a, v, ha, ?_, hv⟩
      have := hcell x a ha
      rw [bindC_get (kindOf := (callEnvC fd L f).kindOf) (x := x) (by rw [show (callEnvC fd L f).kindOf x = some .cell from hk']; decide) _ _ (zip_keys _ _ hnd) hl] at this
      exact this
  · obtain ⟨o, ho, _⟩ := hcell n a hn
    exact ⟨o, ho⟩
  · obtain ⟨a, ha⟩ := hcl' n hn
    exact ⟨(hown n hn).2.1, (hown n hn).2.2, a, _, ha, hcell n a ha⟩
  · obtain ⟨v, rfl, hv'⟩ := hfl
    have y : ExtV (fun a => L ≤ a) F s F' s' := by
      refine ⟨x.sub, x.inn, fun a o n e => x.keep a o ?_ (hkeep _ _ e), fun a o e => ?_, ?_⟩
      · rintro (ha | ha)
        · exact n (hvol a ha)
        · exact ha
      · rcases x.new a o e with q | q | (q | q)
        · exact .inl q
        · refine .inr (.inl ?_)
          cases e' : s.heap.get? a with
          | none => rfl
          | some o' => rw [hkeep _ _ e'] at q; cases q
        · exact .inr (.inr (hvol a q))
        · exact q.elim
      · obtain ⟨h, tk, e⟩ := x.rest
        obtain ⟨h', tk', e'⟩ := hsame
        exact ⟨h, tk, by rw [e, e']⟩
    exact hQ v F' s' (y.ext fun a q => dead a q) hv'
  · cases fl <;> first | exact h | exact h.elim
end Mine
end
section
open PySem PySem.W PyProof.Rows
namespace Mine
theorem VRs.get {F : PM} : ∀ {xs : List SV} {vs : List Value} {j : Nat} {sv : SV}, VRs F xs vs → xs[j]? = some sv → ∃ v, vs[j]? = some v ∧ VR F sv v
  | [], _, _, _, _, h => by simp at h
  | x :: xs, vs, 0, sv, hv, h => by
    unfold VRs at hv
    obtain ⟨v, r, rfl, hv, hr⟩ := hv
    simp at h; subst h
    exact ⟨v, rfl, hv⟩
  | x :: xs, vs, j + 1, sv, hv, h => by
    unfold VRs at hv
    obtain ⟨v, r, rfl, hv, hr⟩ := hv
    rw [List.getElem?_cons_succ] at h ⊢
    exact hr.get h
section
variable {c : Cx} {ρ : List (Str × SV)}
theorem Ev.subTup {value slice : Expr} {pos : Pos} {xs : List SV} {k : Int} {sv : SV} (hv : Ev c ρ value (.tup xs)) (hi : Ev c ρ slice (.int k)) (h0 : 0 ≤ k) (h1 : k < 2 ^ 62) (hx : xs[k.toNat]? = some sv)
    (hs : ∀ o i, subscripted slice false o i = operate [o, i] (getItem o i) := by exact sub_plain rfl) : Ev c ρ (.Subscript value slice pos) sv := .mk fun F s Q E h hQ =>
  Subscript_ (hv.run F s _ E h fun v F₁ s₁ x₁ hv => hi.run F₁ s₁ _ E (h.ext x₁) fun u F₂ s₂ x₂ hu => by
    unfold VR at hv hu
    obtain ⟨D, vs, n, rfl, hD, hvs⟩ := hv
    obtain ⟨t, rfl⟩ := hu
    have hD₂ := x₂.inn _ _ (x₂.sub _ _ hD)
    obtain ⟨v, hj, hv⟩ := (hvs.mono x₂.sub).get hx
    have ht : IsTup s₂.heap D vs.toArray := ⟨_, hD₂, rfl, n, rfl⟩
    refine tail_any (T := "tuple") ⟨_, hD₂, rfl⟩ slot_tuple_getitem.lookup (getItem_tuple ht (by lia) (by lia) (j := k.toNat) ?_ (by simpa using hj) (hQ v F₂ s₂ (x₁.trans x₂) hv)) (hs _ _)
    unfold seqIndex?
    have : k.toNat < vs.length := (List.getElem?_eq_some_iff.mp hj).1
    simp only [List.size_toArray]
    have e1 : (if k < 0 then k + (vs.length : Int) else k) = k := if_neg (by lia)
    simp only [e1]
    first
      | exact if_pos (by simp; lia)
      | (rw [if_pos]; simp; lia)
      | (rw [if_neg]; simp; lia)
      | (split <;> first | rfl | (simp_all; lia) | (exfalso; simp_all; lia)))
theorem Ev.subLst {value slice : Expr} {pos : Pos} {xs : List SV} {k : Int} {sv : SV} (hv : Ev c ρ value (.lst xs)) (hi : Ev c ρ slice (.int k)) (h0 : 0 ≤ k) (h1 : k < 2 ^ 62) (hx : xs[k.toNat]? = some sv)
    (hs : ∀ o i, subscripted slice false o i = operate [o, i] (getItem o i) := by exact sub_plain rfl) : Ev c ρ (.Subscript value slice pos) sv := .mk fun F s Q E h hQ =>
  Subscript_ (hv.run F s _ E h fun v F₁ s₁ x₁ hv => hi.run F₁ s₁ _ E (h.ext x₁) fun u F₂ s₂ x₂ hu => by
    unfold VR at hv hu
    obtain ⟨D, vs, n, rfl, hD, hvs⟩ := hv
    obtain ⟨t, rfl⟩ := hu
    have hD₂ := x₂.inn _ _ (x₂.sub _ _ hD)
    obtain ⟨v, hj, hv⟩ := (hvs.mono x₂.sub).get hx
    have ht : s₂.heap.IsList D vs.toArray := ⟨_, hD₂, rfl, n, rfl⟩
    exact tail_any (T := "list") ⟨_, hD₂, rfl⟩ slot_list_getitem.lookup (wpAny_getItem_list ht h0 (by lia) (by simpa using hj) (hQ v F₂ s₂ (x₁.trans x₂) hv)) (hs _ _))
end
end Mine
end
section
open PySem PySem.W PyProof.Rows
namespace Mine
theorem callRaw {c : Cx} {ρ : List (Str × SV)} {x : Str} {p pos : Pos} {es : List Expr} {fv : SV} {f : Value} {svs : List SV} (hf : Ev c ρ (.Name x p) fv) (hfv : ∀ F v, VR F fv v → v = f) (hm : keeperOf f = pure .machine) (he : Evs c ρ es svs)
    (hst : ∀ env : Env, (backTo pos (starEach es env)).any (·.1) = false) {F s} {Q : Value → Shared → Prop} {E} (h : St c.K c.env ρ F s)
    (hQ : ∀ vs F' s', Ext F s F' s' → VRs F' svs vs → wpAny (model c.prog c.w) c.A (PySem.call f vs) Q E s') : wpAny (model c.prog c.w) c.A (eval (.Call (.Name x p) es [] pos) c.env) Q E s := by
  refine wpAny_Call_Name_kw (hf.run F s _ E h fun v F₁ s₁ x₁ hv => ?_)
  cases hfv _ _ hv
  refine callWith_machine hm (hst _) (evalArgs_of hst (he.run F₁ s₁ _ E pos (h.ext x₁) fun vs F₂ s₂ x₂ hvs => ?_))
  exact hQ vs F₂ s₂ (x₁.trans x₂) hvs
theorem ty_val {t : String} : ∀ F v, VR F (.ty t) v → v = .type t := fun F v h => by unfold VR at h; exact h
theorem VRs.inv1 {F : PM} {a : SV} {vs : List Value} (h : VRs F [a] vs) : ∃ v, vs = [v] ∧ VR F a v := by
  unfold VRs VRs at h
  obtain ⟨v, _, rfl, hv, rfl⟩ := h
  exact ⟨v, rfl, hv⟩
theorem VRs.inv2 {F : PM} {a b : SV} {vs : List Value} (h : VRs F [a, b] vs) : ∃ v u, vs = [v, u] ∧ VR F a v ∧ VR F b u := by
  unfold VRs VRs VRs at h
  obtain ⟨v, _, rfl, hv, u, _, rfl, hu, rfl⟩ := h
  exact ⟨v, u, rfl, hv, hu⟩
theorem keep_dead {F F' : PM} {s s' : Shared} (x : Ext F s F' s') {a : Addr} (h : s'.heap.get? a = none) : s.heap.get? a = none := by
  cases e : s.heap.get? a with
  | none => rfl
  | some o => have := x.keep _ _ e; rw [h] at this; cases this
theorem smallRange {n : Nat} (h : n ≤ 6) : Builtin.Range.small 0 n 1 = true ∧ Builtin.Range.rangeSize 0 n 1 = n := by
  have : n = 0 ∨ n = 1 ∨ n = 2 ∨ n = 3 ∨ n = 4 ∨ n = 5 ∨ n = 6 := by lia
  rcases this with rfl | rfl | rfl | rfl | rfl | rfl | rfl <;> exact ⟨by decide +kernel, by decide +kernel⟩
section
variable {c : Cx} {ρ : List (Str × SV)}
theorem Source.range {nm y : Str} {p pos py : Pos} {e : Expr} {n : Nat} (hf : Ev c ρ (.Name nm p) (.ty "range")) (he : Ev c ρ e (.int n)) (hn : n ≤ 6) (hh : c.A.handled = none)
    (hst : ∀ env : Env, (backTo pos (starEach [e] env)).any (·.1) = false := by exact fun _ => plain_any rfl) (hst' : ∀ env, starEach (e :: []) env = (false, eval e env) :: starEach [] env := by exact fun _ => starEach_cons rfl) :
    Source c ρ (.Call (.Name nm p) [e] [] pos) (.Name y py) (List.range n) (fun i => [(y, .int i)]) := fun F s Q E hs hQ =>
  callRaw hf ty_val rfl (Evs.cons he Evs.nil hst') hst hs fun vs F₁ s₁ x₁ hvs => by
    obtain ⟨v, rfl, hv⟩ := hvs.inv1
    unfold VR at hv
    obtain ⟨t, rfl⟩ := hv
    refine call_range_1 ?_
    generalize hs₂ : ({ s₁ with heap := s₁.heap.push { cls := .type "range", data := .fields #[.int 0 s₁.toks, .int (n : Int) t, .int 1 (s₁.toks + 1)] }, toks := s₁.toks + 1 + 1 } : Shared) = s₂
    have e₂ : Ext F₁ s₁ F₁ s₂ := hs₂ ▸ Ext.made x₁.inn fun a o q => Heap.get?_push_of_some _ q
    have hR : IsRange s₂.heap s₁.heap.objs.size 0 n 1 s₁.toks t (s₁.toks + 1) := hs₂ ▸ Heap.get?_push_size _ rfl
    refine wpAny_pyIter_range hR (smallRange hn).1 ?_
    rw [(smallRange hn).2]
    have e₃ := Ext.made (F := F₁) (s := s₂) (tk := s₂.toks) e₂.inn (h' := s₂.heap.push { cls := .type "range_iterator", data := .fields #[rawInt 0, rawInt n, rawInt 1] }) fun a o q => Heap.get?_push_of_some _ q
    refine hQ s₂.heap.objs.size (fun a => a ∈ [s₂.heap.objs.size]) (ItJ F₁ [s₂.heap.objs.size] (fun i h => IsRangeIter h s₂.heap.objs.size (0 + (i : Nat) * 1) ((n : Int) - (i : Nat)) 1)) F₁ _ ((x₁.trans e₂).trans e₃) ?_ ?_ ?_
    · intro a ha
      rw [List.mem_singleton.mp ha]
      exact keep_dead (x₁.trans e₂) (dead_of (Nat.le_refl _))
    · refine ⟨?_, Sub.refl _, fun a ha => by rw [List.mem_singleton.mp ha]; exact ⟨dryF e₂.inn (Nat.le_refl _), _, Heap.get?_push_size _ rfl⟩, e₃.inn⟩
      have := Heap.get?_push_size s₂.heap (o := { cls := .type "range_iterator", data := .fields #[rawInt 0, rawInt n, rawInt 1] }) rfl
      simpa using this
    · intro c' h1 h2 h3 h4 h5
      refine Src.ofWalks (n := n) (by rw [h1, h2, h3]; exact Walks.range hh _ 0 1 n) (by simp) (fun b hb => .inl hb) (fun i h hst a ha => ?_) (fun i v z hP hz => ?_) h4 (h5 y (by simp [tgNames]))
      · rw [List.mem_singleton.mp ha]; exact ⟨_, hst⟩
      · obtain ⟨u, rfl⟩ := hP
        obtain ⟨h1, h2⟩ := List.getElem?_eq_some_iff.mp hz
        rw [List.getElem_range] at h2
        subst h2
        unfold VR
        exact ⟨u, by simp⟩
theorem VRs.pairs {α : Type} {F : PM} {g₁ g₂ : α → SV} : ∀ {xs : List α} {vs : List Value}, VRs F (xs.map fun z => .tup [g₁ z, g₂ z]) vs →
    ∃ Ts : List Addr, vs = Ts.map Value.ref ∧ ∀ (j : Nat) (T : Addr), Ts[j]? = some T → ∃ z, xs[j]? = some z ∧ ∃ v u n, F T = some { cls := .type "tuple", data := .seq #[v, u] n } ∧ VR F (g₁ z) v ∧ VR F (g₂ z) u
  | [], vs, h => by
    rw [List.map_nil] at h
    unfold VRs at h
    exact ⟨[], h, fun j T hj => by simp at hj⟩
  | z :: xs, vs, h => by
    rw [List.map_cons] at h
    unfold VRs at h
    obtain ⟨v, r, rfl, hv, hr⟩ := h
    unfold VR at hv
    obtain ⟨D, us, n, rfl, hD, hus⟩ := hv
    obtain ⟨a, b, rfl, ha, hb⟩ := hus.inv2
    obtain ⟨Ts, rfl, hT⟩ := hr.pairs
    refine ⟨D :: Ts, rfl, fun j T hj => ?_⟩
    cases j with
    | zero => simp at hj; subst hj; exact ⟨z, rfl, a, b, n, hD, ha, hb⟩
    | succ j => rw [List.getElem?_cons_succ] at hj; rw [List.getElem?_cons_succ]; exact hT j T hj
theorem Source.pairs {α : Type} {iter : Expr} {x y : Str} {px py tp : Pos} {k : Nat} {xs : List α} {g₁ g₂ : α → SV} (he : Ev c ρ iter (.lst (xs.map fun z => .tup [g₁ z, g₂ z]))) (hh : c.A.handled = none) :
    Source c ρ iter (.Tuple [.Name x px, .Name y py] k tp) xs (fun z => [(y, g₂ z), (x, g₁ z)]) := fun F s Q E hs hQ =>
  he.run F s _ E hs fun v F₁ s₁ x₁ hv => by
    unfold VR at hv
    obtain ⟨D, vs, n, rfl, hD, hvs⟩ := hv
    have hDh := x₁.inn _ _ hD
    have hlt := Heap.lt_size hDh
    have hl : s₁.heap.IsList D vs.toArray := ⟨_, hDh, rfl, n, rfl⟩
    have hlen := hvs.length
    rw [List.length_map] at hlen
    obtain ⟨Ts, rfl, hT⟩ := hvs.pairs
    rw [List.length_map] at hlen
    refine wpAny_pyIter_list hl ?_
    have e₂ := Ext.made (F := F₁) (s := s₁) (tk := s₁.toks) x₁.inn (h' := s₁.heap.push { cls := .type "list_iterator", data := .fields #[.ref D, .int 0 0] }) fun a o q => Heap.get?_push_of_some _ q
    have hTl : ∀ j, j < Ts.length → ∃ T, Ts[j]? = some T := fun j hj => ⟨_, List.getElem?_eq_getElem hj⟩
    let tsf : Nat → Addr := fun j => (Ts[j]?).getD 0
    have hts : ∀ j, j < Ts.length → Ts[j]? = some (tsf j) := fun j hj => by obtain ⟨T, e⟩ := hTl j hj; show Ts[j]? = some ((Ts[j]?).getD 0); rw [e]; rfl
    have hch : ∀ j, ∃ vals : Array Value, j < Ts.length → ∃ z v u n, xs[j]? = some z ∧ vals = #[v, u] ∧ F₁ (tsf j) = some { cls := .type "tuple", data := .seq #[v, u] n } ∧ VR F₁ (g₁ z) v ∧ VR F₁ (g₂ z) u := fun j => by
      by_cases hj : j < Ts.length
      · obtain ⟨z, hz, v, u, n, hF, h1, h2⟩ := hT j _ (hts j hj)
        exact ⟨#[v, u], fun _ => ⟨z, v, u, n, hz, rfl, hF, h1, h2⟩⟩
      · exact ⟨#[], fun h => absurd h hj⟩
    obtain ⟨vals, hvals⟩ := Classical.axiomOfChoice hch
    refine hQ s₁.heap.objs.size (fun a => a ∈ [s₁.heap.objs.size]) (ItJ F₁ [s₁.heap.objs.size] (fun j h => h.IsListIter s₁.heap.objs.size D j ∧ h.IsList D (Ts.map Value.ref).toArray ∧ ∀ k, k < (Ts.map Value.ref).toArray.size → h.IsTuple (tsf k) (vals k))) F₁ _ (x₁.trans e₂) ?_ ?_ ?_
    · intro a ha
      rw [List.mem_singleton.mp ha]
      exact keep_dead x₁ (dead_of (Nat.le_refl _))
    · refine ⟨⟨⟨_, Heap.get?_push_size _ rfl, rfl, rfl⟩, ⟨_, Heap.get?_push_of_some _ hDh, rfl, n, rfl⟩, fun k hk => ?_⟩, Sub.refl _, fun a ha => by rw [List.mem_singleton.mp ha]; exact ⟨dryF x₁.inn (Nat.le_refl _), _, Heap.get?_push_size _ rfl⟩, e₂.inn⟩
      have hk : k < Ts.length := by simpa using hk
      obtain ⟨z, v, u, n, _, e, hF, _, _⟩ := hvals k hk
      rw [e]
      exact ⟨_, Heap.get?_push_of_some _ (x₁.inn _ _ hF), rfl, n, rfl⟩
    · intro c' h1 h2 h3 h4 h5
      have W := WalksU.listOfTuples (prog := c.prog) (w := c.w) (A := c.A) hh s₁.heap.objs.size D (Nat.ne_of_lt hlt) (Ts.map Value.ref).toArray tsf vals (fun j hj => by
        have hj : j < Ts.length := by simpa using hj
        rw [List.getElem?_toArray, List.getElem?_map, hts j hj]; rfl) (fun j hj => by
        have hj : j < Ts.length := by simpa using hj
        obtain ⟨z, v, u, n, _, _, hF, _, _⟩ := hvals j hj
        exact Nat.ne_of_lt (Heap.lt_size (x₁.inn _ _ hF)))
      refine Src.ofWalksU (by rw [h1, h2, h3]; exact W.bound) (by rw [h3]; exact hh) (by simpa using hlen) (fun b hb => ?_) (fun i h hst a ha => ?_) (fun i vs z hP hz => ?_) h4 (h5 x (by simp [tgNames])) (h5 y (by simp [tgNames]))
      · rcases List.mem_cons.mp hb with rfl | hb
        · exact .inl (List.mem_singleton.mpr rfl)
        · rcases List.mem_cons.mp hb with rfl | hb
          · exact .inr ⟨_, hD⟩
          · obtain ⟨j, hj, rfl⟩ := List.mem_map.mp hb
            obtain ⟨z, v, u, n, _, _, hF, _, _⟩ := hvals j (by simpa using hj)
            exact .inr ⟨_, hF⟩
      · rw [List.mem_singleton.mp ha]; obtain ⟨⟨o, ho, _⟩, _⟩ := hst; exact ⟨o, ho⟩
      · obtain ⟨hi, rfl⟩ := hP
        obtain ⟨z', v, u, n, hz', e, hF, h1, h2⟩ := hvals i (by simpa using hi)
        rw [hz] at hz'; cases hz'
        exact ⟨v, u, e, h1, h2⟩
theorem Source.enumStr {nm x y : Str} {p pos px py tp : Pos} {k : Nat} {e : Expr} {z : Str} (hf : Ev c ρ (.Name nm p) (.ty "enumerate")) (he : Ev c ρ e (.str z)) (ha : z.cps.all (· < 128) = true) (hh : c.A.handled = none)
    (hst : ∀ env : Env, (backTo pos (starEach [e] env)).any (·.1) = false := by exact fun _ => plain_any rfl) (hst' : ∀ env, starEach (e :: []) env = (false, eval e env) :: starEach [] env := by exact fun _ => starEach_cons rfl) :
    Source c ρ (.Call (.Name nm p) [e] [] pos) (.Tuple [.Name x px, .Name y py] k tp) z.cps.toList.zipIdx (fun u => [(y, .str ⟨#[u.1]⟩), (x, .int u.2)]) := fun F s Q E hs hQ =>
  callRaw hf ty_val rfl (Evs.cons he Evs.nil hst') hst hs fun vs F₁ s₁ x₁ hvs => by
    obtain ⟨v, rfl, hv⟩ := hvs.inv1
    unfold VR at hv
    obtain ⟨t, rfl⟩ := hv
    refine call_enumerate_str fun h' hen hit hsz hkeep => ?_
    have hit : h'.IsStrIter s₁.heap.objs.size "str_ascii_iterator" z t 0 := by unfold strIterType at hit; rw [if_pos ha] at hit; exact hit
    refine wpAny_pyIter_enum hen ?_
    have e₂ := Ext.made (F := F₁) (s := s₁) (tk := s₁.toks) x₁.inn (h' := h') hkeep
    have hin1 : c.A.in1.handled = none := hh
    have W := (WalksT.enumerateD (Draws.strAscii (prog := c.prog) (w := c.w) hin1 s₁.heap.objs.size z t) (s₁.heap.objs.size + 1) (Nat.succ_ne_self _) (by simp) (by simp)).toU
    refine hQ (s₁.heap.objs.size + 1) (fun a => a ∈ [s₁.heap.objs.size + 1, s₁.heap.objs.size]) (ItJ F₁ [s₁.heap.objs.size + 1, s₁.heap.objs.size] (fun i h => (∃ old, IsEnum h (s₁.heap.objs.size + 1) s₁.heap.objs.size i old) ∧ h.IsStrIter s₁.heap.objs.size "str_ascii_iterator" z t i)) F₁ _ (x₁.trans e₂) ?_ ?_ ?_
    · intro a ha
      rcases List.mem_cons.mp ha with rfl | ha
      · exact keep_dead x₁ (dead_of (Nat.le_succ _))
      · rw [List.mem_singleton.mp ha]; exact keep_dead x₁ (dead_of (Nat.le_refl _))
    · refine ⟨⟨⟨_, hen⟩, hit⟩, Sub.refl _, fun a ha => ?_, e₂.inn⟩
      rcases List.mem_cons.mp ha with rfl | ha
      · exact ⟨dryF x₁.inn (Nat.le_succ _), _, hen⟩
      · rw [List.mem_singleton.mp ha]; obtain ⟨o, ho, _⟩ := hit; exact ⟨dryF x₁.inn (Nat.le_refl _), o, ho⟩
    · intro c' h1 h2 h3 h4 h5
      refine Src.ofWalksU (by rw [h1, h2, h3]; exact W) (by rw [h3]; exact hh) (by simp) (fun b hb => .inl (by simpa using hb)) (fun i h hst a ha => ?_) (fun i vs u hP hz => ?_) h4 (h5 x (by simp [tgNames])) (h5 y (by simp [tgNames]))
      · obtain ⟨⟨old, ho⟩, o, ho', _⟩ := hst
        rcases List.mem_cons.mp ha with rfl | ha
        · exact ⟨_, ho⟩
        · rw [List.mem_singleton.mp ha]; exact ⟨o, ho'⟩
      · obtain ⟨tk, v, ⟨cp, u', hcp, rfl⟩, rfl⟩ := hP
        rw [List.getElem?_zipIdx, Array.getElem?_toList, hcp] at hz
        simp at hz
        subst hz
        exact ⟨_, _, rfl, VR.int, VR.str⟩
theorem Source.enumList {nm x y : Str} {p pos px py tp : Pos} {k : Nat} {e : Expr} {zs : List SV} (hf : Ev c ρ (.Name nm p) (.ty "enumerate")) (he : Ev c ρ e (.lst zs)) (hh : c.A.handled = none)
    (hst : ∀ env : Env, (backTo pos (starEach [e] env)).any (·.1) = false := by exact fun _ => plain_any rfl) (hst' : ∀ env, starEach (e :: []) env = (false, eval e env) :: starEach [] env := by exact fun _ => starEach_cons rfl) :
    Source c ρ (.Call (.Name nm p) [e] [] pos) (.Tuple [.Name x px, .Name y py] k tp) zs.zipIdx (fun u => [(y, u.1), (x, .int u.2)]) := fun F s Q E hs hQ =>
  callRaw hf ty_val rfl (Evs.cons he Evs.nil hst') hst hs fun vs F₁ s₁ x₁ hvs => by
    obtain ⟨v, rfl, hv⟩ := hvs.inv1
    unfold VR at hv
    obtain ⟨D, us, n, rfl, hD, hus⟩ := hv
    have hDh := x₁.inn _ _ hD
    have hlt := Heap.lt_size hDh
    have hl : s₁.heap.IsList D us.toArray := ⟨_, hDh, rfl, n, rfl⟩
    refine call_enumerate_list hl fun h' hen hit hsz hkeep => ?_
    refine wpAny_pyIter_enum hen ?_
    have e₂ := Ext.made (F := F₁) (s := s₁) (tk := s₁.toks) x₁.inn (h' := h') hkeep
    have W := (WalksT.enumerate (prog := c.prog) (w := c.w) hh (s₁.heap.objs.size + 1) s₁.heap.objs.size D (Nat.succ_ne_self _) (Nat.ne_of_lt (Nat.lt_succ_of_lt hlt)) (Nat.ne_of_lt hlt) us.toArray).toU
    refine hQ (s₁.heap.objs.size + 1) (fun a => a ∈ [s₁.heap.objs.size + 1, s₁.heap.objs.size]) (ItJ F₁ [s₁.heap.objs.size + 1, s₁.heap.objs.size] (fun i h => (∃ old, IsEnum h (s₁.heap.objs.size + 1) s₁.heap.objs.size i old) ∧ h.IsListIter s₁.heap.objs.size D i ∧ h.IsList D us.toArray)) F₁ _ (x₁.trans e₂) ?_ ?_ ?_
    · intro a ha
      rcases List.mem_cons.mp ha with rfl | ha
      · exact keep_dead x₁ (dead_of (Nat.le_succ _))
      · rw [List.mem_singleton.mp ha]; exact keep_dead x₁ (dead_of (Nat.le_refl _))
    · refine ⟨⟨⟨_, hen⟩, hit, ⟨_, e₂.inn _ _ hD, rfl, n, rfl⟩⟩, Sub.refl _, fun a ha => ?_, e₂.inn⟩
      rcases List.mem_cons.mp ha with rfl | ha
      · exact ⟨dryF x₁.inn (Nat.le_succ _), _, hen⟩
      · rw [List.mem_singleton.mp ha]; obtain ⟨o, ho, _⟩ := hit; exact ⟨dryF x₁.inn (Nat.le_refl _), o, ho⟩
    · intro c' h1 h2 h3 h4 h5
      refine Src.ofWalksU (by rw [h1, h2, h3]; exact W) (by rw [h3]; exact hh) (by simpa using hus.length) (fun b hb => ?_) (fun i h hst a ha => ?_) (fun i vs u hP hz => ?_) h4 (h5 x (by simp [tgNames])) (h5 y (by simp [tgNames]))
      · rcases List.mem_cons.mp hb with rfl | hb
        · exact .inl (by simp)
        · rcases List.mem_cons.mp hb with rfl | hb
          · exact .inl (by simp)
          · rw [List.mem_singleton.mp hb]; exact .inr ⟨_, hD⟩
      · obtain ⟨⟨old, ho⟩, ⟨o, ho', _⟩, _⟩ := hst
        rcases List.mem_cons.mp ha with rfl | ha
        · exact ⟨_, ho⟩
        · rw [List.mem_singleton.mp ha]; exact ⟨o, ho'⟩
      · obtain ⟨tk, v, hv, rfl⟩ := hP
        rw [List.getElem?_zipIdx] at hz
        obtain ⟨w, hw, rfl⟩ := Option.map_eq_some_iff.mp hz
        refine ⟨_, _, rfl, ?_, hus.at (by simpa using hv) hw⟩
        unfold VR; exact ⟨tk, by simp⟩
end
end Mine
end
section
open PySem PySem.W PyProof.Rows
namespace Mine
theorem VRs.app {F : PM} : ∀ {xs ys : List SV} {vs us : List Value}, VRs F xs vs → VRs F ys us → VRs F (xs ++ ys) (vs ++ us)
  | [], ys, vs, us, h, k => by
    unfold VRs at h; subst h; exact k
  | x :: xs, ys, vs, us, h, k => by
    unfold VRs at h
    obtain ⟨v, r, rfl, hv, hr⟩ := h
    rw [List.cons_append, List.cons_append]
    unfold VRs
    exact ⟨v, r ++ us, rfl, hv, hr.app k⟩
theorem VRs.strs {F : PM} : ∀ {xs : List Str} {vs : List Value}, VRs F (xs.map .str) vs → ∃ l : List (Str × Tok), vs = PySem.strValues l ∧ l.map (·.1) = xs
  | [], vs, h => by
    rw [List.map_nil] at h; unfold VRs at h; exact ⟨[], h, rfl⟩
  | x :: xs, vs, h => by
    rw [List.map_cons] at h; unfold VRs at h
    obtain ⟨v, r, rfl, hv, hr⟩ := h
    unfold VR at hv
    obtain ⟨t, rfl⟩ := hv
    obtain ⟨l, rfl, hl⟩ := hr.strs
    exact ⟨(x, t) :: l, rfl, by rw [List.map_cons, hl]⟩
theorem VRs.ints {F : PM} : ∀ {xs : List Int} {vs : List Value}, VRs F (xs.map .int) vs → IntsAre vs xs
  | [], vs, h => by
    rw [List.map_nil] at h; unfold VRs at h; subst h; exact .nil
  | x :: xs, vs, h => by
    rw [List.map_cons] at h; unfold VRs at h
    obtain ⟨v, r, rfl, hv, hr⟩ := h
    unfold VR at hv
    obtain ⟨t, rfl⟩ := hv
    exact .cons x t hr.ints
theorem VRs.strsAre {F : PM} : ∀ {xs : List Str} {vs : List Value}, VRs F (xs.map .str) vs → StrsAre vs xs
  | [], vs, h => by
    rw [List.map_nil] at h; unfold VRs at h; subst h; exact .nil
  | x :: xs, vs, h => by
    rw [List.map_cons] at h; unfold VRs at h
    obtain ⟨v, r, rfl, hv, hr⟩ := h
    unfold VR at hv
    obtain ⟨t, rfl⟩ := hv
    exact .cons x t hr.strsAre
theorem s_depthAll : ∀ ns : List Str, PyData.depthAll (ns.map PyData.str) = 0
  | [] => rfl
  | _ :: r => by simp [PyData.depthAll, PyData.depth, s_depthAll r]
theorem s_shaped (ns : List Str) (h : ns.all PyData.strOk = true) : SeqAt.shaped (.list (ns.map PyData.str)) = true := by
  simp [SeqAt.shaped, PyData.canLay0, PyData.depth, canLayAll_strs', s_depthAll]
  simpa using h
theorem s_sameAll : ∀ ns ms : List Str, PySem.Spec.sameAll (ns.map PyData.str) (ms.map PyData.str) = decide (ns = ms)
  | [], [] => by simp [PySem.Spec.sameAll]
  | [], _ :: _ => by simp [PySem.Spec.sameAll]
  | _ :: _, [] => by simp [PySem.Spec.sameAll]
  | a :: r, b :: t => by
    simp only [List.map_cons, PySem.Spec.sameAll, PySem.Spec.same, s_sameAll r t]
    by_cases h : a = b <;> by_cases h' : r = t <;> simp [h, h']
theorem s_same (ns ms : List Str) : PySem.Spec.same (.list (ns.map PyData.str)) (.list (ms.map PyData.str)) = decide (ns = ms) := by
  simp only [PySem.Spec.same]; exact s_sameAll ns ms
theorem s_carried : ∀ {vs : List Value} {ns : List Str}, StrsAre vs ns → CarriedAll vs (ns.map PyData.str)
  | _, _, .nil => .nil
  | _, _, .cons _ t r => .cons (.str _ t) (s_carried r)
section
variable {c : Cx}
theorem Op.addLst {xs ys : List SV} (hl : Nat.ble (xs.length + ys.length) 1000 = true) : Op c (fun vs => binaryOp .Add (vs.getD 0 .none) (vs.getD 1 .none)) [.lst xs, .lst ys] (.lst (xs ++ ys)) :=
  Op.two fun F s v u Q E hs hb hv hu hQ => by
    unfold VR at hv hu
    obtain ⟨D, vs, n, rfl, hD, hvs⟩ := hv
    obtain ⟨D', us, n', rfl, hD', hus⟩ := hu
    refine P.add_list (hs _ _ hD) (hs _ _ hD') ?_ (by rw [List.size_toArray, List.size_toArray, hvs.length, hus.length]; exact Nat.le_trans (Nat.le_of_ble_eq_true hl) (by decide))
    have a := Ext.alloc (F := F) (s := s) hs { cls := .type "list", data := .seq (vs.toArray ++ us.toArray) } rfl
    refine hQ _ _ _ a ?_
    unfold VR
    refine ⟨_, vs ++ us, 0, rfl, ?_, (hvs.app hus).mono a.sub⟩
    rw [put_self]; simp
theorem Op.inChar {x : Str} {cp : Nat} : Op c (fun vs => compareOp .In (vs.getD 0 .none) (vs.getD 1 .none)) [.str ⟨#[cp]⟩, .str x] (.bool (decide (cp ∈ x.cps.toList))) :=
  Op.two fun F s v u Q E hs hb hv hu hQ => by
    unfold VR at hv hu
    obtain ⟨t, rfl⟩ := hv
    obtain ⟨t', rfl⟩ := hu
    refine P.in_str (hQ _ F _ (Ext.refl hs) ?_)
    rw [StrLaws.found_one]
    exact VR.bool
theorem Op.join {x : Str} {texts : List Str} (hok : JoinOk x texts = true) : Op c (fun vs => PySem.call (.builtin "str.join") vs) [.str x, .lst (texts.map .str)] (.str (Txt.join x texts)) :=
  Op.two fun F s v u Q E hs hb hv hu hQ => by
    unfold VR at hv hu
    obtain ⟨t, rfl⟩ := hv
    obtain ⟨D, vs, n, rfl, hD, hvs⟩ := hu
    obtain ⟨l, rfl, hl⟩ := hvs.strs
    exact SC.join ⟨_, hs _ _ hD, rfl, n, rfl⟩ hl hok fun t' k => hQ _ F _ (Ext.tok hs k) VR.str
theorem Op.lower {x : Str} (hfit : Builtin.Str.tooLong (Txt.lower x).length = false) : Op c (fun vs => PySem.call (.builtin "str.lower") vs) [.str x] (.str (Txt.lower x)) :=
  Op.one fun F s v Q E hs hb hv hQ => by
    unfold VR at hv
    obtain ⟨t, rfl⟩ := hv
    exact SC.lower hfit (hQ _ F _ (Ext.tok hs _) VR.str)
theorem Op.count {x y : Str} : Op c (fun vs => PySem.call (.builtin "str.count") vs) [.str x, .str y] (.int (Txt.count x y)) :=
  Op.two fun F s v u Q E hs hb hv hu hQ => by
    unfold VR at hv hu
    obtain ⟨t, rfl⟩ := hv
    obtain ⟨t', rfl⟩ := hu
    exact SC.count (hQ _ F _ (Ext.tok hs _) VR.int)
theorem Op.index {x y : Str} {i : Nat} {rest : List Nat} (ho : Builtin.Str.occurrences x y 0 x.length 1 = i :: rest) : Op c (fun vs => PySem.call (.builtin "str.index") vs) [.str x, .str y] (.int i) :=
  Op.two fun F s v u Q E hs hb hv hu hQ => by
    unfold VR at hv hu
    obtain ⟨t, rfl⟩ := hv
    obtain ⟨t', rfl⟩ := hu
    exact SC.index ho (hQ _ F _ (Ext.tok hs _) VR.int)
theorem Op.eqInts {ns ms : List Int} {d : Nat} (hr : Room c.A d) : Op c (fun vs => compareOp .Eq (vs.getD 0 .none) (vs.getD 1 .none)) [.lst (ns.map .int), .lst (ms.map .int)] (.bool (decide (ns = ms))) :=
  Op.two fun F s v u Q E hs hb hv hu hQ => by
    unfold VR at hv hu
    obtain ⟨D, vs, n, rfl, hD, hvs⟩ := hv
    obtain ⟨D', us, n', rfl, hD', hus⟩ := hu
    exact ke_eq_ints ⟨_, hs _ _ hD, rfl, n, rfl⟩ ⟨_, hs _ _ hD', rfl, n', rfl⟩ hvs.ints hus.ints (by have := hr.units; lia) (hQ _ F _ (Ext.refl hs) VR.bool)
theorem Op.neStrs {ns ms : List Str} {d : Nat} (hr : Room c.A d) (h1 : ns.all PyData.strOk = true) (h2 : ms.all PyData.strOk = true) : Op c (fun vs => compareOp .NotEq (vs.getD 0 .none) (vs.getD 1 .none)) [.lst (ns.map .str), .lst (ms.map .str)] (.bool (!decide (ns = ms))) :=
  Op.two fun F s v u Q E hs hb hv hu hQ => by
    unfold VR at hv hu
    obtain ⟨D, vs, n, rfl, hD, hvs⟩ := hv
    obtain ⟨D', us, n', rfl, hD', hus⟩ := hu
    refine ne_dataH_same (reads_newData ⟨_, hs _ _ hD, rfl, n, rfl⟩ (s_carried hvs.strsAre)) (reads_newData ⟨_, hs _ _ hD', rfl, n', rfl⟩ (s_carried hus.strsAre)) (s_shaped _ h1) (s_shaped _ h2) (by have := hr.units; lia)
      (SeqAt.noMix_of_shape (.list .str) rfl _ _ (list_map_has fun _ => rfl) (list_map_has fun _ => rfl)) ?_
    rw [s_same]
    exact hQ _ F _ (Ext.refl hs) VR.bool
theorem Op.neEmpty {d : Nat} (hr : Room c.A d) : Op c (fun vs => compareOp .NotEq (vs.getD 0 .none) (vs.getD 1 .none)) [.lst [], .lst []] (.bool false) := Op.neStrs (ns := []) (ms := []) hr rfl rfl
theorem Op.lenLst {xs : List SV} (hl : xs.length ≤ 1000) : Op c (fun vs => PySem.call (.builtin "len") vs) [.lst xs] (.int xs.length) :=
  Op.one fun F s v Q E hs hb hv hQ => by
    unfold VR at hv
    obtain ⟨D, vs, n, rfl, hD, hvs⟩ := hv
    have e : (vs.toArray.size : Int) = xs.length := by rw [List.size_toArray, hvs.length]
    refine Calls.call_len_list ⟨_, hs _ _ hD, rfl, n, rfl⟩ (by rw [e]; lia) ?_
    rw [e]
    exact hQ _ F _ (Ext.tok hs _) VR.int
end
section
variable {c : Cx} {ρ : List (Str × SV)}
theorem Ev.meth {o : Expr} {name : Str} {apos pos : Pos} {es : List Expr} {ov : SV} {svs : List SV} {r : SV} {T id : String} (ho : Ev c ρ o ov) (he : Evs c ρ es svs) (pa : PlainAttrs T) (slot : Slot T name id) (ty : typeOf (.builtin id) = pure (.type "method_descriptor"))
    (hT : ∀ F (s : Shared) v, Sub F s.heap.get? → (∀ a o, c.K.lookup a = some o → F a = some o) → VR F ov v → s.TypeIs v T ∧ ∀ a, v = .ref a → ∃ ob, s.heap.get? a = some ob ∧ ob.dict = none) (hop : Op c (fun vs => PySem.call (.builtin id) vs) (ov :: svs) r)
    (hbase : attributeBase o name c.env (eval o c.env) = eval o c.env := by exact attr_plain rfl)
    (hfew : ((backTo pos (starEach es c.env)).all (fun x => !x.1) && (backToKw pos (keywordEach [] c.env)).all (fun x => x.1.isSome)
      && decide (es.length + ([] : List Keyword).length + (if ([] : List Keyword).isEmpty then 0 else 1) < 30)) = true := by exact plain_few rfl rfl)
    (hline : (apos.endLine == pos.line) = true := by rfl)
    (hst : ∀ env : Env, (backTo pos (starEach es env)).any (·.1) = false := by exact fun _ => plain_any rfl) : Ev c ρ (.Call (.Attribute o name apos) es [] pos) r := .mk fun F s Q E h hQ => by
  refine wpAny_Call_method_lateS hbase hfew hline (ho.run F s _ E h fun v F₁ s₁ x₁ hv => ?_)
  refine ⟨T, id, pa, slot, ty, (hT F₁ s₁ v x₁.inn (h.ext x₁).base hv).1, (hT F₁ s₁ v x₁.inn (h.ext x₁).base hv).2, ?_⟩
  refine callWith_machine rfl (hst _) (evalArgs_of hst (he.run F₁ s₁ _ E pos (h.ext x₁) fun vs F₂ s₂ x₂ hvs => ?_))
  exact hop F₂ s₂ (v :: vs) Q E x₂.inn ((h.ext x₁).ext x₂).base (by unfold VRs; exact ⟨v, vs, rfl, hv.mono x₂.sub, hvs⟩) fun r F₃ s₃ x₃ hr => hQ r F₃ s₃ ((x₁.trans x₂).trans x₃) hr
theorem strT {x : Str} : ∀ F (s : Shared) v, Sub F s.heap.get? → (∀ a o, c.K.lookup a = some o → F a = some o) → VR F (.str x) v → s.TypeIs v "str" ∧ ∀ a, v = .ref a → ∃ ob, s.heap.get? a = some ob ∧ ob.dict = none := fun F s v _ _ h => by
  unfold VR at h
  obtain ⟨t, rfl⟩ := h
  exact ⟨typeIs_str _ _ _, fun _ e => nomatch e⟩
theorem Ev.listRange {nl nr : Str} {pl pr p₁ p₂ : Pos} {e₁ e₂ : Expr} {a : Int} {n : Nat} (hl : Ev c ρ (.Name nl pl) (.ty "list")) (hr : Ev c ρ (.Name nr pr) (.ty "range")) (he₁ : Ev c ρ e₁ (.int a)) (he₂ : Ev c ρ e₂ (.int (a + n)))
    (hsm : Builtin.Range.small a (a + n) 1 = true) (hsz : Builtin.Range.rangeSize a (a + n) 1 = n) (hn : n ≤ 1000) (hh : c.A.handled = none)
    (h1 : ∀ env : Env, (backTo p₁ (starEach [e₁, e₂] env)).any (·.1) = false := by exact fun _ => plain_any rfl) (h2 : ∀ env, starEach (e₁ :: [e₂]) env = (false, eval e₁ env) :: starEach [e₂] env := by exact fun _ => starEach_cons rfl) (h3 : ∀ env, starEach (e₂ :: []) env = (false, eval e₂ env) :: starEach [] env := by exact fun _ => starEach_cons rfl) :
    Ev c ρ (.Call (.Name nl pl) [.Call (.Name nr pr) [e₁, e₂] [] p₁] [] p₂) (.lst ((List.range n).map fun (i : Nat) => .int (a + (i : Int)))) := .mk fun F s Q E hs hQ => by
  refine wpAny_Call_Name_kw (hl.run F s _ E hs fun v F₁ s₁ x₁ hv => ?_)
  cases ty_val _ _ hv
  refine callWith_machine rfl rfl (evalArgs_of (fun _ => rfl) ?_)
  refine wpAny_items_cons (callRaw hr ty_val rfl (Evs.cons he₁ (Evs.cons he₂ Evs.nil h3) h2) h1 (hs.ext x₁) fun vs F₂ s₂ x₂ hvs => ?_) rfl
  obtain ⟨v, u, rfl, hv, hu⟩ := hvs.inv2
  unfold VR at hv hu
  obtain ⟨t, rfl⟩ := hv
  obtain ⟨t', rfl⟩ := hu
  refine call_range_2 (wpAny_items_nil ?_)
  generalize hs₃ : ({ s₂ with heap := s₂.heap.push { cls := .type "range", data := .fields #[.int a t, .int (a + n) t', .int 1 s₂.toks] }, toks := s₂.toks + 1 } : Shared) = s₃
  have e₃ : Ext F₂ s₂ F₂ s₃ := hs₃ ▸ Ext.made x₂.inn fun a o q => Heap.get?_push_of_some _ q
  have hR : IsRange s₃.heap s₂.heap.objs.size a (a + n) 1 t t' s₂.toks := hs₃ ▸ Heap.get?_push_size _ rfl
  refine call_list_range hh hR hsm hsz (Nat.le_trans hn (by decide)) fun h' tk acc' c' hk hS hit => ?_
  have kp : Ext F₂ s₃ F₂ { s₃ with heap := h', toks := tk } := Ext.made e₃.inn hk
  have a₄ : Ext F₂ s₃ (put F₂ s₃.heap.objs.size { cls := .type "list", data := .seq acc' c' }) { s₃ with heap := h', toks := tk } := by
    have hd : F₂ s₃.heap.objs.size = none := dryF e₃.inn (Nat.le_refl _)
    refine ⟨fun b o q => ?_, fun b o q => ?_, kp.keep, fun b o q => ?_, ⟨_, _, rfl⟩⟩
    · unfold put; rw [if_neg (by rintro rfl; rw [hd] at q; cases q)]; exact q
    · unfold put at q
      by_cases e : b = s₃.heap.objs.size
      · subst e; rw [if_pos rfl] at q; cases q; exact hS
      · rw [if_neg e] at q; exact kp.inn _ _ q
    · unfold put at q
      by_cases e : b = s₃.heap.objs.size
      · subst e; exact .inr (dead_of (Nat.le_refl _))
      · rw [if_neg e] at q; exact .inl q
  refine hQ _ _ _ (((x₁.trans x₂).trans e₃).trans a₄) ?_
  unfold VR
  refine ⟨_, acc'.toList, c', rfl, by rw [put_self], ?_⟩
  obtain ⟨h1, h2⟩ := hit
  have gen : ∀ (l : List Value) (k : Nat), (∀ (j : Nat) v, l[j]? = some v → ∃ t, v = Value.int (a + ((k + j : Nat) : Int) * 1) t) → VRs (put F₂ s₃.heap.objs.size { cls := .type "list", data := .seq acc' c' }) ((List.range' k l.length).map fun (i : Nat) => SV.int (a + (i : Int))) l := by
    intro l
    induction l with
    | nil => intro k _; simp only [List.length_nil, List.range'_zero, List.map_nil]; unfold VRs; rfl
    | cons v l ih =>
      intro k hv
      rw [List.length_cons, List.range'_succ, List.map_cons]
      unfold VRs
      obtain ⟨t, rfl⟩ := hv 0 v rfl
      refine ⟨_, l, rfl, ?_, ih (k + 1) fun j v hj => ?_⟩
      · unfold VR; exact ⟨t, by simp⟩
      · obtain ⟨t, ht⟩ := hv (j + 1) v hj
        exact ⟨t, by rw [ht]; congr 3; lia⟩
  have := gen acc'.toList 0 fun j v hj => by rw [Nat.zero_add]; exact h2 j v (by rw [← Array.getElem?_toList]; exact hj)
  rw [Array.length_toList, h1, ← List.range_eq_range'] at this
  exact this
end
end Mine
end
section
open PySem PySem.W PyProof.Rows
namespace Mine
theorem mulL {a b : Int} (h1 : -(2 ^ 64) < a) (h2 : a < 2 ^ 64) : IntMulOk a b := IntMulOk.of_left (intBits_le_64 h1 h2)
theorem mulR {a b : Int} (h1 : -(2 ^ 64) < b) (h2 : b < 2 ^ 64) : IntMulOk a b := IntMulOk.of_right (intBits_le_64 h1 h2)
noncomputable def Own (c : Cx) (x : Str) : Prop := c.env.kindOf x = some .local ∨ x ∈ c.own
theorem Fm.storeX {c : Cx} {ρ : List (Str × SV)} {F : PM} {s : Shared} {x : Str} {sv : SV} {v : Value} {Q : Unit → Shared → Prop} {E : Value → Shared → Prop} (h : Fm c ρ F s) (hk : c.env.scope.kind = .function) (hx : Own c x) (hv : VR F sv v)
    (hQ : ∀ s', Fm c ((x, sv) :: ρ) F s' → ExtV (Vol c) F s F s' → Q () s') : wpAny (model c.prog c.w) c.A (storeName c.env x v) Q E s := hx.elim (fun q => h.store hk q hv hQ) fun q => h.storeC hk q hv hQ
section
variable {c : Cx} {S : Side} {ρ : List (Str × SV)}
theorem Runs.sub {ρ' : List (Str × SV)} {b : List Stmt} {Φ : Flow → PM → Shared → Prop} (h : Runs c S ρ' b Φ) (hρ : ∀ x sv, ρ'.lookup x = some sv → ρ.lookup x = some sv) : Runs c S ρ b Φ := .mk fun F s Q E hf => h.run F s Q E (hf.sub hρ)
theorem Runs.set {x : Str} {px p : Pos} {e : Expr} {rest : List Stmt} {sv : SV} {Φ : Flow → PM → Shared → Prop} (he : Ev c ρ e sv) (hk : c.env.scope.kind = .function) (hx : Own c x) (hr : Runs c S ((x, sv) :: ρ) rest Φ)
    (hs : swapsWith e (some (.Name x px)) p.line c.env = pure false) : Runs c S ρ (.Assign [.Name x px] e p :: rest) Φ := hx.elim (fun q => Runs.assign he hk q hr hs) fun q => Runs.assignC he hk q hr hs
theorem Runs.ret' {e : Expr} {p : Pos} {rest : List Stmt} {r r' : SV} (he : Ev c ρ e r') (q : r' = r) : Runs c S ρ (.Return (some e) p :: rest) (Ret r) := q ▸ Runs.ret he
theorem Runs.setCompE {α : Type} {U : Addr → Prop} {P : Nat → PM → Shared → Prop} (hP : ∀ i, Held U (P i)) {ρ' : List (Str × SV)} {tg iter elt : Expr} {ifs : List Expr} {scope : Scope} {pos : Pos} {xs : List α} {b : α → List (Str × SV)} {p : α → Bool} {f : α → SV} {x : Str} {px sp : Pos} {rest : List Stmt} {Φ : Flow → PM → Shared → Prop}
    (k : CompOk c ρ ρ' tg iter elt ifs scope xs b p f)
    (htest : ∀ cl C, ∀ x ∈ xs, TestsOk (inner c scope cl C) (b x ++ ρ') ifs (p x))
    (hskip : ∀ i x F s, xs[i]? = some x → p x = false → P i F s → P (i + 1) F s)
    (helt : ∀ cl C i x F s (Q : Value → Shared → Prop) E, xs[i]? = some x → p x = true → Fm (inner c scope cl C) (b x ++ ρ') F s → (∀ a, U a → ¬ Rel (inner c scope cl C) a) → P i F s →
      (∀ v F' s', ExtV U F s F' s' → P (i + 1) F' s' → VR F' (f x) v → Q v s') → wpAny (model c.prog c.w) c.A (eval elt (inner c scope cl C).env) Q E s)
    (hk : c.env.scope.kind = .function) (hx : Own c x) (hr : Runs c ⟨U, P xs.length, hP _⟩ ((x, .lst ((xs.filter p).map f)) :: ρ) rest Φ)
    (hsw : swapsWith (.ListComp elt [⟨tg, iter, ifs, 0⟩] scope pos) (some (.Name x px)) sp.line c.env = pure true) : Runs c ⟨U, P 0, hP 0⟩ ρ (.Assign [.Name x px] (.ListComp elt [⟨tg, iter, ifs, 0⟩] scope pos) sp :: rest) Φ := .mk fun F s Q E h hS hU hQ => by
  refine wpAny_execs_cons ?_
  rw [exec_Assign_Name_used _ _ _ _ hsw]
  refine wpAny_bind (wpAny_standAt (wpAny_bind ?_))
  refine wpAny_bind (wpAny_mono (comp_core (use := some (PySem.assign (Expr.Name x px) c.env)) (Q := fun _ s' => wpAny (model c.prog c.w) c.A (execs rest c.env) Q E s') hP p f k.src k.len k.cell k.kind k.names k.tg k.caps (freeOk_get k.free) (fun x hx => keysApart_get (k.apart x hx)) htest hskip helt k.fold h.st hS hU fun D C F₂ s₂ ys n z => ?_)
    (fun _ s' hq => wpAny_pure (wpAny_pure hq)) fun _ _ e => e)
  have hz := z.done (hP _) (h' := s₂.heap) (Heap.SameBut.refl ..)
  obtain ⟨F₃, e₃, hP₃, hv₃, hC₃⟩ := hz
  have hf₃ := h.extV (e₃ : ExtV U F s F₃ _) hU
  obtain ⟨m, hm⟩ := z.loc
  refine wpAny_assign_Name (hf₃.storeX hk hx hv₃ fun s₄ hf₄ e₄ => ?_)
  have hCr : ¬ Rel c C := fun q => by obtain ⟨o, ho⟩ := h.live q; rw [z.C0] at ho; cases ho
  refine ⟨m, hm.at' fun o q => e₄.keep C o (fun q => hCr q.rel) q, fun h' hs' => ?_⟩
  have e₅ : ExtV (fun a => a = C) F₃ s₄ F₃ { s₄ with heap := h' } :=
    ⟨Sub.refl _, fun a o q => (hs'.2 a (by rintro rfl; rw [hC₃] at q; cases q)).trans (e₄.inn a o q), fun a o n q => (hs'.2 a n).trans q, fun a o q => .inl q, ⟨_, _, rfl⟩⟩
  have hP₄ := (hP xs.length).keep _ F₃ _ F₃ s₄ (fun a q _ hu => hU a hu q.rel) hf₃.vol hP₃ e₄
  have hP₅ := (hP xs.length).keep _ F₃ s₄ F₃ _ (fun a q _ hu => by subst q; exact z.UC hu) (fun a q => by subst q; exact hC₃) hP₄ e₅
  refine hr.run F₃ _ Q E (hf₄.extV e₅ fun a q => by subst q; exact hCr) hP₅ hU fun v F' s' e hv => hQ v F' s' ?_ hv
  refine ((((e₃.mono fun a q => ?_).trans (e₄.mono fun a q => ?_)).trans (e₅.mono (W := fun a => (Vol c a ∨ U a) ∨ a = C) fun a q => .inr q)).trans (e.mono fun a q => .inl q)).drop fun a q => ?_
  · exact .inl (.inr q)
  · exact .inl (.inl q)
  · rcases q with q | rfl
    · exact .inr q
    · exact .inl z.C0
theorem Runs.setComp {α : Type} {ρ' : List (Str × SV)} {tg iter elt : Expr} {ifs : List Expr} {scope : Scope} {pos : Pos} {xs : List α} {b : α → List (Str × SV)} {p : α → Bool} {f : α → SV} {x : Str} {px sp : Pos} {rest : List Stmt} {Φ : Flow → PM → Shared → Prop}
    (k : CompOk c ρ ρ' tg iter elt ifs scope xs b p f)
    (htest : ∀ cl C, ∀ x ∈ xs, TestsOk (inner c scope cl C) (b x ++ ρ') ifs (p x))
    (helt : ∀ cl C, ∀ x ∈ xs, p x = true → Ev (inner c scope cl C) (b x ++ ρ') elt (f x))
    (hk : c.env.scope.kind = .function) (hx : Own c x) (hr : Runs c S ((x, .lst ((xs.filter p).map f)) :: ρ) rest Φ)
    (hsw : swapsWith (.ListComp elt [⟨tg, iter, ifs, 0⟩] scope pos) (some (.Name x px)) sp.line c.env = pure true) : Runs c S ρ (.Assign [.Name x px] (.ListComp elt [⟨tg, iter, ifs, 0⟩] scope pos) sp :: rest) Φ :=
  Runs.setCompE (U := S.U) (P := fun _ => S.P) (fun _ => S.held) k htest (fun _ _ _ _ _ _ h => h) (fun cl C i x F s Q E hx hp hf _ hS hQ => (helt cl C x (List.mem_of_getElem? hx) hp).run F s Q E hf.st fun v F' s' e hv => hQ v F' s' e.v (Side.ext (S := S) hS e) hv) hk hx hr hsw
theorem VRs.inv3 {F : PM} {a b d : SV} {vs : List Value} (h : VRs F [a, b, d] vs) : ∃ v u z, vs = [v, u, z] ∧ VR F a v ∧ VR F b u ∧ VR F d z := by
  unfold VRs VRs VRs VRs at h
  obtain ⟨v, _, rfl, hv, u, _, rfl, hu, z, _, rfl, hz, rfl⟩ := h
  exact ⟨v, u, z, rfl, hv, hu, hz⟩
theorem Ext.but {F : PM} {s : Shared} (h : Sub F s.heap.get?) {h' : Heap} (he : Heap.ExtBut s.heap.objs.size s.heap h') : Ext F s F { s with heap := h' } := by
  have kp : ∀ a o, s.heap.get? a = some o → h'.get? a = some o := fun a o q => he a o (Nat.ne_of_lt (Heap.lt_size q)) q
  exact ⟨Sub.refl _, fun a o q => kp a o (h a o q), kp, fun a o q => .inl q, ⟨_, _, rfl⟩⟩
theorem Runs.unpack2 {x y : Str} {px py tp p : Pos} {k : Nat} {e : Expr} {rest : List Stmt} {a b : SV} {Φ : Flow → PM → Shared → Prop} (he : Ev c ρ e (.tup [a, b])) (hh : c.A.handled = none) (hk : c.env.scope.kind = .function) (hx : Own c x) (hy : Own c y) (hr : Runs c S ((y, b) :: (x, a) :: ρ) rest Φ)
    (hs : swapsWithSole [.Tuple [.Name x px, .Name y py] k tp] e p.line c.env = pure false) (hw : swappedStores [.Tuple [.Name x px, .Name y py] k tp] e c.env = pure none) : Runs c S ρ (.Assign [.Tuple [.Name x px, .Name y py] k tp] e p :: rest) Φ := .mk fun F s Q E h hS hU hQ => by
  refine wpAny_execs_cons (Assign_Tuple (he.run F s _ E h.st fun v F₁ s₁ x₁ hv => ?_) hs hw)
  unfold VR at hv
  obtain ⟨D, vs, n, rfl, hD, hvs⟩ := hv
  obtain ⟨v, u, rfl, hv, hu⟩ := hvs.inv2
  refine assign_Tuple_tuple hh ⟨_, x₁.inn _ _ hD, rfl, n, rfl⟩ rfl rfl fun h₂ he₂ => ?_
  have x₂ := Ext.but (F := F₁) x₁.inn he₂
  have hf₂ := (h.ext x₁).ext x₂
  refine assignInOrder_cons (wpAny_assign_Name (hf₂.storeX hk hx hv fun s₃ hf₃ e₃ => ?_))
  refine assignInOrder_cons (wpAny_assign_Name (hf₃.storeX hk hy hu fun s₄ hf₄ e₄ => ?_))
  refine assignInOrder_nil ?_
  exact hr.run F₁ s₄ Q E hf₄ (Side.vol (Side.vol (Side.ext (Side.ext hS x₁) x₂) hU hf₂ e₃) hU hf₃ e₄) hU fun r F₅ s₅ x₅ hr => hQ r F₅ s₅ (((x₁.v.trans x₂.v).trans ((e₃.trans e₄).mono fun _ q => .inl q)).trans x₅) hr
theorem Runs.unpack3 {x y z : Str} {px py pz tp p : Pos} {k : Nat} {e : Expr} {rest : List Stmt} {a b d : SV} {Φ : Flow → PM → Shared → Prop} (he : Ev c ρ e (.tup [a, b, d])) (hh : c.A.handled = none) (hk : c.env.scope.kind = .function) (hx : Own c x) (hy : Own c y) (hz : Own c z) (hr : Runs c S ((z, d) :: (y, b) :: (x, a) :: ρ) rest Φ)
    (hs : swapsWithSole [.Tuple [.Name x px, .Name y py, .Name z pz] k tp] e p.line c.env = pure false) (hw : swappedStores [.Tuple [.Name x px, .Name y py, .Name z pz] k tp] e c.env = pure none) : Runs c S ρ (.Assign [.Tuple [.Name x px, .Name y py, .Name z pz] k tp] e p :: rest) Φ := .mk fun F s Q E h hS hU hQ => by
  refine wpAny_execs_cons (Assign_Tuple (he.run F s _ E h.st fun v F₁ s₁ x₁ hv => ?_) hs hw)
  unfold VR at hv
  obtain ⟨D, vs, n, rfl, hD, hvs⟩ := hv
  obtain ⟨v, u, z, rfl, hv, hu, hz'⟩ := hvs.inv3
  refine assign_Tuple_tuple hh ⟨_, x₁.inn _ _ hD, rfl, n, rfl⟩ rfl rfl fun h₂ he₂ => ?_
  have x₂ := Ext.but (F := F₁) x₁.inn he₂
  have hf₂ := (h.ext x₁).ext x₂
  refine assignInOrder_cons (wpAny_assign_Name (hf₂.storeX hk hx hv fun s₃ hf₃ e₃ => ?_))
  refine assignInOrder_cons (wpAny_assign_Name (hf₃.storeX hk hy hu fun s₄ hf₄ e₄ => ?_))
  refine assignInOrder_cons (wpAny_assign_Name (hf₄.storeX hk hz hz' fun s₅ hf₅ e₅ => ?_))
  refine assignInOrder_nil ?_
  have q₁ : S.P F₁ s₁ := Side.ext (S := S) hS x₁
  have q₂ : S.P F₁ { s₁ with heap := h₂ } := Side.ext (S := S) q₁ x₂
  have q₃ : S.P F₁ s₃ := Side.vol (S := S) q₂ hU hf₂ e₃
  have q₄ : S.P F₁ s₄ := Side.vol (S := S) q₃ hU hf₃ e₄
  have q₅ : S.P F₁ s₅ := Side.vol (S := S) q₄ hU hf₄ e₅
  have w : ExtV (fun a => Vol c a ∨ S.U a) F s F₁ s₅ := (x₁.v.trans x₂.v).trans (((e₃.trans e₄).trans e₅).mono fun _ q => .inl q)
  exact hr.run F₁ s₅ Q E hf₅ q₅ hU fun r F₆ s₆ x₆ hr => hQ r F₆ s₆ (w.trans x₆) hr
theorem Runs.swap2 {x y : Str} {px py tp p : Pos} {k : Nat} {e : Expr} {rest : List Stmt} {a b : SV} {Φ : Flow → PM → Shared → Prop} (he : Ev c ρ e (.tup [a, b])) (hh : c.A.handled = none) (hk : c.env.scope.kind = .function) (hx : Own c x) (hy : Own c y) (hr : Runs c S ((x, a) :: (y, b) :: ρ) rest Φ)
    (hs : swapsWithSole [.Tuple [.Name x px, .Name y py] k tp] e p.line c.env = pure false) (hw : swappedStores [.Tuple [.Name x px, .Name y py] k tp] e c.env = pure (some [x, y])) : Runs c S ρ (.Assign [.Tuple [.Name x px, .Name y py] k tp] e p :: rest) Φ := .mk fun F s Q E h hS hU hQ => by
  refine wpAny_execs_cons (Assign_Tuple_swapped (he.run F s _ E h.st fun v F₁ s₁ x₁ hv => ?_) hs hw)
  unfold VR at hv
  obtain ⟨D, vs, n, rfl, hD, hvs⟩ := hv
  obtain ⟨v, u, rfl, hv, hu⟩ := hvs.inv2
  have ht : IsTup s₁.heap D #[v, u] := ⟨_, x₁.inn _ _ hD, rfl, n, rfl⟩
  refine unpackItems_tuple (items := #[v, u]) hh ht fun h₂ he₂ => ?_
  have x₂ := Ext.but (F := F₁) x₁.inn he₂
  have hf₂ := (h.ext x₁).ext x₂
  refine assignInOrder_cons (wpAny_bindName (hf₂.storeX hk hy hu fun s₃ hf₃ e₃ => ?_))
  refine assignInOrder_cons (wpAny_bindName (hf₃.storeX hk hx hv fun s₄ hf₄ e₄ => ?_))
  refine assignInOrder_nil ?_
  have q₁ : S.P F₁ s₁ := Side.ext (S := S) hS x₁
  have q₂ : S.P F₁ { s₁ with heap := h₂ } := Side.ext (S := S) q₁ x₂
  have q₃ : S.P F₁ s₃ := Side.vol (S := S) q₂ hU hf₂ e₃
  have q₄ : S.P F₁ s₄ := Side.vol (S := S) q₃ hU hf₃ e₄
  have w : ExtV (fun a => Vol c a ∨ S.U a) F s F₁ s₄ := (x₁.v.trans x₂.v).trans ((e₃.trans e₄).mono fun _ q => .inl q)
  exact hr.run F₁ s₄ Q E hf₄ q₄ hU fun r F₆ s₆ x₆ hr => hQ r F₆ s₆ (w.trans x₆) hr
end
end Mine
end
section
open PySem PySem.W PyProof.Rows
namespace Mine
section
variable {c : Cx}
theorem Runs.for {α : Type} {U : Addr → Prop} {P : Nat → PM → Shared → Prop} (hP : ∀ i, Held U (P i)) {ρs : Nat → List (Str × SV)} {tg iter : Expr} {body rest : List Stmt} {p : Pos} {xs : List α} {b : α → List (Str × SV)} {Φ : Flow → PM → Shared → Prop}
    (src : Source c (ρs 0) iter tg xs b) (htg : ∀ y ∈ tgNames tg, c.env.kindOf y = some .local) (hk : c.env.scope.kind = .function)
    (hbody : ∀ i x, xs[i]? = some x → Runs c ⟨U, P i, hP i⟩ (b x ++ ρs i) body (Nxt c ⟨U, P (i + 1), hP _⟩ (ρs (i + 1))))
    (hr : Runs c ⟨U, P xs.length, hP _⟩ (ρs xs.length) rest Φ) (hs : ∀ x, foldedSetIterable iter c.env x = pure x := by exact fold_plain rfl) : Runs c ⟨U, P 0, hP 0⟩ (ρs 0) (.For tg iter body [] p :: rest) Φ := .mk fun F s Q E h hS hU hQ => by
  refine wpAny_execs_cons (wpAny_For (src F s _ E h.st fun it V J F₁ s₁ x₁ hV hJ hsr => ?_) hs)
  have hsr := hsr c rfl rfl rfl hk htg
  have Vrel : ∀ a, V a → ¬ Rel c a := fun a ha hr => by obtain ⟨o, ho⟩ := h.live hr; rw [hV a ha] at ho; cases ho
  have UV : ∀ a, U a → ¬ V a := fun a ha hv => by obtain ⟨_, o, ho⟩ := (hP 0).dry F s hS a ha; rw [hV a hv] at ho; cases ho
  refine codeAny_forLoop_any (fun k s' => ∃ i F', i ≤ xs.length ∧ k = xs.length + 1 - i ∧ J i F' s' ∧ P i F' s' ∧ Fm c (ρs i) F' s' ∧ ExtV (fun a => V a ∨ Vol c a ∨ U a) F₁ s₁ F' s') ?_ (xs.length + 1)
    ⟨0, F₁, Nat.zero_le _, rfl, hJ, Side.ext (S := ⟨U, P 0, hP 0⟩) hS x₁, h.ext x₁, (Ext.refl x₁.inn).v⟩
  rintro k s' ⟨i, F', hi, rfl, hJ', hP', hf', e'⟩
  by_cases hlt : i < xs.length
  · have hx : xs[i]? = some xs[i] := List.getElem?_eq_getElem hlt
    generalize xs[i] = x at hx
    refine wpAny_mono (hsr.turn i x (ρs i) F' s' ?Q0 _ hx hJ' hf' Vrel ?turn) (fun r s₄ h₄ => ?conv) fun _ _ e => e
    case conv =>
      cases r with
      | none => exact h₄.elim
      | some v => exact h₄
    intro F₂ s₂ hJ₂ hf₂ e₂
    have W₂ : ∀ a, (V a ∨ Vol c a) → F' a = none := fun a ha => ha.elim (fun q => ((hsr.held i).dry F' s' hJ' a q).1) (hf'.vol a)
    have hP₂ : P i F₂ s₂ := (hP i).keep _ F' s' F₂ s₂ (fun a ha _ hu => ha.elim (fun q => UV a hu q) (fun q => hU a hu q.rel)) W₂ hP' e₂
    refine (hbody i x hx).run F₂ s₂ _ _ hf₂ hP₂ hU fun fl F₃ s₃ e₃ hfl => ?_
    obtain ⟨rfl, hf₃, hP₃⟩ := hfl
    have W₃ : ∀ a, (Vol c a ∨ U a) → F₂ a = none := fun a ha => ha.elim (hf₂.vol a) fun q => ((hP i).dry F₂ s₂ hP₂ a q).1
    have hJ₃ : J (i + 1) F₃ s₃ := (hsr.held (i + 1)).keep _ F₂ s₂ F₃ s₃ (fun a ha _ hv => ha.elim (fun q => Vrel a hv q.rel) (fun q => UV a q hv)) W₃ hJ₂ e₃
    exact ⟨xs.length + 1 - (i + 1), by lia, i + 1, F₃, hlt, rfl, hJ₃, hP₃, hf₃, (e'.trans (e₂.mono fun a q => q.elim .inl fun q => .inr (.inl q))).trans (e₃.mono fun a q => .inr q)⟩
  · obtain rfl : i = xs.length := Nat.le_antisymm hi (Nat.not_lt.mp hlt)
    refine hsr.done F' s' _ _ hJ' fun F₂ s₂ e₂ => ?_
    have hf₂ := hf'.extV e₂ Vrel
    have hP₂ : P xs.length F₂ s₂ := (hP _).keep V F' s' F₂ s₂ (fun a ha _ hu => UV a hu ha) (fun a ha => ((hsr.held _).dry F' s' hJ' a ha).1) hP' e₂
    show wpAny _ _ (execs [] c.env) _ _ _
    rw [show execs ([] : List Stmt) c.env = pure .next from rfl]
    refine wpAny_pure ?_
    refine hr.run F₂ s₂ Q E hf₂ hP₂ hU fun fl F₃ s₃ e₃ hfl => hQ fl F₃ s₃ (((x₁.v.trans e').trans (e₂.mono fun a q => .inl q)).trans (e₃.mono fun a q => .inr q) |>.drop fun a q => ?_) hfl
    rcases q with q | q
    · exact .inl (hV a q)
    · exact .inr q
end
end Mine
end
section
open PySem PySem.W PyProof.Rows
namespace Mine
noncomputable def LstAt (h : Heap) (D : Addr) (vs : List Value) : Prop := ∃ n, h.get? D = some { cls := .type "list", data := .seq vs.toArray n }
theorem LstAt.update {h : Heap} {D : Addr} {vs us : List Value} (hl : LstAt h D vs) (f : Array Value → Array Value) (e : f vs.toArray = us.toArray) : LstAt (h.update D (Obj.mapSeq f)) D us ∧ Heap.SameBut D h (h.update D (Obj.mapSeq f)) := by
  obtain ⟨n, hl⟩ := hl
  have q := PySem.IsL.update hl f
  rw [e] at q
  exact ⟨⟨_, q⟩, Heap.SameBut.update ..⟩
section
variable {prog : Program} {w : World} {A : Around} {E : Value → Shared → Prop} {s : Shared} {D : Addr} {vs : List Value} {Q : Value → Shared → Prop}
theorem call_insert {i : Int} {u : Tok} {y : Value} (hl : LstAt s.heap D vs) (hf : Builtin.List.listFitsIndex i = true) (hz : vs.length ≤ 2000)
    (h : ∀ h', LstAt h' D (kl_ins vs i y) → Heap.SameBut D s.heap h' → Q .none { s with heap := h' }) : wpAny (model prog w) A (call (.builtin "list.insert") [.ref D, .int i u, y]) Q E s := by
  obtain ⟨n, ho⟩ := id hl
  have z := hl.update (us := kl_ins vs i y) (fun xs => have k := if i < 0 then (i + ((xs.size : Nat) : Int)).toNat else min i.toNat xs.size; (xs.extract 0 k).push y ++ xs.extract k) (by
    show (vs.toArray.extract 0 (if i < 0 then (i + (vs.toArray.size : Int)).toNat else min i.toNat vs.toArray.size)).push y ++ vs.toArray.extract (if i < 0 then (i + (vs.toArray.size : Int)).toNat else min i.toNat vs.toArray.size) = (kl_ins vs i y).toArray
    rw [kl_ins_eq, List.size_toArray]; rfl)
  exact call_meets PySem.F.slot_list_insert ⟨_, ho, rfl⟩ PySem.F.entry_list_insert (PySem.F.args_list_insert_3 _ _ _) (PySem.AutoSeq1.list_insert_list_int_val_1 D _ n i u y (by simp [hf]) (by rw [List.size_toArray]; exact Nat.le_trans hz (by decide))) ⟨ho, h _ z.1 z.2⟩
theorem call_append {y : Value} (hl : LstAt s.heap D vs) (hz : vs.length ≤ 2000)
    (h : ∀ h', LstAt h' D (vs ++ [y]) → Heap.SameBut D s.heap h' → Q .none { s with heap := h' }) : wpAny (model prog w) A (call (.builtin "list.append") [.ref D, y]) Q E s :=
  wpAny_list_append_plain (items := vs.toArray) hl (fun h' hl' hs' => h h' (by obtain ⟨n, q⟩ := hl'; rw [List.push_toArray] at q; exact ⟨n, q⟩) hs') (by rw [List.size_toArray]; exact Nat.le_trans hz (by decide))
theorem call_pop0 {u : Tok} {y : Value} (hl : LstAt s.heap D (y :: vs)) (hz : vs.length ≤ 20000)
    (h : ∀ h', LstAt h' D vs → Heap.SameBut D s.heap h' → Q y { s with heap := h' }) : wpAny (model prog w) A (call (.builtin "list.pop") [.ref D, .int 0 u]) Q E s := by
  obtain ⟨n, ho⟩ := id hl
  have z := hl.update (us := vs) (fun xs => xs.eraseIdxIfInBounds 0) (by simp)
  exact call_meets PySem.F.slot_list_pop ⟨_, ho, rfl⟩ PySem.F.entry_list_pop (PySem.F.args_list_pop_2 _ _) (PySem.MeetsSeq.list_pop_at D _ n 0 u 0 y (by decide) (by simp [seqIndex?]) (by simp) (by rw [List.size_toArray, List.length_cons]; exact Nat.le_trans (Nat.succ_le_succ hz) (by decide))) ⟨ho, h _ z.1 z.2⟩
theorem call_extend {b : Addr} {us : List Value} (hl : LstAt s.heap D vs) (hb : LstAt s.heap b us) (hz : vs.length ≤ 2000) (hz2 : us.length ≤ 2000)
    (h : ∀ h', LstAt h' D (vs ++ us) → Heap.SameBut D s.heap h' → Q .none { s with heap := h' }) : wpAny (model prog w) A (call (.builtin "list.extend") [.ref D, .ref b]) Q E s := by
  obtain ⟨n, ho⟩ := id hl
  obtain ⟨n2, hb⟩ := hb
  have z := hl.update (us := vs ++ us) (fun xs => xs ++ us.toArray) (by simp)
  have hsz : vs.toArray.size + us.toArray.size ≤ 4000 := by rw [List.size_toArray, List.size_toArray]; lia
  exact call_meets PySem.F.slot_list_extend ⟨_, ho, rfl⟩ PySem.F.entry_list_extend (PySem.F.args_list_extend_2 _ _) (PySem.AutoSeq1.list_extend_list_list_0 D _ n b _ n2 (by
      intro q
      have : Builtin.List.listTooLong (vs.toArray.size + us.toArray.size) = true := by
        cases e : Builtin.List.listTooLong (vs.toArray.size + us.toArray.size) with
        | true => rfl
        | false => rw [e, Bool.and_false] at q; cases q
      unfold Builtin.List.listTooLong at this
      simp at this
      have e := sizeLine_eq
      lia) (by rw [List.size_toArray]; exact Nat.le_trans hz (by decide)) (Nat.le_trans hsz (by decide))) ⟨ho, hb, h _ z.1 z.2⟩
end
mutual
noncomputable def noL : SV → Bool
  | .lst _ => false
  | .tup xs => noLs xs
  | _ => true
noncomputable def noLs : List SV → Bool
  | [] => true
  | x :: xs => noL x && noLs xs
end
mutual
theorem VR.less {F G : PM} (h : ∀ a o, F a = some o → o.cls = .type "tuple" → G a = some o) : ∀ {x : SV} {v : Value}, noL x = true → VR F x v → VR G x v
  | .none, _, _, e => e
  | .bool _, _, _, e => e
  | .int _, _, _, e => e
  | .flt _, _, _, e => e
  | .str _, _, _, e => e
  | .bi _, _, _, e => e
  | .ty _, _, _, e => e
  | .ref _, _, _, e => e
  | .tup xs, v, k, e => by
    unfold VR at e ⊢
    obtain ⟨D, vs, n, e1, e2, e3⟩ := e
    exact ⟨D, vs, n, e1, h _ _ e2 rfl, VRs.less h (by unfold noL at k; exact k) e3⟩
  | .lst xs, v, k, e => by unfold noL at k; cases k
theorem VRs.less {F G : PM} (h : ∀ a o, F a = some o → o.cls = .type "tuple" → G a = some o) : ∀ {xs : List SV} {vs : List Value}, noLs xs = true → VRs F xs vs → VRs G xs vs
  | [], _, _, e => e
  | x :: xs, vs, k, e => by
    unfold VRs at e ⊢
    unfold noLs at k
    obtain ⟨k1, k2⟩ := Bool.and_eq_true_iff.mp k
    obtain ⟨v, r, e1, e2, e3⟩ := e
    exact ⟨v, r, e1, VR.less h k1 e2, VRs.less h k2 e3⟩
end
noncomputable def drop (F : PM) (D : Addr) : PM := fun a => if a = D then none else F a
theorem drop_self (F : PM) (D : Addr) : drop F D D = none := if_pos rfl
theorem drop_sub (F : PM) (D : Addr) : Sub (drop F D) F := fun a o e => by
  unfold drop at e
  by_cases q : a = D
  · rw [if_pos q] at e; cases e
  · rw [if_neg q] at e; exact e
theorem drop_of {F : PM} {D a : Addr} (h : a ≠ D) : drop F D a = F a := if_neg h
noncomputable def OwnL (D : Addr) (xs : List SV) : Side where
  U := fun a => a = D
  P := fun F s => F D = none ∧ ∃ vs, LstAt s.heap D vs ∧ VRs F xs vs
  held := ⟨fun F s h a ha => by subst ha; obtain ⟨h1, vs, ⟨n, h2⟩, _⟩ := h; exact ⟨h1, _, h2⟩, fun W F s F' s' hW hW' h e => by
    obtain ⟨h1, vs, ⟨n, h2⟩, h3⟩ := h
    have hn : ¬ W D := fun q => hW D q (hW' D q) rfl
    refine ⟨?_, vs, ⟨n, e.keep D _ hn h2⟩, h3.mono e.sub⟩
    cases q : F' D with
    | none => rfl
    | some o =>
      rcases e.new D o q with z | z | z
      · rw [h1] at z; cases z
      · rw [h2] at z; cases z
      · exact absurd z hn⟩
section
variable {c : Cx} {ρ : List (Str × SV)}
theorem put_sub {F : PM} {D : Addr} {o : Obj} (h : F D = none) : Sub F (put F D o) := fun a x e => by
  unfold put; rw [if_neg (by rintro rfl; rw [h] at e; cases e)]; exact e
theorem Runs.setOwn {x : Str} {px p lp : Pos} {es : List Expr} {rest : List Stmt} {svs : List SV} {Φ : Flow → PM → Shared → Prop} (he : Evs c ρ es svs) (hl : svs.length ≤ 1000) (hk : c.env.scope.kind = .function) (hx : Own c x)
    (hr : ∀ D, Runs c (OwnL D svs) ((x, .ref D) :: ρ) rest Φ) (hs : swapsWith (.List es lp) (some (.Name x px)) p.line c.env = pure false) : Runs c .nil ρ (.Assign [.Name x px] (.List es lp) p :: rest) Φ := .mk fun F s Q E h hS hU hQ => by
  refine wpAny_execs_cons (wpAny_Assign_Name (wpAny_List (he.run F s _ E lp h.st fun vs F₁ s₁ x₁ hv => ⟨by rw [hv.length]; exact Nat.le_trans hl (by decide), ?_⟩)) hs)
  generalize hD : s₁.heap.objs.size = D
  have dead : s₁.heap.get? D = none := dead_of (by rw [hD]; exact Nat.le_refl _)
  have kp : ∀ a o, s₁.heap.get? a = some o → (s₁.heap.push { cls := .type "list", data := .seq vs.toArray }).get? a = some o := fun a o q => Heap.get?_push_of_some _ q
  have x₂ : Ext F₁ s₁ F₁ { s₁ with heap := s₁.heap.push { cls := .type "list", data := .seq vs.toArray } } := Ext.made (tk := s₁.toks) x₁.inn kp
  have hl₂ : LstAt (s₁.heap.push { cls := .type "list", data := .seq vs.toArray }) D vs := ⟨0, by rw [← hD]; exact Heap.get?_push_size _ rfl⟩
  have hF : F₁ D = none := dryF x₁.inn (by rw [hD]; exact Nat.le_refl _)
  have hf₂ := (h.ext x₁).ext x₂
  have hDr : ¬ Rel c D := fun q => by obtain ⟨o, ho⟩ := (h.ext x₁).live q; rw [dead] at ho; cases ho
  have hS₂ : (OwnL D svs).P F₁ { s₁ with heap := s₁.heap.push { cls := .type "list", data := .seq vs.toArray } } := ⟨hF, vs, hl₂, hv⟩
  refine hf₂.storeX (sv := .ref D) hk hx (by unfold VR; rfl) fun s₃ hf₃ e₃ => ?_
  have hU' : ∀ a, (OwnL D svs).U a → ¬ Rel c a := fun a ha => by rw [show a = D from ha]; exact hDr
  refine (hr D).run F₁ s₃ Q E hf₃ (Side.vol (S := OwnL D svs) hS₂ hU' hf₂ e₃) hU' fun fl F₄ s₄ e₄ hfl => hQ fl F₄ s₄ ?_ hfl
  refine ((((x₁.trans x₂).v.trans (e₃.mono fun a q => .inl q)).trans (e₄ : ExtV (fun a => Vol c a ∨ a = D) F₁ s₃ F₄ s₄))).drop fun a q => ?_
  rcases q with q | rfl
  · exact .inr (.inl q)
  · exact .inl (keep_dead x₁ dead)
theorem Fm.frozen {D : Addr} {xs : List SV} {x : Str} {F : PM} {s : Shared} {vs : List Value} {n : Nat} (h : Fm c ρ F s) (hF : F D = none) (hl : s.heap.get? D = some { cls := .type "list", data := .seq vs.toArray n }) (hv : VRs F xs vs) (hD : ¬ Rel c D) (hx : ρ.lookup x = some (.ref D)) :
    Fm c ((x, .lst xs) :: ρ) (put F D { cls := .type "list", data := .seq vs.toArray n }) s ∧ ExtV (fun a => a = D) F s (put F D { cls := .type "list", data := .seq vs.toArray n }) s := by
  have sp := put_sub (F := F) (D := D) (o := { cls := .type "list", data := .seq vs.toArray n }) hF
  have e₁ : ExtV (fun a => a = D) F s (put F D { cls := .type "list", data := .seq vs.toArray n }) s := by
    refine ⟨sp, fun a o q => ?_, fun a o _ q => q, fun a o q => ?_, ⟨_, _, rfl⟩⟩
    · unfold put at q
      by_cases e : a = D
      · subst e; rw [if_pos rfl] at q; cases q; exact hl
      · rw [if_neg e] at q; exact h.st.sub a o q
    · unfold put at q
      by_cases e : a = D
      · exact .inr (.inr e)
      · rw [if_neg e] at q; exact .inl q
  have hf₁ := h.extV e₁ fun a q => by rw [show a = D from q]; exact hD
  refine ⟨⟨⟨hf₁.st.sub, hf₁.st.base, fun y sy hy => ?_⟩, hf₁.loc, hf₁.vol, hf₁.apart, hf₁.lit, hf₁.cell⟩, e₁⟩
  rw [List.lookup_cons] at hy
  cases q : y == x with
  | false => rw [q] at hy; exact hf₁.st.vars y sy hy
  | true =>
    rw [q] at hy; cases hy
    have := beq_iff_eq.mp q; subst this
    have w : VR (put F D { cls := .type "list", data := .seq vs.toArray n }) (.lst xs) (.ref D) := by unfold VR; exact ⟨D, vs, n, rfl, put_self _ _ _, hv.mono sp⟩
    rcases hf₁.st.vars y _ hx with ⟨k, m, v, hn, hm, hv'⟩ | ⟨k, kd, a, v, hc, hx', hv'⟩
    · unfold VR at hv'; subst hv'; exact .inl ⟨k, m, _, hn, hm, w⟩
    · unfold VR at hv'; subst hv'; exact .inr ⟨k, kd, a, _, hc, hx', w⟩
theorem Runs.freeze {D : Addr} {xs : List SV} {x : Str} {b : List Stmt} {Φ : Flow → PM → Shared → Prop} (hx : ρ.lookup x = some (.ref D)) (hr : Runs c .nil ((x, .lst xs) :: ρ) b Φ) : Runs c (OwnL D xs) ρ b Φ := .mk fun F s Q E h hS hU hQ => by
  obtain ⟨hF, vs, ⟨n, hl⟩, hv⟩ := hS
  obtain ⟨hf₂, e₁⟩ := h.frozen hF hl hv (hU D rfl) hx
  exact hr.run _ s Q E hf₂ trivial (fun _ q => q.elim) fun fl F₃ s₃ e₃ hfl => hQ fl F₃ s₃ ((e₁.mono (W := fun a => Vol c a ∨ (OwnL D xs).U a) fun a q => .inr q).trans (e₃.mono fun a q => q.elim .inl fun q => q.elim)) hfl
noncomputable def kins (xs : List SV) (i : Int) (y : SV) : List SV :=
  xs.take (if i < 0 then (i + (xs.length : Int)).toNat else min i.toNat xs.length) ++ y :: xs.drop (if i < 0 then (i + (xs.length : Int)).toNat else min i.toNat xs.length)
theorem VRs.take {F : PM} : ∀ {xs : List SV} {vs : List Value} (k : Nat), VRs F xs vs → VRs F (xs.take k) (vs.take k)
  | _, _, 0, h => by rw [List.take_zero, List.take_zero]; unfold VRs; rfl
  | [], vs, k + 1, h => by unfold VRs at h; subst h; simp; unfold VRs; rfl
  | x :: xs, vs, k + 1, h => by
    unfold VRs at h
    obtain ⟨v, r, rfl, hv, hr⟩ := h
    rw [List.take_succ_cons, List.take_succ_cons]
    unfold VRs
    exact ⟨v, _, rfl, hv, hr.take k⟩
theorem VRs.drop {F : PM} : ∀ {xs : List SV} {vs : List Value} (k : Nat), VRs F xs vs → VRs F (xs.drop k) (vs.drop k)
  | _, _, 0, h => by rw [List.drop_zero, List.drop_zero]; exact h
  | [], vs, k + 1, h => by unfold VRs at h; subst h; simp; unfold VRs; rfl
  | x :: xs, vs, k + 1, h => by
    unfold VRs at h
    obtain ⟨v, r, rfl, hv, hr⟩ := h
    rw [List.drop_succ_cons, List.drop_succ_cons]
    exact hr.drop k
theorem VRs.kins {F : PM} {xs : List SV} {vs : List Value} {i : Int} {y : SV} {v : Value} (h : VRs F xs vs) (hy : VR F y v) : VRs F (kins xs i y) (kl_ins vs i v) := by
  unfold Mine.kins kl_ins
  rw [h.length]
  refine (h.take _).app ?_
  have := h.drop (if i < 0 then (i + (xs.length : Int)).toNat else min i.toNat xs.length)
  generalize List.drop (if i < 0 then (i + (xs.length : Int)).toNat else min i.toNat xs.length) xs = l at this
  unfold VRs
  exact ⟨v, _, rfl, hy, this⟩
theorem plainAttrs_list : PlainAttrs "list" := PySem.F.plainAttrs_list
theorem Runs.insert {D : Addr} {xs : List SV} {x : Str} {px ap cp p : Pos} {e₁ e₂ : Expr} {rest : List Stmt} {i : Int} {sv : SV} {Φ : Flow → PM → Shared → Prop} (hx : ρ.lookup x = some (.ref D)) (hd : (x == ("__debug__" : Str)) = false) (hk : c.env.scope.kind = .function)
    (hl' : xs.length ≤ 1000) (hno : noLs xs = true) (he : Evs c ((x, .lst xs) :: ρ) [e₁, e₂] [.int i, sv]) (hsv : noL sv = true) (hf : Builtin.List.listFitsIndex i = true) (hr : Runs c (OwnL D (kins xs i sv)) ρ rest Φ)
    (hbase : attributeBase (.Name x px) "insert" c.env (eval (.Name x px) c.env) = eval (.Name x px) c.env := by exact attr_plain rfl)
    (hfew : ((backTo cp (starEach [e₁, e₂] c.env)).all (fun x => !x.1) && (backToKw cp (keywordEach [] c.env)).all (fun x => x.1.isSome)
      && decide ([e₁, e₂].length + ([] : List Keyword).length + (if ([] : List Keyword).isEmpty then 0 else 1) < 30)) = true := by exact plain_few rfl rfl)
    (hline : (ap.endLine == cp.line) = true := by rfl) (hst : ∀ env : Env, (backTo cp (starEach [e₁, e₂] env)).any (·.1) = false := by exact fun _ => plain_any rfl)
    (hi : interactive c.env = false := by rfl) (hsw : swapsWith (.Call (.Attribute (.Name x px) "insert" ap) [e₁, e₂] [] cp) none p.line c.env = pure false := by exact swaps_plain rfl) :
    Runs c (OwnL D xs) ρ (.Expr (.Call (.Attribute (.Name x px) "insert" ap) [e₁, e₂] [] cp) p :: rest) Φ := .mk fun F s Q E h hS hU hQ => by
  refine wpAny_execs_cons (wpAny_Expr_any (wpAny_Call_method_lateS hbase hfew hline ((Ev.name hk hx hd : Ev c ρ (.Name x px) (.ref D)).run F s _ E h.st fun v F₁ s₁ x₁ hv => ?_)) hi hsw)
  unfold VR at hv
  subst hv
  obtain ⟨hF, vs, ⟨n, hl⟩, hv⟩ := Side.ext (S := OwnL D xs) hS x₁
  have hD := hU D rfl
  refine ⟨"list", "list.insert", PySem.F.plainAttrs_list, PySem.F.slot_list_insert, PySem.F.type_list_insert, ⟨_, hl, rfl⟩, fun a e => by cases e; exact ⟨_, hl, rfl⟩, ?_⟩
  obtain ⟨hf₂, e₁⟩ := (h.ext x₁).frozen hF hl hv hD hx
  refine callWith_machine rfl (hst _) (evalArgs_of hst (he.run _ s₁ _ E cp hf₂.st fun us F₂ s₂ x₂ hus => ?_))
  obtain ⟨v, y, rfl, hvi, hy⟩ := hus.inv2
  unfold VR at hvi
  obtain ⟨t, rfl⟩ := hvi
  have hD₂ : F₂ D = some { cls := .type "list", data := .seq vs.toArray n } := x₂.sub _ _ (put_self _ _ _)
  refine call_insert ⟨n, x₂.inn _ _ hD₂⟩ hf (by rw [hv.length]; exact Nat.le_trans hl' (by decide)) fun h' hl₃ hs₃ => ?_
  have sp := put_sub (F := F₁) (D := D) (o := { cls := .type "list", data := .seq vs.toArray n }) hF
  have e₂ : ExtV (fun a => a = D) F₁ s₁ (drop F₂ D) { s₂ with heap := h' } := by
    refine ⟨fun a o q => ?_, fun a o q => ?_, fun a o n q => (hs₃.2 a n).trans (x₂.keep a o q), fun a o q => ?_, ?_⟩
    · rw [drop_of (by rintro rfl; rw [hF] at q; cases q)]; exact x₂.sub _ _ (sp _ _ q)
    · have hne : a ≠ D := by rintro rfl; rw [drop_self] at q; cases q
      rw [drop_of hne] at q
      exact (hs₃.2 a hne).trans (x₂.inn _ _ q)
    · have hne : a ≠ D := by rintro rfl; rw [drop_self] at q; cases q
      rw [drop_of hne] at q
      rcases x₂.new a o q with z | z
      · unfold put at z; rw [if_neg hne] at z; exact .inl z
      · exact .inr (.inl z)
    · obtain ⟨h₂, tk, q⟩ := x₂.rest
      exact ⟨h', tk, by rw [q]⟩
  have less : ∀ a o, F₂ a = some o → o.cls = .type "tuple" → drop F₂ D a = some o := fun a o q hc => by
    rw [drop_of (by rintro rfl; rw [hD₂] at q; cases q; simp at hc)]; exact q
  have hno' : noLs (kins xs i sv) = true := by
    have gen : ∀ (k : Nat) (l : List SV), noLs l = true → noLs (l.take k) = true ∧ noLs (l.drop k) = true := by
      intro k l
      induction l generalizing k with
      | nil => intro _; simp [noLs]
      | cons a l ih =>
        intro q
        unfold noLs at q
        obtain ⟨q1, q2⟩ := Bool.and_eq_true_iff.mp q
        cases k with
        | zero => refine ⟨by rw [List.take_zero]; rfl, ?_⟩; rw [List.drop_zero]; unfold noLs; rw [q1, q2]; rfl
        | succ k =>
          rw [List.take_succ_cons, List.drop_succ_cons]
          refine ⟨?_, (ih k q2).2⟩
          unfold noLs; rw [q1, (ih k q2).1]; rfl
    have app : ∀ (l m : List SV), noLs l = true → noLs m = true → noLs (l ++ m) = true := by
      intro l m
      induction l with
      | nil => intro _ q; exact q
      | cons a l ih =>
        intro q q'
        unfold noLs at q
        obtain ⟨q1, q2⟩ := Bool.and_eq_true_iff.mp q
        rw [List.cons_append]; unfold noLs; rw [q1, ih q2 q']; rfl
    unfold kins
    refine app _ _ (gen _ _ hno).1 ?_
    unfold noLs
    rw [hsv, (gen _ _ hno).2]; rfl
  refine hr.run (drop F₂ D) _ Q E ((h.ext x₁).extV e₂ fun a q => by rw [show a = D from q]; exact hD) ⟨drop_self _ _, _, hl₃, VRs.less less hno' (((hv.mono sp).mono x₂.sub).kins hy)⟩ hU fun fl F₄ s₄ e₄ hfl => hQ fl F₄ s₄ ((x₁.v.trans (e₂.mono fun a q => .inr q)).trans e₄) hfl
end
end Mine
end
section
open PySem PySem.W PyProof.Rows
namespace Mine
section
variable {c : Cx} {ρ : List (Str × SV)}
theorem Op.neg {a : Int} : Op c (fun vs => unaryOp .USub (vs.getD 0 .none)) [.int a] (.int (-a)) :=
  Op.one fun F s v Q E hs hb hv hQ => by
    unfold VR at hv
    obtain ⟨x, rfl⟩ := hv
    exact P.neg_int (hQ _ F _ (Ext.tok hs _) VR.int)
theorem Ev.ifI {t b o : Expr} {p : Pos} {d : Bool} {x y : Int} (ht : EvT c ρ t d) (hb : d = true → Ev c ρ b (.int x)) (ho : d = false → Ev c ρ o (.int y)) : Ev c ρ (.IfExp t b o p) (.int (cond d x y)) :=
  Ev.ifexp ht (fun q => by subst q; exact hb rfl) (fun q => by subst q; exact ho rfl)
theorem Ev.ifS {t b o : Expr} {p : Pos} {d : Bool} {x y : Str} (ht : EvT c ρ t d) (hb : d = true → Ev c ρ b (.str x)) (ho : d = false → Ev c ρ o (.str y)) : Ev c ρ (.IfExp t b o p) (.str (cond d x y)) :=
  Ev.ifexp ht (fun q => by subst q; exact hb rfl) (fun q => by subst q; exact ho rfl)
theorem Ev.ifV {t b o : Expr} {p : Pos} {d : Bool} {x y : SV} (ht : EvT c ρ t d) (hb : d = true → Ev c ρ b x) (ho : d = false → Ev c ρ o y) : Ev c ρ (.IfExp t b o p) (cond d x y) :=
  Ev.ifexp ht (fun q => by subst q; exact hb rfl) (fun q => by subst q; exact ho rfl)
theorem EvT.int {e : Expr} {n : Int} (h : Ev c ρ e (.int n)) (he : isTrue e c.env (eval e c.env) = (do let v ← eval e c.env; standAt e.pos; holding [v] (truthy v)) := by rfl) : EvT c ρ e (n != 0) := .mk fun F s Q E hs hQ =>
  wpAny_isTrue_value (h.run F s _ E hs fun v F₁ s₁ x₁ hv => by
    unfold VR at hv
    obtain ⟨t, rfl⟩ := hv
    exact P.truthy_int (hQ F₁ s₁ x₁)) he
theorem EvT.bool {e : Expr} {b : Bool} (h : Ev c ρ e (.bool b)) (he : isTrue e c.env (eval e c.env) = (do let v ← eval e c.env; standAt e.pos; holding [v] (truthy v)) := by rfl) : EvT c ρ e b := .mk fun F s Q E hs hQ =>
  wpAny_isTrue_value (h.run F s _ E hs fun v F₁ s₁ x₁ hv => by
    unfold VR at hv
    subst hv
    exact wpAny_truthy_bool (hQ F₁ s₁ x₁)) he
theorem EvT.not {e : Expr} {p : Pos} {b : Bool} (h : EvT c ρ e b) : EvT c ρ (.UnaryOp .Not e p) (!b) := .mk fun F s Q E hs hQ =>
  wpAny_isTrue_Not (h.run F s _ E hs hQ)
theorem Ev.subStr {value slice : Expr} {pos : Pos} {x : Str} {k : Int} {cp : Nat} (hv : Ev c ρ value (.str x)) (hi : Ev c ρ slice (.int k)) (h0 : 0 ≤ k) (h1 : k < 2 ^ 62) (hx : x.cps[k.toNat]? = some cp)
    (hs : ∀ o i, subscripted slice false o i = operate [o, i] (getItem o i) := by exact sub_plain rfl) : Ev c ρ (.Subscript value slice pos) (.str ⟨#[cp]⟩) := .mk fun F s Q E h hQ =>
  Subscript_ (hv.run F s _ E h fun v F₁ s₁ x₁ hv => hi.run F₁ s₁ _ E (h.ext x₁) fun u F₂ s₂ x₂ hu => by
    unfold VR at hv hu
    obtain ⟨t, rfl⟩ := hv
    obtain ⟨t', rfl⟩ := hu
    have hlt : k.toNat < x.cps.size := (Array.getElem?_eq_some_iff.mp hx).1
    refine tail_any (T := "str") (typeIs_str _ _ _) PySem.F.slot_str_getitem.lookup (P.getItem_str (c := cp) ?_ ?_ (hQ _ F₂ _ ((x₁.trans x₂).trans (Ext.tok x₂.inn _)) VR.str)) (hs _ _)
    · simp; lia
    · have hlt' : k < (x.length : Int) := by unfold Str.length; lia
      have : seqIndex? k x.length = some k.toNat := by
        unfold seqIndex?
        have e : (if k < 0 then k + (x.length : Int) else k) = k := if_neg (by lia)
        simp only [e]
        exact if_pos (by rw [Bool.and_eq_true]; exact ⟨decide_eq_true h0, decide_eq_true hlt'⟩)
      rw [this]; exact hx)
theorem temp_str {value : Expr} {x : Str} {t : Tok} {r : Value} : letTemporaryGo value (.str x t) r = pure () := by cases value <;> rfl
theorem Ev.sliceTo {value e : Expr} {pos p : Pos} {x : Str} {k : Int} (hv : Ev c ρ value (.str x)) (hi : Ev c ρ e (.int k)) (hx : x.length ≤ 1000)
    : Ev c ρ (.Subscript value (.Slice none (some e) none p) pos) (.str (Txt.slice x none (some k))) := .mk fun F s Q E h hQ =>
  Subscript_ (hv.run F s _ E h fun v F₁ s₁ x₁ hv => by
    unfold VR at hv
    obtain ⟨t, rfl⟩ := hv
    refine wpAny_Slice ?_
    rw [evalPart_none, evalPart_some]
    refine wpAny_pure (hi.run F₁ s₁ _ E (h.ext x₁) fun u F₂ s₂ x₂ hu => ?_)
    unfold VR at hu
    obtain ⟨t', rfl⟩ := hu
    refine wpAny_pure ?_
    exact tail_of_ItemOn (SBH.sliceItem_ns (P := fun h' => ∀ a o, s₂.heap.get? a = some o → h'.get? a = some o) (fun h o q a b e => Heap.get?_push_of_some _ (q a b e)) (fun _ _ e => e)
      (fun h' t'' tk hh => hQ _ F₂ _ ((x₁.trans x₂).trans (Ext.made x₂.inn hh)) VR.str) (Nat.le_trans hx (by decide))) rfl (fun r => temp_str))
end
end Mine
end
section
open PySem PySem.W PyProof.Rows
namespace Mine
structure EvS (c : Cx) (U : Addr → Prop) (P P' : PM → Shared → Prop) (ρ : List (Str × SV)) (e : Expr) (sv : SV) : Prop where
  run : ∀ F s Q E, Fm c ρ F s → P F s → (∀ a, U a → ¬ Rel c a) → (∀ v F' s', ExtV U F s F' s' → P' F' s' → VR F' sv v → Q v s') → wpAny (model c.prog c.w) c.A (eval e c.env) Q E s
structure EvTS (c : Cx) (U : Addr → Prop) (P P' : PM → Shared → Prop) (ρ : List (Str × SV)) (e : Expr) (b : Bool) : Prop where
  run : ∀ F s (Q : Bool → Shared → Prop) E, Fm c ρ F s → P F s → (∀ a, U a → ¬ Rel c a) → (∀ F' s', ExtV U F s F' s' → P' F' s' → Q b s') → wpAny (model c.prog c.w) c.A (isTrue e c.env (eval e c.env)) Q E s
structure EvsS (c : Cx) (U : Addr → Prop) (P P' : PM → Shared → Prop) (ρ : List (Str × SV)) (es : List Expr) (svs : List SV) : Prop where
  run : ∀ F s (Q : List Value → Shared → Prop) E p, Fm c ρ F s → P F s → (∀ a, U a → ¬ Rel c a) → (∀ vs F' s', ExtV U F s F' s' → P' F' s' → VRs F' svs vs → Q vs s') → wpAny (model c.prog c.w) c.A (spliced (backTo p (starEach es c.env))) Q E s
theorem Held.ext {U : Addr → Prop} {P : PM → Shared → Prop} (h : Held U P) {F F' : PM} {s s' : Shared} (hP : P F s) (e : Ext F s F' s') : P F' s' := h.keep (fun _ => False) F s F' s' (fun _ q => q.elim) (fun _ q => q.elim) hP e.v
section
variable {c : Cx} {U : Addr → Prop} {P P' P'' : PM → Shared → Prop} {ρ : List (Str × SV)}
theorem EvS.pure {e : Expr} {sv : SV} (hP : Held U P) (h : Ev c ρ e sv) : EvS c U P P ρ e sv := .mk fun F s Q E hf hp hU hQ => h.run F s Q E hf.st fun v F' s' x hv => hQ v F' s' x.v (hP.ext hp x) hv
theorem EvTS.pure {e : Expr} {b : Bool} (hP : Held U P) (h : EvT c ρ e b) : EvTS c U P P ρ e b := .mk fun F s Q E hf hp hU hQ => h.run F s Q E hf.st fun F' s' x => hQ F' s' x.v (hP.ext hp x)
theorem EvsS.pure {es : List Expr} {svs : List SV} (hP : Held U P) (h : Evs c ρ es svs) : EvsS c U P P ρ es svs := .mk fun F s Q E p hf hp hU hQ => h.run F s Q E p hf.st fun v F' s' x hv => hQ v F' s' x.v (hP.ext hp x) hv
theorem EvsS.cons {e : Expr} {es : List Expr} {a : SV} {as : List SV} (hst : notStar e = true) (he : EvS c U P P' ρ e a) (hs : EvsS c U P' P'' ρ es as) : EvsS c U P P'' ρ (e :: es) (a :: as) := .mk fun F s Q E p hf hp hU hQ =>
  wpAny_items_cons (he.run F s _ E hf hp hU fun v F₁ s₁ x₁ hp₁ hv => hs.run F₁ s₁ _ E p (hf.extV x₁ hU) hp₁ hU fun vs F₂ s₂ x₂ hp₂ hvs => hQ _ F₂ s₂ (x₁.trans x₂) hp₂ (by unfold VRs; exact ⟨v, vs, rfl, hv.mono x₂.sub, hvs⟩)) (starEach_cons hst)
theorem EvS.list {es : List Expr} {p : Pos} {svs : List SV} (hP : Held U P') (h : EvsS c U P P' ρ es svs) (hl : Nat.ble svs.length 1000 = true) : EvS c U P P' ρ (.List es p) (.lst svs) := .mk fun F s Q E hf hp hU hQ =>
  wpAny_List (h.run F s _ E p hf hp hU fun vs F₁ s₁ x₁ hp₁ hv => ⟨by rw [hv.length]; exact Nat.le_trans (Nat.le_of_ble_eq_true hl) (by decide), by
    have a := Ext.alloc (F := F₁) (s := s₁) x₁.inn { cls := .type "list", data := .seq vs.toArray } rfl
    refine hQ _ _ _ (x₁.trans a.v) (hP.ext hp₁ a) ?_
    unfold VR
    exact ⟨_, vs, 0, rfl, put_self _ _ _, hv.mono a.sub⟩⟩)
theorem EvTS.compare {op : CmpOp} {l r : Expr} {p : Pos} {a b : SV} {t : Bool} (hP : Held U P') (hl : EvS c U P P' ρ l a) (hr : Ev c ρ r b) (ho : Op c (fun vs => compareOp op (vs.getD 0 .none) (vs.getD 1 .none)) [a, b] (.bool t))
    (hm : behindInMarks op r = false) : EvTS c U P P' ρ (.Compare l [op] [r] p) t := .mk fun F s Q E hf hp hU hQ =>
  wpAny_isTrue_Compare1 (hl.run F s _ E hf hp hU fun v F₁ s₁ x₁ hp₁ hv => hr.run F₁ s₁ _ E (hf.extV x₁ hU).st fun u F₂ s₂ x₂ hu =>
    ho F₂ s₂ [v, u] _ E x₂.inn ((hf.extV x₁ hU).ext x₂).st.base (VRs.two (hv.mono x₂.sub) hu) fun r F₃ s₃ x₃ hr => by
      unfold VR at hr; subst hr; exact wpAny_truthy_bool (hQ F₃ s₃ (x₁.trans (x₂.trans x₃).v) (hP.ext hp₁ (x₂.trans x₃)))) hm
theorem EvTS.compareR {op : CmpOp} {l r : Expr} {p : Pos} {a b : SV} {t : Bool} (hP : Held U P') (hl : EvS c U P P ρ l a) (hr : EvS c U P P' ρ r b) (ho : Op c (fun vs => compareOp op (vs.getD 0 .none) (vs.getD 1 .none)) [a, b] (.bool t))
    (hm : behindInMarks op r = false) : EvTS c U P P' ρ (.Compare l [op] [r] p) t := .mk fun F s Q E hf hp hU hQ =>
  wpAny_isTrue_Compare1 (hl.run F s _ E hf hp hU fun v F₁ s₁ x₁ hp₁ hv => hr.run F₁ s₁ _ E (hf.extV x₁ hU) hp₁ hU fun u F₂ s₂ x₂ hp₂ hu =>
    ho F₂ s₂ [v, u] _ E x₂.inn ((hf.extV x₁ hU).extV x₂ hU).st.base (VRs.two (hv.mono x₂.sub) hu) fun r F₃ s₃ x₃ hr => by
      unfold VR at hr; subst hr; exact wpAny_truthy_bool (hQ F₃ s₃ ((x₁.trans x₂).trans x₃.v) (hP.ext hp₂ x₃))) hm
theorem EvTS.not {e : Expr} {p : Pos} {b : Bool} (h : EvTS c U P P' ρ e b) : EvTS c U P P' ρ (.UnaryOp .Not e p) (!b) := .mk fun F s Q E hf hp hU hQ => wpAny_isTrue_Not (h.run F s _ E hf hp hU hQ)
noncomputable def RetS (P : PM → Shared → Prop) (r : SV) : Flow → PM → Shared → Prop := fun fl F s => ∃ v, fl = .ret v ∧ VR F r v ∧ P F s
theorem volU {hP : Held U P} {F F' : PM} {s s' : Shared} (hp : P F s) (hU : ∀ a, U a → ¬ Rel c a) (hf : Fm c ρ F s) (e : ExtV (Vol c) F s F' s') : P F' s' := hP.keep (Vol c) F s F' s' (fun a q _ hu => hU a hu q.rel) hf.vol hp e
theorem Runs.retS {e : Expr} {p : Pos} {rest : List Stmt} {r : SV} {hP : Held U P} (he : EvS c U P P' ρ e r) : Runs c ⟨U, P, hP⟩ ρ (.Return (some e) p :: rest) (RetS P' r) := .mk fun F s Q E h hS hU hQ =>
  wpAny_execs_cons (wpAny_Return_some (he.run F s _ E h hS hU fun v F' s' x hp hv => hQ (.ret v) F' s' (x.mono fun _ q => .inr q) ⟨v, rfl, hv, hp⟩))
theorem Runs.setS {x : Str} {px p : Pos} {e : Expr} {rest : List Stmt} {sv : SV} {Φ : Flow → PM → Shared → Prop} {hP : Held U P} (hP' : Held U P') (he : EvS c U P P' ρ e sv) (hk : c.env.scope.kind = .function) (hx : Own c x) (hr : Runs c ⟨U, P', hP'⟩ ((x, sv) :: ρ) rest Φ)
    (hs : swapsWith e (some (.Name x px)) p.line c.env = Pure.pure false) : Runs c ⟨U, P, hP⟩ ρ (.Assign [.Name x px] e p :: rest) Φ := .mk fun F s Q E h hS hU hQ =>
  wpAny_execs_cons (wpAny_Assign_Name (he.run F s _ E h hS hU fun v F₁ s₁ x₁ hp₁ hv => (h.extV x₁ hU).storeX hk hx hv fun s₂ h₂ x₂ =>
    hr.run F₁ s₂ Q E h₂ (volU (hP := hP') hp₁ hU (h.extV x₁ hU) x₂) hU fun r F₃ s₃ x₃ hr => hQ r F₃ s₃ (((x₁.mono fun _ q => .inr q).trans (x₂.mono fun _ q => .inl q)).trans x₃) hr) hs)
theorem Runs.exprS {p : Pos} {e : Expr} {rest : List Stmt} {sv : SV} {Φ : Flow → PM → Shared → Prop} {hP : Held U P} (hP' : Held U P') (he : EvS c U P P' ρ e sv) (hr : Runs c ⟨U, P', hP'⟩ ρ rest Φ)
    (hi : interactive c.env = false) (hs : swapsWith e none p.line c.env = Pure.pure false) : Runs c ⟨U, P, hP⟩ ρ (.Expr e p :: rest) Φ := .mk fun F s Q E h hS hU hQ =>
  wpAny_execs_cons (wpAny_Expr_any (he.run F s _ E h hS hU fun v F₁ s₁ x₁ hp₁ hv =>
    hr.run F₁ s₁ Q E (h.extV x₁ hU) hp₁ hU fun r F₃ s₃ x₃ hr => hQ r F₃ s₃ ((x₁.mono fun _ q => .inr q).trans x₃) hr) hi hs)
theorem Runs.iteS {t : Expr} {b o rest : List Stmt} {p : Pos} {d : Bool} {Φ : Flow → PM → Shared → Prop} {hP : Held U P} (hP' : Held U P') (ht : EvTS c U P P' ρ t d) (hb : d = true → Runs c ⟨U, P', hP'⟩ ρ (b ++ rest) Φ) (ho : d = false → Runs c ⟨U, P', hP'⟩ ρ (o ++ rest) Φ) : Runs c ⟨U, P, hP⟩ ρ (.If t b o p :: rest) Φ := .mk fun F s Q E h hS hU hQ Γ q hΓ => by
  rw [execs_cons, exec_If, bind_assoc, Sem.wp_bind', Sem.wp_cmd_standAt, bind_assoc, Sem.wp_bind']
  have z : wpAny (model c.prog c.w) c.A (isTrue t c.env (eval t c.env)) (fun b' s' => wpAny (model c.prog c.w) c.A (execs ((if b' then b else o) ++ rest) c.env) Q E s') E s := ht.run F s _ E h hS hU fun F₁ s₁ x₁ hp₁ => by
    cases d with
    | true => exact (hb rfl).run F₁ s₁ Q E (h.extV x₁ hU) hp₁ hU fun v F' s' y hv => hQ v F' s' ((x₁.mono fun _ q => .inr q).trans y) hv
    | false => exact (ho rfl).run F₁ s₁ Q E (h.extV x₁ hU) hp₁ hU fun v F' s' y hv => hQ v F' s' ((x₁.mono fun _ q => .inr q).trans y) hv
  refine Sem.wp_mono _ Γ _ (fun b' p' s' h' => ?_) (fun _ _ _ h => h) _ _ (z Γ _ hΓ)
  have z := h' Γ p' hΓ
  cases b' with
  | true => rw [if_pos rfl, execs_append] at z; exact z
  | false => rw [if_neg (by decide), execs_append] at z; exact z
theorem call_attr {M : Model} {A : Around} {E : Value → Shared → Prop} {s : Shared} {env : Env} {o : Expr} {name : Str} {apos pos : Pos} {args : List Expr} {Q : Value → Shared → Prop}
    (hbase : attributeBase o name env (eval o env) = eval o env)
    (hfew : ((backTo pos (starEach args env)).all (fun x => !x.1) && (backToKw pos (keywordEach [] env)).all (fun x => x.1.isSome)
      && decide (args.length + ([] : List Keyword).length + (if ([] : List Keyword).isEmpty then 0 else 1) < 30)) = true)
    (hline : (apos.endLine == pos.line) = true)
    (h : wpAny M A (eval o env) (fun ov s₁ => ∀ pl, wpAny M A (getMethod ov name pl) (fun fm s₂ => wpAny M A (callWith pos fm.1 fm.2 (backTo pos (starEach args env)) []) Q E s₂) E s₁) E s) :
    wpAny M A (eval (.Call (.Attribute o name apos) args [] pos) env) Q E s := by
  rw [arm_eval_Call, hbase]
  refine wpAny_bind (wpAny_mono h (fun ov s₁ h₁ => ?_) fun _ _ e => e)
  refine wpAny_bind (wpAny_standAt ?_)
  have hform : methodCallForm (args.length + ([] : List Keyword).length) (backTo pos (starEach args env)) (backToKw pos (keywordEach [] env)) = true := hfew
  have hpos : methodCallPos true o env apos pos = Pure.pure pos := by unfold methodCallPos; simp [hline]
  unfold methodCall
  rw [hform]
  refine wpAny_bind (wpAny_holding (wpAny_mono (h₁ _) (fun fm s₂ h₂ => ?_) fun _ _ e => e))
  exact wpAny_bind (wpAny_of_eq hpos h₂)
end
end Mine
end
section
open PySem PySem.W PyProof.Rows
namespace Mine
noncomputable def EffFn (K : Frag) (prog : Program) (w : World) (d : Nat) (f : Addr) (args : List SV) (r : SV) (U : Addr → Prop) (P P' : PM → Shared → Prop) : Prop :=
  ∀ A F s vals (Q : Value → Shared → Prop) (E : Value → Shared → Prop), Room A d → Sub F s.heap.get? → (∀ a o, K.lookup a = some o → F a = some o) → VRs F args vals → P F s → (∀ v F' s', ExtV U F s F' s' → P' F' s' → VR F' r v → Q v s') →
    codeAny (model prog w) A (.call (.ref f) ⟨vals, []⟩) (fun r s' => match r with | .ok (.ret v) => Q v s' | .ok _ => False | .error e => E e s') s
theorem EffFn.of_body {K : Frag} {prog : Program} {w : World} {d : Nat} {f : Addr} {o : Obj} {fd : FuncData} {body : List Stmt} {names : List Str} {args : List SV} {r : SV} {U : Addr → Prop} {P P' : PM → Shared → Prop} (hP : Held U P)
    (hK : K.lookup f = some o) (hd : o.data = .func fd) (hb : fd.body = .stmts body) (hcl : fd.closure = []) (hcode : codeIn K fd.code fd.qualname = true)
    (hs : strNsIn K cStatics = true) (hnl : nsIn K cStatics "sys.recursionlimit" = some Option.none)
    (hbind : ∀ F vals, VRs F args vals → bindArgs fd ⟨vals, []⟩ = pure (names.zip vals)) (hnd : (names.map id).Nodup)
    (hloc : ∀ x ∈ names, fd.scope.names.lookup x = some .local) (hcell : ∀ x ∈ fd.scope.names, x.2 ≠ .cell)
    (hco : fd.scope.isCoroutine = false) (hgen : fd.scope.isGenerator = false) (hk : fd.scope.kind = .function)
    (hrun : ∀ (A : Around) (L : Addr), Room (A.deeper (callEnv fd L f)) d → Runs ⟨K, prog, w, A.deeper (callEnv fd L f), callEnv fd L f, []⟩ ⟨U, P, hP⟩ (names.zip args) body (RetS P' r)) : EffFn K prog w (d + 1) f args r U P P' := by
  intro A F s vals Q E hr hsub hbase hv hp hQ
  have X : K.In s.heap := fun a o e => hsub _ _ (hbase a o e)
  refine codeAny_call_def (binds := names.zip vals) (by have := hr.depth; lia) (X _ _ hK) hd (noLimit_of X hs hnl) (codeRec_of X hcode) hb (BindsTo.of_eq (hbind F vals hv)) hcell
    (fun x hx => hloc _ (List.of_mem_zip (l₁ := names) (l₂ := vals) (a := x.1) (b := x.2) hx).1) (fun h₀ hns hk₀ => ?_) hco hgen hk
  have hroom : Room (A.deeper (callEnv fd s.heap.objs.size f)) d := hr.deeper
  generalize hL : s.heap.objs.size = L at *
  have hfree : s.heap.get? L = none := dead_of (by rw [hL]; exact Nat.le_refl _)
  have hnoc : ∀ a, ¬ (∃ n ∈ ([] : List Str), (callEnv fd L f).cells.lookup n = some a) := by
    rintro a ⟨n, hn, _⟩
    cases hn
  have hcells : (callEnv fd L f).cells = [] := by unfold callEnv newEnv; exact hcl
  have hUr : ∀ a, U a → ¬ Rel (⟨K, prog, w, A.deeper (callEnv fd L f), callEnv fd L f, []⟩ : Cx) a := by
    rintro a ha (q | ⟨n, hn⟩)
    · obtain ⟨_, o', ho'⟩ := hP.dry F s hp a ha
      rw [show a = L from q, hfree] at ho'; cases ho'
    · rw [show (Cx.env ⟨K, prog, w, A.deeper (callEnv fd L f), callEnv fd L f, []⟩).cells = [] from hcells] at hn; cases hn
  have e₀ : Ext F s F { s with heap := h₀, toks := s.toks + (names.zip vals).length } := Ext.made hsub hk₀
  refine wpAny_mono ((hrun A L hroom).run F { s with heap := h₀, toks := s.toks + (names.zip vals).length } (fun fl s' => match fl with | .ret v => Q v s' | _ => False) _ ⟨⟨fun a o e => hk₀ _ _ (hsub a o e), hbase, fun x sv hx => ?_⟩, ⟨_, hns⟩, fun a ha => ?_, fun n hn => absurd hn List.not_mem_nil, fun n a hl => ?_, fun n hn => absurd hn List.not_mem_nil⟩ (hP.ext hp e₀) hUr fun fl F' s' x hfl => ?_) (fun fl s' h => ?_) fun _ _ h => h
  · obtain ⟨v, hl, hv⟩ := zip_has hv hx
    refine .inl ⟨hloc x ?_, _, v, hns, ?_, hv⟩
    · exact (List.of_mem_zip (mem_of_lookup hl)).1
    · show (names.zip vals).reverse.lookup x = some v
      rw [lookup_reverse _ (zip_keys _ _ hnd)]; exact hl
  · rcases ha with rfl | ha
    · exact dryF hsub (by rw [hL]; exact Nat.le_refl _)
    · exact absurd ha (hnoc a)
  · rw [show (Cx.env ⟨K, prog, w, A.deeper (callEnv fd L f), callEnv fd L f, []⟩).cells = [] from hcells] at hl; cases hl
  · obtain ⟨v, rfl, hv', hp'⟩ := hfl
    refine hQ v F' s' ?_ hp' hv'
    refine ((e₀.v : ExtV (fun a => a = L ∨ U a) F s F _).trans (x.mono fun a q => ?_)).drop fun a q => ?_
    · rcases q with (q | q) | q
      · exact .inl q
      · exact absurd q (hnoc a)
      · exact .inr q
    · rcases q with rfl | q
      · exact .inl hfree
      · exact .inr q
  · cases fl <;> first | exact h | exact h.elim
theorem EffFn.le {K : Frag} {prog : Program} {w : World} {d d' : Nat} {f : Addr} {args : List SV} {r : SV} {U : Addr → Prop} {P P' : PM → Shared → Prop} (h : EffFn K prog w d f args r U P P') (hd : d ≤ d') : EffFn K prog w d' f args r U P P' :=
  fun A F s vals Q E hr => h A F s vals Q E (hr.le hd)
end Mine
end
section
open PySem PySem.W PyProof.Rows
namespace Mine
theorem fn_ga : typeLookup (.type "function") "__getattribute__" = pure (some (.builtin "object.__getattribute__")) := by rw [typeLookup_type, builtinLookup_eq_fast]; kernel_rfl
theorem fn_getattr : typeLookup (.type "function") "__getattr__" = pure none := by rw [typeLookup_type, builtinLookup_eq_fast]; kernel_rfl
theorem fn_read : typeLookup (.type "function") "read" = pure none := by rw [typeLookup_type, builtinLookup_eq_fast]; kernel_rfl
theorem fn_sa : typeLookup (.type "function") "__setattr__" = pure (some (.builtin "object.__setattr__")) := by rw [typeLookup_type, builtinLookup_eq_fast]; kernel_rfl
theorem slot_fn_ga : Slot "function" "__getattribute__" "object.__getattribute__" :=
  .of (owner := "object") (n := "__getattribute__") fn_ga (by decide +kernel) (by decide +kernel) (by decide +kernel) (by first | exact .inl (by decide +kernel) | exact .inr (by decide +kernel)) (by rw [isSubtype_type]; kernel_rfl)
theorem slot_fn_sa : Slot "function" "__setattr__" "object.__setattr__" :=
  .of (owner := "object") (n := "__setattr__") fn_sa (by decide +kernel) (by decide +kernel) (by decide +kernel) (by first | exact .inl (by decide +kernel) | exact .inr (by decide +kernel)) (by rw [isSubtype_type]; kernel_rfl)
open Builtin Builtin.ObjectAttr
variable {prog : Program} {w : World} {A : Around} {E : Value → Shared → Prop} {h : Heap} {g : Array GenState} {d : Drawn} {t : Nat} {os : OsState}
theorem fn_load {T Dd : Addr} {fd : FuncData} {sl : Array (Option Value)} {mA : Str → Option Value} {v : Value} {expr : Bool} {Q : Value → Shared → Prop}
    (hT : h.get? T = some { cls := .type "function", dict := some Dd, data := .func fd, slots := sl }) (hd : h.Ns Dd mA) (hv : mA "read" = some v) (hh : handedOut v = pure v) (hq : ∀ t, Q v ⟨h, g, d, t, os⟩) :
    wpAny (model prog w) A (getAttr (.ref T) "read" expr) Q E ⟨h, g, d, t, os⟩ := by
  unfold getAttr getAttrBy
  repeat (first | (with_reducible refine wpAny_loadPart_at hT ?_) | (rw [fn_ga]) | wp_step)
  rw [if_neg (by cases expr <;> decide)]
  unfold boundAndCalled
  refine wpAny_bind (wpAny_of_eq (slot_fn_ga.bind (.ref T)) ?_)
  refine wpAny_call_entry slot_fn_ga ⟨_, hT, rfl⟩ PySem.F.entry_object_getattribute ?_ (PySem.F.args_object_getattribute_2 _ _)
  unfold Builtin.«object.__getattribute__» Builtin.ObjectAttr.find
  repeat (first | (with_reducible refine wpAny_loadPart_at hT ?_) | (with_reducible refine wpAny_nsGet hd ?_; rw [hv]) | (rw [fn_read]) | wp_step)
  refine ⟨v, rfl, ?_⟩
  show wpAny _ _ (handedOut v) _ _ _
  rw [hh]
  exact wpAny_pure (hq _)
end Mine
end
section
open PySem PySem.W PyProof.Rows
namespace Mine
structure LexA where
  cG : Addr
  G : Addr
  T : Addr
  Dt : Addr
  R : Addr
  X : Addr
  Dx : Addr
  Pb : Addr
noncomputable def LexU (L : LexA) : Addr → Prop := fun a => a = L.G ∨ a = L.Dx ∨ a = L.Pb
noncomputable def chS (c : Nat) : Str := ⟨#[c]⟩
noncomputable def lexNames : List Str := [Str.ofString "pushback", Str.ofString "whitespace", Str.ofString "instream", Str.ofString "lineno"]
noncomputable def lamOf : Stmt → Arguments × Expr × Scope × Pos
  | .Assign _ (.Lambda a b s p) _ => (a, b, s, p)
  | _ => default
noncomputable def lam0 : Arguments × Expr × Scope × Pos := lamOf ((dBody (stAt 11)).getD 1 (.Pass default))
noncomputable def lam1 : Arguments × Expr × Scope × Pos := lamOf ((dBody (stAt 11)).getD 2 (.Pass default))
noncomputable def lamQ : Str := Str.ofString "_law_lexer.<locals>.<lambda>"
structure LexP (L : LexA) (g : List Nat) (ln : Int) (pb : List Str) (F : PM) (s : Shared) : Prop where
  inn : Sub F s.heap.get?
  cell : ∃ o, F L.cG = some o ∧ o.data = .cell (some (.ref L.G))
  fn : ∃ fd sl, F L.T = some { cls := .type "function", dict := some L.Dt, data := .func fd, slots := sl }
  rd : ∃ mR, (∀ h : Heap, Sub F h.get? → h.Ns L.Dt mR) ∧ mR "read" = some (.ref L.R)
  lam : ∃ pm cc ct, F L.R = some (kla_obj "<lambda>" lamQ lam1.1 lam1.2.1 lam1.2.2.1 [(Str.ofString "signs", L.cG)] pm cc ct) ∧ ∀ h : Heap, Sub F h.get? → h.CodeRec (.ref cc) lamQ
  inst : ∃ o, F L.X = some o ∧ o.cls = .ref 52 ∧ (∀ c, o.data ≠ .cls c) ∧ o.dict = some L.Dx
  neX : L.Dx ≠ L.X
  neGD : L.G ≠ L.Dx
  neGP : L.G ≠ L.Pb
  neDP : L.Dx ≠ L.Pb
  dG : F L.G = none
  dD : F L.Dx = none
  dP : F L.Pb = none
  sg : ∃ vs, LstAt s.heap L.G vs ∧ VRs F (g.map fun c => .str (chS c)) vs
  ns : ∃ mA tl tw, s.heap.Ns1 L.Dx mA ∧ Within mA lexNames ∧ mA "lineno" = some (.int ln tl) ∧ mA "instream" = some (.ref L.T) ∧ mA "whitespace" = some (.str "\n\t\x0d " tw) ∧ mA "pushback" = some (.ref L.Pb)
  pbk : ∃ vs, LstAt s.heap L.Pb vs ∧ VRs F (pb.map .str) vs
theorem LexP.held {L : LexA} {g : List Nat} {ln : Int} {pb : List Str} : Held (LexU L) (LexP L g ln pb) where
  dry := fun F s h a ha => by
    rcases ha with rfl | rfl | rfl
    · obtain ⟨vs, ⟨n, hl⟩, _⟩ := h.sg; exact ⟨h.dG, _, hl⟩
    · obtain ⟨mA, tl, tw, hn, _⟩ := h.ns
      obtain ⟨o, es, ep, ho, _⟩ := hn
      exact ⟨h.dD, _, ho⟩
    · obtain ⟨vs, ⟨n, hl⟩, _⟩ := h.pbk; exact ⟨h.dP, _, hl⟩
  keep := fun W F s F' s' hW hW' h e => by
    have nW : ∀ a, LexU L a → F a = none → ¬ W a := fun a ha hf hw => hW a hw hf ha
    have dry : ∀ a, F a = none → LexU L a → (∃ o, s.heap.get? a = some o) → F' a = none := fun a hf ha ho => by
      cases q : F' a with
      | none => rfl
      | some o =>
        rcases e.new a o q with z | z | z
        · rw [hf] at z; cases z
        · obtain ⟨o', ho⟩ := ho; rw [ho] at z; cases z
        · exact absurd z (nW a ha hf)
    obtain ⟨o1, c1, c2⟩ := h.cell
    obtain ⟨fd, sl, f1⟩ := h.fn
    obtain ⟨mR, r1, r2⟩ := h.rd
    obtain ⟨pm, cc, ct, l1, l2⟩ := h.lam
    obtain ⟨o2, i1, i2, i3, i4⟩ := h.inst
    obtain ⟨vs, ⟨n, g1⟩, g2⟩ := h.sg
    obtain ⟨mA, tl, tw, n1, n2, n3⟩ := h.ns
    obtain ⟨us, ⟨m, p1⟩, p2⟩ := h.pbk
    have oD : ∃ o, s.heap.get? L.Dx = some o := by obtain ⟨o, es, ep, ho, _⟩ := n1; exact ⟨o, ho⟩
    have kG := e.keep L.G _ (nW _ (.inl rfl) h.dG) g1
    have kP := e.keep L.Pb _ (nW _ (.inr (.inr rfl)) h.dP) p1
    exact ⟨e.inn, ⟨o1, e.sub _ _ c1, c2⟩, ⟨fd, sl, e.sub _ _ f1⟩, ⟨mR, fun hh hs => r1 hh (e.sub.trans hs), r2⟩, ⟨pm, cc, ct, e.sub _ _ l1, fun hh hs => l2 hh (e.sub.trans hs)⟩, ⟨o2, e.sub _ _ i1, i2, i3, i4⟩, h.neX, h.neGD, h.neGP, h.neDP,
      dry _ h.dG (.inl rfl) ⟨_, g1⟩, dry _ h.dD (.inr (.inl rfl)) oD, dry _ h.dP (.inr (.inr rfl)) ⟨_, p1⟩, ⟨vs, ⟨n, kG⟩, g2.mono e.sub⟩,
      ⟨mA, tl, tw, n1.at fun o q => e.keep _ _ (nW _ (.inr (.inl rfl)) h.dD) q, n2, n3⟩, ⟨us, ⟨m, kP⟩, p2.mono e.sub⟩⟩
theorem LexP.instAt {L : LexA} {g : List Nat} {ln : Int} {pb : List Str} {F : PM} {s : Shared} (h : LexP L g ln pb F s) : ∃ mA tl tw, s.heap.Inst L.X 52 mA ∧ Within mA lexNames ∧ mA "lineno" = some (.int ln tl) ∧ mA "instream" = some (.ref L.T) ∧ mA "whitespace" = some (.str "\n\t\x0d " tw) ∧ mA "pushback" = some (.ref L.Pb) := by
  obtain ⟨o2, i1, i2, i3, i4⟩ := h.inst
  obtain ⟨mA, tl, tw, n1, n2⟩ := h.ns
  exact ⟨mA, tl, tw, ⟨o2, h.inn _ _ i1, i2, i3, .inr ⟨L.Dx, i4, h.neX, n1⟩⟩, n2⟩
theorem cls52 (P : Params) : (KF P).lookup 52 = some (excClassObj "_netrclex" "_netrclex" 52 51 [.type "object"] [.type "object"] true [] [] false none none none none (some (.str "_netrclex" 189)) (some (.str "_netrclex" 197)) (some (.bool true)) "object.__new__") := by kernel_rfl
theorem ns51 (P : Params) : strNsIn (KF P) 51 = true := by kernel_rfl
noncomputable def own51 (P : Params) (x : Str) (r : Option Value) : Prop := nsIn (KF P) 51 x = some r
theorem own_ga (P : Params) : nsIn (KF P) 51 "__getattribute__" = some none := by kernel_rfl
theorem own_gt (P : Params) : nsIn (KF P) 51 "__getattr__" = some none := by kernel_rfl
theorem own_sa (P : Params) : nsIn (KF P) 51 "__setattr__" = some none := by kernel_rfl
theorem own_lineno (P : Params) : nsIn (KF P) 51 "lineno" = some none := by kernel_rfl
theorem own_instream (P : Params) : nsIn (KF P) 51 "instream" = some none := by kernel_rfl
theorem own_whitespace (P : Params) : nsIn (KF P) 51 "whitespace" = some none := by kernel_rfl
theorem own_pushback (P : Params) : nsIn (KF P) 51 "pushback" = some none := by kernel_rfl
theorem own_init (P : Params) : nsIn (KF P) 51 "__init__" = some (some (.ref 28)) := by kernel_rfl
theorem own_read (P : Params) : nsIn (KF P) 51 "_read_char" = some (some (.ref 35)) := by kernel_rfl
theorem own_get (P : Params) : nsIn (KF P) 51 "get_token" = some (some (.ref 42)) := by kernel_rfl
theorem own_push (P : Params) : nsIn (KF P) 51 "push_token" = some (some (.ref 49)) := by kernel_rfl
theorem obj_lineno : typeLookup (.type "object") "lineno" = pure none := by rw [typeLookup_type, builtinLookup_eq_fast]; kernel_rfl
theorem obj_instream : typeLookup (.type "object") "instream" = pure none := by rw [typeLookup_type, builtinLookup_eq_fast]; kernel_rfl
theorem obj_whitespace : typeLookup (.type "object") "whitespace" = pure none := by rw [typeLookup_type, builtinLookup_eq_fast]; kernel_rfl
theorem obj_pushback : typeLookup (.type "object") "pushback" = pure none := by rw [typeLookup_type, builtinLookup_eq_fast]; kernel_rfl
theorem obj_read : typeLookup (.type "object") "_read_char" = pure none := by rw [typeLookup_type, builtinLookup_eq_fast]; kernel_rfl
theorem obj_get : typeLookup (.type "object") "get_token" = pure none := by rw [typeLookup_type, builtinLookup_eq_fast]; kernel_rfl
theorem obj_push : typeLookup (.type "object") "push_token" = pure none := by rw [typeLookup_type, builtinLookup_eq_fast]; kernel_rfl
end Mine
end
section
open PySem PySem.W PyProof.Rows
namespace Mine
structure LexM (L : LexA) (ln : Int) (mA : Str → Option Value) (tl tw : Tok) : Prop where
  within : Within mA lexNames
  lineno : mA "lineno" = some (.int ln tl)
  instream : mA "instream" = some (.ref L.T)
  white : mA "whitespace" = some (.str "\n\t\x0d " tw)
  push : mA "pushback" = some (.ref L.Pb)
theorem LexP.at {L : LexA} {g : List Nat} {ln : Int} {pb : List Str} {F : PM} {s : Shared} (h : LexP L g ln pb F s) : ∃ mA tl tw, s.heap.Inst L.X 52 mA ∧ LexM L ln mA tl tw := by
  obtain ⟨mA, tl, tw, i, a, b, c, d, e⟩ := h.instAt
  exact ⟨mA, tl, tw, i, a, b, c, d, e⟩
theorem within_none {mA : Str → Option Value} {ns : List Str} {name : Str} (h : Within mA ns) (hn : ns.contains name = false) : mA name = none := by
  cases e : mA name with
  | none => rfl
  | some v =>
    have := h name (by rw [e]; exact fun q => nomatch q)
    rw [List.contains_iff_mem.mpr this] at hn; cases hn
section
variable {c : Cx} {L : LexA} {g : List Nat} {ln : Int} {pb : List Str} {ρ : List (Str × SV)}
theorem inK {K : Frag} {F : PM} {s : Shared} (hs : Sub F s.heap.get?) (hb : ∀ a o, K.lookup a = some o → F a = some o) : K.In s.heap := fun a o e => hs _ _ (hb a o e)
theorem ns51_of {P : Params} {s : Shared} (X : (KF P).In s.heap) : ∃ mN, s.heap.Ns 51 mN ∧ ∀ x r, nsIn (KF P) 51 x = some r → mN x = r := ns_of_strNs X (ns51 P)
theorem EvS.attr {x name : Str} {px p : Pos} {sv : SV} (hK : c.K = KF c.w.params) (hx : Ev c ρ (.Name x px) (.ref L.X)) (own : nsIn (KF c.w.params) 51 name = some none) (obj : typeLookup (.type "object") name = Pure.pure none)
    (hv : ∀ mA tl tw, LexM L ln mA tl tw → ∃ v, mA name = some v ∧ handedOut v = Pure.pure v ∧ ∀ F, VR F sv v) : EvS c (LexU L) (LexP L g ln pb) (LexP L g ln pb) ρ (.Attribute (.Name x px) name p) sv := .mk fun F s Q E hf hp hU hQ => by
  refine Attribute_name (hx.run F s _ E hf.st fun v F₁ s₁ x₁ hv₁ => ?_)
  unfold VR at hv₁; subst hv₁
  have hp₁ : LexP L g ln pb F₁ s₁ := LexP.held.ext hp x₁
  obtain ⟨mA, tl, tw, I, M⟩ := hp₁.at
  obtain ⟨v, e1, e2, e3⟩ := hv mA tl tw M
  have X := inK (K := KF c.w.params) x₁.inn (fun a o q => (hf.ext x₁).st.base a o (by rw [hK]; exact q))
  obtain ⟨mN, hn, hN⟩ := ns51_of X
  obtain ⟨hh, gg, d, t, os⟩ := s₁
  refine load_attr (X _ _ (cls52 _)) hn (hN _ _ (own_ga _)) (hN _ _ own) obj I e1 e2 ?_
  have x₂ : Ext F₁ ⟨hh, gg, d, t, os⟩ F₁ ⟨hh, gg, d, t + 1, os⟩ := Ext.tok x₁.inn (t + 1)
  exact hQ v F₁ _ (x₁.trans x₂).v (LexP.held.ext hp₁ x₂) (e3 F₁)
theorem EvS.lineno {x : Str} {px p : Pos} (hK : c.K = KF c.w.params) (hx : Ev c ρ (.Name x px) (.ref L.X)) : EvS c (LexU L) (LexP L g ln pb) (LexP L g ln pb) ρ (.Attribute (.Name x px) "lineno" p) (.int ln) :=
  EvS.attr hK hx (own_lineno _) obj_lineno fun mA tl tw M => ⟨_, M.lineno, rfl, fun _ => VR.int⟩
theorem EvS.instream {x : Str} {px p : Pos} (hK : c.K = KF c.w.params) (hx : Ev c ρ (.Name x px) (.ref L.X)) : EvS c (LexU L) (LexP L g ln pb) (LexP L g ln pb) ρ (.Attribute (.Name x px) "instream" p) (.ref L.T) :=
  EvS.attr hK hx (own_instream _) obj_instream fun mA tl tw M => ⟨_, M.instream, rfl, fun _ => by unfold VR; rfl⟩
theorem EvS.white {x : Str} {px p : Pos} (hK : c.K = KF c.w.params) (hx : Ev c ρ (.Name x px) (.ref L.X)) : EvS c (LexU L) (LexP L g ln pb) (LexP L g ln pb) ρ (.Attribute (.Name x px) "whitespace" p) (.str "\n\t\x0d ") :=
  EvS.attr hK hx (own_whitespace _) obj_whitespace fun mA tl tw M => ⟨_, M.white, rfl, fun _ => VR.str⟩
theorem EvS.pushback {x : Str} {px p : Pos} (hK : c.K = KF c.w.params) (hx : Ev c ρ (.Name x px) (.ref L.X)) : EvS c (LexU L) (LexP L g ln pb) (LexP L g ln pb) ρ (.Attribute (.Name x px) "pushback" p) (.ref L.Pb) :=
  EvS.attr hK hx (own_pushback _) obj_pushback fun mA tl tw M => ⟨_, M.push, rfl, fun _ => by unfold VR; rfl⟩
theorem EvS.callM {P' : PM → Shared → Prop} {x name : Str} {px ap cp : Pos} {es : List Expr} {svs : List SV} {f : Addr} {of : Obj} {fd : FuncData} {d : Nat} {r : SV} (hK : c.K = KF c.w.params) (hx : Ev c ρ (.Name x px) (.ref L.X)) (own : nsIn (KF c.w.params) 51 name = some (some (.ref f)))
    (obj : typeLookup (.type "object") name = Pure.pure none) (hno : lexNames.contains name = false) (hf : (KF c.w.params).lookup f = some of) (hfc : of.cls = .type "function") (hfd : of.data = .func fd) (he : Evs c ρ es svs) (hr : Room c.A d)
    (ho : EffFn c.K c.prog c.w d f (.ref L.X :: svs) r (LexU L) (LexP L g ln pb) P')
    (hbase : attributeBase (.Name x px) name c.env (eval (.Name x px) c.env) = eval (.Name x px) c.env)
    (hfew : ((backTo cp (starEach es c.env)).all (fun x => !x.1) && (backToKw cp (keywordEach [] c.env)).all (fun x => x.1.isSome)
      && decide (es.length + ([] : List Keyword).length + (if ([] : List Keyword).isEmpty then 0 else 1) < 30)) = true)
    (hline : (ap.endLine == cp.line) = true) (hst : ∀ env : Env, (backTo cp (starEach es env)).any (·.1) = false) :
    EvS c (LexU L) (LexP L g ln pb) P' ρ (.Call (.Attribute (.Name x px) name ap) es [] cp) r := .mk fun F s Q E hfm hp hU hQ => by
  refine call_attr hbase hfew hline (hx.run F s _ E hfm.st fun v F₁ s₁ x₁ hv₁ => fun pl => ?_)
  unfold VR at hv₁; subst hv₁
  have hp₁ : LexP L g ln pb F₁ s₁ := LexP.held.ext hp x₁
  obtain ⟨mA, tl, tw, I, M⟩ := hp₁.at
  have X := inK (K := KF c.w.params) x₁.inn (fun a o q => (hfm.ext x₁).st.base a o (by rw [hK]; exact q))
  obtain ⟨mN, hn, hN⟩ := ns51_of X
  obtain ⟨hh, gg, dd, t, os⟩ := s₁
  refine method_of (X _ _ (cls52 _)) hn (hN _ _ (own_ga _)) (hN _ _ (own_gt _)) (hN _ _ own) (X _ _ hf) hfc obj I (within_none M.within hno) ?_
  refine Calls.callWith_function (o := of) (fd := fd) (evalArgs_of hst (he.run F₁ _ _ E cp (hfm.ext x₁).st fun vs F₂ s₂ x₂ hvs => ?_))
  have hf₂ := (hfm.ext x₁).ext x₂
  have hp₂ : LexP L g ln pb F₂ s₂ := LexP.held.ext hp₁ x₂
  refine ⟨⟨hf₂.st.inK _ _ (by rw [hK]; exact hf), hfd⟩, wpAny_call (ho c.A F₂ s₂ (.ref L.X :: vs) Q E hr x₂.inn hf₂.st.base (by unfold VRs; exact ⟨_, _, rfl, by unfold VR; rfl, hvs⟩) hp₂ fun r F₃ s₃ x₃ hp₃ hr => hQ r F₃ s₃ ((x₁.trans x₂).v.trans x₃) hp₃ hr)⟩
end
end Mine
end
section
open PySem PySem.W PyProof.Rows
namespace Mine
section
variable {c : Cx} {U : Addr → Prop} {P P' : PM → Shared → Prop} {ρ : List (Str × SV)}
theorem EvS.ifexp {t b o : Expr} {p : Pos} {d : Bool} {sv : SV} {P₁ : PM → Shared → Prop} (ht : EvTS c U P P₁ ρ t d) (hb : d = true → EvS c U P₁ P' ρ b sv) (ho : d = false → EvS c U P₁ P' ρ o sv) : EvS c U P P' ρ (.IfExp t b o p) sv := .mk fun F s Q E hf hp hU hQ =>
  wpAny_IfExp (ht.run F s _ E hf hp hU fun F₁ s₁ x₁ hp₁ => by
    cases d with
    | true => exact (hb rfl).run F₁ s₁ Q E (hf.extV x₁ hU) hp₁ hU fun v F₂ s₂ x₂ hp₂ hv => hQ v F₂ s₂ (x₁.trans x₂) hp₂ hv
    | false => exact (ho rfl).run F₁ s₁ Q E (hf.extV x₁ hU) hp₁ hU fun v F₂ s₂ x₂ hp₂ hv => hQ v F₂ s₂ (x₁.trans x₂) hp₂ hv)
theorem EvS.methL {o : Expr} {name : Str} {ap cp : Pos} {es : List Expr} {svs : List SV} {id : String} {D : Addr} {r : SV} (hP : Held U P) (ho : EvS c U P P ρ o (.ref D)) (he : Evs c ρ es svs)
    (slot : Slot "list" name id) (ty : typeOf (.builtin id) = Pure.pure (.type "method_descriptor")) (hD : ∀ F s, P F s → ∃ vs, LstAt s.heap D vs)
    (hop : ∀ F s vs (Q : Value → Shared → Prop) E, Sub F s.heap.get? → (∀ a o, c.K.lookup a = some o → F a = some o) → P F s → VRs F svs vs → (∀ v F' s', ExtV U F s F' s' → P' F' s' → VR F' r v → Q v s') → wpAny (model c.prog c.w) c.A (PySem.call (.builtin id) (.ref D :: vs)) Q E s)
    (hbase : attributeBase o name c.env (eval o c.env) = eval o c.env)
    (hfew : ((backTo cp (starEach es c.env)).all (fun x => !x.1) && (backToKw cp (keywordEach [] c.env)).all (fun x => x.1.isSome)
      && decide (es.length + ([] : List Keyword).length + (if ([] : List Keyword).isEmpty then 0 else 1) < 30)) = true)
    (hline : (ap.endLine == cp.line) = true) (hst : ∀ env : Env, (backTo cp (starEach es env)).any (·.1) = false) :
    EvS c U P P' ρ (.Call (.Attribute o name ap) es [] cp) r := .mk fun F s Q E hfm hp hU hQ => by
  refine wpAny_Call_method_lateS hbase hfew hline (ho.run F s _ E hfm hp hU fun v F₁ s₁ x₁ hp₁ hv₁ => ?_)
  unfold VR at hv₁; subst hv₁
  obtain ⟨vs, n, hl⟩ := hD F₁ s₁ hp₁
  refine ⟨"list", id, PySem.F.plainAttrs_list, slot, ty, ⟨_, hl, rfl⟩, fun a e => by cases e; exact ⟨_, hl, rfl⟩, ?_⟩
  have hf₁ := hfm.extV x₁ hU
  refine callWith_machine (first := [.ref D]) rfl (hst _) (evalArgs_of hst (he.run F₁ s₁ _ E cp hf₁.st fun us F₂ s₂ x₂ hus => ?_))
  exact hop F₂ s₂ us Q E x₂.inn (hf₁.ext x₂).st.base (hP.ext hp₁ x₂) hus fun r F₃ s₃ x₃ hp₃ hr => hQ r F₃ s₃ ((x₁.trans x₂.v).trans x₃) hp₃ hr
theorem EvTS.list {e : Expr} {D : Addr} {b : Bool} (hP : Held U P) (he : EvS c U P P ρ e (.ref D)) (hD : ∀ F s, P F s → ∃ vs, LstAt s.heap D vs ∧ (vs.length : Int) < 2 ^ 62 ∧ (!vs.isEmpty) = b)
    (hi : isTrue e c.env (eval e c.env) = (do let v ← eval e c.env; PySem.standAt e.pos; PySem.holding [v] (truthy v))) : EvTS c U P P ρ e b := .mk fun F s Q E hf hp hU hQ =>
  wpAny_isTrue_value (he.run F s _ E hf hp hU fun v F₁ s₁ x₁ hp₁ hv => by
    unfold VR at hv; subst hv
    obtain ⟨vs, ⟨n, hl⟩, hlen, hb⟩ := hD F₁ s₁ hp₁
    have hl' : s₁.heap.IsList D vs.toArray := ⟨_, hl, rfl, n, rfl⟩
    refine wpAny_truthy_list hl' (by rw [List.size_toArray]; lia) ?_
    have x₂ : Ext F₁ s₁ F₁ { s₁ with toks := s₁.toks + 1 + 1 } := Ext.tok x₁.inn _
    rw [List.isEmpty_toArray, hb]
    exact hQ F₁ _ (x₁.trans x₂.v) (hP.ext hp₁ x₂)) hi
end
noncomputable def rdS : List Nat → Str
  | [] => ""
  | ch :: _ => chS ch
theorem lex_pop {prog : Program} {w : World} {A : Around} {L : LexA} {g : List Nat} {ch : Nat} {ln : Int} {pb : List Str} {F : PM} {s : Shared} {Q : Value → Shared → Prop} {E : Value → Shared → Prop} {u : Tok} (hg : g.length ≤ 1000)
    (hp : LexP L (ch :: g) ln pb F s) (hQ : ∀ v F' s', ExtV (LexU L) F s F' s' → LexP L g ln pb F' s' → VR F' (.str (chS ch)) v → Q v s') : wpAny (model prog w) A (PySem.call (.builtin "list.pop") [.ref L.G, .int 0 u]) Q E s := by
  obtain ⟨vs, hl, hv⟩ := hp.sg
  rw [List.map_cons] at hv
  unfold VRs at hv
  obtain ⟨v, vs', rfl, hv0, hvr⟩ := hv
  have hlen := hvr.length
  rw [List.length_map] at hlen
  refine call_pop0 hl (by lia) fun h' hl' hs => ?_
  have hF : ∀ a o, F a = some o → h'.get? a = some o := fun a o e => (hs.2 a (by rintro rfl; rw [hp.dG] at e; cases e)).trans (hp.inn a o e)
  have e₁ : ExtV (LexU L) F s F { s with heap := h' } :=
    ⟨Sub.refl _, hF, fun a o n e => (hs.2 a fun q => n (.inl q)).trans e, fun a o e => .inl e, ⟨_, _, rfl⟩⟩
  refine hQ v F _ e₁ ?_ hv0
  obtain ⟨mA, tl, tw, n1, n2⟩ := hp.ns
  obtain ⟨us, ⟨m, p1⟩, p2⟩ := hp.pbk
  exact { hp with inn := hF, sg := ⟨vs', hl', hvr⟩, ns := ⟨mA, tl, tw, n1.sameBut hs (Ne.symm hp.neGD), n2⟩, pbk := ⟨us, ⟨m, (hs.2 _ (Ne.symm hp.neGP)).trans p1⟩, p2⟩ }
end Mine
end
section
open PySem PySem.W PyProof.Rows
namespace Mine
noncomputable def rdR : List Nat → List Nat
  | [] => []
  | _ :: r => r
theorem cS (P : Params) : strNsIn (KF P) cStatics = true := by kernel_rfl
theorem cL (P : Params) : nsIn (KF P) cStatics "sys.recursionlimit" = some none := by kernel_rfl
theorem lam1_names : lam1.2.2.1.names = [(Str.ofString "count", .local), (Str.ofString "signs", .free)] := by kernel_rfl
theorem lam1_cell : ∀ x ∈ lam1.2.2.1.names, x.2 ≠ .cell := by rw [lam1_names]; decide
theorem lam1_kind : lam1.2.2.1.kind = .function := by kernel_rfl
set_option maxRecDepth 100000 in
theorem lam_call {w : World} {A : Around} {L : LexA} {g : List Nat} {ln : Int} {pb : List Str} {F : PM} {s : Shared} {Q : Value → Shared → Prop} {E : Value → Shared → Prop} {u : Tok} {d : Nat} (hr : Room A (d + 1)) (hsub : Sub F s.heap.get?) (hbase : ∀ a o, (KF w.params).lookup a = some o → F a = some o) (hg : g.length ≤ 1000)
    (hp : LexP L g ln pb F s) (hQ : ∀ v F' s', ExtV (LexU L) F s F' s' → LexP L (rdR g) ln pb F' s' → VR F' (.str (rdS g)) v → Q v s') : wpAny (model PG w) A (PySem.call (.ref L.R) [.int 1 u]) Q E s := by
  obtain ⟨pm, cc, ct, hR, hcr⟩ := hp.lam
  have X : (KF w.params).In s.heap := inK hsub hbase
  refine wpAny_call (kla_callFunE (body := lam1.2.1) (by have := hr.depth; lia) (hsub _ _ hR) rfl rfl rfl rfl (hcr _ hsub) ?_)
  have hb : bindArgs (kla_fn "<lambda>" lamQ lam1.1 lam1.2.1 lam1.2.2.1 [(Str.ofString "signs", L.cG)] pm (.ref cc) ct) ⟨[.int 1 u], []⟩ = pure [(Str.ofString "count", .int 1 u)] := rfl
  rw [hb]
  refine wpAny_pure (wpAny_newFunctionEnv lam1_cell (fun x hx => by rw [List.mem_singleton.mp hx, show (kla_fn "<lambda>" lamQ lam1.1 lam1.2.1 lam1.2.2.1 [(Str.ofString "signs", L.cG)] pm (.ref cc) ct).scope.names = _ from lam1_names]; rfl) (fun h₁ hns hsb => ?_) lam1_kind)
  have hk₁ : ∀ b o, s.heap.get? b = some o → h₁.get? b = some o := fun b o e => hsb.extBut b o (Nat.ne_of_lt (Heap.lt_size e)) (Heap.get?_push_of_some _ e)
  refine ⟨(noLimit_of X (cS _) (cL _)).keeps hk₁, ?_⟩
  generalize hL : s.heap.objs.size = Lc at *
  have hfree : s.heap.get? Lc = none := dead_of (by rw [hL]; exact Nat.le_refl _)
  generalize hE : newEnv (kla_fn "<lambda>" lamQ lam1.1 lam1.2.1 lam1.2.2.1 [(Str.ofString "signs", L.cG)] pm (.ref cc) ct).scope Lc (kla_fn "<lambda>" lamQ lam1.1 lam1.2.1 lam1.2.2.1 [(Str.ofString "signs", L.cG)] pm (.ref cc) ct).globals (kla_fn "<lambda>" lamQ lam1.1 lam1.2.1 lam1.2.2.1 [(Str.ofString "signs", L.cG)] pm (.ref cc) ct).closure ((kla_fn "<lambda>" lamQ lam1.1 lam1.2.1 lam1.2.2.1 [(Str.ofString "signs", L.cG)] pm (.ref cc) ct).qualname ++ ".<locals>.") (some L.R) (kla_fn "<lambda>" lamQ lam1.1 lam1.2.1 lam1.2.2.1 [(Str.ofString "signs", L.cG)] pm (.ref cc) ct).code none (kla_fn "<lambda>" lamQ lam1.1 lam1.2.1 lam1.2.2.1 [(Str.ofString "signs", L.cG)] pm (.ref cc) ct).builtins = env
  refine kla_codeExpr (wpAny_mono (?_ : wpAny (model PG w) (A.deeper env) (eval lam1.2.1 env) (fun v s' => Q v s') _ { s with heap := h₁, toks := s.toks + 1 }) (fun v s' h => h) fun _ _ h => h)
  subst hE
  let env : Env := newEnv lam1.2.2.1 Lc mainGlobals [(Str.ofString "signs", L.cG)] (lamQ ++ ".<locals>.") (some L.R) (.ref cc) none builtinsNs
  let c : Cx := ⟨KF w.params, PG, w, A.deeper env, env, []⟩
  have e₀ : Ext F s F { s with heap := h₁, toks := s.toks + 1 } := Ext.made hsub hk₁
  obtain ⟨oc, hc1, hc2⟩ := hp.cell
  have hcell : h₁.IsCell L.cG (some (.ref L.G)) := ⟨oc, hk₁ _ _ (hsub _ _ hc1), hc2⟩
  have hfm : Fm c [(Str.ofString "count", .int 1), (Str.ofString "signs", .ref L.G)] F { s with heap := h₁, toks := s.toks + 1 } := by
    refine ⟨⟨fun a o e => hk₁ _ _ (hsub a o e), hbase, fun x sv hx => ?_⟩, ⟨_, hns⟩, fun a ha => ?_, fun n hn => absurd hn List.not_mem_nil, fun n a hl => ?_, fun n hn => absurd hn List.not_mem_nil⟩
    · rw [List.lookup_cons] at hx
      cases q : x == Str.ofString "count" with
      | true =>
        rw [q] at hx; cases hx
        have := beq_iff_eq.mp q; subst this
        exact .inl ⟨rfl, _, _, hns, rfl, VR.int⟩
      | false =>
        rw [q] at hx
        rw [List.lookup_cons] at hx
        cases q' : x == Str.ofString "signs" with
        | false => rw [q'] at hx; cases hx
        | true =>
          rw [q'] at hx; cases hx
          have := beq_iff_eq.mp q'; subst this
          exact .inr ⟨.inr rfl, rfl, L.cG, _, rfl, hcell, by unfold VR; rfl⟩
    · rcases ha with rfl | ⟨n, hn, _⟩
      · exact dryF hsub (by rw [hL]; exact Nat.le_refl _)
      · cases hn
    · have hl' : ([(Str.ofString "signs", L.cG)] : List (Str × Addr)).lookup n = some a := hl
      rw [List.lookup_cons] at hl'
      cases q : n == Str.ofString "signs" with
      | false => rw [q] at hl'; cases hl'
      | true =>
        rw [q] at hl'; cases hl'
        exact ⟨oc, hk₁ _ _ (hsub _ _ hc1)⟩
  have hUr : ∀ a, LexU L a → ¬ Rel c a := by
    rintro a ha (q | ⟨n, hn⟩)
    · obtain ⟨_, o', ho'⟩ := LexP.held.dry F s hp a ha
      rw [show a = Lc from q, hfree] at ho'; cases ho'
    · have hl' : ([(Str.ofString "signs", L.cG)] : List (Str × Addr)).lookup n = some a := hn
      rw [List.lookup_cons] at hl'
      cases q : n == Str.ofString "signs" with
      | false => rw [q] at hl'; cases hl'
      | true =>
        rw [q] at hl'; cases hl'
        have := (LexP.held.dry F s hp _ ha).1
        rw [hc1] at this; cases this
  have ev : EvS c (LexU L) (LexP L g ln pb) (LexP L (rdR g) ln pb) [(Str.ofString "count", .int 1), (Str.ofString "signs", .ref L.G)] lam1.2.1 (.str (rdS g)) := by
    refine EvS.ifexp (d := !g.isEmpty) (P₁ := LexP L g ln pb) (EvTS.list (D := L.G) LexP.held (EvS.pure LexP.held (Ev.name rfl rfl rfl)) (fun F s h => ?_) rfl) (fun hd => ?_) (fun hd => ?_)
    · obtain ⟨vs, hl, hv⟩ := h.sg
      have := hv.length
      rw [List.length_map] at this
      refine ⟨vs, hl, by rw [this]; lia, ?_⟩
      cases vs <;> cases g <;> first | rfl | (simp at this)
    · cases g with
      | nil => cases hd
      | cons ch r =>
        refine EvS.methL (D := L.G) LexP.held (EvS.pure LexP.held (Ev.name rfl rfl rfl)) (Evs.co rfl Ev.int Evs.nil) PySem.F.slot_list_pop PySem.F.type_list_pop (fun F s h => ?_) (fun F s vs Q E hs hb hp hv hQ => ?_) rfl (plain_few rfl rfl) rfl (fun _ => plain_any rfl)
        · obtain ⟨vs, hl, _⟩ := h.sg; exact ⟨vs, hl⟩
        · unfold VRs VRs at hv
          obtain ⟨v, _, rfl, hv, rfl⟩ := hv
          unfold VR at hv
          obtain ⟨t, rfl⟩ := hv
          exact lex_pop (by rw [List.length_cons] at hg; lia) hp hQ
    · cases g with
      | cons ch r => cases hd
      | nil => exact EvS.pure LexP.held Ev.str
  refine ev.run F _ Q _ hfm (LexP.held.ext hp e₀) hUr fun v F' s' x hp' hv => hQ v F' s' (e₀.v.trans x) hp' hv
end Mine
end
section
open PySem PySem.W PyProof.Rows
namespace Mine
noncomputable def nl1 : List Nat → Int
  | 10 :: _ => 1
  | _ => 0
theorem obj_eq {o o' : Obj} (h1 : o.cls = o'.cls) (h2 : o.dict = o'.dict) (h3 : o.data = o'.data) (h4 : o.slots = o'.slots) : o = o' := by
  cases o; cases o'; cases h1; cases h2; cases h3; cases h4; rfl
theorem lex_store {w : World} {A : Around} {L : LexA} {g : List Nat} {ln ln' : Int} {pb : List Str} {F : PM} {s : Shared} {Q : Unit → Shared → Prop} {E : Value → Shared → Prop} {u : Tok} (hsub : Sub F s.heap.get?) (hbase : ∀ a o, (KF w.params).lookup a = some o → F a = some o)
    (hp : LexP L g ln pb F s) (hQ : ∀ s', ExtV (LexU L) F s F s' → LexP L g ln' pb F s' → Q () s') : wpAny (model PG w) A (setAttr (.ref L.X) "lineno" (.int ln' u)) Q E s := by
  obtain ⟨mA, tl, tw, I, M⟩ := hp.at
  have X := inK (K := KF w.params) hsub hbase
  obtain ⟨mN, hn, hN⟩ := ns51_of X
  obtain ⟨o2, i1, i2, i3, i4⟩ := hp.inst
  have hx := hsub _ _ i1
  have hXC : L.X ≠ 52 := fun e => by
    have := hbase _ _ (cls52 w.params)
    rw [← e, i1] at this
    cases this
    exact i3 _ rfl
  obtain ⟨hh, gg, d, t, os⟩ := s
  refine store_attr PySem.F.store_object (X _ _ (cls52 _)) hn (hN _ _ (own_sa _)) (hN _ _ (own_lineno _)) obj_lineno hXC I (fun h' tk' I' hk hsame => ?_) M.within (by decide)
  obtain ⟨o₁, q1, q2, q3, q4, q5⟩ := hsame _ hx
  have e1 : o₁ = o2 := obj_eq q2 ((q5 _ i4).trans i4.symm) q3 q4
  rw [e1] at q1
  have keep : ∀ b o, b ≠ L.Dx → hh.get? b = some o → h'.get? b = some o := fun b o hb e => by
    by_cases hbx : b = L.X
    · subst hbx; rw [show hh.get? L.X = _ from hx] at e; cases e; exact q1
    · refine hk b o hbx (fun o₀ dx h1 h2 => ?_) e
      rw [show hh.get? L.X = _ from hx] at h1; cases h1
      rw [i4] at h2; cases h2; exact hb
  have hF : ∀ a o, F a = some o → h'.get? a = some o := fun a o e => keep a o (by rintro rfl; rw [hp.dD] at e; cases e) (hsub a o e)
  have e₁ : ExtV (LexU L) F ⟨hh, gg, d, t, os⟩ F ⟨h', gg, d, tk', os⟩ :=
    ⟨Sub.refl _, hF, fun a o n e => keep a o (fun q => n (.inr (.inl q))) e, fun a o e => .inl e, ⟨_, _, rfl⟩⟩
  refine hQ _ e₁ ?_
  obtain ⟨vs, ⟨n, g1⟩, g2⟩ := hp.sg
  obtain ⟨us, ⟨m, p1⟩, p2⟩ := hp.pbk
  have hns : h'.Ns1 L.Dx (fun y => if y = Str.ofString "lineno" then some (.int ln' u) else mA y) := by
    obtain ⟨o, r1, r2, r3, r4⟩ := I'
    rw [q1] at r1; cases r1
    rcases r4 with ⟨r5, _⟩ | ⟨d', r5, _, r6⟩
    · rw [i4] at r5; cases r5
    · rw [i4] at r5; cases r5; exact r6
  have hw : Within (fun y => if y = Str.ofString "lineno" then some (.int ln' u) else mA y) lexNames := fun y hy => by
    by_cases e : y = Str.ofString "lineno"
    · subst e; decide
    · refine M.within y ?_
      dsimp only at hy
      rw [if_neg e] at hy; exact hy
  refine { hp with inn := hF, sg := ⟨vs, ⟨n, keep _ _ hp.neGD g1⟩, g2⟩, ns := ⟨_, u, tw, hns, hw, if_pos rfl, ?_, ?_, ?_⟩, pbk := ⟨us, ⟨m, keep _ _ (Ne.symm hp.neDP) p1⟩, p2⟩ }
  · exact (if_neg (by decide)).trans M.instream
  · exact (if_neg (by decide)).trans M.white
  · exact (if_neg (by decide)).trans M.push
section
variable {c : Cx} {L : LexA} {g : List Nat} {ln : Int} {pb : List Str} {ρ : List (Str × SV)}
theorem Runs.incLine {x : Str} {px tp kp pos : Pos} {kk : Nat} {rest : List Stmt} {Φ : Flow → PM → Shared → Prop} (hK : c.K = KF c.w.params) (hPG : c.prog = PG) (hx : Ev c ρ (.Name x px) (.ref L.X)) (hr : Runs c ⟨LexU L, LexP L g (ln + 1) pb, LexP.held⟩ ρ rest Φ) :
    Runs c ⟨LexU L, LexP L g ln pb, LexP.held⟩ ρ (.AugAssign (.Attribute (.Name x px) "lineno" tp) .Add (.Constant (.int 1) kk kp) pos :: rest) Φ := .mk fun F s Q E hf hp hU hQ => by
  refine wpAny_execs_cons (wpAny_AugAssign_AttributeAny (hx.run F s _ E hf.st fun v F₁ s₁ x₁ hv₁ => ?_))
  unfold VR at hv₁; subst hv₁
  have hp₁ : LexP L g ln pb F₁ s₁ := LexP.held.ext hp x₁
  obtain ⟨mA, tl, tw, I, M⟩ := hp₁.at
  have hb₁ : ∀ a o, (KF c.w.params).lookup a = some o → F₁ a = some o := fun a o q => (hf.ext x₁).st.base a o (by rw [hK]; exact q)
  have X := inK (K := KF c.w.params) x₁.inn hb₁
  obtain ⟨mN, hn, hN⟩ := ns51_of X
  obtain ⟨hh, gg, d, t, os⟩ := s₁
  refine load_attr (X _ _ (cls52 _)) hn (hN _ _ (own_ga _)) (hN _ _ (own_lineno _)) obj_lineno I M.lineno rfl ?_
  refine wpAny_Constant_int ?_
  refine wpAny_iadd_int ?_
  have x₂ : Ext F₁ ⟨hh, gg, d, t, os⟩ F₁ ⟨hh, gg, d, t + 1 + 1 + 1, os⟩ := Ext.tok x₁.inn (t + 1 + 1 + 1)
  rw [hPG]
  refine lex_store (s := ⟨hh, gg, d, t + 1 + 1 + 1, os⟩) x₂.inn hb₁ (LexP.held.ext hp₁ x₂) fun s₃ x₃ hp₃ => ?_
  have hf₃ := ((hf.ext x₁).ext x₂).extV x₃ hU
  rw [← hPG]
  exact hr.run F₁ s₃ Q E hf₃ hp₃ hU fun fl F₄ s₄ x₄ hfl => hQ fl F₄ s₄ (((x₁.trans x₂).v.trans (x₃.mono fun _ q => .inr q)).trans x₄) hfl
theorem EvS.read {o : Expr} {ap cp kp : Pos} {kk : Nat} {d : Nat} (hK : c.K = KF c.w.params) (hPG : c.prog = PG) (hr : Room c.A (d + 1)) (hg : g.length ≤ 1000) (ho : EvS c (LexU L) (LexP L g ln pb) (LexP L g ln pb) ρ o (.ref L.T))
    (hbase : attributeBase o "read" c.env (eval o c.env) = eval o c.env) (hline : (ap.endLine == cp.line) = true) :
    EvS c (LexU L) (LexP L g ln pb) (LexP L (rdR g) ln pb) ρ (.Call (.Attribute o "read" ap) [.Constant (.int 1) kk kp] [] cp) (.str (rdS g)) := .mk fun F s Q E hf hp hU hQ => by
  refine call_attr hbase (plain_few rfl rfl) hline (ho.run F s _ E hf hp hU fun v F₁ s₁ x₁ hp₁ hv₁ => fun pl => ?_)
  unfold VR at hv₁; subst hv₁
  obtain ⟨fd, sl, hT⟩ := hp₁.fn
  obtain ⟨mR, r1, r2⟩ := hp₁.rd
  obtain ⟨pm, cc, ct, hR, hcr⟩ := hp₁.lam
  have hb₁ : ∀ a o, (KF c.w.params).lookup a = some o → F₁ a = some o := fun a o q => (hf.extV x₁ hU).st.base a o (by rw [hK]; exact q)
  have hTh := x₁.inn _ _ hT
  have hty : s₁.TypeIs (.ref L.T) "function" := ⟨_, hTh, rfl⟩
  unfold getMethod
  refine wpAny_bind (wpAny_specialOf hty fn_ga ?_)
  show wpAny _ _ (if (Manifest.canonical "object.__getattribute__" != "object.__getattribute__") = true then _ else _) _ _ _
  rw [if_neg (by decide +kernel)]
  refine wpAny_bind (wpAny_specialOf hty fn_getattr ?_)
  show wpAny _ _ (if (Option.isSome (none : Option Value)) = true then _ else _) _ _ _
  rw [if_neg (by decide)]
  refine wpAny_bind (wpAny_specialOf hty fn_read ?_)
  obtain ⟨hh, gg, dd, t, os⟩ := s₁
  refine wpAny_bind (fn_load hTh (r1 _ x₁.inn) r2 rfl fun t' => ?_)
  refine wpAny_pure ?_
  dsimp only
  have x₂ : Ext F₁ ⟨hh, gg, dd, t, os⟩ F₁ ⟨hh, gg, dd, t', os⟩ := Ext.tok x₁.inn t'
  refine Calls.callWith_function (o := kla_obj "<lambda>" lamQ lam1.1 lam1.2.1 lam1.2.2.1 [(Str.ofString "signs", L.cG)] pm cc ct) (fd := kla_fn "<lambda>" lamQ lam1.1 lam1.2.1 lam1.2.2.1 [(Str.ofString "signs", L.cG)] pm (.ref cc) ct) (evalArgs_of (fun _ => plain_any rfl) ((Evs.co rfl Ev.int Evs.nil : Evs c ρ [.Constant (.int 1) kk kp] [.int 1]).run F₁ _ _ E cp ((hf.extV x₁ hU).ext x₂).st fun vs F₂ s₂ x₃ hvs => ?_))
  have hp₂ : LexP L g ln pb F₂ s₂ := LexP.held.ext (LexP.held.ext hp₁ x₂) x₃
  unfold VRs VRs at hvs
  obtain ⟨v, _, rfl, hv, rfl⟩ := hvs
  unfold VR at hv
  obtain ⟨u, rfl⟩ := hv
  refine ⟨⟨x₃.inn _ _ (x₃.sub _ _ hR), rfl⟩, ?_⟩
  rw [hPG]
  exact lam_call hr x₃.inn (fun a o q => x₃.sub _ _ (hb₁ a o q)) hg hp₂ fun v F₃ s₃ x₄ hp₄ hv => hQ v F₃ s₃ ((x₁.trans (x₂.trans x₃).v).trans x₄) hp₄ hv
end
end Mine
end
section
open PySem PySem.W PyProof.Rows
namespace Mine
noncomputable def letterT : List Int := [0, 1, 2, 4, 7, 8, 9, 10, 11, 12]
theorem letterT_le (k : Nat) : 0 ≤ letterT.getD k 0 ∧ letterT.getD k 0 ≤ 12 := by
  by_cases h : k < 10
  · have : k = 0 ∨ k = 1 ∨ k = 2 ∨ k = 3 ∨ k = 4 ∨ k = 5 ∨ k = 6 ∨ k = 7 ∨ k = 8 ∨ k = 9 := by lia
    rcases this with rfl | rfl | rfl | rfl | rfl | rfl | rfl | rfl | rfl | rfl <;> decide
  · rw [List.getD_eq_getElem?_getD, List.getElem?_eq_none (by show 10 ≤ k; lia)]; decide
noncomputable def letterC (l : Nat) (form : Int) : Int :=
  if form.fmod 13 < 2 then l - 32 * form.fmod 13
  else if form.fmod 13 = 2 then (if l = 112 then 8473 else 8459 + (form.fdiv 13).fmod 3)
  else 119808 + 52 * letterT.getD (form.fmod 13 - 3).toNat 0 + l - 97
theorem fmod_lt {a b : Int} (hb : 0 < b) : 0 ≤ a.fmod b ∧ a.fmod b < b := ⟨Int.fmod_nonneg_of_pos _ hb, Int.fmod_lt_of_pos _ hb⟩
theorem getI {l : List Int} {k : Nat} (h : k < l.length) : (l.map SV.int)[k]? = some (.int (l.getD k 0)) := by
  rw [List.getElem?_map, List.getD_eq_getElem?_getD, List.getElem?_eq_getElem h]; rfl
theorem condLe {d : Bool} {x y m : Int} (h : x ≤ m) (k : y ≤ m) : cond d x y ≤ m := by cases d; exact k; exact h
theorem condGe {d : Bool} {x y m : Int} (h : m ≤ x) (k : m ≤ y) : m ≤ cond d x y := by cases d; exact k; exact h
theorem bind1 {fd : FuncData} {x : Str} {a : SV} (h : ∀ v, bindArgs fd ⟨[v], []⟩ = pure [(x, v)]) (F : PM) (vals : List Value) (hv : VRs F [a] vals) : bindArgs fd ⟨vals, []⟩ = pure ([x].zip vals) := by
  obtain ⟨v, rfl, _⟩ := hv.inv1
  exact h v
theorem bind2 {fd : FuncData} {x y : Str} {a b : SV} (h : ∀ v u, bindArgs fd ⟨[v, u], []⟩ = pure [(x, v), (y, u)]) (F : PM) (vals : List Value) (hv : VRs F [a, b] vals) : bindArgs fd ⟨vals, []⟩ = pure ([x, y].zip vals) := by
  obtain ⟨v, u, rfl, _⟩ := hv.inv2
  exact h v u
theorem letter_ok (w : World) (d l : Nat) (hl : l = 104 ∨ l = 112) (form : Int) : PureFn (KF w.params) PG w (d + 1) 165 [.str ⟨#[l]⟩, .int form] (.str ⟨#[(letterC l form).toNat]⟩) := by
  have m := fmod_lt (a := form) (b := 13) (by decide)
  have m3 := fmod_lt (a := form.fdiv 13) (b := 3) (by decide)
  refine PureFn.of_body (d := d) (o := ob165 w.params) (names := [Str.ofString "letter", Str.ofString "form"]) (by kernel_rfl) rfl rfl rfl (by kernel_rfl) (by kernel_rfl) (by kernel_rfl) (bind2 fun _ _ => rfl) (by decide +kernel) (by decide +kernel) (by decide +kernel) rfl rfl rfl (fun A L hr => ?_)
  refine Runs.set (Ev.binop (Ev.name rfl rfl rfl) Ev.int (Op.fmod (by decide))) rfl (.inl rfl) ?_ rfl
  refine Runs.ite (EvT.compare (Ev.name rfl rfl rfl) Ev.int Op.lt rfl) (fun hd => ?_) (fun hd => ?_)
  · have hd : form.fmod 13 < 2 := of_decide_eq_true hd
    refine Runs.ret' (Ev.callB (id := "chr") (Ev.bltin rfl rfl rfl rfl (by kernel_rfl) (by kernel_rfl) rfl) (Evs.co rfl (Ev.binop (Ev.callB (id := "ord") (Ev.bltin rfl rfl rfl rfl (by kernel_rfl) (by kernel_rfl) rfl) (Evs.co rfl (Ev.name rfl rfl rfl) Evs.nil) Op.ord (fun _ => plain_any rfl)) (Ev.binop Ev.int (Ev.name rfl rfl rfl) (Op.mul (mulL (by decide) (by decide)))) Op.sub) Evs.nil) (Op.chr ?_ ?_) (fun _ => plain_any rfl)) ?_
    · lia
    · lia
    · unfold letterC; rw [if_pos hd]
  · have hd : ¬ form.fmod 13 < 2 := of_decide_eq_false hd
    refine Runs.ite (EvT.compare (Ev.name rfl rfl rfl) Ev.int Op.eq rfl) (fun he => ?_) (fun he => ?_)
    · have he : form.fmod 13 = 2 := beq_iff_eq.mp he
      refine Runs.ret' (Ev.callB (id := "chr") (Ev.bltin rfl rfl rfl rfl (by kernel_rfl) (by kernel_rfl) rfl) (Evs.co rfl (Ev.ifI (EvT.compare (Ev.name rfl rfl rfl) Ev.str Op.eqStr rfl) (fun hc => Ev.int) (fun hc => (Ev.binop Ev.int (Ev.binop (Ev.binop (Ev.name rfl rfl rfl) Ev.int (Op.fdiv (by decide) (PyProof.noPylong_small (by decide)))) Ev.int (Op.fmod (by decide))) Op.add))) Evs.nil) (Op.chr ?_ ?_) (fun _ => plain_any rfl)) ?_
      · exact condGe (by lia) (by lia)
      · exact condLe (by lia) (by lia)
      · unfold letterC; rw [if_neg hd, if_pos he]
        rcases hl with rfl | rfl
        · rfl
        · rfl
    · have he : ¬ form.fmod 13 = 2 := fun q => by rw [beq_iff_eq.mpr q] at he; cases he
      refine Runs.ret' (Ev.callB (id := "chr") (Ev.bltin rfl rfl rfl rfl (by kernel_rfl) (by kernel_rfl) rfl) (Evs.co rfl (Ev.binop (Ev.binop (Ev.binop Ev.int (Ev.binop Ev.int (Ev.subTup (sv := .int (letterT.getD (form.fmod 13 - 3).toNat 0)) (Ev.tuple (Evs.co rfl Ev.int (Evs.co rfl Ev.int (Evs.co rfl Ev.int (Evs.co rfl Ev.int (Evs.co rfl Ev.int (Evs.co rfl Ev.int (Evs.co rfl Ev.int (Evs.co rfl Ev.int (Evs.co rfl Ev.int (Evs.co rfl Ev.int Evs.nil)))))))))) rfl) (Ev.binop (Ev.name rfl rfl rfl) Ev.int Op.sub) ?_ ?_ ?_ (sub_plain rfl)) (Op.mul (mulL (by decide) (by decide)))) Op.add) (Ev.callB (id := "ord") (Ev.bltin rfl rfl rfl rfl (by kernel_rfl) (by kernel_rfl) rfl) (Evs.co rfl (Ev.name rfl rfl rfl) Evs.nil) Op.ord (fun _ => plain_any rfl)) Op.add) Ev.int Op.sub) Evs.nil) (Op.chr ?_ ?_) (fun _ => plain_any rfl)) ?_
      · lia
      · lia
      · exact getI (l := letterT) (by show (form.fmod 13 - 3).toNat < 10; lia)
      · have := letterT_le (form.fmod 13 - 3).toNat; lia
      · have := letterT_le (form.fmod 13 - 3).toNat; lia
      · unfold letterC; rw [if_neg hd, if_neg he]
end Mine
end
section
open PySem PySem.W PyProof.Rows
namespace Mine
theorem rd_nl (g : List Nat) : (rdS g == ("\n" : Str)) = true ↔ nl1 g = 1 := by
  cases g with
  | nil => constructor <;> intro h <;> revert h <;> decide
  | cons ch r =>
    by_cases e : ch = 10
    · subst e; exact ⟨fun _ => rfl, fun _ => (by decide : (chS 10 == ("\n" : Str)) = true)⟩
    · constructor
      · intro h
        have := beq_iff_eq.mp h
        have : (⟨#[ch]⟩ : Str) = ⟨#[10]⟩ := this.trans (by decide)
        exact absurd (by simpa using this) e
      · intro h
        unfold nl1 at h
        split at h
        · rename_i e' ; cases e'; exact absurd rfl e
        · cases h
theorem nl1_or (g : List Nat) : nl1 g = 0 ∨ nl1 g = 1 := by unfold nl1; split <;> simp
theorem read_char_ok (w : World) (d : Nat) (L : LexA) (g : List Nat) (ln : Int) (pb : List Str) (hg : g.length ≤ 1000) : EffFn (KF w.params) PG w (d + 2) 35 [.ref L.X] (.str (rdS g)) (LexU L) (LexP L g ln pb) (LexP L (rdR g) (ln + nl1 g) pb) := by
  refine EffFn.of_body (hP := LexP.held) (d := d + 1) (o := ob35 w.params) (names := [Str.ofString "self"]) (by kernel_rfl) rfl rfl rfl (by kernel_rfl) (by kernel_rfl) (by kernel_rfl) (bind1 fun _ => rfl) (by decide +kernel) (by decide +kernel) (by decide +kernel) rfl rfl rfl (fun A Lc hr => ?_)
  refine Runs.setS (sv := .str (rdS g)) (LexP.held (L := L) (g := rdR g) (ln := ln) (pb := pb)) (EvS.read rfl rfl hr hg (EvS.instream rfl (Ev.name rfl rfl rfl)) rfl rfl) rfl (.inl rfl) ?_ rfl
  refine Runs.iteS LexP.held (EvTS.pure LexP.held (EvT.compare (Ev.name rfl rfl rfl) Ev.str Op.eqStr rfl)) (fun hd => ?_) (fun hd => ?_)
  · have e : nl1 g = 1 := (rd_nl g).mp hd
    rw [e]
    refine Runs.incLine rfl rfl (Ev.name rfl rfl rfl) ?_
    exact Runs.retS (EvS.pure LexP.held (Ev.name rfl rfl rfl))
  · have e : nl1 g = 0 := (nl1_or g).elim id fun q => by rw [(rd_nl g).mpr q] at hd; cases hd
    rw [e, Int.add_zero]
    exact Runs.retS (EvS.pure LexP.held (Ev.name rfl rfl rfl))
end Mine
end
section
open PySem PySem.W PyProof.Rows
namespace Mine
theorem slot_ci_iter : Slot "callable_iterator" "__iter__" "callable_iterator.__iter__" :=
  .of (owner := "callable_iterator") (n := "__iter__") (by rw [typeLookup_type, builtinLookup_eq_fast]; kernel_rfl) (by decide +kernel) (by decide +kernel) (by decide +kernel) (by first | exact .inl (by decide +kernel) | exact .inr (by decide +kernel)) (by rw [isSubtype_type]; kernel_rfl)
theorem slot_ci_next : Slot "callable_iterator" "__next__" "callable_iterator.__next__" :=
  .of (owner := "callable_iterator") (n := "__next__") (by rw [typeLookup_type, builtinLookup_eq_fast]; kernel_rfl) (by decide +kernel) (by decide +kernel) (by decide +kernel) (by first | exact .inl (by decide +kernel) | exact .inr (by decide +kernel)) (by rw [isSubtype_type]; kernel_rfl)
theorem entry_ci_next : entryFor table "callable_iterator.__next__" = some Builtin.«callable_iterator.__next__» := entryFor_of_tree (by kernel_rfl)
theorem entry_ci_iter : entryFor table "callable_iterator.__iter__" = some Builtin.«dict_keyiterator.__iter__» :=
  entryFor_alias (id' := "dict_keyiterator.__iter__") (by kernel_rfl) rfl (by decide +kernel) (by kernel_rfl)
theorem args_ci_next (a : Value) : argsOk "callable_iterator.__next__" ⟨[a], []⟩ := by unfold argsOk; kernel_rfl
theorem args_ci_iter (a : Value) : argsOk "callable_iterator.__iter__" ⟨[a], []⟩ := by unfold argsOk; kernel_rfl
theorem args_iter2 (a b : Value) : argsOk "iter" ⟨[a, b], []⟩ := by unfold argsOk; kernel_rfl
theorem meth_call : typeLookup (.type "method") "__call__" = pure (some (.builtin "method.__call__")) := by rw [typeLookup_type, builtinLookup_eq_fast]; kernel_rfl
noncomputable def ItV (M : Addr) (live : Bool) (t : Tok) : Array Value := if live then #[.ref M, .str "" t, .bool false] else #[.none, .none, .bool true]
structure LexI (L : LexA) (I M : Addr) (live : Bool) (g : List Nat) (ln : Int) (pb : List Str) (F : PM) (s : Shared) : Prop where
  lex : LexP L g ln pb F s
  fI : F I = none
  nU : ¬ LexU L I
  at_ : ∃ t, s.heap.get? I = some { cls := .type "callable_iterator", dict := none, data := .fields (ItV M live t), slots := #[] }
  meth : F M = some (methodObj (.ref 35) (.ref L.X))
noncomputable def LexUI (L : LexA) (I : Addr) : Addr → Prop := fun a => LexU L a ∨ a = I
theorem LexI.held {L : LexA} {I M : Addr} {live : Bool} {g : List Nat} {ln : Int} {pb : List Str} : Held (LexUI L I) (LexI L I M live g ln pb) where
  dry := fun F s h a ha => by
    rcases ha with ha | rfl
    · exact LexP.held.dry F s h.lex a ha
    · obtain ⟨t, ht⟩ := h.at_; exact ⟨h.fI, _, ht⟩
  keep := fun W F s F' s' hW hW' h e => by
    have hl := LexP.held.keep W F s F' s' (fun a hw hf hu => hW a hw hf (.inl hu)) hW' h.lex e
    have nI : ¬ W I := fun hw => hW I hw h.fI (.inr rfl)
    obtain ⟨t, ht⟩ := h.at_
    refine ⟨hl, ?_, h.nU, ⟨t, e.keep I _ nI ht⟩, e.sub _ _ h.meth⟩
    cases q : F' I with
    | none => rfl
    | some o =>
      rcases e.new I o q with z | z | z
      · rw [h.fI] at z; cases z
      · rw [ht] at z; cases z
      · exact absurd z nI
section
variable {prog : Program} {w : World} {A : Around} {E : Value → Shared → Prop} {s : Shared}
theorem wpAny_callBorrowed {f : Value} {Q : Value → Shared → Prop} (hc : codeAny (model prog w) A (.call f ⟨[], []⟩) (fun r s' => match r with | .ok (.ret v) => Q v s' | .ok _ => False | .error e => E e s') s) :
    wpAny (model prog w) A (callBorrowed f []) Q E s := fun Γ p hΓ => by
  have h := wpAny_call (f := f) (pos := []) (kw := []) hc Γ p hΓ
  unfold PySem.call at h
  rw [Sem.wp_runValue] at h
  refine wpCode_mono (fun r s' hr => ?_) h
  rcases r with e | (v | _ | _ | _) <;> first | exact hr | exact hr.elim
theorem notFuncM {M R : Addr} {fd : FuncData} {x : Value} {Q : Bool → Shared → Prop} {o : Obj} (hM : s.heap.get? M = some (methodObj (.ref R) x)) (hR : s.heap.get? R = some o) (ho : o.data = .func fd) (h : Q true s) : wpAny (model prog w) A (borrowsExactly (.ref M)) Q E s := by
  unfold borrowsExactly
  refine wpAny_bind (wpAny_load hM ?_)
  show wpAny _ _ (PySem.load R >>= _) _ _ _
  refine wpAny_bind (wpAny_load hR ?_)
  rw [ho]
  exact wpAny_pure h
end
theorem wpAny_stopIt {α : Type} {prog : Program} {w : World} {A : Around} {E : Value → Shared → Prop} {s : Shared} {F : PM} {Q : α → Shared → Prop} (hh : A.handled = none) (hsub : Sub F s.heap.get?)
    (h : ∀ e s', Ext F s F s' → (∀ (B : Around) (Q' : Bool → Shared → Prop) (E' : Value → Shared → Prop), Q' true s' → wpAny (model prog w) B (isInstance e (.type "StopIteration")) Q' E' s') → E e s') : wpAny (model prog w) A (Builtin.SmallTypes.stopIteration (α := α)) Q E s := by
  unfold Builtin.SmallTypes.stopIteration
  show wpAny _ _ (newExc (.type "StopIteration") [] >>= _) _ _ _
  refine wpAny_bind ?_
  simp only [newExc, newTuple]
  refine wpAny_bind (wpAny_newObj_type ?_ (by size_fits))
  refine wpAny_bind (m := firstArgMember _ _) (wpAny_of_eq (a := Value.none) (by first | rfl | (simp only [firstArgMember]; rfl)) ?_)
  refine wpAny_newObj_type ?_ (by size_fits)
  simp only [raiseNew]
  refine wpAny_bind (wpAny_handled ?_)
  rw [hh]
  refine wpAny_bind (wpAny_pure (wpAny_throw ?_))
  refine h _ _ ⟨Sub.refl _, fun a o q => Heap.get?_push_of_some _ (Heap.get?_push_of_some _ (hsub a o q)), fun a o q => Heap.get?_push_of_some _ (Heap.get?_push_of_some _ q), fun a o q => .inl q, ⟨_, _, rfl⟩⟩ fun B Q' E' hq => ?_
  exact wpAny_isInstance (T := "StopIteration") (b := true) ⟨_, Heap.get?_push_size _ rfl, rfl⟩ isSubtype_stop hq
section
variable {w : World} {A : Around} {E : Value → Shared → Prop} {s : Shared} {L : LexA} {I M : Addr} {g : List Nat} {ln : Int} {pb : List Str} {F : PM}
theorem Ext.toI {F F' : PM} {s s' : Shared} (x : ExtV (LexU L) F s F' s') : ExtV (LexUI L I) F s F' s' := x.mono fun _ q => .inl q
theorem ci_next {d : Nat} {Q : Option Value → Shared → Prop} (hr : Room A.in1 (d + 2)) (hh : A.handled = none) (hsub : Sub F s.heap.get?) (hbase : ∀ a o, (KF w.params).lookup a = some o → F a = some o) (hg : g.length ≤ 1000) (hp : LexI L I M true g ln pb F s)
    (h1 : ∀ ch r, g = ch :: r → ∀ v F' s', ExtV (LexUI L I) F s F' s' → LexI L I M true r (ln + nl1 g) pb F' s' → VR F' (.str (chS ch)) v → Q (some v) s')
    (h0 : g = [] → ∀ F' s', ExtV (LexUI L I) F s F' s' → LexI L I M false [] ln pb F' s' → Q none s') : wpAny (model PG w) A (pyNext (.ref I)) Q E s := by
  obtain ⟨t, hI⟩ := hp.at_
  have hT : s.TypeIs (.ref I) "callable_iterator" := ⟨_, hI, rfl⟩
  unfold pyNext
  refine wpAny_bind (wpAny_attempt (wpAny_callSpecial?_slot (name := Str.ofString "__next__") hT slot_ci_next
    (wpAny_call_entry slot_ci_next hT entry_ci_next ?_ (args_ci_next _))))
  unfold Builtin.«callable_iterator.__next__»
  refine wpAny_bind (wpAny_pure ?_)
  dsimp only
  refine wpAny_bind (wpAny_field hI rfl (x := .bool false) rfl ?_)
  show wpAny _ _ (if (Value.bool false == Value.bool true) = true then _ else _) _ _ _
  rw [if_neg (by decide)]
  refine wpAny_bind (wpAny_field hI rfl (x := .ref M) rfl ?_)
  have hM := hsub _ _ hp.meth
  have h35 : s.heap.get? 35 = some (ob35 w.params) := hsub _ _ (hbase _ _ (by kernel_rfl))
  refine wpAny_bind (wpAny_attempt ?_)
  unfold callOutOfASlot
  refine wpAny_bind (notFuncM hM h35 rfl ?_)
  rw [if_pos rfl]
  refine wpAny_callBorrowed (method_call hM ?_)
  refine read_char_ok w d L g ln pb hg A.in1 F s [.ref L.X] _ _ hr hsub hbase (by unfold VRs VRs; exact ⟨_, _, rfl, by unfold VR; rfl, rfl⟩) hp.lex fun v F₁ s₁ x₁ hp₁ hv => ?_
  have hI₁ : s₁.heap.get? I = some { cls := .type "callable_iterator", dict := none, data := .fields (ItV M true t), slots := #[] } := x₁.keep _ _ hp.nU hI
  have fI₁ : F₁ I = none := by
    cases q : F₁ I with
    | none => rfl
    | some o =>
      rcases x₁.new I o q with z | z | z
      · rw [hp.fI] at z; cases z
      · rw [hI] at z; cases z
      · exact absurd z hp.nU
  unfold VR at hv
  obtain ⟨u, rfl⟩ := hv
  dsimp only
  refine wpAny_bind (wpAny_field hI₁ rfl (x := .bool false) rfl ?_)
  show wpAny _ _ (if (Value.bool false == Value.bool true) = true then _ else _) _ _ _
  rw [if_neg (by decide)]
  refine wpAny_bind (wpAny_field hI₁ rfl (x := .str "" t) rfl ?_)
  refine wpAny_bind (wpAny_holding (wpAny_eqBool_str ?_))
  cases g with
  | cons ch r =>
    have e : decide (("" : Str) = rdS (ch :: r)) = false := by
      refine decide_eq_false fun q => ?_
      have := congrArg (fun x : Str => x.cps.size) q
      revert this; simp [rdS, chS]; decide
    rw [e, if_pos (by decide)]
    refine wpAny_pure ⟨_, rfl, wpAny_pure ?_⟩
    exact h1 ch r rfl _ F₁ s₁ (Ext.toI x₁) ⟨hp₁, fI₁, hp.nU, ⟨t, hI₁⟩, x₁.sub _ _ hp.meth⟩ (by unfold VR; exact ⟨u, rfl⟩)
  | nil =>
    have e : decide (("" : Str) = rdS []) = true := by decide
    rw [e, if_neg (by decide)]
    refine wpAny_bind (wpAny_rule ?_)
    refine wpAny_bind ?_
    show wpAny _ _ (field (.ref I) 0 >>= fun x => slotLetsGo "callable_iterator.__next__" x _ >>= fun _ => setField (.ref I) 0 .none >>= fun _ => setField (.ref I) 1 .none >>= fun _ => setField (.ref I) 2 (.bool true)) _ _ _
    refine wpAny_bind (wpAny_field hI₁ rfl (x := .ref M) rfl ?_)
    have hM₁ : s₁.heap.get? M = some (methodObj (.ref 35) (.ref L.X)) := x₁.inn _ _ (x₁.sub _ _ hp.meth)
    have h35₁ : s₁.heap.get? 35 = some (ob35 w.params) := x₁.inn _ _ (x₁.sub _ _ (hbase _ _ (by kernel_rfl)))
    refine wpAny_bind ?_
    unfold slotLetsGo
    dsimp only
    refine wpAny_bind (notFuncM hM₁ h35₁ rfl ?_)
    rw [if_pos rfl]
    refine wpAny_pure ?_
    refine wpAny_bind (wpAny_setField_rec hI₁ (by simp [ItV]) fun h₂ g₂ b₂ => ?_)
    refine wpAny_bind (wpAny_setField_rec (s := { s₁ with heap := h₂ }) g₂ (by simp [ItV]) fun h₃ g₃ b₃ => ?_)
    refine wpAny_setField_rec (s := { s₁ with heap := h₃ }) g₃ (by simp [ItV]) fun h₄ g₄ b₄ => ?_
    have kk : ∀ a o, a ≠ I → s₁.heap.get? a = some o → h₄.get? a = some o := fun a o n q => by
      exact (b₄.2 a n).trans ((b₃.2 a n).trans ((b₂.2 a n).trans q))
    have x₄ : ExtV (LexUI L I) F₁ s₁ F₁ { s₁ with heap := h₄ } := ⟨Sub.refl _, fun a o q => kk a o (fun h => by subst h; rw [fI₁] at q; cases q) (x₁.inn a o q), fun a o n q => kk a o (fun h => n (.inr h)) q, fun a o q => .inl q, ⟨_, _, rfl⟩⟩
    refine wpAny_stopIt (F := F₁) (by exact hh) x₄.inn fun e s₅ x₅ hi => ?_
    refine wpAny_bind (hi _ _ _ ?_)
    refine wpAny_pure ?_
    have hp₄ : LexP L [] ln pb F₁ { s₁ with heap := h₄ } := by
      have z : LexP L [] ln pb F₁ s₁ := by have z := hp₁; rw [show ln + nl1 [] = ln from by simp [nl1]] at z; exact z
      exact LexP.held.keep (fun a => a = I) F₁ s₁ F₁ _ (fun a ha _ hu => hp.nU (ha ▸ hu)) (fun a ha => ha ▸ fI₁) z ⟨Sub.refl _, x₄.inn, fun a o n q => kk a o n q, fun a o q => .inl q, ⟨_, _, rfl⟩⟩
    refine h0 rfl F₁ s₅ ((Ext.toI x₁).trans (x₄.trans x₅.v)) ⟨LexP.held.ext hp₄ x₅, ?_, hp.nU, ⟨t, x₅.keep _ _ g₄⟩, x₁.sub _ _ hp.meth⟩
    exact fI₁
theorem ci_dead {Q : Option Value → Shared → Prop} (hh : A.handled = none) (hsub : Sub F s.heap.get?) (hp : LexI L I M false g ln pb F s)
    (h0 : ∀ F' s', ExtV (LexUI L I) F s F' s' → LexI L I M false g ln pb F' s' → Q none s') : wpAny (model PG w) A (pyNext (.ref I)) Q E s := by
  obtain ⟨t, hI⟩ := hp.at_
  have hT : s.TypeIs (.ref I) "callable_iterator" := ⟨_, hI, rfl⟩
  unfold pyNext
  refine wpAny_bind (wpAny_attempt (wpAny_callSpecial?_slot (name := Str.ofString "__next__") hT slot_ci_next
    (wpAny_call_entry slot_ci_next hT entry_ci_next ?_ (args_ci_next _))))
  unfold Builtin.«callable_iterator.__next__»
  refine wpAny_bind (wpAny_pure ?_)
  dsimp only
  refine wpAny_bind (wpAny_field hI rfl (x := .bool true) rfl ?_)
  show wpAny _ _ (if (Value.bool true == Value.bool true) = true then _ else _) _ _ _
  rw [if_pos (by decide)]
  refine wpAny_bind (wpAny_rule ?_)
  refine wpAny_bind (wpAny_stopIt (F := F) (by exact hh) hsub fun e s₅ x₅ hi => ?_)
  refine wpAny_bind (hi _ _ _ ?_)
  refine wpAny_pure ?_
  exact h0 F s₅ x₅.v ⟨LexP.held.ext hp.lex x₅, hp.fI, hp.nU, ⟨t, x₅.keep _ _ hI⟩, hp.meth⟩
theorem ci_iter {live : Bool} {Q : Value → Shared → Prop} (hp : LexI L I M live g ln pb F s) (h : Q (.ref I) s) : wpAny (model PG w) A (pyIter (.ref I)) Q E s := by
  obtain ⟨t, hI⟩ := hp.at_
  have hT : s.TypeIs (.ref I) "callable_iterator" := ⟨_, hI, rfl⟩
  refine wpAny_pyIter_slot hT slot_ci_iter (wpAny_call_entry slot_ci_iter hT entry_ci_iter ?_ (args_ci_iter _))
  show wpAny _ _ (ret (.ref I)) _ _ s
  exact wpAny_pure ⟨_, rfl, "callable_iterator", _, hT, slot_ci_next.lookup, h⟩
end
end Mine
end
section
open PySem PySem.W PyProof.Rows
namespace Mine
theorem Room.in1 {A : Around} {d : Nat} (r : Room A (d + 1)) : Room A.in1 d := ⟨by have := r.depth; show A.depth + _ < _; lia, by have := r.units; show A.units + 1 + _ + _ < _; lia, r.handled⟩
noncomputable def OVR (F : PM) : Option SV → Option Value → Prop
  | none, v => v = none
  | some sv, v => ∃ u, v = some u ∧ VR F sv u
noncomputable def NextTo (c : Cx) (I : Addr) (U : Addr → Prop) (P P' : PM → Shared → Prop) (r : Option SV) : Prop :=
  ∀ F s (Q : Option Value → Shared → Prop) E, Sub F s.heap.get? → (∀ a o, c.K.lookup a = some o → F a = some o) → P F s → (∀ v F' s', ExtV U F s F' s' → P' F' s' → OVR F' r v → Q v s') → wpAny (model c.prog c.w) c.A (pyNext (.ref I)) Q E s
section
variable {c : Cx} {U : Addr → Prop}
noncomputable def LoopTurn {σ : Type} (c : Cx) (I : Addr) (μ : σ → Nat) (G : σ → Prop) (U : Addr → Prop) (P : σ → PM → Shared → Prop) (hP : ∀ a, Held U (P a)) (ρs : σ → List (Str × SV)) (x : Str) (body rest : List Stmt) (Φ : Flow → PM → Shared → Prop) (a : σ) : Prop :=
  (∃ b, NextTo c I U (P a) (P b) none ∧ Runs c ⟨U, P b, hP b⟩ (ρs a) rest Φ) ∨
  (∃ sv b, NextTo c I U (P a) (P b) (some sv) ∧ Runs c ⟨U, P b, hP b⟩ ((x, sv) :: ρs a) body (fun fl F s => ((fl = .next ∨ fl = .cont) ∧ ∃ d, G d ∧ μ d < μ a ∧ Fm c (ρs d) F s ∧ P d F s) ∨ ∃ v, fl = .ret v ∧ Φ fl F s))
theorem Runs.forW {σ : Type} {I : Addr} (μ : σ → Nat) (G : σ → Prop) {P : σ → PM → Shared → Prop} (hP : ∀ a, Held U (P a)) {ρs : σ → List (Str × SV)} {x : Str} {px : Pos} {iter : Expr} {body rest : List Stmt} {p : Pos} {Φ : Flow → PM → Shared → Prop} (a0 : σ)
    (hk : c.env.scope.kind = .function) (hx : Own c x) (hit : Ev c (ρs a0) iter (.ref I))
    (hself : ∀ F s (Q : Value → Shared → Prop) E, P a0 F s → Sub F s.heap.get? → Q (.ref I) s → wpAny (model c.prog c.w) c.A (pyIter (.ref I)) Q E s)
    (hG : G a0) (turn : ∀ a, G a → LoopTurn c I μ G U P hP ρs x body rest Φ a) (hs : ∀ x, foldedSetIterable iter c.env x = pure x := by exact fold_plain rfl) :
    Runs c ⟨U, P a0, hP a0⟩ (ρs a0) (.For (.Name x px) iter body [] p :: rest) Φ := .mk fun F s Q E h hp hU hQ => by
  refine wpAny_execs_cons (wpAny_For (hit.run F s _ E h.st fun v F₁ s₁ x₁ hv => ?_) hs)
  unfold VR at hv; subst hv
  have hp₁ : P a0 F₁ s₁ := (hP a0).ext hp x₁
  refine hself F₁ s₁ _ _ hp₁ x₁.inn ?_
  refine codeAny_forLoop_any (fun k s' => ∃ a F', k = μ a ∧ G a ∧ P a F' s' ∧ Fm c (ρs a) F' s' ∧ ExtV (fun a => Vol c a ∨ U a) F₁ s₁ F' s') ?_ (μ a0)
    ⟨a0, F₁, rfl, hG, hp₁, h.ext x₁, (Ext.refl x₁.inn).v⟩
  rintro k s' ⟨a, F', rfl, hg, hp', hf', e'⟩
  rcases turn a hg with ⟨b, hn, hr⟩ | ⟨sv, b, hn, hr⟩
  · refine hn F' s' _ _ hf'.st.sub hf'.st.base hp' fun v F₂ s₂ e₂ hp₂ hv => ?_
    unfold OVR at hv; subst hv
    show wpAny _ _ (execs [] c.env) _ _ _
    rw [show execs ([] : List Stmt) c.env = pure .next from rfl]
    refine wpAny_pure ?_
    exact hr.run F₂ s₂ Q E (hf'.extV e₂ hU) hp₂ hU fun fl F₃ s₃ e₃ hfl => hQ fl F₃ s₃ (((x₁.v.trans e').trans (e₂.mono fun a q => .inr q)).trans e₃) hfl
  · refine hn F' s' _ _ hf'.st.sub hf'.st.base hp' fun v F₂ s₂ e₂ hp₂ hv => ?_
    obtain ⟨u, rfl, hu⟩ := hv
    dsimp only
    refine wpAny_pure ?_
    refine wpAny_assign_Name ?_
    have hf₂ := hf'.extV e₂ hU
    refine hf₂.storeX hk hx hu fun s₃ hf₃ e₃ => ?_
    refine hr.run F₂ s₃ _ _ hf₃ (volU (hP := hP b) hp₂ hU hf₂ e₃) hU fun fl F₄ s₄ e₄ hfl => ?_
    have ee : ExtV (fun a => Vol c a ∨ U a) F₁ s₁ F₄ s₄ := ((e'.trans (e₂.mono fun a q => .inr q)).trans (e₃.mono fun a q => .inl q)).trans e₄
    rcases hfl with ⟨hn, d, hgd, hlt, hfd, hpd⟩ | ⟨v, rfl, hΦ⟩
    · rcases hn with rfl | rfl
      · exact ⟨μ d, hlt, d, F₄, rfl, hgd, hpd, hfd, ee⟩
      · exact ⟨μ d, hlt, d, F₄, rfl, hgd, hpd, hfd, ee⟩
    · exact hQ (.ret v) F₄ s₄ (x₁.v.trans ee) hΦ
theorem Runs.cont {S : Side} {ρ : List (Str × SV)} {p : Pos} {rest : List Stmt} {Φ : Flow → PM → Shared → Prop} (h : ∀ F s, Fm c ρ F s → S.P F s → Φ .cont F s) : Runs c S ρ (.Continue p :: rest) Φ := .mk fun F s Q E hf hS hU hQ => by
  exact wpAny_execs_cons (wpAny_Continue (hQ .cont F s (Ext.refl hf.st.sub).v (h F s hf hS)))
theorem loadV {ρ : List (Str × SV)} {F : PM} {s : Shared} {x : Str} {sv : SV} {Q : Value → Shared → Prop} {E : Value → Shared → Prop} (hk : c.env.scope.kind = .function) (hx : ρ.lookup x = some sv) (h : Fm c ρ F s) (hQ : ∀ v, VR F sv v → Q v s) : wpAny (model c.prog c.w) c.A (loadName c.env x) Q E s := by
  rcases h.st.vars x sv hx with ⟨k, m, v, hn, hm, hv⟩ | ⟨k, kd, a, v, hc, hx, hv⟩
  · exact wpAny_loadName_local hk k hn hm (hQ _ hv)
  · rcases k with k | k
    · exact wpAny_loadName_cell hk k hc hx (hQ _ hv)
    · exact wpAny_loadName_free hk k hc hx (hQ _ hv) kd
theorem Runs.augStr {S : Side} {ρ : List (Str × SV)} {x : Str} {px p : Pos} {e : Expr} {a b : Str} {rest : List Stmt} {Φ : Flow → PM → Shared → Prop} (hk : c.env.scope.kind = .function) (ho : Own c x) (hx : ρ.lookup x = some (.str a)) (he : Ev c ρ e (.str b)) (hl : a.length + b.length ≤ sizeLine)
    (hr : Runs c S ((x, .str (a ++ b)) :: ρ) rest Φ) : Runs c S ρ (.AugAssign (.Name x px) .Add e p :: rest) Φ := .mk fun F s Q E h hS hU hQ => by
  refine wpAny_execs_cons (wpAny_AugAssign_Name (loadV hk hx h fun v hv => he.run F s _ E h.st fun u F₁ s₁ x₁ hu => ?_))
  unfold VR at hv hu
  obtain ⟨t, rfl⟩ := hv
  obtain ⟨t', rfl⟩ := hu
  refine PySem.SB.iadd (fun t'' k => ?_) hl
  have x₂ : Ext F₁ s₁ F₁ { s₁ with toks := k } := Ext.tok x₁.inn _
  have hf₂ := (h.ext x₁).ext x₂
  refine hf₂.storeX (sv := .str (a ++ b)) hk ho (by unfold VR; exact ⟨_, rfl⟩) fun s₃ hf₃ e₃ => ?_
  exact hr.run F₁ s₃ Q E hf₃ (Side.vol (Side.ext hS (x₁.trans x₂)) hU hf₂ e₃) hU fun fl F₄ s₄ e₄ hfl => hQ fl F₄ s₄ (((x₁.trans x₂).v.trans (e₃.mono fun a q => .inl q)).trans e₄) hfl
end
section
variable {c : Cx} {L : LexA} {I M : Addr} {live : Bool} {g g' : List Nat} {ln ln' : Int} {pb : List Str} {ρ : List (Str × SV)}
theorem LexI.back {F F' : PM} {s s' : Shared} (hp : LexI L I M live g ln pb F s) (x : ExtV (LexU L) F s F' s') (hp' : LexP L g' ln' pb F' s') : LexI L I M live g' ln' pb F' s' := by
  obtain ⟨t, hI⟩ := hp.at_
  refine ⟨hp', ?_, hp.nU, ⟨t, x.keep _ _ hp.nU hI⟩, x.sub _ _ hp.meth⟩
  cases q : F' I with
  | none => rfl
  | some o =>
    rcases x.new I o q with z | z | z
    · rw [hp.fI] at z; cases z
    · rw [hI] at z; cases z
    · exact absurd z hp.nU
theorem EvS.frameI {e : Expr} {sv : SV} (h : EvS c (LexU L) (LexP L g ln pb) (LexP L g' ln' pb) ρ e sv) : EvS c (LexUI L I) (LexI L I M live g ln pb) (LexI L I M live g' ln' pb) ρ e sv := .mk fun F s Q E hf hp hU hQ =>
  h.run F s Q E hf hp.lex (fun a ha => hU a (.inl ha)) fun v F' s' x hp' hv => hQ v F' s' (Ext.toI x) (hp.back x hp') hv
theorem NextTo.item {ch : Nat} {r : List Nat} {d : Nat} (hK : c.K = KF c.w.params) (hPG : c.prog = PG) (hr : Room c.A (d + 3)) (hg : (ch :: r).length ≤ 1000) : NextTo c I (LexUI L I) (LexI L I M true (ch :: r) ln pb) (LexI L I M true r (ln + nl1 (ch :: r)) pb) (some (.str (chS ch))) := fun F s Q E hs hb hp hQ => by
  rw [hPG]
  refine ci_next (d := d) (Room.in1 hr) hr.handled hs (fun a o q => hb a o (by rw [hK]; exact q)) hg hp (fun ch' r' e v F' s' x hp' hv => ?_) fun e => by cases e
  cases e
  exact hQ (some v) F' s' x hp' ⟨v, rfl, hv⟩
theorem NextTo.none {d : Nat} (hK : c.K = KF c.w.params) (hPG : c.prog = PG) (hr : Room c.A (d + 3)) : NextTo c I (LexUI L I) (LexI L I M live [] ln pb) (LexI L I M false [] ln pb) Option.none := fun F s Q E hs hb hp hQ => by
  rw [hPG]
  cases live with
  | true => exact ci_next (d := d) (Room.in1 hr) hr.handled hs (fun a o q => hb a o (by rw [hK]; exact q)) (Nat.zero_le _) hp (fun ch' r' e => by cases e) fun e F' s' x hp' => hQ Option.none F' s' x hp' rfl
  | false => exact ci_dead hr.handled hs hp fun F' s' x hp' => hQ Option.none F' s' x hp' rfl
end
end Mine
end
section
open PySem PySem.W PyProof.Rows
namespace Mine
theorem f1 (P : Params) : findIn (KF P) (.ref 52) "_read_char" = some (some (.ref 35)) := by kernel_rfl
theorem f2 (P : Params) : specialIn (KF P) (.ref 35) "__get__" = some (some (.builtin "function.__get__")) := by kernel_rfl
theorem f3 (P : Params) : takesIn (KF P) (.ref 35) = some false := by kernel_rfl
theorem f5 (P : Params) : findIn (KF P) (.ref 52) "__getattribute__" = some (some (.builtin "object.__getattribute__")) := by kernel_rfl
theorem f6 (P : Params) : findIn (KF P) (.ref 52) "__getattr__" = some none := by kernel_rfl
theorem f7 (P : Params) : typeIn (KF P) (.ref 35) = some (.type "function") := by kernel_rfl
theorem f4 (P : Params) : (match clsIn (KF P) 52 with | some cd => cd.hasDict | none => false) = true := by kernel_rfl
theorem find_read (P : Params) {oD : Obj} (h : lookIn "_read_char" oD = some none) : findObj (KF P) 52 (some oD) "_read_char" = some (.bind (.builtin "function.__get__") (.ref 35)) := by
  have h4 := f4 P
  unfold findObj
  cases e : clsIn (KF P) 52 with
  | none => rw [e] at h4; cases h4
  | some cd =>
    rw [e] at h4
    dsimp only at h4
    rw [Option.bind_some, f1]
    rw [Option.bind_some]
    dsimp only
    rw [f2, Option.bind_some]
    dsimp only
    rw [f3, Option.bind_some]
    dsimp only
    unfold W.ownOf
    rw [h4, if_pos rfl]
    dsimp only
    rw [h, Option.bind_some]
    dsimp only
    rw [if_neg (by rw [show copiedNames.contains (Str.ofString "_read_char") = false from by decide +kernel]; simp)]
theorem lookIn_of {h : Heap} {a : Addr} {m : Str → Option Value} {name : Str} (n : h.Ns1 a m) (hm : m name = none) : ∃ o, h.get? a = some o ∧ lookIn name o = some none := by
  obtain ⟨o, es, ep, ho, hd, hk, hu, hf⟩ := n
  refine ⟨o, ho, ?_⟩
  have hz := hf name
  rw [hm] at hz
  unfold lookIn
  rw [hd]
  dsimp only
  have hz' : es.find? (fun e => e.key.isStr name) = none := by
    unfold nsFind findBy at hz
    exact Option.map_eq_none_iff.mp hz
  rw [Array.find?_toList, hz']
  dsimp only
  rw [if_neg]
  intro hc
  rw [List.any_eq_true] at hc
  obtain ⟨e, he, hr⟩ := hc
  obtain ⟨n, t, hk'⟩ := hk e (Array.mem_toList_iff.mp he)
  unfold DictEntry.refKey at hr
  rw [hk'] at hr
  cases hr
theorem LexP.instW {L : LexA} {g : List Nat} {ln : Int} {pb : List Str} {F : PM} {s : Shared} (h : LexP L g ln pb F s) : ∃ o oD, InstAt s.heap L.X o 52 (some oD) ∧ lookIn "_read_char" oD = some none := by
  obtain ⟨o2, i1, i2, i3, i4⟩ := h.inst
  obtain ⟨mA, tl, tw, n1, n2, _⟩ := h.ns
  obtain ⟨oD, q1, q2⟩ := lookIn_of n1 (within_none n2 (name := "_read_char") (by decide))
  refine ⟨o2, oD, ⟨h.inn _ _ i1, i2, ?_, ?_⟩, q2⟩
  · unfold notCls
    split
    · rename_i cd hc; exact absurd hc (i3 cd)
    · rfl
  · rw [i4]; exact q1
section
variable {c : Cx} {L : LexA} {g : List Nat} {ln : Int} {pb : List Str} {ρ : List (Str × SV)}
theorem Runs.mkIter {x y : Str} {fnm : Str} {px fp p sp ap cp kp : Pos} {kk : Nat} {rest : List Stmt} {Φ : Flow → PM → Shared → Prop} (hK : c.K = KF c.w.params) (hPG : c.prog = PG) (hk : c.env.scope.kind = .function) (ho : Own c x)
    (hf : Ev c ρ (.Name fnm fp) (.bi "iter")) (hx : Ev c ρ (.Name y sp) (.ref L.X))
    (hr : ∀ I M, Runs c ⟨LexUI L I, LexI L I M true g ln pb, LexI.held⟩ ((x, .ref I) :: ρ) rest Φ)
    (hst : ∀ env : Env, (backTo cp (starEach [.Attribute (.Name y sp) "_read_char" ap, .Constant (.str "") kk kp] env)).any (·.1) = false)
    (hs : swapsWith (.Call (.Name fnm fp) [.Attribute (.Name y sp) "_read_char" ap, .Constant (.str "") kk kp] [] cp) (some (.Name x px)) p.line c.env = Pure.pure false) :
    Runs c ⟨LexU L, LexP L g ln pb, LexP.held⟩ ρ (.Assign [.Name x px] (.Call (.Name fnm fp) [.Attribute (.Name y sp) "_read_char" ap, .Constant (.str "") kk kp] [] cp) p :: rest) Φ := .mk fun F s Q E h hp hU hQ => by
  refine wpAny_execs_cons (wpAny_Assign_Name ?_ hs)
  refine wpAny_Call_Name_kw (hf.run F s _ E h.st fun v F₁ s₁ x₁ hv => ?_)
  unfold VR at hv; subst hv
  have h₁ := h.ext x₁
  have hp₁ := LexP.held.ext hp x₁
  refine callWith_machine rfl (hst _) (evalArgs_of hst ?_)
  refine wpAny_items_cons (Attribute_name (hx.run F₁ s₁ _ E h₁.st fun v F₂ s₂ x₂ hv => ?_)) rfl
  unfold VR at hv; subst hv
  have h₂ := h₁.ext x₂
  have hp₂ := LexP.held.ext hp₁ x₂
  have hb₂ : ∀ a o, (KF c.w.params).lookup a = some o → F₂ a = some o := fun a o q => h₂.st.base a o (by rw [hK]; exact q)
  have X := inK (K := KF c.w.params) x₂.inn hb₂
  obtain ⟨ox, oD, I0, hl⟩ := hp₂.instW
  obtain ⟨hh, gg, dd, t, os⟩ := s₂
  refine get_bind X I0 (f5 _) (find_read _ hl) (f6 _) ?_
  refine wpAny_call (fn_get X (f7 _) ?_)
  show wpAny _ _ (handedOut (.ref hh.objs.size)) _ _ _
  refine wpAny_pure ?_
  have x₃ := (Ext.tok x₂.inn (t + 1)).trans (Ext.alloc (F := F₂) (s := ⟨hh, gg, dd, t + 1, os⟩) x₂.inn (methodObj (.ref 35) (.ref L.X)) rfl)
  have hM := put_self F₂ hh.objs.size (methodObj (.ref 35) (.ref L.X))
  have h₃ := h₂.ext x₃
  have hp₃ := LexP.held.ext hp₂ x₃
  revert hM x₃ h₃ hp₃
  generalize hh.objs.size = M
  generalize put F₂ M (methodObj (.ref 35) (.ref L.X)) = F₃
  generalize hh.push (methodObj (.ref 35) (.ref L.X)) = h3
  intro x₃ hM h₃ hp₃
  refine wpAny_items_cons (wpAny_Constant_str ?_) rfl
  refine wpAny_items_nil ?_
  show wpAny _ _ (PySem.call (.builtin "iter") [.ref M, .str "" (t + 1)]) _ _ _
  refine PySem.Calls.call_function_entry (by decide +kernel) (by decide +kernel) kdk_entry_iter (args_iter2 _ _) ?_
  unfold Builtin.«iter»
  refine wpAny_bind (m := PySem.someArgs "iter" 1 2 _) (wpAny_of_eq (a := [Value.ref M, .str "" (t + 1)]) (by first | rfl | kernel_rfl!) ?_)
  dsimp only
  unfold specialOf
  refine wpAny_bind (wpAny_bind (wpAny_typeOf (T := "method") ⟨_, x₃.inn _ _ hM, rfl⟩ ?_))
  rw [meth_call]
  refine wpAny_pure ?_
  rw [if_neg (by decide)]
  refine wpAny_bind (wpAny_rule ?_)
  unfold newFields
  refine wpAny_bind (wpAny_newObj_type ?_ (by size_fits))
  refine wpAny_pure ⟨_, rfl, ?_⟩
  have hdead : h3.get? h3.objs.size = none := dead_of (s := ⟨h3, gg, dd, t, os⟩) (Nat.le_refl _)
  have x₄ : Ext F₃ ⟨h3, gg, dd, t + 1, os⟩ F₃ ⟨h3.push { cls := Value.type "callable_iterator", data := Data.fields #[Value.ref M, Value.str (Str.ofString "") (t + 1), Value.bool false] }, gg, dd, t + 1 + 1, os⟩ :=
    ⟨Sub.refl _, fun a o q => Heap.get?_push_of_some _ (x₃.inn a o q), fun a o q => Heap.get?_push_of_some _ q, fun a o q => .inl q, ⟨_, _, rfl⟩⟩
  have hI : (h3.push { cls := Value.type "callable_iterator", data := Data.fields #[Value.ref M, Value.str (Str.ofString "") (t + 1), Value.bool false] }).get? h3.objs.size = some { cls := Value.type "callable_iterator", dict := none, data := Data.fields (ItV M true (t + 1)), slots := #[] } := Heap.get?_push_size _ rfl
  have xall : Ext F s F₃ ⟨h3, gg, dd, t + 1, os⟩ := (x₁.trans x₂).trans x₃
  have hs0 : s.heap.get? h3.objs.size = none := by
    cases q : s.heap.get? h3.objs.size with
    | none => rfl
    | some o => have z := xall.keep _ _ q; rw [show (Shared.heap ⟨h3, gg, dd, t + 1, os⟩) = h3 from rfl, hdead] at z; cases z
  have hfI : F₃ h3.objs.size = none := by
    cases q : F₃ h3.objs.size with
    | none => rfl
    | some o => have z := x₃.inn _ _ q; rw [show (Shared.heap ⟨h3, gg, dd, t + 1, os⟩) = h3 from rfl, hdead] at z; cases z
  have hnU : ¬ LexU L h3.objs.size := fun q => by
    obtain ⟨_, o, z⟩ := LexP.held.dry F₃ _ hp₃ _ q
    rw [show (Shared.heap ⟨h3, gg, dd, t + 1, os⟩) = h3 from rfl, hdead] at z; cases z
  have h₄ := h₃.ext x₄
  have hp₄ := LexP.held.ext hp₃ x₄
  show wpAny _ _ (storeName c.env x (.ref h3.objs.size)) _ _ _
  have hI₄ : LexI L h3.objs.size M true g ln pb F₃ _ := ⟨hp₄, hfI, hnU, ⟨t + 1, hI⟩, hM⟩
  have xx := xall.trans x₄
  revert x₄ hI hs0 hfI hnU h₄ hp₄ hI₄ xx
  generalize h3.objs.size = I
  intro x₄ hI hs0 hfI hnU h₄ hp₄ hI₄ xx
  refine h₄.storeX (sv := .ref I) hk ho (by unfold VR; rfl) fun s₅ h₅ e₅ => ?_
  have hUI : ∀ a, LexUI L I a → ¬ Rel c a := fun a ha hr => ha.elim (fun q => hU a q hr) fun q => by
    subst q
    obtain ⟨o, z⟩ := h.live hr
    rw [hs0] at z; cases z
  refine (hr I M).run F₃ s₅ Q E h₅ (volU (hP := LexI.held) hI₄ hUI h₄ e₅) hUI fun fl F₆ s₆ x₆ hfl => hQ fl F₆ s₆ (((xx.v.trans (e₅.mono fun a q => (Or.inl q : Vol c a ∨ LexUI L I a))).trans x₆).drop fun a q => ?_) hfl
  rcases q with q | q | q
  · exact .inr (.inl q)
  · exact .inr (.inr q)
  · subst q; exact .inl hs0
end
end Mine
end
section
open PySem PySem.W PyProof.Rows
namespace Mine
noncomputable def mkS (t : List Nat) : Str := ⟨t.toArray⟩
noncomputable def wsB (c : Nat) : Bool := c == 10 || c == 9 || c == 13 || c == 32
noncomputable def nlc (c : Nat) : Int := if c = 10 then 1 else 0
theorem nl1_cons (c : Nat) (r : List Nat) : nl1 (c :: r) = nlc c := by
  unfold nlc
  by_cases h : c = 10
  · subst h; rfl
  · rw [if_neg h]; unfold nl1; split
    · rename_i e; cases e; exact absurd rfl h
    · rfl
noncomputable def lexIn (stop : Nat → Bool) : List Nat → Int → List Nat → List Nat × List Nat × Int
  | [], ln, t => (t, [], ln)
  | c :: r, ln, t => if stop c then (t, r, ln + nlc c) else if c = 92 then (match r with | [] => (t, [], ln) | d :: r' => lexIn stop r' (ln + nlc d) (t ++ [d])) else lexIn stop r (ln + nlc c) (t ++ [c])
noncomputable def lexOut : List Nat → Int → List Nat × List Nat × Int
  | [], ln => ([], [], ln)
  | c :: r, ln => if wsB c then lexOut r (ln + nlc c) else if c = 34 then lexIn (fun x => x == 34) r ln [] else lexIn wsB (c :: r) ln []
structure LS where
  g : List Nat
  ln : Int
  t : List Nat
  live : Bool
noncomputable def LS.rho (I X : Addr) (a : LS) : List (Str × SV) := [(Str.ofString "token", .str (mkS a.t)), (Str.ofString "fiter", .ref I), (Str.ofString "self", .ref X)]
noncomputable def LS.mu (a : LS) : Nat := a.g.length + (if a.live then 1 else 0)
theorem mkS_add (t u : List Nat) : mkS t ++ mkS u = mkS (t ++ u) := by
  show (⟨t.toArray ++ u.toArray⟩ : Str) = ⟨(t ++ u).toArray⟩
  rw [List.append_toArray]
theorem mkS_len (t : List Nat) : (mkS t).length = t.length := by
  show t.toArray.size = _
  simp
theorem chS_mk (c : Nat) : chS c = mkS [c] := rfl
theorem rdS_mk (g : List Nat) : rdS g = mkS (g.take 1) := by
  cases g <;> rfl
theorem chS_eq (c k : Nat) : (chS c == chS k) = (c == k) := by
  by_cases e : c = k
  · subst e; simp
  · have : chS c ≠ chS k := fun h => e (by
      have := congrArg Str.cps h
      simpa [chS] using this)
    rw [beq_eq_false_iff_ne.mpr this, beq_eq_false_iff_ne.mpr e]
theorem Runs.imp {c : Cx} {S : Side} {ρ : List (Str × SV)} {b : List Stmt} {Φ Ψ : Flow → PM → Shared → Prop} (h : Runs c S ρ b Φ) (hi : ∀ fl F s, Φ fl F s → Ψ fl F s) : Runs c S ρ b Ψ := .mk fun F s Q E hf hS hU hQ =>
  h.run F s Q E hf hS hU fun fl F' s' x hfl => hQ fl F' s' x (hi _ _ _ hfl)
theorem Runs.weak {c : Cx} {S : Side} {ρ ρ' : List (Str × SV)} {b : List Stmt} {Φ : Flow → PM → Shared → Prop} (h : Runs c S ρ' b Φ) (hi : ∀ x sv, ρ'.lookup x = some sv → ρ.lookup x = some sv) : Runs c S ρ b Φ := .mk fun F s Q E hf hS hU hQ =>
  h.run F s Q E (hf.sub hi) hS hU hQ
theorem lk_one {R : List (Str × SV)} {cn : Str} {b : SV} (hR : R.lookup cn = none) (x : Str) (sv : SV) (h : R.lookup x = some sv) : ((cn, b) :: R).lookup x = some sv := by
  rw [List.lookup_cons]
  cases q : x == cn with
  | true => have := beq_iff_eq.mp q; subst this; rw [hR] at h; cases h
  | false => exact h
theorem lk_three {R : List (Str × SV)} {tk cn : Str} {a b a' : SV} (hc : (cn == tk) = false) (hR : R.lookup cn = none) (x : Str) (sv : SV) (h : ((tk, a) :: R).lookup x = some sv) : ((tk, a) :: (cn, b) :: (tk, a') :: R).lookup x = some sv := by
  rw [List.lookup_cons] at h ⊢
  cases q : x == tk with
  | true => rw [q] at h; exact h
  | false =>
    rw [q] at h
    exact lk_one (by rw [List.lookup_cons, hc]; exact hR) x sv (by rw [List.lookup_cons, q]; exact h)
theorem lk_four {R : List (Str × SV)} {tk cn : Str} {a b b' a' : SV} (hc : (cn == tk) = false) (hR : R.lookup cn = none) (x : Str) (sv : SV) (h : ((tk, a) :: R).lookup x = some sv) : ((tk, a) :: (cn, b) :: (cn, b') :: (tk, a') :: R).lookup x = some sv := by
  rw [List.lookup_cons] at h ⊢
  cases q : x == tk with
  | true => rw [q] at h; exact h
  | false =>
    rw [q] at h
    have : x ≠ cn := fun e => by subst e; rw [hR] at h; cases h
    rw [List.lookup_cons, beq_eq_false_iff_ne.mpr this, List.lookup_cons, beq_eq_false_iff_ne.mpr this, List.lookup_cons, q]; exact h
theorem szA {a b : Nat} (ha : a ≤ 1000) (hb : b ≤ 1) : a + b ≤ sizeLine := Nat.le_trans (Nat.add_le_add ha hb) (by decide)
section
variable {c : Cx} {L : LexA} {I M : Addr} {pb : List Str}
theorem inner_ok {d : Nat} (stop : Nat → Bool) {test rc : Expr} {a0 : LS} {res : List Nat × List Nat × Int} {Ψ : Flow → PM → Shared → Prop} {px pi p1 p2 p3 p4 p5 p6 p7 p8 p9 p10 p11 p12 p : Pos} {kk : Nat}
    (hK : c.K = KF c.w.params) (hPG : c.prog = PG) (hroom : Room c.A (d + 3)) (hk : c.env.scope.kind = .function) (hoc : Own c (Str.ofString "ch")) (hot : Own c (Str.ofString "token"))
    (hres : lexIn stop a0.g a0.ln a0.t = res) (hlen : a0.t.length + a0.g.length ≤ 1000) (hlive : a0.live = true)
    (htest : ∀ ρ ch g ln, ρ.lookup (Str.ofString "ch") = some (.str (chS ch)) → ρ.lookup (Str.ofString "self") = some (.ref L.X) → EvTS c (LexUI L I) (LexI L I M true g ln pb) (LexI L I M true g ln pb) ρ test (stop ch))
    (hrc : ∀ ρ g ln, g.length ≤ 1000 → ρ.lookup (Str.ofString "self") = some (.ref L.X) → EvS c (LexU L) (LexP L g ln pb) (LexP L (rdR g) (ln + nl1 g) pb) ρ rc (.str (rdS g)))
    (hsw : swapsWith rc (some (.Name (Str.ofString "ch") p6)) p7.line c.env = Pure.pure false)
    (hΨr : ∀ v F s, VR F (.str (mkS res.1)) v → LexP L res.2.1 res.2.2 pb F s → Ψ (.ret v) F s)
    (hΨn : ∀ F s, res.2.1 = [] → LexI L I M false [] res.2.2 pb F s → Fm c (LS.rho I L.X ⟨[], res.2.2, res.1, false⟩) F s → Ψ .next F s) :
    Runs c ⟨LexUI L I, LexI L I M a0.live a0.g a0.ln pb, LexI.held⟩ (a0.rho I L.X) [.For (.Name (Str.ofString "ch") px) (.Name (Str.ofString "fiter") pi) [.If test [.Return (some (.Name (Str.ofString "token") p1)) p2] [.If (.Compare (.Name (Str.ofString "ch") p3) [.Eq] [.Constant (.str (Str.ofString "\\")) kk p4] p5) [.Assign [.Name (Str.ofString "ch") p6] rc p7] [] p8] p9, .AugAssign (.Name (Str.ofString "token") p10) .Add (.Name (Str.ofString "ch") p11) p12] [] p] Ψ := by
  refine Runs.forW (σ := LS) (I := I) LS.mu (fun a => lexIn stop a.g a.ln a.t = res ∧ a.t.length + a.g.length ≤ 1000 ∧ a.live = true) (P := fun a => LexI L I M a.live a.g a.ln pb) (fun a => LexI.held) (ρs := fun a => a.rho I L.X) a0 hk hoc (Ev.name hk rfl rfl) (fun F s Q E hp hs hq => by rw [hPG]; exact ci_iter hp hq) ⟨hres, hlen, hlive⟩ ?_
  rintro ⟨g, ln, t, live⟩ ⟨e1, e2, e3⟩
  dsimp only at e1 e2 e3
  subst e3
  cases g with
  | nil =>
    refine .inl ⟨⟨[], ln, t, false⟩, NextTo.none hK hPG hroom, ?_⟩
    subst e1
    exact Runs.nil fun F s hf hp => hΨn F s rfl hp hf
  | cons ch r =>
    have hl1 : (ch :: r).length ≤ 1000 := by lia
    refine .inr ⟨.str (chS ch), ⟨r, ln + nlc ch, t, true⟩, by have z := NextTo.item (c := c) (I := I) (M := M) (L := L) (pb := pb) (ln := ln) hK hPG hroom hl1; rw [nl1_cons] at z; exact z, ?_⟩
    refine Runs.iteS LexI.held (htest _ ch _ _ rfl rfl) (fun hd => ?_) (fun hd => ?_)
    · unfold lexIn at e1
      rw [if_pos hd] at e1
      subst e1
      refine (Runs.retS (P' := LexI L I M true r (ln + nlc ch) pb) (EvS.pure LexI.held (Ev.name hk rfl rfl))).imp fun fl F s h => ?_
      obtain ⟨v, rfl, hv, hp⟩ := h
      exact .inr ⟨v, rfl, hΨr v F s hv hp.lex⟩
    · unfold lexIn at e1
      rw [if_neg (by rw [hd]; decide)] at e1
      refine Runs.ite (d := ch == 92) (by have z := EvT.compare (c := c) (p := p5) (Ev.name (x := Str.ofString "ch") (p := p3) (ρ := (Str.ofString "ch", .str (chS ch)) :: LS.rho I L.X ⟨ch :: r, ln, t, true⟩) hk rfl rfl) (Ev.str (x := Str.ofString "\\") (k := kk) (p := p4)) (op := .Eq) Op.eqStr rfl; rw [show (chS ch == Str.ofString "\\") = (ch == 92) from chS_eq ch 92] at z; exact z) (fun hq => ?_) (fun hq => ?_)
      · have h92 := beq_iff_eq.mp hq
        rw [if_pos h92] at e1
        refine Runs.setS LexI.held (EvS.frameI (hrc _ r _ (by simp at hl1; lia) rfl)) hk hoc ?_ hsw
        refine Runs.augStr hk hot rfl (Ev.name hk rfl rfl) (by rw [rdS_mk, mkS_len, mkS_len, List.length_take]; exact szA (by show t.length ≤ 1000; lia) (Nat.min_le_left _ _)) ?_
        rw [rdS_mk, mkS_add]
        refine Runs.nil fun F s hf hp => .inl ⟨.inl rfl, ⟨rdR r, ln + nlc ch + nl1 r, t ++ r.take 1, true⟩, ⟨?_, ?_, rfl⟩, ?_, hf.sub (lk_four (by decide) rfl), hp⟩
        · subst h92
          cases r with
          | nil => rw [← e1]; show lexIn stop [] _ _ = _; unfold lexIn; simp [nlc, nl1]
          | cons d' r' => rw [← e1, nl1_cons]; show lexIn stop r' _ _ = lexIn stop r' _ _; simp [nlc]
        · cases r <;> simp [rdR] at e2 ⊢ <;> lia
        · cases r <;> simp [LS.mu, rdR]
      · rw [if_neg (beq_eq_false_iff_ne.mp hq)] at e1
        refine Runs.augStr hk hot rfl (Ev.name hk rfl rfl) (by rw [chS_mk, mkS_len, mkS_len]; exact szA (by show t.length ≤ 1000; lia) (Nat.le_refl 1)) ?_
        rw [chS_mk, mkS_add]
        refine Runs.nil fun F s hf hp => .inl ⟨.inl rfl, ⟨r, ln + nlc ch, t ++ [ch], true⟩, ⟨e1, by simp at e2 ⊢; lia, rfl⟩, by simp [LS.mu], hf.sub (lk_three (by decide) rfl), hp⟩
end
end Mine
end
section
open PySem PySem.W PyProof.Rows
namespace Mine
theorem ws_dec (c : Nat) : decide (c ∈ (Str.ofString "\n\t\x0d ").cps.toList) = wsB c := by
  have e : (Str.ofString "\n\t\x0d ").cps.toList = [10, 9, 13, 32] := by decide
  rw [e]
  unfold wsB
  rw [Bool.eq_iff_iff]
  simp [Bool.or_eq_true, or_assoc]
theorem lk_swap {R : List (Str × SV)} {a b : Str} {x y : SV} (hab : (a == b) = false) (z : Str) (sv : SV) (h : ((a, x) :: (b, y) :: R).lookup z = some sv) : ((b, y) :: (a, x) :: R).lookup z = some sv := by
  rw [List.lookup_cons, List.lookup_cons] at h ⊢
  cases qa : z == a with
  | true =>
    have := beq_iff_eq.mp qa; subst this
    rw [hab]; rw [qa] at h; exact h
  | false => rw [qa] at h; exact h
theorem pop_push {prog : Program} {w : World} {A : Around} {L : LexA} {g : List Nat} {ln : Int} {p : Str} {pb : List Str} {F : PM} {s : Shared} {Q : Value → Shared → Prop} {E : Value → Shared → Prop} {u : Tok} (hg : pb.length ≤ 1000)
    (hp : LexP L g ln (p :: pb) F s) (hQ : ∀ v F' s', ExtV (LexU L) F s F' s' → LexP L g ln pb F' s' → VR F' (.str p) v → Q v s') : wpAny (model prog w) A (PySem.call (.builtin "list.pop") [.ref L.Pb, .int 0 u]) Q E s := by
  obtain ⟨us, hl, hv⟩ := hp.pbk
  rw [List.map_cons] at hv
  unfold VRs at hv
  obtain ⟨v, us', rfl, hv0, hvr⟩ := hv
  have hlen := hvr.length
  rw [List.length_map] at hlen
  refine call_pop0 hl (by lia) fun h' hl' hs => ?_
  have hF : ∀ a o, F a = some o → h'.get? a = some o := fun a o e => (hs.2 a (by rintro rfl; rw [hp.dP] at e; cases e)).trans (hp.inn a o e)
  have e₁ : ExtV (LexU L) F s F { s with heap := h' } :=
    ⟨Sub.refl _, hF, fun a o n e => (hs.2 a fun q => n (.inr (.inr q))).trans e, fun a o e => .inl e, ⟨_, _, rfl⟩⟩
  refine hQ v F _ e₁ ?_ hv0
  obtain ⟨mA, tl, tw, n1, n2⟩ := hp.ns
  obtain ⟨vs, ⟨m, p1⟩, p2⟩ := hp.sg
  exact { hp with inn := hF, pbk := ⟨us', hl', hvr⟩, ns := ⟨mA, tl, tw, n1.sameBut hs hp.neDP, n2⟩, sg := ⟨vs, ⟨m, (hs.2 _ hp.neGP).trans p1⟩, p2⟩ }
theorem LexP.pbL {L : LexA} {g : List Nat} {ln : Int} {pb : List Str} {F : PM} {s : Shared} (h : LexP L g ln pb F s) (hl : pb.length ≤ 1000) : ∃ vs, LstAt s.heap L.Pb vs ∧ (vs.length : Int) < 2 ^ 62 ∧ (!vs.isEmpty) = !pb.isEmpty := by
  obtain ⟨us, h1, h2⟩ := h.pbk
  have hlen := h2.length
  rw [List.length_map] at hlen
  refine ⟨us, h1, by lia, ?_⟩
  cases us <;> cases pb <;> first | rfl | simp at hlen
theorem NextTo.item' {c : Cx} {L : LexA} {I M : Addr} {ln : Int} {pb : List Str} {ch : Nat} {r : List Nat} {d : Nat} (hK : c.K = KF c.w.params) (hPG : c.prog = PG) (hr : Room c.A (d + 3)) (hg : (ch :: r).length ≤ 1000) : NextTo c I (LexUI L I) (LexI L I M true (ch :: r) ln pb) (LexI L I M true r (ln + nlc ch) pb) (some (.str (chS ch))) := by
  rw [← nl1_cons ch r]; exact NextTo.item hK hPG hr hg
theorem get_back_ok (w : World) (d : Nat) (L : LexA) (g : List Nat) (ln : Int) (p : Str) (pb : List Str) (hl : pb.length ≤ 999) : EffFn (KF w.params) PG w (d + 4) 42 [.ref L.X] (.str p) (LexU L) (LexP L g ln (p :: pb)) (LexP L g ln pb) := by
  refine EffFn.of_body (hP := LexP.held) (d := d + 3) (o := ob42 w.params) (names := [Str.ofString "self"]) (by kernel_rfl) rfl rfl rfl (by kernel_rfl) (by kernel_rfl) (by kernel_rfl) (bind1 fun _ => rfl) (by decide +kernel) (by decide +kernel) (by decide +kernel) rfl rfl rfl (fun A Lc hr => ?_)
  refine Runs.iteS (d := true) LexP.held (EvTS.list LexP.held (EvS.pushback rfl (Ev.name rfl rfl rfl)) (fun F s h => h.pbL (by simp; lia)) rfl) (fun _ => ?_) (fun hd => by cases hd)
  refine Runs.retS (EvS.methL (D := L.Pb) LexP.held (EvS.pushback rfl (Ev.name rfl rfl rfl)) (Evs.co rfl Ev.int Evs.nil) PySem.F.slot_list_pop PySem.F.type_list_pop (fun F s h => ?_) (fun F s vs Q E hs hb hp hv hQ => ?_) rfl (plain_few rfl rfl) rfl (fun _ => plain_any rfl))
  · obtain ⟨us, h1, _⟩ := h.pbk; exact ⟨us, h1⟩
  · unfold VRs VRs at hv
    obtain ⟨v, r, rfl, hv, rfl⟩ := hv
    unfold VR at hv
    obtain ⟨t, rfl⟩ := hv
    exact pop_push (by lia) hp hQ
theorem get_ok (w : World) (d : Nat) (L : LexA) (g : List Nat) (ln : Int) (res : List Nat × List Nat × Int) (hg : g.length ≤ 1000) (hres : lexOut g ln = res) : EffFn (KF w.params) PG w (d + 4) 42 [.ref L.X] (.str (mkS res.1)) (LexU L) (LexP L g ln []) (LexP L res.2.1 res.2.2 []) := by
  refine EffFn.of_body (hP := LexP.held) (d := d + 3) (o := ob42 w.params) (names := [Str.ofString "self"]) (by kernel_rfl) rfl rfl rfl (by kernel_rfl) (by kernel_rfl) (by kernel_rfl) (bind1 fun _ => rfl) (by decide +kernel) (by decide +kernel) (by decide +kernel) rfl rfl rfl (fun A Lc hr => ?_)
  refine Runs.iteS (d := false) LexP.held (EvTS.list LexP.held (EvS.pushback rfl (Ev.name rfl rfl rfl)) (fun F s h => h.pbL (by simp)) rfl) (fun hd => by cases hd) (fun _ => ?_)
  refine Runs.setS (sv := .str (mkS [])) LexP.held (EvS.pure LexP.held Ev.str) rfl (.inl rfl) ?_ rfl
  refine Runs.mkIter rfl rfl rfl (.inl rfl) (Ev.bltin rfl rfl rfl rfl (by kernel_rfl) (by kernel_rfl) rfl) (Ev.name rfl rfl rfl) (fun I M => ?_) (fun _ => plain_any rfl) rfl
  refine Runs.weak (ρ' := LS.rho I L.X ⟨g, ln, [], true⟩) ?_ (lk_swap (by decide))
  refine Runs.forW (σ := LS) (I := I) LS.mu (fun a => (a.live = true ∧ a.t = [] ∧ lexOut a.g a.ln = res ∧ a.g.length ≤ 1000) ∨ (a.live = false ∧ a.g = [] ∧ res = (a.t, [], a.ln))) (P := fun a => LexI L I M a.live a.g a.ln []) (fun a => LexI.held) (ρs := fun a => a.rho I L.X) ⟨g, ln, [], true⟩ rfl (.inl rfl) (Ev.name rfl rfl rfl) (fun F s Q E hp hs hq => ci_iter hp hq) (.inl ⟨rfl, rfl, hres, hg⟩) ?_
  rintro ⟨g, ln, t, live⟩ (⟨rfl, rfl, e, hg⟩ | ⟨rfl, rfl, e⟩)
  · dsimp only at e hg
    cases g with
    | nil =>
      refine .inl ⟨⟨[], ln, [], false⟩, NextTo.none rfl rfl hr, ?_⟩
      subst e
      refine (Runs.retS (P' := LexI L I M false [] ln []) (EvS.pure LexI.held (Ev.name rfl rfl rfl))).imp fun fl F s h => ?_
      obtain ⟨v, rfl, hv, hp⟩ := h
      exact ⟨v, rfl, hv, hp.lex⟩
    | cons ch r =>
      refine .inr ⟨.str (chS ch), ⟨r, ln + nlc ch, [], true⟩, NextTo.item' rfl rfl hr hg, ?_⟩
      rw [List.length_cons] at hg
      unfold lexOut at e
      refine Runs.iteS (d := wsB ch) LexI.held (by rw [← ws_dec]; exact EvTS.compareR LexI.held (EvS.pure LexI.held (Ev.name rfl rfl rfl)) (EvS.frameI (EvS.white rfl (Ev.name rfl rfl rfl))) Op.inChar rfl) (fun hw => ?_) (fun hw => ?_)
      · rw [if_pos hw] at e
        exact Runs.cont fun F s hf hp => .inl ⟨.inr rfl, ⟨r, ln + nlc ch, [], true⟩, .inl ⟨rfl, rfl, e, by show r.length ≤ 1000; lia⟩, by simp [LS.mu], hf.sub (lk_one rfl), hp⟩
      · rw [if_neg (by rw [hw]; decide)] at e
        refine Runs.ite (d := ch == 34) (by rw [← chS_eq ch 34]; exact EvT.compare (Ev.name rfl rfl rfl) Ev.str Op.eqStr rfl) (fun hq => ?_) (fun hq => ?_)
        · have hq := beq_iff_eq.mp hq
          subst hq
          rw [if_pos rfl] at e
          refine Runs.weak (ρ' := LS.rho I L.X ⟨r, ln + nlc 34, [], true⟩) ?_ (lk_one rfl)
          refine inner_ok (d := d) (fun x => x == 34) (res := res) (a0 := ⟨r, ln + nlc 34, [], true⟩) rfl rfl hr rfl (.inl rfl) (.inl rfl) ?_ ?_ rfl ?_ ?_ rfl ?_ ?_
          · rw [← e]; show lexIn _ r (ln + nlc 34) [] = _; simp [nlc]
          · show 0 + r.length ≤ 1000; lia
          · exact fun ρ ch g ln hc hs => by show EvTS _ _ _ _ _ _ (ch == 34); rw [← chS_eq ch 34]; exact EvTS.pure LexI.held (EvT.compare (Ev.name rfl hc rfl) Ev.str Op.eqStr rfl)
          · exact fun ρ g ln hg hρ => EvS.callM rfl (Ev.name rfl hρ rfl) (own_read _) obj_read (by decide) (of := ob35 w.params) (by kernel_rfl) rfl rfl Evs.nil (hr.le (d' := d + 2) (by lia)) (read_char_ok w d L g ln [] hg) rfl (plain_few rfl rfl) rfl (fun _ => plain_any rfl)
          · exact fun v F s hv hp => .inr ⟨v, rfl, v, rfl, hv, hp⟩
          · exact fun F s hz hp hf => .inl ⟨.inl rfl, ⟨[], res.2.2, res.1, false⟩, .inr ⟨rfl, rfl, by rw [← hz]⟩, by simp [LS.mu], hf, hp⟩
        · rw [if_neg (beq_eq_false_iff_ne.mp hq)] at e
          unfold lexIn at e
          rw [if_neg (by rw [hw]; decide)] at e
          refine Runs.ite (d := ch == 92) (by rw [← chS_eq ch 92]; exact EvT.compare (Ev.name rfl rfl rfl) Ev.str Op.eqStr rfl) (fun h92 => ?_) (fun h92 => ?_)
          · have h92 := beq_iff_eq.mp h92
            subst h92
            rw [if_pos rfl] at e
            refine Runs.setS LexI.held (EvS.frameI (EvS.callM rfl (Ev.name rfl rfl rfl) (own_read _) obj_read (by decide) (of := ob35 w.params) (by kernel_rfl) rfl rfl Evs.nil (hr.le (d' := d + 2) (by lia)) (read_char_ok w d L r _ [] (by lia)) rfl (plain_few rfl rfl) rfl (fun _ => plain_any rfl))) rfl (.inl rfl) ?_ rfl
            refine Runs.augStr rfl (.inl rfl) rfl (Ev.name rfl rfl rfl) (by rw [rdS_mk, mkS_len, mkS_len, List.length_take]; exact szA (Nat.zero_le _) (Nat.min_le_left _ _)) ?_
            rw [rdS_mk, mkS_add]
            refine Runs.weak (ρ' := LS.rho I L.X ⟨rdR r, ln + nlc 92 + nl1 r, [] ++ r.take 1, true⟩) ?_ (lk_four (by decide) rfl)
            refine inner_ok (d := d) wsB (res := res) (a0 := ⟨rdR r, ln + nlc 92 + nl1 r, [] ++ r.take 1, true⟩) rfl rfl hr rfl (.inl rfl) (.inl rfl) ?_ ?_ rfl ?_ ?_ rfl ?_ ?_
            · cases r with
              | nil => rw [← e]; show lexIn wsB [] _ _ = _; unfold lexIn; simp [nlc, nl1]
              | cons d' r' => rw [← e, nl1_cons]; show lexIn wsB r' _ _ = lexIn wsB r' _ _; simp [nlc]
            · show ([] ++ r.take 1).length + (rdR r).length ≤ 1000; cases r <;> simp [rdR] at hg ⊢ <;> lia
            · exact fun ρ ch g ln hc hs => by rw [← ws_dec]; exact EvTS.compareR LexI.held (EvS.pure LexI.held (Ev.name rfl hc rfl)) (EvS.frameI (EvS.white rfl (Ev.name rfl hs rfl))) Op.inChar rfl
            · exact fun ρ g ln hg hρ => EvS.callM rfl (Ev.name rfl hρ rfl) (own_read _) obj_read (by decide) (of := ob35 w.params) (by kernel_rfl) rfl rfl Evs.nil (hr.le (d' := d + 2) (by lia)) (read_char_ok w d L g ln [] hg) rfl (plain_few rfl rfl) rfl (fun _ => plain_any rfl)
            · exact fun v F s hv hp => .inr ⟨v, rfl, v, rfl, hv, hp⟩
            · exact fun F s hz hp hf => .inl ⟨.inl rfl, ⟨[], res.2.2, res.1, false⟩, .inr ⟨rfl, rfl, by rw [← hz]⟩, by simp [LS.mu], hf, hp⟩
          · rw [if_neg (beq_eq_false_iff_ne.mp h92)] at e
            refine Runs.augStr rfl (.inl rfl) rfl (Ev.name rfl rfl rfl) (by rw [chS_mk, mkS_len, mkS_len]; exact szA (Nat.zero_le _) (Nat.le_refl 1)) ?_
            rw [chS_mk, mkS_add]
            refine Runs.weak (ρ' := LS.rho I L.X ⟨r, ln + nlc ch, [] ++ [ch], true⟩) ?_ (lk_three (by decide) rfl)
            refine inner_ok (d := d) wsB (res := res) (a0 := ⟨r, ln + nlc ch, [] ++ [ch], true⟩) rfl rfl hr rfl (.inl rfl) (.inl rfl) ?_ ?_ rfl ?_ ?_ rfl ?_ ?_
            · exact e
            · show 1 + r.length ≤ 1000; lia
            · exact fun ρ ch g ln hc hs => by rw [← ws_dec]; exact EvTS.compareR LexI.held (EvS.pure LexI.held (Ev.name rfl hc rfl)) (EvS.frameI (EvS.white rfl (Ev.name rfl hs rfl))) Op.inChar rfl
            · exact fun ρ g ln hg hρ => EvS.callM rfl (Ev.name rfl hρ rfl) (own_read _) obj_read (by decide) (of := ob35 w.params) (by kernel_rfl) rfl rfl Evs.nil (hr.le (d' := d + 2) (by lia)) (read_char_ok w d L g ln [] hg) rfl (plain_few rfl rfl) rfl (fun _ => plain_any rfl)
            · exact fun v F s hv hp => .inr ⟨v, rfl, v, rfl, hv, hp⟩
            · exact fun F s hz hp hf => .inl ⟨.inl rfl, ⟨[], res.2.2, res.1, false⟩, .inr ⟨rfl, rfl, by rw [← hz]⟩, by simp [LS.mu], hf, hp⟩
  · dsimp only at e
    refine .inl ⟨⟨[], ln, t, false⟩, NextTo.none rfl rfl hr, ?_⟩
    refine (Runs.retS (P' := LexI L I M false [] ln []) (EvS.pure LexI.held (Ev.name rfl rfl rfl))).imp fun fl F s h => ?_
    obtain ⟨v, rfl, hv, hp⟩ := h
    rw [e]
    exact ⟨v, rfl, hv, hp.lex⟩
end Mine
end
section
open PySem PySem.W PyProof.Rows
namespace Mine
noncomputable def EndS (P : PM → Shared → Prop) (r : SV) : Flow → PM → Shared → Prop := fun fl F s => VR F r (match fl with | .ret v => v | _ => .none) ∧ P F s
theorem EffFn.of_bodyE {K : Frag} {prog : Program} {w : World} {d : Nat} {f : Addr} {o : Obj} {fd : FuncData} {body : List Stmt} {names : List Str} {args : List SV} {r : SV} {U : Addr → Prop} {P P' : PM → Shared → Prop} (hP : Held U P)
    (hK : K.lookup f = some o) (hd : o.data = .func fd) (hb : fd.body = .stmts body) (hcl : fd.closure = []) (hcode : codeIn K fd.code fd.qualname = true)
    (hs : strNsIn K cStatics = true) (hnl : nsIn K cStatics "sys.recursionlimit" = some Option.none)
    (hbind : ∀ F vals, VRs F args vals → bindArgs fd ⟨vals, []⟩ = pure (names.zip vals)) (hnd : (names.map id).Nodup)
    (hloc : ∀ x ∈ names, fd.scope.names.lookup x = some .local) (hcell : ∀ x ∈ fd.scope.names, x.2 ≠ .cell)
    (hco : fd.scope.isCoroutine = false) (hgen : fd.scope.isGenerator = false) (hk : fd.scope.kind = .function)
    (hrun : ∀ (A : Around) (L : Addr), Room (A.deeper (callEnv fd L f)) d → Runs ⟨K, prog, w, A.deeper (callEnv fd L f), callEnv fd L f, []⟩ ⟨U, P, hP⟩ (names.zip args) body (EndS P' r)) : EffFn K prog w (d + 1) f args r U P P' := by
  intro A F s vals Q E hr hsub hbase hv hp hQ
  have X : K.In s.heap := fun a o e => hsub _ _ (hbase a o e)
  refine codeAny_call_def (binds := names.zip vals) (by have := hr.depth; lia) (X _ _ hK) hd (noLimit_of X hs hnl) (codeRec_of X hcode) hb (BindsTo.of_eq (hbind F vals hv)) hcell
    (fun x hx => hloc _ (List.of_mem_zip (l₁ := names) (l₂ := vals) (a := x.1) (b := x.2) hx).1) (fun h₀ hns hk₀ => ?_) hco hgen hk
  have hroom : Room (A.deeper (callEnv fd s.heap.objs.size f)) d := hr.deeper
  generalize hL : s.heap.objs.size = L at *
  have hfree : s.heap.get? L = none := dead_of (by rw [hL]; exact Nat.le_refl _)
  have hnoc : ∀ a, ¬ (∃ n ∈ ([] : List Str), (callEnv fd L f).cells.lookup n = some a) := by
    rintro a ⟨n, hn, _⟩
    cases hn
  have hcells : (callEnv fd L f).cells = [] := by unfold callEnv newEnv; exact hcl
  have hUr : ∀ a, U a → ¬ Rel (⟨K, prog, w, A.deeper (callEnv fd L f), callEnv fd L f, []⟩ : Cx) a := by
    rintro a ha (q | ⟨n, hn⟩)
    · obtain ⟨_, o', ho'⟩ := hP.dry F s hp a ha
      rw [show a = L from q, hfree] at ho'; cases ho'
    · rw [show (Cx.env ⟨K, prog, w, A.deeper (callEnv fd L f), callEnv fd L f, []⟩).cells = [] from hcells] at hn; cases hn
  have e₀ : Ext F s F { s with heap := h₀, toks := s.toks + (names.zip vals).length } := Ext.made hsub hk₀
  refine wpAny_mono ((hrun A L hroom).run F { s with heap := h₀, toks := s.toks + (names.zip vals).length } (fun fl s' => Q (match fl with | .ret v => v | _ => .none) s') _ ⟨⟨fun a o e => hk₀ _ _ (hsub a o e), hbase, fun x sv hx => ?_⟩, ⟨_, hns⟩, fun a ha => ?_, fun n hn => absurd hn List.not_mem_nil, fun n a hl => ?_, fun n hn => absurd hn List.not_mem_nil⟩ (hP.ext hp e₀) hUr fun fl F' s' x hfl => ?_) (fun fl s' h => ?_) fun _ _ h => h
  · obtain ⟨v, hl, hv⟩ := zip_has hv hx
    refine .inl ⟨hloc x ?_, _, v, hns, ?_, hv⟩
    · exact (List.of_mem_zip (mem_of_lookup hl)).1
    · show (names.zip vals).reverse.lookup x = some v
      rw [lookup_reverse _ (zip_keys _ _ hnd)]; exact hl
  · rcases ha with rfl | ha
    · exact dryF hsub (by rw [hL]; exact Nat.le_refl _)
    · exact absurd ha (hnoc a)
  · rw [show (Cx.env ⟨K, prog, w, A.deeper (callEnv fd L f), callEnv fd L f, []⟩).cells = [] from hcells] at hl; cases hl
  · obtain ⟨hv', hp'⟩ := hfl
    refine hQ _ F' s' ?_ hp' hv'
    refine ((e₀.v : ExtV (fun a => a = L ∨ U a) F s F _).trans (x.mono fun a q => ?_)).drop fun a q => ?_
    · rcases q with (q | q) | q
      · exact .inl q
      · exact absurd q (hnoc a)
      · exact .inr q
    · rcases q with rfl | q
      · exact .inl hfree
      · exact .inr q
  · exact h
theorem push_ok (w : World) (d : Nat) (L : LexA) (g : List Nat) (ln : Int) (p : Str) (pb : List Str) (hl : pb.length ≤ 999) : EffFn (KF w.params) PG w (d + 2) 49 [.ref L.X, .str p] .none (LexU L) (LexP L g ln pb) (LexP L g ln (pb ++ [p])) := by
  refine EffFn.of_bodyE (hP := LexP.held) (d := d + 1) (o := ob49 w.params) (names := [Str.ofString "self", Str.ofString "token"]) (by kernel_rfl) rfl rfl rfl (by kernel_rfl) (by kernel_rfl) (by kernel_rfl) (bind2 fun _ _ => rfl) (by decide +kernel) (by decide +kernel) (by decide +kernel) rfl rfl rfl (fun A Lc hr => ?_)
  refine Runs.exprS (sv := .none) (LexP.held (L := L) (g := g) (ln := ln) (pb := pb ++ [p])) (EvS.methL (D := L.Pb) (svs := [.str p]) LexP.held (EvS.pushback rfl (Ev.name rfl rfl rfl)) (Evs.co rfl (Ev.name rfl rfl rfl) Evs.nil) PySem.F.slot_list_append PySem.F.type_list_append (fun F s h => ?_) (fun F s vs Q E hs hb hp hv hQ => ?_) rfl (plain_few rfl rfl) rfl (fun _ => plain_any rfl)) (Runs.nil fun F s hf hp => ⟨by unfold VR; rfl, hp⟩) rfl rfl
  · obtain ⟨us, h1, _⟩ := h.pbk; exact ⟨us, h1⟩
  · unfold VRs VRs at hv
    obtain ⟨v, r, rfl, hv, rfl⟩ := hv
    obtain ⟨us, h1, h2⟩ := hp.pbk
    have hlen := h2.length
    rw [List.length_map] at hlen
    refine call_append h1 (by lia) fun h' hl' hs' => ?_
    have hF : ∀ a o, F a = some o → h'.get? a = some o := fun a o e => (hs'.2 a (by rintro rfl; rw [hp.dP] at e; cases e)).trans (hp.inn a o e)
    have e₁ : ExtV (LexU L) F s F { s with heap := h' } :=
      ⟨Sub.refl _, hF, fun a o n e => (hs'.2 a fun q => n (.inr (.inr q))).trans e, fun a o e => .inl e, ⟨_, _, rfl⟩⟩
    refine hQ _ F _ e₁ ?_ (by unfold VR; rfl)
    obtain ⟨mA, tl, tw, n1, n2⟩ := hp.ns
    obtain ⟨vs, ⟨m, p1⟩, p2⟩ := hp.sg
    exact { hp with inn := hF, pbk := ⟨us ++ [v], hl', by rw [List.map_append]; exact VRs.append h2 hv⟩, ns := ⟨mA, tl, tw, n1.sameBut hs' hp.neDP, n2⟩, sg := ⟨vs, ⟨m, (hs'.2 _ hp.neGP).trans p1⟩, p2⟩ }
end Mine
end
section
open PySem PySem.W PyProof.Rows
namespace Mine
structure LexB (X Dx G : Addr) (g : List Nat) (vals : List (Str × SV)) (F : PM) (s : Shared) : Prop where
  inst : ∃ o, F X = some o ∧ o.cls = .ref 52 ∧ (∀ c, o.data ≠ .cls c) ∧ o.dict = some Dx
  neX : Dx ≠ X
  neGD : G ≠ Dx
  dG : F G = none
  dD : F Dx = none
  sg : ∃ vs, LstAt s.heap G vs ∧ VRs F (g.map fun c => .str (chS c)) vs
  ns : ∃ mA, s.heap.Ns1 Dx mA ∧ Within mA lexNames ∧ ∀ n sv, vals.lookup n = some sv → ∃ v, mA n = some v ∧ VR F sv v
noncomputable def BU (Dx G : Addr) : Addr → Prop := fun a => a = G ∨ a = Dx
theorem LexB.held {X Dx G : Addr} {g : List Nat} {vals : List (Str × SV)} : Held (BU Dx G) (LexB X Dx G g vals) where
  dry := fun F s h a ha => by
    rcases ha with rfl | rfl
    · obtain ⟨vs, ⟨n, hl⟩, _⟩ := h.sg; exact ⟨h.dG, _, hl⟩
    · obtain ⟨mA, hn, _⟩ := h.ns
      obtain ⟨o, es, ep, ho, _⟩ := hn
      exact ⟨h.dD, _, ho⟩
  keep := fun W F s F' s' hW hW' h e => by
    have nW : ∀ a, BU Dx G a → F a = none → ¬ W a := fun a ha hf hw => hW a hw hf ha
    have dry : ∀ a, F a = none → BU Dx G a → (∃ o, s.heap.get? a = some o) → F' a = none := fun a hf ha ho => by
      cases q : F' a with
      | none => rfl
      | some o =>
        rcases e.new a o q with z | z | z
        · rw [hf] at z; cases z
        · obtain ⟨o', ho⟩ := ho; rw [ho] at z; cases z
        · exact absurd z (nW a ha hf)
    obtain ⟨o2, i1, i2, i3, i4⟩ := h.inst
    obtain ⟨vs, ⟨n, g1⟩, g2⟩ := h.sg
    obtain ⟨mA, n1, n2, n3⟩ := h.ns
    have oD : ∃ o, s.heap.get? Dx = some o := by obtain ⟨o, es, ep, ho, _⟩ := n1; exact ⟨o, ho⟩
    exact ⟨⟨o2, e.sub _ _ i1, i2, i3, i4⟩, h.neX, h.neGD, dry _ h.dG (.inl rfl) ⟨_, g1⟩, dry _ h.dD (.inr rfl) oD,
      ⟨vs, ⟨n, e.keep G _ (nW _ (.inl rfl) h.dG) g1⟩, g2.mono e.sub⟩, ⟨mA, n1.at fun o q => e.keep _ _ (nW _ (.inr rfl) h.dD) q, n2, fun n sv q => by
        obtain ⟨v, q1, q2⟩ := n3 n sv q
        exact ⟨v, q1, q2.mono e.sub⟩⟩⟩
theorem b_store {w : World} {A : Around} {X Dx G : Addr} {g : List Nat} {vals : List (Str × SV)} {name : Str} {v : Value} {sv : SV} {F : PM} {s : Shared} {Q : Unit → Shared → Prop} {E : Value → Shared → Prop} (hsub : Sub F s.heap.get?) (hbase : ∀ a o, (KF w.params).lookup a = some o → F a = some o)
    (own : nsIn (KF w.params) 51 name = some none) (obj : typeLookup (.type "object") name = Pure.pure none) (hnm : lexNames.contains name = true) (hv : VR F sv v)
    (hp : LexB X Dx G g vals F s) (hQ : ∀ s', ExtV (BU Dx G) F s F s' → LexB X Dx G g ((name, sv) :: vals) F s' → Q () s') : wpAny (model PG w) A (setAttr (.ref X) name v) Q E s := by
  obtain ⟨o2, i1, i2, i3, i4⟩ := hp.inst
  obtain ⟨mA, n1, n2, n3⟩ := hp.ns
  have I : s.heap.Inst X 52 mA := ⟨o2, hsub _ _ i1, i2, i3, .inr ⟨Dx, i4, hp.neX, n1⟩⟩
  have XK := inK (K := KF w.params) hsub hbase
  obtain ⟨mN, hn, hN⟩ := ns51_of XK
  have hx := hsub _ _ i1
  have hXC : X ≠ 52 := fun e => by
    have := hbase _ _ (cls52 w.params)
    rw [← e, i1] at this
    cases this
    exact i3 _ rfl
  obtain ⟨hh, gg, d, t, os⟩ := s
  refine store_attr PySem.F.store_object (XK _ _ (cls52 _)) hn (hN _ _ (own_sa _)) (hN _ _ own) obj hXC I (fun h' tk' I' hk hsame => ?_) n2 (by decide)
  obtain ⟨o₁, q1, q2, q3, q4, q5⟩ := hsame _ hx
  have e1 : o₁ = o2 := obj_eq q2 ((q5 _ i4).trans i4.symm) q3 q4
  rw [e1] at q1
  have keep : ∀ b o, b ≠ Dx → hh.get? b = some o → h'.get? b = some o := fun b o hb e => by
    by_cases hbx : b = X
    · subst hbx; rw [show hh.get? b = _ from hx] at e; cases e; exact q1
    · refine hk b o hbx (fun o₀ dx h1 h2 => ?_) e
      rw [show hh.get? X = _ from hx] at h1; cases h1
      rw [i4] at h2; cases h2; exact hb
  have hF : ∀ a o, F a = some o → h'.get? a = some o := fun a o e => keep a o (by rintro rfl; rw [hp.dD] at e; cases e) (hsub a o e)
  have e₁ : ExtV (BU Dx G) F ⟨hh, gg, d, t, os⟩ F ⟨h', gg, d, tk', os⟩ :=
    ⟨Sub.refl _, hF, fun a o n e => keep a o (fun q => n (.inr q)) e, fun a o e => .inl e, ⟨_, _, rfl⟩⟩
  refine hQ _ e₁ ?_
  obtain ⟨vs, ⟨n, g1⟩, g2⟩ := hp.sg
  have hns : h'.Ns1 Dx (fun y => if y = name then some v else mA y) := by
    obtain ⟨o, r1, r2, r3, r4⟩ := I'
    rw [q1] at r1; cases r1
    rcases r4 with ⟨r5, _⟩ | ⟨d', r5, _, r6⟩
    · rw [i4] at r5; cases r5
    · rw [i4] at r5; cases r5; exact r6
  have hw : Within (fun y => if y = name then some v else mA y) lexNames := fun y hy => by
    by_cases e : y = name
    · subst e; exact List.contains_iff_mem.mp hnm
    · refine n2 y ?_
      dsimp only at hy
      rw [if_neg e] at hy; exact hy
  refine { hp with sg := ⟨vs, ⟨n, keep _ _ hp.neGD g1⟩, g2⟩, ns := ⟨_, hns, hw, fun y sy hy => ?_⟩ }
  rw [List.lookup_cons] at hy
  cases q : y == name with
  | true => rw [q] at hy; cases hy; have := beq_iff_eq.mp q; exact ⟨v, if_pos this, hv⟩
  | false =>
    rw [q] at hy
    obtain ⟨u, z1, z2⟩ := n3 y sy hy
    exact ⟨u, (if_neg (beq_eq_false_iff_ne.mp q)).trans z1, z2⟩
section
variable {c : Cx} {X Dx G : Addr} {g : List Nat} {vals : List (Str × SV)} {ρ : List (Str × SV)}
theorem Runs.storeA {name y : Str} {py pt p : Pos} {e : Expr} {sv : SV} {rest : List Stmt} {Φ : Flow → PM → Shared → Prop} (hK : c.K = KF c.w.params) (hPG : c.prog = PG) (he : Ev c ρ e sv) (hx : Ev c ρ (.Name y py) (.ref X))
    (own : nsIn (KF c.w.params) 51 name = some none) (obj : typeLookup (.type "object") name = Pure.pure none) (hnm : lexNames.contains name = true)
    (hr : Runs c ⟨BU Dx G, LexB X Dx G g ((name, sv) :: vals), LexB.held⟩ ρ rest Φ) (hs : swapsWith e (some (.Attribute (.Name y py) name pt)) p.line c.env = Pure.pure false) :
    Runs c ⟨BU Dx G, LexB X Dx G g vals, LexB.held⟩ ρ (.Assign [.Attribute (.Name y py) name pt] e p :: rest) Φ := .mk fun F s Q E h hp hU hQ => by
  refine wpAny_execs_cons (plainObj_wpAny_Assign_Attribute (he.run F s _ E h.st fun v F₁ s₁ x₁ hv => hx.run F₁ s₁ _ E (h.ext x₁).st fun u F₂ s₂ x₂ hu => ?_) hs)
  unfold VR at hu; subst hu
  have h₂ := (h.ext x₁).ext x₂
  have hp₂ := LexB.held.ext (LexB.held.ext hp x₁) x₂
  rw [hPG]
  refine b_store x₂.inn (fun a o q => h₂.st.base a o (by rw [hK]; exact q)) own obj hnm (hv.mono x₂.sub) hp₂ fun s₃ x₃ hp₃ => ?_
  rw [← hPG]
  exact hr.run F₂ s₃ Q E (h₂.extV x₃ hU) hp₃ hU fun fl F₄ s₄ x₄ hfl => hQ fl F₄ s₄ (((x₁.trans x₂).v.trans (x₃.mono fun a q => .inr q)).trans x₄) hfl
theorem Runs.storeL {name y : Str} {py pt p lp : Pos} {Φ : Flow → PM → Shared → Prop} (hK : c.K = KF c.w.params) (hPG : c.prog = PG) (hx : Ev c ρ (.Name y py) (.ref X))
    (own : nsIn (KF c.w.params) 51 name = some none) (obj : typeLookup (.type "object") name = Pure.pure none) (hnm : lexNames.contains name = true)
    (hΦ : ∀ F s Pb, F Pb = none → LstAt s.heap Pb [] → G ≠ Pb → Dx ≠ Pb → LexB X Dx G g ((name, .ref Pb) :: vals) F s → Φ .next F s) (hs : swapsWith (.List [] lp) (some (.Attribute (.Name y py) name pt)) p.line c.env = Pure.pure false) :
    Runs c ⟨BU Dx G, LexB X Dx G g vals, LexB.held⟩ ρ [.Assign [.Attribute (.Name y py) name pt] (.List [] lp) p] Φ := .mk fun F s Q E h hp hU hQ => by
  refine wpAny_execs_cons (plainObj_wpAny_Assign_Attribute (wpAny_List (wpAny_items_nil ⟨Nat.zero_le _, ?_⟩)) hs)
  generalize hD : s.heap.objs.size = Pb
  have dead : s.heap.get? Pb = none := dead_of (by rw [hD]; exact Nat.le_refl _)
  have x₁ : Ext F s F { s with heap := s.heap.push { cls := .type "list", data := .seq (#[] : Array Value) } } := Ext.made (tk := s.toks) h.st.sub fun a o q => Heap.get?_push_of_some _ q
  have hl₁ : LstAt (s.heap.push { cls := .type "list", data := .seq (#[] : Array Value) }) Pb [] := ⟨0, by rw [← hD]; exact Heap.get?_push_size _ rfl⟩
  have hF : F Pb = none := dryF h.st.sub (by rw [hD]; exact Nat.le_refl _)
  refine hx.run F _ _ E (h.ext x₁).st fun u F₂ s₂ x₂ hu => ?_
  unfold VR at hu; subst hu
  have h₂ := (h.ext x₁).ext x₂
  have hp₁ := LexB.held.ext hp x₁
  have hp₂ := LexB.held.ext hp₁ x₂
  have hnU : ∀ a, BU Dx G a → a ≠ Pb := fun a ha q => by
    obtain ⟨_, o, ho⟩ := LexB.held.dry F s hp a ha
    rw [q, dead] at ho; cases ho
  obtain ⟨nn, hl₁⟩ := hl₁
  have hl₂ := x₂.keep _ _ hl₁
  have hF₂ : F₂ Pb = none := by
    cases q : F₂ Pb with
    | none => rfl
    | some o =>
      rcases x₂.new Pb o q with z | z
      · rw [hF] at z; cases z
      · rw [show Heap.get? _ Pb = _ from hl₁] at z; cases z
  rw [hPG]
  refine b_store x₂.inn (fun a o q => h₂.st.base a o (by rw [hK]; exact q)) own obj hnm (sv := .ref Pb) (by unfold VR; rfl) hp₂ fun s₃ x₃ hp₃ => ?_
  rw [← hPG]
  rw [show execs ([] : List Stmt) c.env = Pure.pure .next from rfl]
  refine wpAny_pure ?_
  refine hQ .next F₂ s₃ ((x₁.trans x₂).v.trans (x₃.mono fun a q => .inr q)) (hΦ F₂ s₃ Pb hF₂ ⟨nn, x₃.keep _ _ (fun q => hnU _ q rfl) hl₂⟩ (hnU _ (.inl rfl)) (hnU _ (.inr rfl)) hp₃)
end
theorem init_ok (w : World) (d : Nat) (X Dx G T : Addr) (g : List Nat) : EffFn (KF w.params) PG w (d + 1) 28 [.ref X, .ref T] .none (BU Dx G) (LexB X Dx G g []) (fun F s => ∃ Pb, F Pb = none ∧ LstAt s.heap Pb [] ∧ G ≠ Pb ∧ Dx ≠ Pb ∧ LexB X Dx G g [("pushback", .ref Pb), ("whitespace", .str "\n\t\x0d "), ("instream", .ref T), ("lineno", .int 1)] F s) := by
  refine EffFn.of_bodyE (hP := LexB.held) (d := d) (o := ob28 w.params) (names := [Str.ofString "self", Str.ofString "fp"]) (by kernel_rfl) rfl rfl rfl (by kernel_rfl) (by kernel_rfl) (by kernel_rfl) (bind2 fun _ _ => rfl) (by decide +kernel) (by decide +kernel) (by decide +kernel) rfl rfl rfl (fun A Lc hr => ?_)
  refine Runs.storeA rfl rfl Ev.int (Ev.name rfl rfl rfl) (own_lineno _) obj_lineno (by decide) ?_ rfl
  refine Runs.storeA rfl rfl (Ev.name rfl rfl rfl) (Ev.name rfl rfl rfl) (own_instream _) obj_instream (by decide) ?_ rfl
  refine Runs.storeA rfl rfl Ev.str (Ev.name rfl rfl rfl) (own_whitespace _) obj_whitespace (by decide) ?_ rfl
  refine Runs.storeL rfl rfl (Ev.name rfl rfl rfl) (own_pushback _) obj_pushback (by decide) (fun F s Pb h1 h2 h3 h4 h5 => ⟨by unfold VR; rfl, Pb, h1, h2, h3, h4, h5⟩) rfl
end Mine
end
section
open PySem PySem.W PyProof.Rows
namespace Mine
section
open Builtin Builtin.ObjectAttr
variable {prog : Program} {w : World} {A : Around} {E : Value → Shared → Prop} {h : Heap} {g : Array GenState} {d : Drawn} {t : Nat} {os : OsState}
set_option maxHeartbeats 2000000 in
theorem fn_store {T : Addr} {fd : FuncData} {sl : Array (Option Value)} {v : Value} {Q : Unit → Shared → Prop}
    (hT : h.get? T = some { cls := .type "function", data := .func fd, slots := sl })
    (hq : ∀ (h' : Heap) (tk : Nat) (Dt : Addr) (oD : Obj), h.get? Dt = none → h'.get? Dt = some oD → (∀ h'' : Heap, h''.get? Dt = some oD → h''.Ns Dt (fun x => if x = Str.ofString "read" then some v else none)) →
      h'.get? T = some { cls := .type "function", dict := some Dt, data := .func fd, slots := sl } → (∀ b o, b ≠ T → h.get? b = some o → h'.get? b = some o) → Q () ⟨h', g, d, tk, os⟩) :
    wpAny (model prog w) A (setAttr (.ref T) "read" v) Q E ⟨h, g, d, t, os⟩ := by
  unfold setAttr
  refine wpAny_bind (wpAny_mkText ?_)
  refine wpAny_bind (wpAny_callSpecial?_slot (name := Str.ofString "__setattr__") ⟨_, hT, rfl⟩ slot_fn_sa (wpAny_call_entry slot_fn_sa ⟨_, hT, rfl⟩ PySem.F.entry_object_setattr ?_ (PySem.F.args_object_setattr_3 _ _ _)))
  unfold Builtin.«object.__setattr__»
  repeat (first | (with_reducible refine wpAny_loadPart_at hT ?_) | (with_reducible refine wpAny_nsSet1 (m := fun _ => none) ?hns (fun h' hn hs => ?set)) | (rw [fn_read]) | wp_step)
  case hns => exact Heap.Ns1.of_empty ((Heap.Ns.new h (.type "dict")).sameBut (Heap.SameBut.update ..) (Nat.ne_of_gt (Heap.lt_size hT)))
  case set =>
    obtain ⟨oD, esD, epD, hoD, hdD, hcD⟩ := hn.count (Within.cons (Str.ofString "read") v Within.nil)
    refine wpAny_bind (wpAny_lookBehind hoD (by rw [hdD]; exact pastItsLine_dict (Nat.le_trans hcD (by rw [List.length_cons, List.length_nil, sizeLine_eq]; lia))) ?_)
    refine wpAny_pure ⟨_, rfl, ?_⟩
    repeat wp_step
    have hTD : T ≠ h.objs.size := Nat.ne_of_lt (Heap.lt_size hT)
    obtain ⟨o', es', ep', ho', hd', hk', hu', hf'⟩ := hn
    have e0 : o' = oD := by
      have z : some o' = some oD := ho'.symm.trans hoD
      exact Option.some.inj z
    subst e0
    refine hq h' _ h.objs.size o' (dead_of (s := ⟨h, g, d, t, os⟩) (Nat.le_refl _)) hoD (fun h'' q => ⟨o', es', ep', q, hd', hk', hf'⟩) ?_ (fun b o hb e => ?_)
    · refine (hs.2 T hTD).trans ?_
      exact Heap.get?_update_self _ (Heap.get?_push_of_some _ hT) rfl
    · have hbD : b ≠ h.objs.size := Nat.ne_of_lt (Heap.lt_size e)
      refine (hs.2 b hbD).trans ?_
      exact (Heap.get?_update_other _ _ (Ne.symm hb)).trans (Heap.get?_push_of_some _ e)
end
theorem code140 (P : Params) : (KF P).lookup 140 = some (ob140 P) := by kernel_rfl
theorem ns3 (P : Params) : strNsIn (KF P) mainGlobals = true := by kernel_rfl
theorem bi3 (P : Params) : nsIn (KF P) mainGlobals "__builtins__" = some (some (.ref 4)) := by kernel_rfl
theorem lam_eval {c : Cx} {ρ : List (Str × SV)} {F : PM} {s : Shared} {ps : Array Value} {params : Arguments} {body : Expr} {scope : Scope} {pos : Pos} {clos : List (Str × Addr)} {Q : Value → Shared → Prop} {E : Value → Shared → Prop}
    (hK : c.K = KF c.w.params) (h : Fm c ρ F s) (hge : c.env.globals = mainGlobals) (hcode : c.env.code = .ref 140) (h136 : F 136 = none) (ht : s.heap.get? 136 = some (tabObj ps)) (hT : TriplesOk ps.toList) (hnf : codeAmong pos ps.toList = none)
    (hdef : defaultsOf params c.env = ([], [])) (hcl : closureFor scope c.env = Pure.pure clos)
    (hQ : ∀ f cc oc ct pm h' tk, (∀ b o, b ≠ 136 → s.heap.get? b = some o → h'.get? b = some o) → s.heap.get? f = none → s.heap.get? cc = none → f ≠ cc → f ≠ 136 → cc ≠ 136 → h'.get? f = some (kla_obj "<lambda>" (c.env.qual ++ "<lambda>") params body scope clos pm cc ct) → h'.get? cc = some oc →
      (∀ h'' : Heap, h''.get? cc = some oc → h''.CodeRec (.ref cc) (c.env.qual ++ "<lambda>")) → h'.get? 136 = some (tabObj (ps ++ #[rawInt pos.line, rawInt pos.col, .ref cc])) → Q (.ref f) { s with heap := h', toks := tk }) : wpAny (model c.prog c.w) c.A (eval (.Lambda params body scope pos) c.env) Q E s := by
  refine kla_eval hdef ?_
  have X := inK (K := KF c.w.params) h.st.sub (fun a o q => h.st.base a o (by rw [hK]; exact q))
  obtain ⟨mg, hg, hmg⟩ := ns_of_strNs X (ns3 _)
  refine kla_makeFunction (c := 140) (P := 136) (ps := ps) hcl hge hg hcode ⟨_, _, _, _, _, _, _, _, _, X _ _ (code140 _), rfl, rfl, rfl, rfl, rfl, rfl, rfl, rfl, by decide⟩ ht hT hnf (by decide) ⟨4, boot_o_4 c.w.params, hmg _ _ (bi3 _), by decide, by decide, by decide, X _ _ (by kernel_rfl), rfl, rfl, rfl⟩ fun cc ct h' tk hx hge' hlt hrec htb => ?_
  obtain ⟨c₂, oc, vs, t, e2, hoc, hd, hv⟩ := hrec
  cases e2
  have h136lt : 136 < s.heap.objs.size := Heap.lt_size ht
  refine hQ h'.objs.size cc oc ct _ _ tk (fun b o hb e => Heap.get?_push_of_some _ (hx b o hb e)) (dead_of (Nat.le_trans hge' (Nat.le_of_lt hlt))) (dead_of hge') (Nat.ne_of_gt hlt) (Nat.ne_of_gt (Nat.lt_trans (Nat.lt_of_lt_of_le h136lt hge') hlt)) (Nat.ne_of_gt (Nat.lt_of_lt_of_le h136lt hge')) (Heap.get?_push_size _ rfl) (Heap.get?_push_of_some _ hoc) (fun h'' q => ⟨cc, oc, vs, t, rfl, q, hd, hv⟩) (Heap.get?_push_of_some _ htb)
end Mine
end
section
open PySem PySem.W PyProof.Rows
namespace Mine
theorem enterC {K : Frag} {prog : Program} {w : World} {d : Nat} {f : Addr} {o : Obj} {fd : FuncData} {body : List Stmt} {names own : List Str} {args : List SV} {A : Around} {F : PM} {s : Shared} {vals : List Value} {Q : Value → Shared → Prop} {E : Value → Shared → Prop}
    (hr : Room A (d + 1)) (hsub : Sub F s.heap.get?) (hbase : ∀ a o, K.lookup a = some o → F a = some o) (hv : VRs F args vals)
    (hK : K.lookup f = some o) (hd : o.data = .func fd) (hb : fd.body = .stmts body) (hcl : fd.closure = []) (hcode : codeIn K fd.code fd.qualname = true)
    (hs : strNsIn K cStatics = true) (hnl : nsIn K cStatics "sys.recursionlimit" = some Option.none)
    (hbind : bindArgs fd ⟨vals, []⟩ = pure (names.zip vals)) (hnd : (names.map id).Nodup)
    (hloc : ∀ x ∈ names, fd.scope.names.lookup x = some .local ∨ (fd.scope.names.lookup x = some .cell ∧ (x == ("__classdict__" : Str)) = false)) (hown : ∀ x ∈ own, (x, NameKind.cell) ∈ fd.scope.names ∧ fd.scope.names.lookup x = some .cell ∧ (x == ("__classdict__" : Str)) = false)
    (hco : fd.scope.isCoroutine = false) (hgen : fd.scope.isGenerator = false) (hk : fd.scope.kind = .function)
    (hrun : ∀ (L : Addr) (s₁ : Shared) (E' : Value → Shared → Prop), Room (A.deeper (callEnvC fd L f)) d → Fm ⟨K, prog, w, A.deeper (callEnvC fd L f), callEnvC fd L f, own⟩ (names.zip args) F s₁ → Ext F s F s₁ →
      (∀ a, Rel ⟨K, prog, w, A.deeper (callEnvC fd L f), callEnvC fd L f, own⟩ a → s.heap.get? a = none) →
      wpAny (model prog w) (A.deeper (callEnvC fd L f)) (execs body (callEnvC fd L f)) (fun fl s' => Q (match fl with | .ret v => v | _ => .none) s') E' s₁) : wpAny (model prog w) A (PySem.call (.ref f) vals) Q E s := by
  have X : K.In s.heap := fun a o e => hsub _ _ (hbase a o e)
  have hroom : Room (A.deeper (callEnvC fd s.heap.objs.size f)) d := hr.deeper
  have hcells : ∀ x, fd.scope.names.lookup x = some .cell → ((cellsFrom (s.heap.objs.size + 1) fd.scope.names []).lookup x).isSome = true := fun x hx => cellsFrom_has _ _ _ _ (.inl (mem_of_lookup hx))
  refine wpAny_call (codeAny_call_cells (binds := names.zip vals) (by have := hr.depth; lia) (X _ _ hK) hd (noLimit_of X hs hnl) (codeRec_of X hcode) hb hbind hcl
    (fun x hx => (hloc _ (List.of_mem_zip (l₁ := names) (l₂ := vals) (a := x.1) (b := x.2) hx).1).imp id fun q => ⟨q.1, hcells _ q.1⟩) (fun s₁ hin => ?_) hco hgen hk)
  generalize hL : s.heap.objs.size = L at *
  have dead : ∀ a, L ≤ a → s.heap.get? a = none := fun a ha => dead_of (by rw [hL]; exact ha)
  have dry : ∀ a, L ≤ a → F a = none := fun a ha => dryF hsub (by rw [hL]; exact ha)
  obtain ⟨⟨hsame, hns, hkeep, hfresh⟩, hcell, hapart, habove⟩ := hin
  have hLc : ∀ n a, (callEnvC fd L f).cells.lookup n = some a → L ≤ a := fun n a h => Nat.le_of_lt (habove n a (mem_of_lookup h))
  have hrel : ∀ a, Rel ⟨K, prog, w, A.deeper (callEnvC fd L f), callEnvC fd L f, own⟩ a → L ≤ a := fun a ha => by
    rcases ha with rfl | ⟨n, hn⟩
    · exact Nat.le_refl _
    · exact hLc n a hn
  have hcl' : ∀ n ∈ own, ∃ a, (callEnvC fd L f).cells.lookup n = some a := fun n hn => Option.isSome_iff_exists.mp (cellsFrom_has _ _ _ _ (.inl (hown n hn).1))
  have e₀ : Ext F s F s₁ := ⟨Sub.refl _, fun a o e => hkeep _ _ (hsub a o e), hkeep, fun a o e => .inl e, hsame⟩
  refine wpAny_mono (hrun L s₁ _ hroom ⟨⟨fun a o e => hkeep _ _ (hsub a o e), hbase, fun x sv hx => ?_⟩, ⟨_, hns⟩, fun a ha => dry a (hrel a ha.rel), fun n hn m a h1 h2 => name_of_addr hapart (mem_of_lookup h2) (mem_of_lookup h1), fun n a hn => ?_, fun n hn => ?_⟩ e₀ fun a ha => dead a (hrel a ha)) (fun fl s' h => h) fun _ _ h => h
  · obtain ⟨v, hl, hv⟩ := zip_has hv hx
    have hm : x ∈ names := (List.of_mem_zip (mem_of_lookup hl)).1
    rcases hloc x hm with hk' | ⟨hk', hcd⟩
    · exact .inl ⟨hk', _, v, hns, bindL_get hk' _ _ (zip_keys _ _ hnd) hl, hv⟩
    · obtain ⟨a, ha⟩ := Option.isSome_iff_exists.mp (hcells x hk')
      refine .inr ⟨.inl hk', hcd, a, v, ha, ?_, hv⟩
      have := hcell x a ha
      rw [bindC_get (kindOf := (callEnvC fd L f).kindOf) (x := x) (by rw [show (callEnvC fd L f).kindOf x = some .cell from hk']; decide) _ _ (zip_keys _ _ hnd) hl] at this
      exact this
  · obtain ⟨o, ho, _⟩ := hcell n a hn
    exact ⟨o, ho⟩
  · obtain ⟨a, ha⟩ := hcl' n hn
    exact ⟨(hown n hn).2.1, (hown n hn).2.2, a, _, ha, hcell n a ha⟩
theorem signs_vr {F : PM} : ∀ (g : List Nat) (vs : List Value), vs.length = g.length → (∀ (i : Nat) (v : Value), vs[i]? = some v → ∃ (c : Nat) (u : Tok), g[i]? = some c ∧ v = Value.str ⟨#[c]⟩ u) → VRs F (g.map fun c => SV.str (chS c)) vs
  | [], [], _, _ => by unfold VRs; rfl
  | [], _ :: _, h, _ => by simp at h
  | _ :: _, [], h, _ => by simp at h
  | c :: g, v :: vs, h, hi => by
    rw [List.map_cons]
    unfold VRs
    obtain ⟨c', u, e1, e2⟩ := hi 0 v rfl
    cases e1
    exact ⟨v, vs, rfl, by unfold VR; exact ⟨u, e2⟩, signs_vr g vs (by simpa using h) fun i x hx => hi (i + 1) x hx⟩
theorem ExtV.put {V : Addr → Prop} {F F' : PM} {s s' : Shared} (x : ExtV V F s F' s') {D : Addr} {o : Obj} (h0 : s.heap.get? D = none ∨ V D) (h1 : F' D = none) (h2 : s'.heap.get? D = some o) : ExtV V F s (put F' D o) s' := by
  refine ⟨x.sub.trans (put_sub h1), fun a o' q => ?_, x.keep, fun a o' q => ?_, x.rest⟩
  · unfold Mine.put at q
    by_cases e : a = D
    · subst e; rw [if_pos rfl] at q; cases q; exact h2
    · rw [if_neg e] at q; exact x.inn a o' q
  · unfold Mine.put at q
    by_cases e : a = D
    · subst e; exact .inr h0
    · rw [if_neg e] at q; exact x.new a o' q
end Mine
end
section
open PySem PySem.W PyProof.Rows
namespace Mine
theorem keep52 (P : Params) : keepIn (KF P) (.ref 52) = true := by kernel_rfl
theorem clos_of {env : Env} {cG : Addr} (h : env.cells.lookup (Str.ofString "signs") = some cG) : closureFor lam1.2.2.1 env = pure [(Str.ofString "signs", cG)] := by
  have e : cellOf env (Str.ofString "signs") = pure cG := by unfold cellOf; rw [h]
  unfold closureFor
  rw [lam1_names]
  simp only [List.forIn_cons, List.forIn_nil, e, pure_bind, show (NameKind.local == NameKind.free) = false from by decide, show (NameKind.free == NameKind.free) = true from by decide, Bool.false_eq_true, if_true, if_false]
theorem roomT {A : Around} {d : Nat} {C T : Addr} (h : Room A (d + 1)) : Room (A.under (.builtin "type.__call__" ⟨[.ref C, .ref T], []⟩)) d := by
  have h1 : (Code.builtin "type.__call__" ⟨[.ref C, .ref T], []⟩).weight = 1 := by kernel_rfl
  have h2 : (Code.builtin "type.__call__" ⟨[.ref C, .ref T], []⟩).cUnits = 1 := by kernel_rfl
  refine ⟨?_, ?_, h.handled⟩
  · have := h.depth
    show A.depth + (Code.builtin "type.__call__" ⟨[.ref C, .ref T], []⟩).weight + d < _
    rw [h1]; lia
  · have := h.units
    show A.units + (Code.builtin "type.__call__" ⟨[.ref C, .ref T], []⟩).cUnits + 8 * d + 100 < _
    rw [h2]; lia
theorem strs_vr {F Fp : PM} : ∀ (g : List Nat) (vs : List Value), VRs F (g.map fun c => SV.str (chS c)) vs → VRs Fp (g.map fun c => SV.str (chS c)) vs
  | [], vs, h => by unfold List.map VRs at h ⊢; exact h
  | c :: g, vs, h => by
    rw [List.map_cons] at h ⊢
    unfold VRs at h ⊢
    obtain ⟨v, r, e, hv, hr⟩ := h
    exact ⟨v, r, e, by unfold VR at hv ⊢; exact hv, strs_vr g r hr⟩
theorem LexB.plain {X Dx G : Addr} {g : List Nat} {vals : List (Str × SV)} {F Fp : PM} {s : Shared} (h : LexB X Dx G g vals F s) (hv : ∀ n sv, vals.lookup n = some sv → ∀ v, VR F sv v → VR Fp sv v) (hX : ∃ o, Fp X = some o ∧ o.cls = .ref 52 ∧ (∀ c, o.data ≠ .cls c) ∧ o.dict = some Dx) (hG : Fp G = none) (hD : Fp Dx = none) : LexB X Dx G g vals Fp s := by
  obtain ⟨vs, g1, g2⟩ := h.sg
  obtain ⟨mA, n1, n2, n3⟩ := h.ns
  refine ⟨hX, h.neX, h.neGD, hG, hD, ⟨vs, g1, strs_vr g vs g2⟩, ⟨mA, n1, n2, fun n sv q => ?_⟩⟩
  obtain ⟨v, q1, q2⟩ := n3 n sv q
  exact ⟨v, q1, hv n sv q v q2⟩
theorem Ext.dry {F F' : PM} {s s' : Shared} {a : Addr} {o : Obj} (x : Ext F s F' s') (h : F a = none) (ho : s.heap.get? a = some o) : F' a = none := by
  cases q : F' a with
  | none => rfl
  | some o' =>
    rcases x.new a o' q with z | z
    · rw [h] at z; cases z
    · rw [ho] at z; cases z
theorem ExtV.dry {V : Addr → Prop} {F F' : PM} {s s' : Shared} {a : Addr} {o : Obj} (x : ExtV V F s F' s') (h : F a = none) (ho : s.heap.get? a = some o) (hv : ¬ V a) : F' a = none := by
  cases q : F' a with
  | none => rfl
  | some o' =>
    rcases x.new a o' q with z | z | z
    · rw [h] at z; cases z
    · rw [ho] at z; cases z
    · exact absurd z hv
theorem ExtV.put' {V : Addr → Prop} {F F' : PM} {s s' : Shared} (x : ExtV V F s F' s') {D : Addr} {o : Obj} (h0 : s.heap.get? D = none ∨ V D) (h1 : F' D = none) (h2 : s'.heap.get? D = some o) : ∃ Fx, ExtV V F s Fx s' ∧ Fx D = some o ∧ ∀ z, z ≠ D → Fx z = F' z :=
  ⟨_, x.put h0 h1 h2, put_self _ _ _, fun z hz => by unfold Mine.put; rw [if_neg hz]⟩
theorem put_ne {F : PM} {D a : Addr} {o : Obj} (h : a ≠ D) : put F D o a = F a := by unfold put; rw [if_neg h]
theorem law_lexer_ok {w : World} {d : Nat} {g : List Nat} {A : Around} {F : PM} {s : Shared} {vals : List Value} {Q : Value → Shared → Prop} {E : Value → Shared → Prop} (hg : g.length ≤ 1000)
    (hr : Room A (d + 3)) (hsub : Sub F s.heap.get?) (hbase : ∀ a o, (KF w.params).lookup a = some o → F a = some o) (hv : VRs F [.str (mkS g)] vals) (h136 : F 136 = none) (ht : s.heap.get? 136 = some (tabObj #[]))
    (hQ : ∀ L F' s', ExtV (fun a => a = 136) F s F' s' → LexP L g 1 [] F' s' → (∀ a, LexU L a → s.heap.get? a = none) → F' 136 = none → (∃ ps, s'.heap.get? 136 = some (tabObj ps)) → Q (.ref L.X) s') :
    wpAny (model PG w) A (PySem.call (.ref 141) vals) Q E s := by
  refine enterC (names := [Str.ofString "text"]) (own := [Str.ofString "signs"]) (o := ob141 w.params) hr hsub hbase hv (by kernel_rfl) rfl rfl rfl (by kernel_rfl) (by kernel_rfl) (by kernel_rfl) (bind1 (fun _ => rfl) F vals hv) (by decide +kernel) (by decide +kernel) (by decide +kernel) rfl rfl rfl (fun Lc s₁ E' hroom hf e₀ hrel => ?_)
  refine wpAny_execs_cons (wpAny_Assign_Name (wpAny_Call_Name_kw ((Ev.tyin (t := "list") rfl rfl rfl rfl (by kernel_rfl) (by kernel_rfl) rfl).run F s₁ _ _ hf.st fun v F₂ s₂ x₂ hv₂ => ?_)) rfl)
  cases ty_val _ _ hv₂
  refine callWith_machine rfl (plain_any rfl) (evalArgs_of (fun _ => plain_any rfl) ((Evs.co rfl (Ev.name (sv := .str (mkS g)) rfl rfl rfl) Evs.nil).run F₂ s₂ _ _ _ (hf.ext x₂).st fun vs F₃ s₃ x₃ hvs => ?_))
  unfold VRs VRs at hvs
  obtain ⟨v, r, rfl, hv₃, rfl⟩ := hvs
  unfold VR at hv₃
  obtain ⟨u, rfl⟩ := hv₃
  refine call_list_str hroom.handled (mkS g) u (fun h₄ tk₄ acc cc₄ hk₄ hG hacc => ?_) (by show g.toArray.size ≤ _; rw [List.size_toArray]; exact Nat.le_trans hg (by decide))
  have h13 : Ext F s₁ F₃ s₃ := x₂.trans x₃
  have nrel : ∀ a, s₃.heap.get? a = none → ¬ Rel (⟨KF w.params, PG, w, A.deeper (callEnvC _ Lc 141), callEnvC _ Lc 141, [Str.ofString "signs"]⟩ : Cx) a := fun a ha hr => by
    obtain ⟨o, ho⟩ := hf.live hr
    rw [h13.keep _ _ ho] at ha; cases ha
  have dG : s₃.heap.get? s₃.heap.objs.size = none := dead_of (Nat.le_refl _)
  have fG : F₃ s₃.heap.objs.size = none := dryF x₃.inn (Nat.le_refl _)
  have x₄ : Ext F₃ s₃ F₃ { s₃ with heap := h₄, toks := tk₄ } := Ext.made x₃.inn hk₄
  generalize s₃.heap.objs.size = G at *
  have hf₄ := ((hf.ext x₂).ext x₃).ext x₄
  have nG := nrel G dG
  have lG : LstAt h₄ G acc.toList := ⟨cc₄, by rw [Array.toArray_toList]; exact hG⟩
  have vG : VRs F₃ (g.map fun c => SV.str (chS c)) acc.toList := signs_vr g _ (by rw [Array.length_toList, hacc.1]; simp [mkS]) fun i v hi => by
    obtain ⟨c, u, e1, e2⟩ := hacc.2 i v (by rw [← Array.getElem?_toList]; exact hi)
    exact ⟨c, u, by simpa [mkS] using e1, e2⟩
  obtain ⟨_, _, cG, v0, hcG, _⟩ := hf.cell (Str.ofString "signs") (List.mem_singleton.mpr rfl)
  have aR : Rel (⟨KF w.params, PG, w, A.deeper (callEnvC _ Lc 141), callEnvC _ Lc 141, [Str.ofString "signs"]⟩ : Cx) cG := .inr ⟨_, hcG⟩
  refine hf₄.storeX rfl (.inr (List.mem_singleton.mpr rfl)) (sv := .ref G) (by unfold VR; rfl) fun s₅ hf₅ e₅ => ?_
  have a136 : ∀ a, a = 136 → ¬ Rel (⟨KF w.params, PG, w, A.deeper (callEnvC _ Lc 141), callEnvC _ Lc 141, [Str.ofString "signs"]⟩ : Cx) a := fun a e hr => by
    have := hrel a hr
    rw [e, ht] at this; cases this
  have t1 := e₀.keep _ _ ht
  have t3 := h13.keep _ _ t1
  have d3 : F₃ 136 = none := h13.dry h136 t1
  have t4 := x₄.keep _ _ t3
  have t5 : s₅.heap.get? 136 = some (tabObj #[]) := e₅.keep _ _ (fun q => a136 _ rfl q.rel) t4
  have G5 : s₅.heap.get? G = _ := e₅.keep _ _ (fun q => nG q.rel) (show Heap.get? _ G = _ from hG)
  have n136G : G ≠ 136 := fun e => by rw [e, t3] at dG; cases dG
  refine wpAny_execs_cons (wpAny_Assign_Name (lam_eval (ps := #[]) rfl hf₅ rfl rfl d3 t5 trivial rfl rfl rfl fun T cc0 oc0 ct0 pm0 h₆ tk₆ k₆ dT dcc0 nT0 nT6 nc6 hT hcc0 hcr0 htab => ?_) rfl)
  have x₆ : ExtV (fun a => a = 136) F₃ s₅ F₃ { s₅ with heap := h₆, toks := tk₆ } := ⟨Sub.refl _, fun a o q => k₆ a o (fun e => by rw [e, d3] at q; cases q) (hf₅.st.sub a o q), fun a o n q => k₆ a o n q, fun a o q => .inl q, ⟨_, _, rfl⟩⟩
  have hf₆ := hf₅.extV x₆ a136
  refine hf₆.storeX rfl (.inl rfl) (sv := .ref T) (by unfold VR; rfl) fun s₇ hf₇ e₇ => ?_
  have nT : ∀ a, a = T → ¬ Rel (⟨KF w.params, PG, w, A.deeper (callEnvC _ Lc 141), callEnvC _ Lc 141, [Str.ofString "signs"]⟩ : Cx) a := fun a e hr => by
    obtain ⟨o, ho⟩ := hf₅.live hr
    rw [e, dT] at ho; cases ho
  have T7 : s₇.heap.get? T = _ := e₇.keep _ _ (fun q => nT _ rfl q.rel) (show Heap.get? _ T = _ from hT)
  have t7 : s₇.heap.get? 136 = _ := e₇.keep _ _ (fun q => a136 _ rfl q.rel) (show Heap.get? _ 136 = _ from htab)
  have nTG : G ≠ T := fun e => by rw [e, dT] at G5; cases G5
  have G7 : s₇.heap.get? G = _ := e₇.keep _ _ (fun q => nG q.rel) (x₆.keep _ _ n136G G5)
  have fT : F₃ T = none := by
    cases q : F₃ T with
    | none => rfl
    | some o => have := hf₅.st.sub _ _ q; rw [dT] at this; cases this
  refine wpAny_execs_cons (plainObj_wpAny_Assign_Attribute (lam_eval (clos := [(Str.ofString "signs", cG)]) rfl hf₇ rfl rfl d3 t7 trivial rfl rfl ?_ fun R cc oc ct pm h₈ tk₈ k₈ dR dcc nR nR6 nc6' hR hcc hcr htab₈ => ?_) rfl)
  · exact clos_of hcG
  have x₈ : ExtV (fun a => a = 136) F₃ s₇ F₃ { s₇ with heap := h₈, toks := tk₈ } := ⟨Sub.refl _, fun a o q => k₈ a o (fun e => by rw [e, d3] at q; cases q) (hf₇.st.sub a o q), fun a o n q => k₈ a o n q, fun a o q => .inl q, ⟨_, _, rfl⟩⟩
  have hf₈ := hf₇.extV x₈ a136
  refine (Ev.name (sv := .ref T) rfl rfl rfl).run F₃ _ _ _ hf₈.st fun v₉ F₉ s₉ x₉ hv₉ => ?_
  unfold VR at hv₉
  subst hv₉
  have T9 : s₉.heap.get? T = _ := x₉.keep _ _ (x₈.keep _ _ nT6 T7)
  have fT9 : F₉ T = none := x₉.dry fT (x₈.keep _ _ nT6 T7)
  have R9 : s₉.heap.get? R = _ := x₉.keep _ _ (show Heap.get? _ R = _ from hR)
  have c9 : s₉.heap.get? cc = _ := x₉.keep _ _ (show Heap.get? _ cc = _ from hcc)
  have dry7 : ∀ a, s₇.heap.get? a = none → F₃ a = none := fun a q => by
    cases z : F₃ a with
    | none => rfl
    | some o => have := hf₇.st.sub _ _ z; rw [q] at this; cases this
  have fR9 : F₉ R = none := x₉.dry (dry7 _ dR) (show Heap.get? _ R = _ from hR)
  have fc9 : F₉ cc = none := x₉.dry (dry7 _ dcc) (show Heap.get? _ cc = _ from hcc)
  have G9 : s₉.heap.get? G = _ := x₉.keep _ _ (x₈.keep _ _ n136G G7)
  have t9 : s₉.heap.get? 136 = _ := x₉.keep _ _ (show Heap.get? _ 136 = _ from htab₈)
  have d9 : F₉ 136 = none := x₉.dry d3 (show Heap.get? _ 136 = _ from htab₈)
  have fG7 : F₉ G = none := x₉.dry fG (x₈.keep _ _ n136G G7)
  have nRT : R ≠ T := fun e => by rw [e] at dR; rw [dR] at T7; cases T7
  have ncT : cc ≠ T := fun e => by rw [e] at dcc; rw [dcc] at T7; cases T7
  have x79 : ExtV (fun a => a = 136) F₃ s₇ F₉ s₉ := x₈.trans x₉.v
  obtain ⟨hh₉, gg₉, dd₉, tt₉, os₉⟩ := s₉
  refine fn_store T9 fun h₁₀ tk₁₀ Dt oD dDt hDt hNs hT' k₁₀ => ?_
  have x₁₀ : ExtV (fun a => a = 136 ∨ a = T) F₃ s₇ F₉ ⟨h₁₀, gg₉, dd₉, tk₁₀, os₉⟩ :=
    (x79.mono fun a q => .inl q).trans (⟨Sub.refl _, fun a o q => k₁₀ a o (fun e => by rw [e, fT9] at q; cases q) (x₉.inn a o q), fun a o n q => k₁₀ a o (fun e => n (.inr e)) q, fun a o q => .inl q, ⟨_, _, rfl⟩⟩ : ExtV (fun a => a = 136 ∨ a = T) F₉ ⟨hh₉, gg₉, dd₉, tt₉, os₉⟩ F₉ ⟨h₁₀, gg₉, dd₉, tk₁₀, os₉⟩)
  have dDt7 : s₇.heap.get? Dt = none := by
    cases q : s₇.heap.get? Dt with
    | none => rfl
    | some o =>
      by_cases e : Dt = 136
      · rw [e] at dDt; rw [show Heap.get? hh₉ 136 = _ from t9] at dDt; cases dDt
      · have := x79.keep _ _ e q; rw [show Heap.get? _ Dt = none from dDt] at this; cases this
  have fDt : F₉ Dt = none := by
    cases q : F₉ Dt with
    | none => rfl
    | some o => have := x₉.inn _ _ q; rw [show Heap.get? _ Dt = none from dDt] at this; cases this
  have nDtT : Dt ≠ T := fun e => by rw [e] at dDt; rw [show Heap.get? hh₉ T = _ from T9] at dDt; cases dDt
  have nDtR : Dt ≠ R := fun e => by rw [e] at dDt; rw [show Heap.get? hh₉ R = _ from R9] at dDt; cases dDt
  have nDtc : Dt ≠ cc := fun e => by rw [e] at dDt; rw [show Heap.get? hh₉ cc = _ from c9] at dDt; cases dDt
  have nDtG : Dt ≠ G := fun e => by rw [e] at dDt; rw [show Heap.get? hh₉ G = _ from G9] at dDt; cases dDt
  have nDt6 : Dt ≠ 136 := fun e => by rw [e] at dDt; rw [show Heap.get? hh₉ 136 = _ from t9] at dDt; cases dDt
  have nRG : R ≠ G := fun e => by rw [e] at dR; rw [dR] at G7; cases G7
  have ncG : cc ≠ G := fun e => by rw [e] at dcc; rw [dcc] at G7; cases G7
  obtain ⟨Fa, p₁, qa, ra⟩ := x₁₀.put' (D := Dt) (.inl dDt7) fDt hDt
  obtain ⟨Fb, p₂, qb, rb⟩ := p₁.put' (D := T) (.inr (.inr rfl)) ((ra _ nDtT.symm).trans fT9) hT'
  obtain ⟨Fc, p₃, qc', rc⟩ := p₂.put' (D := R) (.inl dR) ((rb _ nRT).trans ((ra _ nDtR.symm).trans fR9)) (k₁₀ _ _ nRT R9)
  obtain ⟨Fd, p₄, qc, rd⟩ := p₃.put' (D := cc) (.inl dcc) ((rc _ (Ne.symm nR)).trans ((rb _ ncT).trans ((ra _ nDtc.symm).trans fc9))) (k₁₀ _ _ ncT c9)
  have qD : Fd Dt = some oD := (rd _ nDtc).trans ((rc _ nDtR).trans ((rb _ nDtT).trans qa))
  have qT := (rd _ ncT.symm).trans ((rc _ nRT.symm).trans qb)
  have qR := (rd _ nR).trans qc'
  have qG : Fd G = none := (rd _ ncG.symm).trans ((rc _ nRG.symm).trans ((rb _ nTG).trans ((ra _ nDtG.symm).trans fG7)))
  have q6 : Fd 136 = none := (rd _ nc6'.symm).trans ((rc _ nR6.symm).trans ((rb _ nT6.symm).trans ((ra _ nDt6.symm).trans d9)))
  have G10 := k₁₀ _ _ nTG G9
  have t10 := k₁₀ _ _ nT6.symm t9
  have hf₁₀ := hf₇.extV p₄ fun a ha => ha.elim (a136 a) (nT a)
  clear p₁ p₂ p₃ qa qb qc' ra rb rc rd x₁₀ k₁₀
  refine wpAny_execs_cons (wpAny_Return_some (wpAny_Call_Name_kw ((Ev.glob (a := 52) rfl rfl rfl (by kernel_rfl) rfl).run Fd _ _ _ hf₁₀.st fun v F₁₁ s₁₁ x₁₁ hv₁₁ => ?_)))
  unfold VR at hv₁₁
  subst hv₁₁
  refine callWith_of (P := (KF w.params).In) (by rw [plain_any rfl]; rfl) (keeps_K (keep52 _)) (evalArgs_of (fun _ => plain_any rfl) ((Evs.co rfl (Ev.name (sv := .ref T) rfl rfl rfl) Evs.nil).run F₁₁ s₁₁ _ _ _ (hf₁₀.ext x₁₁).st fun vs F₁₂ s₁₂ x₁₂ hvs => ?_))
  unfold VRs VRs VR at hvs
  obtain ⟨v, r, rfl, rfl, rfl⟩ := hvs
  have x012 := x₁₁.trans x₁₂
  have hf₁₂ := hf₁₀.ext x012
  have hb₁₂ : ∀ a o, (KF w.params).lookup a = some o → F₁₂ a = some o := hf₁₂.st.base
  have XK := inK (K := KF w.params) x₁₂.inn hb₁₂
  refine ⟨XK, ?_⟩
  obtain ⟨mN, hn, hN⟩ := ns51_of XK
  have G12 := x012.keep _ _ G10
  have t12 := x012.keep _ _ t10
  have fG12 := x012.dry qG G10
  have f612 := x012.dry q6 t10
  obtain ⟨hh, gg, dd, tt, os⟩ := s₁₂
  refine wpAny_call_obj_init (oI := ob28 w.params) PySem.F.objNew (XK _ _ (cls52 _)) hn (hN _ _ (own_init _)) (XK _ _ (by kernel_rfl)) rfl fun h₁₃ X Dx M => ?_
  have dX : hh.get? X = none := M.newX
  have dD : hh.get? Dx = none := M.newD
  obtain ⟨oX, iX1, iX2, iX3, iX4⟩ := M.inst
  have iX5 := M.dict oX iX1
  have nsD : Dx ≠ X ∧ h₁₃.Ns1 Dx fun _ => none := by
    rcases iX4 with ⟨z, _⟩ | ⟨d', z1, z2, z3⟩
    · rw [iX5] at z; cases z
    · rw [iX5] at z1; cases z1; exact ⟨z2, z3⟩
  have dryE : ∀ a, hh.get? a = none → F₁₂ a = none := fun a q => by
    cases z : F₁₂ a with
    | none => rfl
    | some o => have := x₁₂.inn _ _ z; rw [show Heap.get? _ a = none from q] at this; cases this
  have x₁₃ : Ext F₁₂ ⟨hh, gg, dd, tt, os⟩ F₁₂ ⟨h₁₃, gg, dd, tt, os⟩ := Ext.made (tk := tt) x₁₂.inn M.keeps
  obtain ⟨Fe, y₁₃, qX, rX⟩ := (x₁₃.v (V := fun _ => False)).put' (D := X) (.inl dX) (dryE _ dX) iX1
  have nGD : G ≠ Dx := fun e => by rw [e] at G12; rw [show Heap.get? hh Dx = _ from G12] at dD; cases dD
  have nGX : G ≠ X := fun e => by rw [e] at G12; rw [show Heap.get? hh X = _ from G12] at dX; cases dX
  have hB : LexB X Dx G g [] Fe ⟨h₁₃, gg, dd, tt, os⟩ := ⟨⟨oX, qX, iX2, iX3, iX5⟩, nsD.1, nGD, (rX _ nGX).trans fG12, (rX _ nsD.1).trans (dryE _ dD), ⟨_, ⟨_, M.keeps _ _ G12⟩, (vG.mono (p₄.sub.trans (x012.sub.trans y₁₃.sub)))⟩, ⟨_, nsD.2, fun n hn => absurd rfl hn, fun n sv q => by cases q⟩⟩
  have hb₁₃ : ∀ a o, (KF w.params).lookup a = some o → Fe a = some o := fun a o q => y₁₃.sub _ _ (hb₁₂ a o q)
  have nX6 : X ≠ 136 := fun e => by rw [e] at dX; rw [show Heap.get? hh 136 = _ from t12] at dX; cases dX
  have fe6 : Fe 136 = none := (rX _ nX6.symm).trans f612
  let Fs : PM := fun a => if a = G ∨ a = Dx ∨ a = 136 then none else h₁₃.get? a
  have subS : Sub Fe Fs := fun a o q => by
    show (if a = G ∨ a = Dx ∨ a = 136 then none else h₁₃.get? a) = some o
    rw [if_neg]
    · exact y₁₃.inn _ _ q
    · rintro (rfl | rfl | rfl)
      · rw [hB.dG] at q; cases q
      · rw [hB.dD] at q; cases q
      · rw [fe6] at q; cases q
  have innS : Sub Fs h₁₃.get? := fun a o q => by
    by_cases e : a = G ∨ a = Dx ∨ a = 136
    · rw [show Fs a = none from if_pos e] at q; cases q
    · rw [show Fs a = h₁₃.get? a from if_neg e] at q; exact q
  have hBs : LexB X Dx G g [] Fs ⟨h₁₃, gg, dd, tt, os⟩ := hB.plain (fun n sv q => by cases q) ⟨oX, subS _ _ qX, iX2, iX3, iX5⟩ (if_pos (.inl rfl)) (if_pos (.inr (.inl rfl)))
  refine wpAny_call (init_ok w d X Dx G T g _ Fs ⟨h₁₃, gg, dd, tt, os⟩ [.ref X, .ref T] _ _ (roomT hroom) innS (fun a o q => subS _ _ (hb₁₃ a o q)) (by unfold VRs VRs VRs; exact ⟨_, _, rfl, by unfold VR; rfl, _, _, rfl, by unfold VR; rfl, rfl⟩) hBs fun v Fz s' xz hP hv => ?_)
  unfold VR at hv
  subst hv
  refine ⟨rfl, ?_⟩
  obtain ⟨Pb, fPz, lP, nGP, nDP, hBz⟩ := hP
  have keepS : ∀ a o, ¬ BU Dx G a → h₁₃.get? a = some o → s'.heap.get? a = some o := fun a o n q => xz.keep a o n q
  have nBUe : ∀ a o, Fe a = some o → ¬ BU Dx G a := fun a o q n => by
    rcases n with rfl | rfl
    · rw [hB.dG] at q; cases q
    · rw [hB.dD] at q; cases q
  have x : ExtV (BU Dx G) Fe ⟨h₁₃, gg, dd, tt, os⟩ Fe s' := ⟨Sub.refl _, fun a o q => keepS a o (nBUe a o q) (y₁₃.inn _ _ q), fun a o n q => keepS a o n q, fun a o q => .inl q, xz.rest⟩
  have hB' : LexB X Dx G g [("pushback", .ref Pb), ("whitespace", .str "\n\t\x0d "), ("instream", .ref T), ("lineno", .int 1)] Fe s' := by
    refine hBz.plain (fun n sv q v hv => ?_) ⟨oX, qX, iX2, iX3, iX5⟩ hB.dG hB.dD
    have hm := mem_of_lookup q
    simp only [List.mem_cons, List.not_mem_nil, or_false, Prod.mk.injEq] at hm
    rcases hm with ⟨rfl, rfl⟩ | ⟨rfl, rfl⟩ | ⟨rfl, rfl⟩ | ⟨rfl, rfl⟩ <;> (unfold VR at hv ⊢; exact hv)
  have nD6 : Dx ≠ 136 := fun e => by rw [e] at dD; rw [show Heap.get? hh 136 = _ from t12] at dD; cases dD
  have t13 := M.keeps _ _ t12
  have nU6 : ¬ BU Dx G 136 := fun q => q.elim (fun e => n136G e.symm) fun e => nD6 e.symm
  have t14 := x.keep _ _ nU6 t13
  have dP13 : h₁₃.get? Pb = none := by
    cases q : h₁₃.get? Pb with
    | none => rfl
    | some o =>
      have nP6 : Pb ≠ 136 := fun e => by
        obtain ⟨n, lP'⟩ := lP
        rw [e] at lP'
        have z := (show Heap.get? s'.heap 136 = _ from t14).symm.trans lP'
        cases z
      have z : Fs Pb = some o := (if_neg fun e => e.elim (fun e => nGP e.symm) fun e => e.elim (fun e => nDP e.symm) nP6).trans q
      rw [xz.sub _ _ z] at fPz; cases fPz
  have fP : Fe Pb = none := by
    cases q : Fe Pb with
    | none => rfl
    | some o => have := y₁₃.inn _ _ q; rw [show Heap.get? _ Pb = none from dP13] at this; cases this
  show Q (.ref X) s'
  obtain ⟨mA, m1, m2, m3⟩ := hB'.ns
  have cC : ∃ oc' : Obj, hh.get? cG = some oc' ∧ oc'.data = .cell (some (.ref G)) := by
    rcases hf₁₂.st.vars (Str.ofString "signs") (.ref G) rfl with ⟨k, _⟩ | ⟨_, _, c', v', hc', ⟨o, ho, hd⟩, hv'⟩
    · cases k
    · have e : some c' = some cG := hc'.symm.trans hcG
      cases e
      unfold VR at hv'
      subst hv'
      exact ⟨o, ho, hd⟩
  obtain ⟨oc', cC1, cC2⟩ := cC
  have dcG : s.heap.get? cG = none := hrel _ aR
  have fC12 : F₁₂ cG = none := hf₁₂.vol _ (.inr ⟨_, List.mem_singleton.mpr rfl, hcG⟩)
  have nCX : cG ≠ X := fun e => by rw [e] at cC1; rw [show Heap.get? hh X = _ from cC1] at dX; cases dX
  have nCD : cG ≠ Dx := fun e => by rw [e] at cC1; rw [show Heap.get? hh Dx = _ from cC1] at dD; cases dD
  have nCG : cG ≠ G := fun e => nG (e ▸ aR)
  have nCU : ¬ BU Dx G cG := fun q => q.elim nCG nCD
  have c13 := M.keeps _ _ cC1
  have c14 := x.keep _ _ nCU c13
  have fC14 : Fe cG = none := (rX _ nCX).trans fC12
  have xx : ExtV (fun a => a = cG ∨ BU Dx G a) Fe ⟨h₁₃, gg, dd, tt, os⟩ Fe s' := x.mono fun a q => .inr q
  obtain ⟨Ff, z₁, zC, zr⟩ := xx.put' (D := cG) (.inr (.inl rfl)) fC14 c14
  have yT : Fe T = _ := y₁₃.sub _ _ (x012.sub _ _ qT)
  have yR : Fe R = _ := y₁₃.sub _ _ (x012.sub _ _ qR)
  have yD : Fe Dt = _ := y₁₃.sub _ _ (x012.sub _ _ qD)
  have yc : Fe cc = _ := y₁₃.sub _ _ (x012.sub _ _ qc)
  have sT := z₁.sub _ _ yT
  have sR := z₁.sub _ _ yR
  have sD := z₁.sub _ _ yD
  have sc := z₁.sub _ _ yc
  have sX := z₁.sub _ _ qX
  have sub' : Sub Fe Ff := fun a o q => by
    by_cases e : a = cG
    · rw [e, fC14] at q; cases q
    · rw [zr _ e]; exact q
  have nCP : cG ≠ Pb := fun e => by
    obtain ⟨n, lP'⟩ := lP
    rw [e] at c14
    have z := (show Heap.get? s'.heap Pb = _ from c14).symm.trans lP'
    have z' := Option.some.inj z
    rw [z'] at cC2; cases cC2
  obtain ⟨vl, tl, hvl⟩ : ∃ v t, mA "lineno" = some v ∧ v = .int 1 t := by
    obtain ⟨v, e1, e2⟩ := m3 "lineno" (.int 1) rfl
    unfold VR at e2; obtain ⟨t, e2⟩ := e2; exact ⟨v, t, e1, e2⟩
  obtain ⟨vw, tw, hvw⟩ : ∃ v t, mA "whitespace" = some v ∧ v = .str "\n\t\x0d " t := by
    obtain ⟨v, e1, e2⟩ := m3 "whitespace" (.str "\n\t\x0d ") rfl
    unfold VR at e2; obtain ⟨t, e2⟩ := e2; exact ⟨v, t, e1, e2⟩
  have hvi : mA "instream" = some (.ref T) := by
    obtain ⟨v, e1, e2⟩ := m3 "instream" (.ref T) rfl
    unfold VR at e2; rw [e1, e2]
  have hvp : mA "pushback" = some (.ref Pb) := by
    obtain ⟨v, e1, e2⟩ := m3 "pushback" (.ref Pb) rfl
    unfold VR at e2; rw [e1, e2]
  obtain ⟨us, lG', vG'⟩ := hB'.sg
  have LP : LexP ⟨cG, G, T, Dt, R, X, Dx, Pb⟩ g 1 [] Ff s' :=
    { inn := z₁.inn, cell := ⟨oc', zC, cC2⟩, fn := ⟨_, _, sT⟩, rd := ⟨_, fun h hs => hNs h (hs _ _ sD), if_pos rfl⟩,
      lam := ⟨pm, cc, ct, sR, fun h hs => hcr h (hs _ _ sc)⟩, inst := ⟨oX, sX, iX2, iX3, iX5⟩, neX := nsD.1, neGD := nGD, neGP := nGP, neDP := nDP,
      dG := (zr _ nCG.symm).trans hB'.dG, dD := (zr _ nCD.symm).trans hB'.dD, dP := (zr _ nCP.symm).trans fP, sg := ⟨us, lG', vG'.mono sub'⟩,
      ns := ⟨mA, tl, tw, m1, m2, by rw [hvl.1, hvl.2], hvi, by rw [hvw.1, hvw.2], hvp⟩, pbk := ⟨[], lP, by unfold List.map VRs; rfl⟩ }
  let V : Addr → Prop := fun a => a = 136 ∨ s.heap.get? a = none
  have back : ∀ {F'' : PM} {s'' : Shared}, ExtV V F s F'' s'' → ∀ a, a ≠ 136 → s''.heap.get? a = none → s.heap.get? a = none := fun y a n q => by
    cases z : s.heap.get? a with
    | none => rfl
    | some o => rw [y.keep _ _ (fun e => e.elim n fun e => by rw [z] at e; cases e) z] at q; cases q
  have y1 : ExtV V F s F₃ s₅ := ((e₀.trans h13).trans x₄).v.trans (e₅.mono fun a q => .inr (hrel _ q.rel))
  have y2 : ExtV V F s F₃ s₇ := y1.trans ((x₆.mono fun a q => .inl q).trans (e₇.mono fun a q => .inr (hrel _ q.rel)))
  have zT := back y1 T nT6 dT
  have zG : s.heap.get? G = none := back (e₀.trans h13).v G n136G dG
  have y3 : ExtV V F s Fd _ := y2.trans (p₄.mono fun a q => q.elim .inl fun q => .inr (q ▸ zT))
  have y4 : ExtV V F s F₁₂ ⟨hh, gg, dd, tt, os⟩ := y3.trans x012.v
  have zD := back y4 Dx nD6 dD
  have y5 : ExtV V F s Fe ⟨h₁₃, gg, dd, tt, os⟩ := y4.trans (y₁₃.mono fun a q => q.elim)
  have n6C : (136 : Addr) ≠ cG := fun e => a136 cG e.symm aR
  have f6 : Ff 136 = none := (zr _ n6C).trans fe6
  have y6 : ExtV V F s Ff s' := y5.trans (z₁.mono fun a q => by
    rcases q with rfl | rfl | rfl
    · exact .inr dcG
    · exact .inr zG
    · exact .inr zD)
  have nP6 : Pb ≠ 136 := fun e => by
    obtain ⟨n, lP'⟩ := lP
    rw [e] at lP'
    have z := (show Heap.get? s'.heap 136 = _ from t14).symm.trans lP'
    cases z
  have zP := back y5 Pb nP6 dP13
  refine hQ ⟨cG, G, T, Dt, R, X, Dx, Pb⟩ Ff s' (y6.drop fun a q => q.symm) LP (fun a ha => ?_) f6 ⟨_, t14⟩
  rcases ha with rfl | rfl | rfl
  · exact zG
  · exact zD
  · exact zP
end Mine
end
section
open PySem PySem.W PyProof.Rows
namespace Mine
noncomputable def unseenT : List Int := [173, 847, 6150, 6155, 6156, 6157, 8203, 8204, 8205, 8288, 65279, 65024, 65025, 65026, 65027, 65028, 65029, 65030, 65031, 65032, 65033, 65034, 65035, 65036, 65037, 65038, 65039]
theorem unseenT_le : ∀ k, k < 27 → 0 ≤ unseenT.getD k 0 ∧ unseenT.getD k 0 ≤ 70000 := by decide
noncomputable def unseenC (form : Int) : Int := unseenT.getD (form.fmod 27).toNat 0
theorem unseen_ok (w : World) (d : Nat) (form : Int) : PureFn (KF w.params) PG w (d + 1) 158 [.int form] (.str ⟨#[(unseenC form).toNat]⟩) := by
  have m := fmod_lt (a := form) (b := 27) (by decide)
  have t := unseenT_le (form.fmod 27).toNat (by lia)
  refine PureFn.of_body (d := d) (o := ob158 w.params) (names := [Str.ofString "form"]) (by kernel_rfl) rfl rfl rfl (by kernel_rfl) (by kernel_rfl) (by kernel_rfl) (bind1 fun _ => rfl) (by decide +kernel) (by decide +kernel) (by decide +kernel) rfl rfl rfl (fun A L hr => ?_)
  refine Runs.set (Ev.list (Evs.co rfl Ev.int (Evs.co rfl Ev.int (Evs.co rfl Ev.int (Evs.co rfl Ev.int (Evs.co rfl Ev.int (Evs.co rfl Ev.int (Evs.co rfl Ev.int (Evs.co rfl Ev.int (Evs.co rfl Ev.int (Evs.co rfl Ev.int (Evs.co rfl Ev.int Evs.nil))))))))))) rfl) rfl (.inl rfl) ?_ (swaps_plain rfl)
  refine Runs.ret' (Ev.callB (id := "chr") (Ev.bltin rfl rfl rfl rfl (by kernel_rfl) (by kernel_rfl) rfl) (Evs.co rfl (Ev.subLst (sv := .int (unseenC form)) (Ev.binop (Ev.name rfl rfl rfl) (Ev.listRange (a := 65024) (n := 16) (Ev.tyin rfl rfl rfl rfl (by kernel_rfl) (by kernel_rfl) rfl) (Ev.tyin rfl rfl rfl rfl (by kernel_rfl) (by kernel_rfl) rfl) Ev.int Ev.int ?_ ?_ (by decide) hr.handled (fun _ => plain_any rfl) (fun _ => starEach_cons rfl) (fun _ => starEach_cons rfl)) (Op.addLst rfl)) (Ev.binop (Ev.name rfl rfl rfl) Ev.int (Op.fmod (by decide))) ?_ ?_ ?_ (sub_plain rfl)) Evs.nil) (Op.chr ?_ ?_) (fun _ => plain_any rfl)) rfl
  · decide +kernel
  · decide +kernel
  · lia
  · lia
  · exact getI (l := unseenT) (by show (form.fmod 27).toNat < 27; lia)
  · exact t.1
  · have := t.2; unfold unseenC; lia
theorem lamps_ok (w : World) (d : Nat) (sixth rest : Int) : PureFn (KF w.params) PG w (d + 1) 191 [.int sixth, .int rest] (.tup ((([[8, rest, 0], [8 - rest, 8, 0], [0, 8, rest], [0, 8 - rest, 8], [rest, 0, 8], [8, 0, 8 - rest]] : List (List Int)).getD (sixth.fmod 6).toNat []).map .int)) := by
  have m := fmod_lt (a := sixth) (b := 6) (by decide)
  refine PureFn.of_body (d := d) (o := ob191 w.params) (names := [Str.ofString "sixth", Str.ofString "rest"]) (by kernel_rfl) rfl rfl rfl (by kernel_rfl) (by kernel_rfl) (by kernel_rfl) (bind2 fun _ _ => rfl) (by decide +kernel) (by decide +kernel) (by decide +kernel) rfl rfl rfl (fun A L hr => ?_)
  refine Runs.set (Ev.list (Evs.co rfl (Ev.tuple (Evs.co rfl Ev.int (Evs.co rfl (Ev.name rfl rfl rfl) (Evs.co rfl Ev.int Evs.nil))) rfl) (Evs.co rfl (Ev.tuple (Evs.co rfl (Ev.binop Ev.int (Ev.name rfl rfl rfl) Op.sub) (Evs.co rfl Ev.int (Evs.co rfl Ev.int Evs.nil))) rfl) (Evs.co rfl (Ev.tuple (Evs.co rfl Ev.int (Evs.co rfl Ev.int (Evs.co rfl (Ev.name rfl rfl rfl) Evs.nil))) rfl) (Evs.co rfl (Ev.tuple (Evs.co rfl Ev.int (Evs.co rfl (Ev.binop Ev.int (Ev.name rfl rfl rfl) Op.sub) (Evs.co rfl Ev.int Evs.nil))) rfl) (Evs.co rfl (Ev.tuple (Evs.co rfl (Ev.name rfl rfl rfl) (Evs.co rfl Ev.int (Evs.co rfl Ev.int Evs.nil))) rfl) (Evs.co rfl (Ev.tuple (Evs.co rfl Ev.int (Evs.co rfl Ev.int (Evs.co rfl (Ev.binop Ev.int (Ev.name rfl rfl rfl) Op.sub) Evs.nil))) rfl) Evs.nil)))))) rfl) rfl (.inl rfl) ?_ (swaps_plain rfl)
  refine Runs.ret (Ev.subLst (Ev.name rfl rfl rfl) (Ev.binop (Ev.name rfl rfl rfl) Ev.int (Op.fmod (by decide))) ?_ ?_ ?_ (sub_plain rfl))
  · lia
  · lia
  · have : (sixth.fmod 6).toNat = 0 ∨ (sixth.fmod 6).toNat = 1 ∨ (sixth.fmod 6).toNat = 2 ∨ (sixth.fmod 6).toNat = 3 ∨ (sixth.fmod 6).toNat = 4 ∨ (sixth.fmod 6).toNat = 5 := by lia
    rcases this with e | e | e | e | e | e <;> rw [e] <;> rfl
end Mine
end
section
open PySem PySem.W PyProof.Rows
namespace Mine
noncomputable def ch (n : Int) : Str := ⟨#[n.toNat]⟩
noncomputable def ins {α : Type} (xs : List α) (i : Int) (y : α) : List α :=
  xs.take (if i < 0 then (i + (xs.length : Int)).toNat else min i.toNat xs.length) ++ y :: xs.drop (if i < 0 then (i + (xs.length : Int)).toNat else min i.toNat xs.length)
theorem kins_map {α : Type} (f : α → SV) (xs : List α) (i : Int) (y : α) : kins (xs.map f) i (f y) = (ins xs i y).map f := by
  unfold kins ins
  rw [List.length_map, List.map_append, List.map_cons, List.map_take, List.map_drop]
theorem ins_length {α : Type} (xs : List α) (i : Int) (y : α) : (ins xs i y).length = xs.length + 1 := by
  unfold ins
  rw [List.length_append, List.length_cons, List.length_take, List.length_drop]; lia
theorem le1 {n m : Nat} (h : Nat.ble n m = true) : n ≤ m := Nat.le_of_ble_eq_true h
noncomputable def other (l : Nat) : Nat := if l = 104 then 112 else 104
noncomputable def imageL (l : Nat) (form : Int) : List Str :=
  if form.fmod 3 = 0 then ins [ch (if l = 104 then 13259 else 13271)] ((form.fdiv 3).fmod 2) (ch (unseenC form))
  else ins [ch (letterC l form), ch (letterC (other l) (form.fdiv 13))] ((form.fdiv 3).fmod 3) (ch (unseenC form))
noncomputable def imageS (l : Nat) (form : Int) : Str := Txt.join Str.empty (imageL l form)
theorem mem_ins {α : Type} {xs : List α} {i : Int} {y z : α} (h : z ∈ ins xs i y) : z = y ∨ z ∈ xs := by
  unfold ins at h
  rcases List.mem_append.mp h with h | h
  · exact .inr (List.mem_of_mem_take h)
  · rcases List.mem_cons.mp h with h | h
    · exact .inl h
    · exact .inr (List.mem_of_mem_drop h)
theorem imageL_len (l : Nat) (form : Int) : (∀ t ∈ imageL l form, t.length ≤ 1000) ∧ (imageL l form).length ≤ 1000 := by
  unfold imageL
  split
  · refine ⟨fun t ht => ?_, by rw [ins_length]; exact le1 rfl⟩
    rcases mem_ins ht with rfl | ht
    · show 1 ≤ 1000; decide
    · rw [List.mem_singleton.mp ht]; show 1 ≤ 1000; decide
  · refine ⟨fun t ht => ?_, by rw [ins_length]; exact le1 rfl⟩
    rcases mem_ins ht with rfl | ht
    · show 1 ≤ 1000; decide
    · simp at ht
      rcases ht with rfl | rfl <;> (show 1 ≤ 1000; decide)
theorem ch_len (n : Int) : (ch n).length = 1 := rfl
theorem joinOk_short {ts : List Str} (h1 : ∀ t ∈ ts, t.length ≤ 1000) (h2 : ts.length ≤ 1000) : JoinOk Str.empty ts = true := by
  unfold JoinOk
  rw [StrLaws.joinTotal]
  have : ∀ ts : List Str, (∀ t ∈ ts, t.length ≤ 1000) → (ts.map (·.length)).sum ≤ ts.length * 1000 := by
    intro ts
    induction ts with
    | nil => intro _; simp
    | cons a r ih =>
      intro h
      have e1 := h a List.mem_cons_self
      have e2 := ih fun t ht => h t (List.mem_cons_of_mem _ ht)
      rw [List.map_cons, List.sum_cons, List.length_cons]
      lia
  have e := this ts h1
  have e0 : Str.empty.length = 0 := rfl
  rw [e0, Nat.mul_zero, Nat.add_zero]
  have : (ts.map (·.length)).sum ≤ 1000000 := by
    refine Nat.le_trans e ?_
    lia
  unfold Builtin.Str.tooLong
  simp
  have e3 := sizeLine_eq
  lia
theorem fitsIdx {i : Int} (h0 : 0 ≤ i) (h1 : i < 1000) : Builtin.List.listFitsIndex i = true := by
  unfold Builtin.List.listFitsIndex
  simp
  lia
theorem cond_other {l : Nat} (hl : l = 104 ∨ l = 112) : cond ((⟨#[l]⟩ : Str) == Str.ofString "h") (Str.ofString "p") (Str.ofString "h") = ⟨#[other l]⟩ := by
  rcases hl with rfl | rfl <;> rfl
theorem other_is {l : Nat} (hl : l = 104 ∨ l = 112) : other l = 104 ∨ other l = 112 := by
  rcases hl with rfl | rfl
  · exact .inr rfl
  · exact .inl rfl
theorem image_ok (w : World) (d l : Nat) (hl : l = 104 ∨ l = 112) (form : Int) : PureFn (KF w.params) PG w (d + 2) 177 [.str ⟨#[l]⟩, .int form] (.str (imageS l form)) := by
  have m := fmod_lt (a := form) (b := 3) (by decide)
  refine PureFn.of_body (d := d + 1) (o := ob177 w.params) (names := [Str.ofString "letter", Str.ofString "form"]) (by kernel_rfl) rfl rfl rfl (by kernel_rfl) (by kernel_rfl) (by kernel_rfl) (bind2 fun _ _ => rfl) (by decide +kernel) (by decide +kernel) (by decide +kernel) rfl rfl rfl (fun A L hr => ?_)
  refine Runs.ite (EvT.compare (Ev.binop (Ev.name rfl rfl rfl) Ev.int (Op.fmod (by decide))) Ev.int Op.eq rfl) (fun he => ?_) (fun he => ?_)
  · have he : form.fmod 3 = 0 := beq_iff_eq.mp he
    refine Runs.setOwn (svs := [.str (ch (if l = 104 then 13259 else 13271))]) ?_ (le1 rfl) rfl (.inl rfl) (fun D => ?_) (swaps_plain rfl)
    · have e : cond ((⟨#[l]⟩ : Str) == Str.ofString "h") 13259 13271 = (if l = 104 then (13259 : Int) else 13271) := by rcases hl with rfl | rfl <;> rfl
      unfold ch
      rw [← e]
      refine (Evs.co rfl (Ev.callB (id := "chr") (Ev.bltin rfl rfl rfl rfl (by kernel_rfl) (by kernel_rfl) rfl) (Evs.co rfl (Ev.ifI (EvT.compare (Ev.name rfl rfl rfl) Ev.str Op.eqStr rfl) (fun hc => Ev.int) (fun hc => Ev.int)) Evs.nil) (Op.chr ?_ ?_) (fun _ => plain_any rfl)) Evs.nil)
      · exact condGe (by decide) (by decide)
      · exact condLe (by decide) (by decide)
    · show Runs _ (OwnL D ([ch (if l = 104 then 13259 else 13271)].map .str)) _ _ _
      refine Runs.insert (sv := .str (ch (unseenC form))) rfl rfl rfl (le1 rfl) rfl (Evs.co rfl (Ev.binop (Ev.binop (Ev.name rfl rfl rfl) Ev.int (Op.fdiv (by decide) (PyProof.noPylong_small (by decide)))) (Ev.binop (Ev.callB (id := "len") (Ev.bltin rfl rfl rfl rfl (by kernel_rfl) (by kernel_rfl) rfl) (Evs.co rfl (Ev.name rfl rfl rfl) Evs.nil) (Op.lenLst (le1 rfl)) (fun _ => plain_any rfl)) Ev.int Op.add) (Op.fmod (by lia))) (Evs.co rfl (Ev.callF (o := ob158 w.params) (Ev.glob rfl rfl rfl (by kernel_rfl) rfl) (Evs.co rfl (Ev.name rfl rfl rfl) Evs.nil) hr (by kernel_rfl) rfl (unseen_ok w d form) (fun _ => plain_any rfl)) Evs.nil)) rfl (fitsIdx ?_ ?_) ?_ (attr_plain rfl) (plain_few rfl rfl) rfl (fun _ => plain_any rfl) rfl (swaps_plain rfl)
      · exact (fmod_lt (by lia)).1
      · exact Int.lt_trans (fmod_lt (by lia)).2 (by simp)
      rw [show kins ([ch (if l = 104 then 13259 else 13271)].map SV.str) ((form.fdiv 3).fmod _) (.str (ch (unseenC form))) = (imageL l form).map .str from by unfold imageL; rw [if_pos he]; exact kins_map SV.str [ch (if l = 104 then 13259 else 13271)] _ (ch (unseenC form))]
      refine Runs.freeze (x := Str.ofString "signs") rfl ?_
      exact Runs.ret (Ev.meth Ev.str (Evs.co rfl (Ev.name rfl rfl rfl) Evs.nil) PySem.F.plainAttrs_str PySem.F.slot_str_join PySem.F.type_str_join strT (Op.join (joinOk_short (imageL_len l form).1 (imageL_len l form).2)) (attr_plain rfl) (plain_few rfl rfl) rfl (fun _ => plain_any rfl))
  · have he : ¬ form.fmod 3 = 0 := fun q => by rw [beq_iff_eq.mpr q] at he; cases he
    refine Runs.setOwn (svs := [.str (ch (letterC l form)), .str (ch (letterC (other l) (form.fdiv 13)))]) ?_ (le1 rfl) rfl (.inl rfl) (fun D => ?_) (swaps_plain rfl)
    · refine (Evs.co rfl (Ev.callF (a := 165) (o := ob165 w.params) (Ev.glob rfl rfl rfl (by kernel_rfl) rfl) (Evs.co rfl (Ev.name rfl rfl rfl) (Evs.co rfl (Ev.name rfl rfl rfl) Evs.nil)) hr (by kernel_rfl) rfl (letter_ok w d l hl form) (fun _ => plain_any rfl)) (Evs.co rfl (Ev.callF (a := 165) (o := ob165 w.params) (Ev.glob rfl rfl rfl (by kernel_rfl) rfl) (Evs.co rfl (Ev.ifS (EvT.compare (Ev.name rfl rfl rfl) Ev.str Op.eqStr rfl) (fun hc => Ev.str) (fun hc => Ev.str)) (Evs.co rfl (Ev.binop (Ev.name rfl rfl rfl) Ev.int (Op.fdiv (by decide) (PyProof.noPylong_small (by decide)))) Evs.nil)) hr (by kernel_rfl) rfl ?_ (fun _ => plain_any rfl)) Evs.nil))
      rw [cond_other hl]
      exact letter_ok w d (other l) (other_is hl) (form.fdiv 13)
    · show Runs _ (OwnL D ([ch (letterC l form), ch (letterC (other l) (form.fdiv 13))].map .str)) _ _ _
      refine Runs.insert (sv := .str (ch (unseenC form))) rfl rfl rfl (le1 rfl) rfl (Evs.co rfl (Ev.binop (Ev.binop (Ev.name rfl rfl rfl) Ev.int (Op.fdiv (by decide) (PyProof.noPylong_small (by decide)))) (Ev.binop (Ev.callB (id := "len") (Ev.bltin rfl rfl rfl rfl (by kernel_rfl) (by kernel_rfl) rfl) (Evs.co rfl (Ev.name rfl rfl rfl) Evs.nil) (Op.lenLst (le1 rfl)) (fun _ => plain_any rfl)) Ev.int Op.add) (Op.fmod (by lia))) (Evs.co rfl (Ev.callF (o := ob158 w.params) (Ev.glob rfl rfl rfl (by kernel_rfl) rfl) (Evs.co rfl (Ev.name rfl rfl rfl) Evs.nil) hr (by kernel_rfl) rfl (unseen_ok w d form) (fun _ => plain_any rfl)) Evs.nil)) rfl (fitsIdx ?_ ?_) ?_ (attr_plain rfl) (plain_few rfl rfl) rfl (fun _ => plain_any rfl) rfl (swaps_plain rfl)
      · exact (fmod_lt (by lia)).1
      · exact Int.lt_trans (fmod_lt (by lia)).2 (by simp)
      rw [show kins ([ch (letterC l form), ch (letterC (other l) (form.fdiv 13))].map SV.str) ((form.fdiv 3).fmod _) (.str (ch (unseenC form))) = (imageL l form).map .str from by unfold imageL; rw [if_neg he]; exact kins_map SV.str [ch (letterC l form), ch (letterC (other l) (form.fdiv 13))] _ (ch (unseenC form))]
      refine Runs.freeze (x := Str.ofString "signs") rfl ?_
      exact Runs.ret (Ev.meth Ev.str (Evs.co rfl (Ev.name rfl rfl rfl) Evs.nil) PySem.F.plainAttrs_str PySem.F.slot_str_join PySem.F.type_str_join strT (Op.join (joinOk_short (imageL_len l form).1 (imageL_len l form).2)) (attr_plain rfl) (plain_few rfl rfl) rfl (fun _ => plain_any rfl))
end Mine
end
section
open PySem PySem.W PyProof.Rows
namespace Mine
noncomputable def strayT : List Int := [9, 10, 13, 32, 34, 35, 92, 172, 174, 846, 848, 6149, 6151, 6154, 6158, 8202, 8206, 8287, 8289, 65023, 65040, 65278, 65280]
theorem strayT_le : ∀ k, k < 23 → 0 ≤ strayT.getD k 0 ∧ strayT.getD k 0 ≤ 70000 := by decide
noncomputable def strayC (form : Int) : Int := strayT.getD ((form.fdiv 27).fmod 23).toNat 0
noncomputable def wordL (l : Nat) (form : Int) : List (Str × Str) :=
  ins (ins [(ch (letterC l form), (⟨#[l]⟩ : Str))] ((form.fdiv 3).fmod 2) (ch (unseenC form), Str.empty)) ((form.fdiv 5).fmod 3) (ch (strayC form), ch (strayC form))
noncomputable def pairS (p : Str × Str) : SV := .tup [.str p.1, .str p.2]
noncomputable def wordS (l : Nat) (form : Int) : Str := Txt.join Str.empty ((wordL l form).map (·.1))
noncomputable def wordM (l : Nat) (form : Int) : Str := Txt.join Str.empty ((wordL l form).map (·.2))
theorem wordL_len (l : Nat) (form : Int) : (wordL l form).length = 3 := by unfold wordL; rw [ins_length, ins_length]; rfl
theorem wordL_short (l : Nat) (form : Int) : ∀ p ∈ wordL l form, p.1.length ≤ 1000 ∧ p.2.length ≤ 1000 := by
  intro p hp
  unfold wordL at hp
  rcases mem_ins hp with rfl | hp
  · exact ⟨le1 rfl, le1 rfl⟩
  · rcases mem_ins hp with rfl | hp
    · exact ⟨le1 rfl, le1 rfl⟩
    · rw [List.mem_singleton.mp hp]; exact ⟨le1 rfl, le1 rfl⟩
theorem noLs_pairs : ∀ xs : List (Str × Str), noLs (xs.map pairS) = true
  | [] => rfl
  | p :: xs => by rw [List.map_cons]; unfold noLs; rw [noLs_pairs xs]; rfl
theorem word_ok (w : World) (d l : Nat) (hl : l = 104 ∨ l = 112) (form : Int) : PureFn (KF w.params) PG w (d + 2) 170 [.str ⟨#[l]⟩, .int form] (.tup [.str (wordS l form), .str (wordM l form)]) := by
  have m23 := fmod_lt (a := form.fdiv 27) (b := 23) (by decide)
  have t := strayT_le ((form.fdiv 27).fmod 23).toNat (by lia)
  refine PureFn.of_body (d := d + 1) (o := ob170 w.params) (names := [Str.ofString "letter", Str.ofString "form"]) (by kernel_rfl) rfl rfl rfl (by kernel_rfl) (by kernel_rfl) (by kernel_rfl) (bind2 fun _ _ => rfl) (by decide +kernel) (by decide +kernel) (by decide +kernel) rfl rfl rfl (fun A L hr => ?_)
  refine Runs.set (Ev.list (Evs.co rfl Ev.int (Evs.co rfl Ev.int (Evs.co rfl Ev.int (Evs.co rfl Ev.int (Evs.co rfl Ev.int (Evs.co rfl Ev.int (Evs.co rfl Ev.int (Evs.co rfl Ev.int (Evs.co rfl Ev.int (Evs.co rfl Ev.int (Evs.co rfl Ev.int (Evs.co rfl Ev.int (Evs.co rfl Ev.int (Evs.co rfl Ev.int (Evs.co rfl Ev.int Evs.nil))))))))))))))) rfl) rfl (.inl rfl) ?_ (swaps_plain rfl)
  refine Runs.set (sv := .str (ch (strayC form))) (Ev.callB (id := "chr") (Ev.bltin rfl rfl rfl rfl (by kernel_rfl) (by kernel_rfl) rfl) (Evs.co rfl (Ev.subLst (sv := .int (strayC form)) (Ev.binop (Ev.name rfl rfl rfl) (Ev.list (Evs.co rfl Ev.int (Evs.co rfl Ev.int (Evs.co rfl Ev.int (Evs.co rfl Ev.int (Evs.co rfl Ev.int (Evs.co rfl Ev.int (Evs.co rfl Ev.int (Evs.co rfl Ev.int Evs.nil)))))))) rfl) (Op.addLst rfl)) (Ev.binop (Ev.binop (Ev.name rfl rfl rfl) Ev.int (Op.fdiv (by decide) (PyProof.noPylong_small (by decide)))) Ev.int (Op.fmod (by decide))) ?_ ?_ ?_ (sub_plain rfl)) Evs.nil) (Op.chr ?_ ?_) (fun _ => plain_any rfl)) rfl (.inl rfl) ?_ (swaps_plain rfl)
  · lia
  · lia
  · exact getI (l := strayT) (by show ((form.fdiv 27).fmod 23).toNat < 23; lia)
  · exact t.1
  · have := t.2; unfold strayC; lia
  refine Runs.setOwn (svs := [pairS (ch (letterC l form), (⟨#[l]⟩ : Str))]) (Evs.co rfl (Ev.tuple (Evs.co rfl (Ev.callF (a := 165) (o := ob165 w.params) (Ev.glob rfl rfl rfl (by kernel_rfl) rfl) (Evs.co rfl (Ev.name rfl rfl rfl) (Evs.co rfl (Ev.name rfl rfl rfl) Evs.nil)) hr (by kernel_rfl) rfl (letter_ok w d l hl form) (fun _ => plain_any rfl)) (Evs.co rfl (Ev.name rfl rfl rfl) Evs.nil)) rfl) Evs.nil) (le1 rfl) rfl (.inl rfl) (fun D => ?_) (swaps_plain rfl)
  show Runs _ (OwnL D ([(ch (letterC l form), (⟨#[l]⟩ : Str))].map pairS)) _ _ _
  refine Runs.insert (sv := pairS (ch (unseenC form), Str.empty)) rfl rfl rfl (le1 rfl) rfl (Evs.co rfl (Ev.binop (Ev.binop (Ev.name rfl rfl rfl) Ev.int (Op.fdiv (by decide) (PyProof.noPylong_small (by decide)))) Ev.int (Op.fmod (by decide))) (Evs.co rfl (Ev.tuple (Evs.co rfl (Ev.callF (a := 158) (o := ob158 w.params) (Ev.glob rfl rfl rfl (by kernel_rfl) rfl) (Evs.co rfl (Ev.name rfl rfl rfl) Evs.nil) hr (by kernel_rfl) rfl (unseen_ok w d form) (fun _ => plain_any rfl)) (Evs.co rfl Ev.str Evs.nil)) rfl) Evs.nil)) rfl (fitsIdx ?_ ?_) ?_ (attr_plain rfl) (plain_few rfl rfl) rfl (fun _ => plain_any rfl) rfl (swaps_plain rfl)
  · exact (fmod_lt (by decide)).1
  · exact Int.lt_trans (fmod_lt (by decide)).2 (by decide)
  rw [kins_map pairS]
  refine Runs.insert (sv := pairS (ch (strayC form), ch (strayC form))) rfl rfl rfl ?_ ?_ (Evs.co rfl (Ev.binop (Ev.binop (Ev.name rfl rfl rfl) Ev.int (Op.fdiv (by decide) (PyProof.noPylong_small (by decide)))) Ev.int (Op.fmod (by decide))) (Evs.co rfl (Ev.tuple (Evs.co rfl (Ev.name rfl rfl rfl) (Evs.co rfl (Ev.name rfl rfl rfl) Evs.nil)) rfl) Evs.nil)) rfl (fitsIdx ?_ ?_) ?_ (attr_plain rfl) (plain_few rfl rfl) rfl (fun _ => plain_any rfl) rfl (swaps_plain rfl)
  · rw [List.length_map, ins_length]; exact le1 rfl
  · exact noLs_pairs _
  · exact (fmod_lt (by decide)).1
  · exact Int.lt_trans (fmod_lt (by decide)).2 (by decide)
  rw [kins_map pairS]
  refine Runs.freeze (x := Str.ofString "pieces") rfl ?_
  have hcomp1 : ∀ (g : Str × Str → Str), (∀ p ∈ wordL l form, (g p).length ≤ 1000) → JoinOk Str.empty ((wordL l form).map g) = true := fun g hg => joinOk_short (fun t ht => by obtain ⟨p, hp, rfl⟩ := List.mem_map.mp ht; exact hg p hp) (by rw [List.length_map, wordL_len]; exact le1 rfl)
  refine Runs.ret (Ev.tuple (Evs.co rfl (Ev.meth Ev.str (Evs.co rfl ?c1 Evs.nil) PySem.F.plainAttrs_str PySem.F.slot_str_join PySem.F.type_str_join strT (Op.join (texts := (wordL l form).map (·.1)) (hcomp1 _ fun p hp => (wordL_short l form p hp).1)) (attr_plain rfl) (plain_few rfl rfl) rfl (fun _ => plain_any rfl)) (Evs.co rfl (Ev.meth Ev.str (Evs.co rfl ?c2 Evs.nil) PySem.F.plainAttrs_str PySem.F.slot_str_join PySem.F.type_str_join strT (Op.join (texts := (wordL l form).map (·.2)) (hcomp1 _ fun p hp => (wordL_short l form p hp).2)) (attr_plain rfl) (plain_few rfl rfl) rfl (fun _ => plain_any rfl)) Evs.nil)) rfl)
  case c1 => exact Ev.compS (ρ' := []) ⟨Source.pairs (xs := wordL l form) (g₁ := fun q => .str q.1) (g₂ := fun q => .str q.2) (Ev.name rfl rfl rfl) hr.handled, by rw [wordL_len]; exact le1 rfl, by decide, rfl, by decide, by decide, trivial, rfl, fun _ _ => rfl, fold_plain rfl⟩ (fun cl C x hx => Ev.name rfl rfl rfl)
  case c2 => exact Ev.compS (ρ' := []) ⟨Source.pairs (xs := wordL l form) (g₁ := fun q => .str q.1) (g₂ := fun q => .str q.2) (Ev.name rfl rfl rfl) hr.handled, by rw [wordL_len]; exact le1 rfl, by decide, rfl, by decide, by decide, trivial, rfl, fun _ _ => rfl, fold_plain rfl⟩ (fun cl C x hx => Ev.name rfl rfl rfl)
end Mine
end
section
open PySem PySem.W PyProof.Rows
namespace Mine
section
variable {prog : Program} {w : World} {A : Around} {E : Value → Shared → Prop} {s : Shared}
structure ZApart (z TI TO i1 i2 l2 : Addr) : Prop where
  TIz : TI ≠ z
  TOz : TO ≠ z
  i1z : i1 ≠ z
  i2z : i2 ≠ z
  TITO : TI ≠ TO
  TIi1 : TI ≠ i1
  TIi2 : TI ≠ i2
  TOi1 : TO ≠ i1
  TOi2 : TO ≠ i2
  i12 : i1 ≠ i2
  l2z : l2 ≠ z
  l2TO : l2 ≠ TO
  l2i1 : l2 ≠ i1
  l2i2 : l2 ≠ i2
theorem z_item {z TI TO i1 i2 l2 : Addr} {k1 k2 n1 : Nat} {P1 : Nat → Value → Prop} {S1 : Nat → Heap → Prop} {ys : Array Value} {y a b : Value} {Q : Value → Shared → Prop} (G : Draws prog w A i1 [i1] n1 P1 S1) (D : ZApart z TI TO i1 i2 l2)
    (hz : IsZip s.heap z TI TO .none) (hTI : IsPair s.heap TI (.ref i1) (.ref i2)) (hTO : IsPair s.heap TO a b)
    (h1 : S1 k1 s.heap) (h2 : s.heap.IsListIter i2 l2 k2) (hl2 : s.heap.IsList l2 ys) (hx : k1 < n1) (hy : ys[k2]? = some y)
    (hQ : ∀ x h' tk, P1 k1 x → IsZip h' z TI TO (rawInt s.heap.objs.size) → IsPair h' TO x y → S1 (k1 + 1) h' → h'.IsListIter i2 l2 (k2 + 1) → IsPair h' s.heap.objs.size x y →
      (∀ c o, c ≠ z → c ≠ TO → c ≠ i1 → c ≠ i2 → s.heap.get? c = some o → h'.get? c = some o) → Q (.ref s.heap.objs.size) { s with heap := h', toks := tk }) :
    wpAny (model prog w) A (Builtin.«zip.__next__» ⟨[.ref z], []⟩) (fun fin s' => ∃ v, fin = .done (.ret v) ∧ Q v s') E s := by
  have fr1 : ∀ {i h h'} (b : Addr), S1 i h → Heap.ExtBut b h h' → i1 ≠ b → S1 i h' := fun b st he hne => G.frame _ _ _ st fun c hc o q => he c o (by rw [List.mem_singleton.mp hc]; exact hne) q
  show wpAny _ _ (field (.ref z) 2 >>= _) _ _ _
  refine wpAny_bind (wpAny_field hz rfl (x := .bool false) rfl ?_)
  show wpAny _ _ (field (.ref z) 3 >>= _) _ _ _
  refine wpAny_bind (wpAny_field hz rfl (x := .ref TI) rfl ?_)
  refine wpAny_bind (wpAny_seqItems hTI rfl ?_)
  show wpAny _ _ (Builtin.SmallTypes.ownedTupleIsFree (.ref z) >>= _) _ _ _
  refine wpAny_bind ?_
  unfold Builtin.SmallTypes.ownedTupleIsFree
  refine wpAny_bind (wpAny_field hz rfl (x := .none) rfl (wpAny_pure ?_))
  simp only [if_true]
  refine wpAny_bind (wpAny_rule ?_)
  refine wpAny_bind (wpAny_field hz rfl (x := .ref TO) rfl ?_)
  refine wpAny_bind (wpAny_setField_rec hz (by simp) fun h₁ hz₁ hs₁ => ?_)
  replace hz₁ : IsZip h₁ z TI TO .ellipsis := hz₁
  refine wpAny_bind ?_
  simp only [List.zipIdx_cons, List.zipIdx_nil, List.forIn_cons, List.forIn_nil]
  refine wpAny_bind (wpAny_bind (wpAny_onRaise ?_))
  show wpAny _ _ (Builtin.SmallTypes.nextOf (.ref i1) >>= _) _ _ _
  refine wpAny_bind (G.item _ _ _ _ hx (fr1 z h1 hs₁.extBut D.i1z) fun x h₂ tk₂ hP h1₂ hs₂ => wpAny_pure ?_)
  have hTO₂ : IsPair h₂ TO a b := hs₂.extBut _ _ D.TOi1 (hs₁.extBut _ _ D.TOz hTO)
  refine wpAny_bind (wpAny_seqItems hTO₂ rfl ?_)
  refine wpAny_bind (wpAny_updateSeq_pair hTO₂ fun h₃ hTO₃ hs₃ => ?_)
  replace hTO₃ : IsPair h₃ TO x b := hTO₃
  refine wpAny_bind (wpAny_letGo (wpAny_pure ?_))
  refine wpAny_bind (wpAny_bind (wpAny_onRaise ?_))
  show wpAny _ _ (Builtin.SmallTypes.nextOf (.ref i2) >>= _) _ _ _
  refine wpAny_bind (wpAny_nextOf_list_item (((h2.extBut hs₁.extBut D.i2z).extBut hs₂.extBut D.i12.symm).extBut hs₃.extBut D.TOi2.symm)
    (((hl2.extBut hs₁.extBut D.l2z).extBut hs₂.extBut D.l2i1).extBut hs₃.extBut D.l2TO) hy fun h₄ h2₄ hs₄ => wpAny_pure ?_)
  have hTO₄ : IsPair h₄ TO x b := hs₄.extBut _ _ D.TOi2 hTO₃
  refine wpAny_bind (wpAny_seqItems hTO₄ rfl ?_)
  refine wpAny_bind (wpAny_updateSeq_pair hTO₄ fun h₅ hTO₅ hs₅ => ?_)
  replace hTO₅ : IsPair h₅ TO x y := hTO₅
  refine wpAny_bind (wpAny_letGo (wpAny_pure (wpAny_pure ?_)))
  refine wpAny_bind (wpAny_seqItems hTO₅ rfl ?_)
  refine wpAny_bind (wpAny_newTuple ?_)
  have hsz : h₅.objs.size = s.heap.objs.size := by rw [hs₅.1, hs₄.1, hs₃.1, hs₂.1, hs₁.1]
  have hz₅ : IsZip h₅ z TI TO .ellipsis := hs₅.extBut _ _ D.TOz.symm (hs₄.extBut _ _ D.i2z.symm (hs₃.extBut _ _ D.TOz.symm (hs₂.extBut _ _ D.i1z.symm hz₁)))
  have hk₅ : ∀ c o, c ≠ z → c ≠ TO → c ≠ i1 → c ≠ i2 → s.heap.get? c = some o → h₅.get? c = some o := fun c o c1 c2 c3 c4 e =>
    hs₅.extBut _ _ c2 (hs₄.extBut _ _ c4 (hs₃.extBut _ _ c2 (hs₂.extBut _ _ c3 (hs₁.extBut _ _ c1 e))))
  have h1₅ : S1 (k1 + 1) h₅ := fr1 TO (fr1 i2 (fr1 TO h1₂ hs₃.extBut D.TOi1.symm) hs₄.extBut D.i12) hs₅.extBut D.TOi1.symm
  have h2₅ : h₅.IsListIter i2 l2 (k2 + 1) := h2₄.extBut hs₅.extBut D.TOi2.symm
  have hzlt : z < h₅.objs.size := Heap.lt_size hz₅
  show wpAny _ _ (Builtin.SmallTypes.ownedTupleHandOut (.ref z) (.ref h₅.objs.size) >>= _) _ _ _
  refine wpAny_bind ?_
  unfold Builtin.SmallTypes.ownedTupleHandOut
  have hz₆ : IsZip (h₅.push { cls := .type "tuple", data := .seq #[x, y] }) z TI TO .ellipsis := Heap.get?_push_of_some _ hz₅
  refine wpAny_bind (wpAny_setField_rec hz₆ (by simp) fun h₇ hz₇ hs₇ => ?_)
  replace hz₇ : IsZip h₇ z TI TO (rawInt h₅.objs.size) := hz₇
  refine wpAny_setField_rec hz₇ (by simp) fun h₈ hz₈ hs₈ => ?_
  replace hz₈ : IsZip h₈ z TI TO (rawInt h₅.objs.size) := hz₈
  have up : ∀ c o, c ≠ z → h₅.get? c = some o → h₈.get? c = some o := fun c o c1 e => hs₈.extBut _ _ c1 (hs₇.extBut _ _ c1 (Heap.get?_push_of_some _ e))
  have hT₈ : IsPair h₈ h₅.objs.size x y := hs₈.extBut _ _ (Nat.ne_of_gt hzlt) (hs₇.extBut _ _ (Nat.ne_of_gt hzlt) (Heap.get?_push_size _ rfl))
  rw [hsz] at hz₈ hT₈
  refine wpAny_pure ⟨_, rfl, ?_⟩
  show Q (.ref h₅.objs.size) _
  rw [hsz]
  exact hQ x h₈ tk₂ hP hz₈ (up _ _ D.TOz hTO₅) (G.frame _ _ _ h1₅ fun c hc o q => up c o (by rw [List.mem_singleton.mp hc]; exact D.i1z) q) (h2₅.at fun o e => up _ o D.i2z e) hT₈ fun c o c1 c2 c3 c4 e => up c o c1 (hk₅ c o c1 c2 c3 c4 e)
theorem z_end {z TI TO i1 i2 l2 : Addr} {n1 : Nat} {P1 : Nat → Value → Prop} {S1 : Nat → Heap → Prop} {a b : Value} {Q : Fin → Shared → Prop} (G : Draws prog w A i1 [i1] n1 P1 S1) (D : ZApart z TI TO i1 i2 l2)
    (hz : IsZip s.heap z TI TO .none) (hTI : IsPair s.heap TI (.ref i1) (.ref i2)) (hTO : IsPair s.heap TO a b) (h1 : S1 n1 s.heap)
    (hE : ∀ h' e, (∀ c o, c ≠ z → c ≠ TO → c ≠ i1 → c ≠ i2 → s.heap.get? c = some o → h'.get? c = some o) → (∃ o, h'.get? e = some o ∧ o.cls = .type "StopIteration") → E (.ref e) { s with heap := h' }) :
    wpAny (model prog w) A (Builtin.«zip.__next__» ⟨[.ref z], []⟩) Q E s := by
  show wpAny _ _ (field (.ref z) 2 >>= _) _ _ _
  refine wpAny_bind (wpAny_field hz rfl (x := .bool false) rfl ?_)
  show wpAny _ _ (field (.ref z) 3 >>= _) _ _ _
  refine wpAny_bind (wpAny_field hz rfl (x := .ref TI) rfl ?_)
  refine wpAny_bind (wpAny_seqItems hTI rfl ?_)
  show wpAny _ _ (Builtin.SmallTypes.ownedTupleIsFree (.ref z) >>= _) _ _ _
  refine wpAny_bind ?_
  unfold Builtin.SmallTypes.ownedTupleIsFree
  refine wpAny_bind (wpAny_field hz rfl (x := .none) rfl (wpAny_pure ?_))
  simp only [if_true]
  refine wpAny_bind (wpAny_rule ?_)
  refine wpAny_bind (wpAny_field hz rfl (x := .ref TO) rfl ?_)
  refine wpAny_bind (wpAny_setField_rec hz (by simp) fun h₁ hz₁ hs₁ => ?_)
  replace hz₁ : IsZip h₁ z TI TO .ellipsis := hz₁
  refine wpAny_bind ?_
  simp only [List.zipIdx_cons, List.zipIdx_nil, List.forIn_cons, List.forIn_nil]
  refine wpAny_bind (wpAny_bind (wpAny_onRaise ?_))
  show wpAny _ _ (Builtin.SmallTypes.nextOf (.ref i1) >>= _) _ _ _
  refine wpAny_bind (G.done _ _ _ (G.frame _ _ _ h1 fun c hc o q => hs₁.extBut c o (by rw [List.mem_singleton.mp hc]; exact D.i1z) q) fun h₂ e hs₂ he => ?_)
  obtain ⟨oe, hoe, hce⟩ := he
  have hz₂ : IsZip h₂ z TI TO .ellipsis := hs₂ _ _ D.i1z.symm hz₁
  have hez : e ≠ z := fun x => by subst x; rw [hz₂] at hoe; cases hoe; simp at hce
  refine wpAny_setField_rec hz₂ (by simp) fun h₃ _ hs₃ => hE h₃ e (fun c o c1 _ c3 _ x => hs₃.extBut _ _ c1 (hs₂ _ _ c3 (hs₁.extBut _ _ c1 x))) ⟨oe, hs₃.extBut _ _ hez hoe, hce⟩
theorem wk_zip {z TI TO i1 i2 l2 : Addr} {n1 : Nat} {P1 : Nat → Value → Prop} {S1 : Nat → Heap → Prop} (hh : A.handled = none) (G : ∀ A' : Around, A'.handled = none → Draws prog w A' i1 [i1] n1 P1 S1) (D : ZApart z TI TO i1 i2 l2) (ys : Array Value) (hn : ys.size = n1) :
    WalksT prog w A z [z, TI, TO, i1, i2, l2] [z, TI, TO, i1, i2] n1
      (fun i vals => ∃ x y, P1 i x ∧ ys[i]? = some y ∧ vals = #[x, y])
      (fun i h => IsZip h z TI TO .none ∧ IsPair h TI (.ref i1) (.ref i2) ∧ (∃ a b, IsPair h TO a b) ∧ S1 i h ∧ h.IsListIter i2 l2 i ∧ h.IsList l2 ys)
      (fun i T h => IsZip h z TI TO (rawInt T) ∧ IsPair h TI (.ref i1) (.ref i2) ∧ (∃ a b, IsPair h TO a b) ∧ S1 (i + 1) h ∧ h.IsListIter i2 l2 (i + 1) ∧ h.IsList l2 ys ∧
        T ≠ z ∧ T ≠ TI ∧ T ≠ TO ∧ T ≠ i1 ∧ T ≠ i2) where
  sub := fun c hc => by simp at hc ⊢; rcases hc with rfl | rfl | rfl | rfl | rfl <;> simp
  frame := fun i h h' hst hk => by
    obtain ⟨hz, hTI, ⟨a, b, hTO⟩, h1, h2, hl2⟩ := hst
    exact ⟨hk z (by simp) _ hz, hk TI (by simp) _ hTI, ⟨a, b, hk TO (by simp) _ hTO⟩, (G A hh).frame _ _ _ h1 fun c hc o e => hk c (by rw [List.mem_singleton.mp hc]; simp) o e, h2.at fun o e => hk i2 (by simp) o e,
      hl2.at fun o e => hk l2 (by simp) o e⟩
  item := fun i s Q E hi hst hQ => by
    obtain ⟨hz, hTI, ⟨a, b, hTO⟩, h1, h2, hl2⟩ := hst
    have hT : s.TypeIs (.ref z) "zip" := ⟨_, hz, rfl⟩
    have hiy : i < ys.size := by rw [hn]; exact hi
    unfold pyNext
    refine wpAny_bind (wpAny_attempt (wpAny_callSpecial?_slot (name := Str.ofString "__next__") hT F.slot_zip_next
      (wpAny_call_entry F.slot_zip_next hT F.entry_zip_next
        (z_item (G _ (by first | exact hh | rfl)) D hz hTI hTO h1 h2 hl2 hi (Array.getElem?_eq_getElem hiy) fun x h' tk hP a1 a2 a3 a4 a5 hk => wpAny_pure ?_) (F.args_zip_next_1 _))))
    have lt : ∀ {c o}, s.heap.get? c = some o → s.heap.objs.size ≠ c := fun e => Nat.ne_of_gt (Heap.lt_size e)
    exact hQ s.heap.objs.size #[x, ys[i]] h' tk ⟨_, _, hP, Array.getElem?_eq_getElem hiy, rfl⟩ (Nat.le_refl _) ⟨_, a5, rfl, _, rfl⟩
      ⟨a1, hk _ _ D.TIz D.TITO D.TIi1 D.TIi2 hTI, ⟨_, _, a2⟩, a3, a4, hl2.at fun o e => hk _ o D.l2z D.l2TO D.l2i1 D.l2i2 e,
        lt hz, lt hTI, lt hTO, (by obtain ⟨_, e⟩ := (G A hh).live _ _ h1; exact lt e), (by obtain ⟨_, e, _⟩ := h2; exact lt e)⟩
      fun c o hc e => hk c o (fun x => hc (by simp [x])) (fun x => hc (by simp [x])) (fun x => hc (by simp [x])) (fun x => hc (by simp [x])) e
  go := fun elts k pos i T s Q E hm hQ => by
    obtain ⟨hz, hTI, ⟨a, b, hTO⟩, h1, h2, hl2, _⟩ := hm
    refine wpAny_letOwnedTupleGo_zip hz fun h' hz' hs' => hQ h' ⟨hz', hs'.extBut _ _ D.TIz hTI, ⟨a, b, hs'.extBut _ _ D.TOz hTO⟩, (G A hh).frame _ _ _ h1 fun c hc o q => hs'.extBut c o (by rw [List.mem_singleton.mp hc]; exact D.i1z) q, h2.extBut hs'.extBut D.i2z,
      hl2.extBut hs'.extBut D.l2z⟩ fun c o hc e => hs'.extBut _ _ (fun x => hc (by simp [x])) e
  apart := fun i T h hm hT => by
    obtain ⟨_, _, _, _, _, _, t1, t0, t2, t3, t4⟩ := hm
    simp at hT
    rcases hT with rfl | rfl | rfl | rfl | rfl
    · exact t1 rfl
    · exact t0 rfl
    · exact t2 rfl
    · exact t3 rfl
    · exact t4 rfl
  done := fun s Q E hst hQ => by
    obtain ⟨hz, hTI, ⟨a, b, hTO⟩, h1, h2, hl2⟩ := hst
    have hT : s.TypeIs (.ref z) "zip" := ⟨_, hz, rfl⟩
    unfold pyNext
    refine wpAny_bind (wpAny_attempt (wpAny_callSpecial?_slot (name := Str.ofString "__next__") hT F.slot_zip_next
      (wpAny_call_entry F.slot_zip_next hT F.entry_zip_next (z_end (G _ (by first | exact hh | rfl)) D hz hTI hTO h1 fun h' e hk he => ?_) (F.args_zip_next_1 _))))
    obtain ⟨o, ho, hc⟩ := he
    refine wpAny_bind (wpAny_isInstance (T := "StopIteration") (b := true) ⟨o, ho, hc⟩ isSubtype_stop ?_)
    exact wpAny_pure (hQ h' s.toks fun c o hc e => hk c o (fun x => hc (by simp [x])) (fun x => hc (by simp [x])) (fun x => hc (by simp [x])) (fun x => hc (by simp [x])) e)
  self := fun i s Q E hst hQ => wpAny_pyIter_zip hst.1 hQ
end
noncomputable abbrev zH1 (h : Heap) (x : Str) (t : Tok) : Heap := h.push { cls := .type (strIterType x), data := .fields #[.str x t, .int 0 0] }
noncomputable abbrev zH2 (h : Heap) (x : Str) (t : Tok) (l2 : Addr) : Heap := (zH1 h x t).push { cls := .type "list_iterator", data := .fields #[.ref l2, .int 0 0] }
noncomputable abbrev zH3 (h : Heap) (x : Str) (t : Tok) (l2 : Addr) : Heap := (zH2 h x t l2).push { cls := .type "tuple", data := .seq #[.ref h.objs.size, .ref (zH1 h x t).objs.size] }
noncomputable abbrev zH4 (h : Heap) (x : Str) (t : Tok) (l2 : Addr) : Heap := (zH3 h x t l2).push { cls := .type "tuple", data := .seq #[.none, .none] }
noncomputable abbrev zH5 (h : Heap) (x : Str) (t : Tok) (l2 : Addr) : Heap := (zH4 h x t l2).push { cls := .type "zip", data := .fields #[.none, .bool false, .bool false, .ref (zH2 h x t l2).objs.size, .ref (zH3 h x t l2).objs.size] }
set_option maxHeartbeats 4000000 in
theorem z_new (x : Str) (t : Tok) (l2 : Addr) (ys : Array Value) :
    Meets (Builtin.«zip.__new__» ⟨[.type "zip", .str x t, .ref l2], []⟩) (fun _ R s => s.heap.IsList l2 ys ∧
      R (.ok (.ret (.ref (zH4 s.heap x t l2).objs.size))) { s with heap := zH5 s.heap x t l2 }) :=
  .of_wp fun prog w A R s h => by
    obtain ⟨hp, g, d, tk, os⟩ := s; obtain ⟨hl2, h⟩ := h
    have hsub := sub_zip
    have hL2 : Heap.IsList (Shared.heap ⟨hp.push { cls := .type (strIterType x), data := .fields #[.str x t, .int 0 0] }, g, d, tk, os⟩) l2 ys := Heap.IsList.push hl2 _
    wp_walk using wpAny_pyIter_strU, wpAny_pyIter_list hL2
    exact ⟨_, rfl, h⟩
theorem call_z {prog : Program} {w : World} {A : Around} {E : Value → Shared → Prop} {s : Shared} {x : Str} {t : Tok} {l2 : Addr} {ys : Array Value} {Q : Value → Shared → Prop} (hl2 : s.heap.IsList l2 ys)
    (h : ∀ h', IsZip h' (s.heap.objs.size + 4) (s.heap.objs.size + 2) (s.heap.objs.size + 3) .none → IsPair h' (s.heap.objs.size + 2) (.ref s.heap.objs.size) (.ref (s.heap.objs.size + 1)) →
      IsPair h' (s.heap.objs.size + 3) .none .none → h'.IsStrIter s.heap.objs.size (strIterType x) x t 0 → h'.IsListIter (s.heap.objs.size + 1) l2 0 →
      (∀ c o, s.heap.get? c = some o → h'.get? c = some o) → Q (.ref (s.heap.objs.size + 4)) { s with heap := h' }) :
    wpAny (model prog w) A (call (.type "zip") [.str x t, .ref l2]) Q E s := by
  refine callType_new F.called_zip (by decide) (F.typeCall_zip_2 _ _) (F.newCall_zip_2 _ _) (fun obj => F.args_object_init_3 obj _ _) F.entry_zip_new
    (z_new x t l2 ys) ⟨hl2, ?_⟩
  have z1 : (zH1 s.heap x t).objs.size = s.heap.objs.size + 1 := Heap.size_push ..
  have z2 : (zH2 s.heap x t l2).objs.size = s.heap.objs.size + 2 := by rw [Heap.size_push, z1]
  have z3 : (zH3 s.heap x t l2).objs.size = s.heap.objs.size + 3 := by rw [Heap.size_push, z2]
  have z4 : (zH4 s.heap x t l2).objs.size = s.heap.objs.size + 4 := by rw [Heap.size_push, z3]
  have g5 : (zH5 s.heap x t l2).get? (zH4 s.heap x t l2).objs.size = some _ := Heap.get?_push_size _ rfl
  have g4 : (zH5 s.heap x t l2).get? (zH3 s.heap x t l2).objs.size = some _ := Heap.get?_push_of_some _ (Heap.get?_push_size _ rfl)
  have g3 : (zH5 s.heap x t l2).get? (zH2 s.heap x t l2).objs.size = some _ := Heap.get?_push_of_some _ (Heap.get?_push_of_some _ (Heap.get?_push_size _ rfl))
  have g2 : (zH5 s.heap x t l2).get? (zH1 s.heap x t).objs.size = some _ := Heap.get?_push_of_some _ (Heap.get?_push_of_some _ (Heap.get?_push_of_some _ (Heap.get?_push_size _ rfl)))
  have g1 : (zH5 s.heap x t l2).get? s.heap.objs.size = some _ := Heap.get?_push_of_some _ (Heap.get?_push_of_some _ (Heap.get?_push_of_some _ (Heap.get?_push_of_some _ (Heap.get?_push_size _ rfl))))
  show _ ∧ _
  rw [z2, z3, z4] at g5
  rw [z1, z2] at g3
  rw [z3] at g4
  rw [z1] at g2
  rw [z4]
  exact ⟨⟨_, g5, rfl⟩, h _ g5 g3 g4 ⟨_, g1, rfl, rfl⟩ ⟨_, g2, rfl, rfl⟩ fun c o x =>
    Heap.get?_push_of_some _ (Heap.get?_push_of_some _ (Heap.get?_push_of_some _ (Heap.get?_push_of_some _ (Heap.get?_push_of_some _ x))))⟩
theorem draws_str {prog : Program} {w : World} {A : Around} (hh : A.handled = none) (it : Addr) (x : Str) (t : Tok) : Draws prog w A it [it] x.cps.size (SignAt x) (fun i h => h.IsStrIter it (strIterType x) x t i) := by
  unfold strIterType
  cases ha : x.cps.all (· < 128)
  · exact Draws.strWide hh it x t
  · exact Draws.strAscii hh it x t
section
variable {c : Cx} {ρ : List (Str × SV)}
theorem Source.zip {nm x y : Str} {p pos px py tp : Pos} {k : Nat} {e₁ e₂ : Expr} {z : Str} {zs : List SV} (hf : Ev c ρ (.Name nm p) (.ty "zip")) (he₁ : Ev c ρ e₁ (.str z)) (he₂ : Ev c ρ e₂ (.lst zs)) (hlen : zs.length = z.cps.size) (hh : c.A.handled = none)
    (hst : ∀ env : Env, (backTo pos (starEach [e₁, e₂] env)).any (·.1) = false := by exact fun _ => plain_any rfl) (hst' : ∀ env, starEach (e₁ :: [e₂]) env = (false, eval e₁ env) :: starEach [e₂] env := by exact fun _ => starEach_cons rfl)
    (hst'' : ∀ env, starEach (e₂ :: []) env = (false, eval e₂ env) :: starEach [] env := by exact fun _ => starEach_cons rfl) :
    Source c ρ (.Call (.Name nm p) [e₁, e₂] [] pos) (.Tuple [.Name x px, .Name y py] k tp) (z.cps.toList.zip zs) (fun u => [(y, u.2), (x, .str ⟨#[u.1]⟩)]) := fun F s Q E hs hQ =>
  callRaw hf ty_val rfl (Evs.cons he₁ (Evs.cons he₂ Evs.nil hst'') hst') hst hs fun vs F₁ s₁ x₁ hvs => by
    obtain ⟨v, u, rfl, hv, hu⟩ := hvs.inv2
    unfold VR at hv hu
    obtain ⟨t, rfl⟩ := hv
    obtain ⟨D, us, n, rfl, hD, hus⟩ := hu
    have hDh := x₁.inn _ _ hD
    have hlt : D < s₁.heap.objs.size := Heap.lt_size hDh
    have hl : s₁.heap.IsList D us.toArray := ⟨_, hDh, rfl, n, rfl⟩
    refine call_z hl fun h' hz hTI hTO hit1 hit2 hkeep => ?_
    refine wpAny_pyIter_zip hz ?_
    have e₂ := Ext.made (F := F₁) (s := s₁) (tk := s₁.toks) x₁.inn (h' := h') hkeep
    generalize hg : s₁.heap.objs.size = g at *
    have D' : ZApart (g + 4) (g + 2) (g + 3) g (g + 1) D :=
      ⟨by simp, by simp, by simp, by simp, by simp, by simp, by simp, by simp, by simp, by simp, Nat.ne_of_lt (Nat.lt_of_lt_of_le hlt (Nat.le_add_right _ _)), Nat.ne_of_lt (Nat.lt_of_lt_of_le hlt (Nat.le_add_right _ _)), Nat.ne_of_lt hlt, Nat.ne_of_lt (Nat.lt_of_lt_of_le hlt (Nat.le_add_right _ _))⟩
    have W := (wk_zip (prog := c.prog) (w := c.w) hh (fun A' hA => draws_str hA g z t) D' us.toArray (by rw [List.size_toArray, hus.length, hlen])).toU
    have hfr : ∀ a ∈ [g + 4, g + 2, g + 3, g, g + 1], s₁.heap.objs.size ≤ a := by rw [hg]; intro a ha; simp at ha; rcases ha with rfl | rfl | rfl | rfl | rfl <;> simp
    refine hQ (g + 4) (fun a => a ∈ [g + 4, g + 2, g + 3, g, g + 1]) (ItJ F₁ [g + 4, g + 2, g + 3, g, g + 1] (fun i h => IsZip h (g + 4) (g + 2) (g + 3) .none ∧ IsPair h (g + 2) (.ref g) (.ref (g + 1)) ∧ (∃ a b, IsPair h (g + 3) a b) ∧ h.IsStrIter g (strIterType z) z t i ∧ h.IsListIter (g + 1) D i ∧ h.IsList D us.toArray)) F₁ _ (x₁.trans e₂) ?_ ?_ ?_
    · intro a ha
      exact keep_dead x₁ (dead_of (hfr a ha))
    · refine ⟨⟨hz, hTI, ⟨_, _, hTO⟩, hit1, hit2, ⟨_, e₂.inn _ _ hD, rfl, n, rfl⟩⟩, Sub.refl _, fun a ha => ⟨dryF x₁.inn (hfr a ha), ?_⟩, e₂.inn⟩
      simp at ha
      rcases ha with rfl | rfl | rfl | rfl | rfl
      · exact ⟨_, hz⟩
      · exact ⟨_, hTI⟩
      · exact ⟨_, hTO⟩
      · obtain ⟨o, ho, _⟩ := hit1; exact ⟨o, ho⟩
      · obtain ⟨o, ho, _⟩ := hit2; exact ⟨o, ho⟩
    · intro c' h1 h2 h3 h4 h5
      refine Src.ofWalksU (by rw [h1, h2, h3]; exact W) (by rw [h3]; exact hh) (by simp [hlen]) (fun b hb => ?_) (fun i h hst a ha => ?_) (fun i vs u hP hz => ?_) h4 (h5 x (by simp [tgNames])) (h5 y (by simp [tgNames]))
      · by_cases hbD : b = D
        · subst hbD; exact .inr ⟨_, hD⟩
        · left; simp at hb ⊢; rcases hb with h | h | h | h | h | h
          · exact .inl h
          · exact .inr (.inl h)
          · exact .inr (.inr (.inl h))
          · exact .inr (.inr (.inr (.inl h)))
          · exact .inr (.inr (.inr (.inr h)))
          · exact absurd h hbD
      · obtain ⟨a1, a2, ⟨_, _, a3⟩, ⟨o4, a4, _⟩, ⟨o5, a5, _⟩, _⟩ := hst
        simp at ha
        rcases ha with rfl | rfl | rfl | rfl | rfl
        · exact ⟨_, a1⟩
        · exact ⟨_, a2⟩
        · exact ⟨_, a3⟩
        · exact ⟨_, a4⟩
        · exact ⟨_, a5⟩
      · obtain ⟨a, b, ⟨cp, u', hcp, rfl⟩, hb, rfl⟩ := hP
        rw [List.getElem?_zip_eq_some] at hz
        obtain ⟨h1, h2⟩ := hz
        rw [Array.getElem?_toList, hcp] at h1
        refine ⟨_, _, rfl, ?_, hus.at (by simpa using hb) h2⟩
        rw [← Option.some.inj h1]
        exact VR.str
end
end Mine
end
section
open PySem PySem.W PyProof.Rows
namespace Mine
noncomputable def b1es (P : Params) : Array (Int × Value) := match (ob78 P).data with | .set es _ _ => es | _ => #[]
noncomputable def entI (e : Int × Value) : Int := match e.2 with | .int n _ => n | _ => 0
theorem b1_ints (P : Params) : (b1es P).toList.map entI = [65024, 65025, 65026, 65027, 65028, 65029, 6150, 65030, 65031, 65032, 65033, 6155, 6156, 6157, 8203, 8204, 8205, 65034, 65035, 65036, 65037, 65038, 65039, 173, 847, 8288, 65279] := by kernel_rfl
theorem b1_all (P : Params) : ((b1es P).toList.all fun e => match e.2 with | .int n t => e.1 == hashInt n && Value.scannable (.int n t) | _ => false) = true := by kernel_rfl
theorem b1_mem (k : Int) : k ∈ ([65024, 65025, 65026, 65027, 65028, 65029, 6150, 65030, 65031, 65032, 65033, 6155, 6156, 6157, 8203, 8204, 8205, 65034, 65035, 65036, 65037, 65038, 65039, 173, 847, 8288, 65279] : List Int) ↔ k ∈ unseenT := by
  have h1 : ∀ x ∈ ([65024, 65025, 65026, 65027, 65028, 65029, 6150, 65030, 65031, 65032, 65033, 6155, 6156, 6157, 8203, 8204, 8205, 65034, 65035, 65036, 65037, 65038, 65039, 173, 847, 8288, 65279] : List Int), x ∈ unseenT := by decide
  have h2 : ∀ x ∈ unseenT, x ∈ ([65024, 65025, 65026, 65027, 65028, 65029, 6150, 65030, 65031, 65032, 65033, 6155, 6156, 6157, 8203, 8204, 8205, 65034, 65035, 65036, 65037, 65038, 65039, 173, 847, 8288, 65279] : List Int) := by decide
  exact ⟨h1 k, h2 k⟩
theorem b1_set (prog : Program) (w : World) {h : Heap} (X : (KF w.params).In h) : h.SetOf (intKind prog w) 78 (fun k => decide (k ∈ unseenT)) 27 := by
  have all := b1_all w.params
  rw [List.all_eq_true] at all
  have shape : ∀ e ∈ (b1es w.params).toList, ∃ n t, e.2 = .int n t ∧ e.1 = hashInt n ∧ Value.scannable (.int n t) = true := fun e he => by
    have := all e he
    revert this
    cases e.2 with
    | int n t =>
      intro q
      obtain ⟨q1, q2⟩ := Bool.and_eq_true_iff.mp q
      exact ⟨n, t, rfl, beq_iff_eq.mp q1, q2⟩
    | _ => intro q; cases q
  refine ⟨ob78 w.params, b1es w.params, 29, _, X 78 _ (by kernel_rfl), ⟨rfl, rfl, rfl⟩, rfl, fun e he => ?_, fun k => ?_, (by decide +kernel : (27 : Nat) < scanBound), by kernel_rfl, by kernel_rfl⟩
  · obtain ⟨n, t, h1, h2, h3⟩ := shape e he
    refine ⟨⟨n, ?_, h2⟩, by rw [h1]; exact h3⟩
    rw [h1]; exact intKind_is prog w n t
  · rw [decide_eq_true_eq, ← b1_mem, ← b1_ints w.params, List.mem_map]
    constructor
    · rintro ⟨e, he, rfl⟩
      obtain ⟨n, t, h1, _⟩ := shape e he
      refine ⟨e, he, ?_⟩
      have : entI e = n := by unfold entI; rw [h1]
      rw [this, h1]; exact intKind_is prog w n t
    · rintro ⟨e, he, hk⟩
      refine ⟨e, he, ?_⟩
      obtain ⟨n, t, h1, _⟩ := shape e he
      rw [h1] at hk
      have hk : Value.isInt k (.int n t) = true := hk
      obtain ⟨u, hu⟩ := Value.isInt_shape hk
      cases hu
      unfold entI; rw [h1]
theorem b1_ok (w : World) (d cp : Nat) : PureFn (KF w.params) PG w (d + 1) 88 [.str ⟨#[cp]⟩] (.bool (decide ((cp : Int) ∈ unseenT))) := by
  refine PureFn.of_body (d := d) (o := ob88 w.params) (names := [Str.ofString "code"]) (by kernel_rfl) rfl rfl rfl (by kernel_rfl) (by kernel_rfl) (by kernel_rfl) (bind1 fun _ => rfl) (by decide +kernel) (by decide +kernel) (by decide +kernel) rfl rfl rfl (fun A L hr => ?_)
  refine Runs.ret (Ev.compare (Ev.callB (id := "ord") (Ev.bltin rfl rfl rfl rfl (by kernel_rfl) (by kernel_rfl) rfl) (Evs.co rfl (Ev.name rfl rfl rfl) Evs.nil) Op.ord (fun _ => plain_any rfl)) (Ev.glob (a := 78) rfl rfl rfl (by kernel_rfl) rfl) ?_ rfl)
  refine Op.two fun F s v u Q E hs hb hv hu hQ => ?_
  unfold VR at hv hu
  obtain ⟨t, rfl⟩ := hv
  subst hu
  exact wpAny_inSet_of (intKind_is _ _ _ _) rfl (b1_set PG w fun a o e => hs _ _ (hb a o e)) (hQ _ F _ (Ext.tok hs _) VR.bool)
end Mine
end
section
open PySem PySem.W PyProof.Rows
namespace Mine
noncomputable def b3es (P : Params) : Array DictEntry := match (ob89 P).data with | .dict es _ => es | _ => #[]
theorem b3_all (P : Params) : ((b3es P).toList.all fun e => match e.key, e.val with | .int n _, .str _ _ => e.hash == hashInt n | _, _ => false) = true := by kernel_rfl
theorem b3_shape (P : Params) : ∀ e ∈ b3es P, ∃ n t x u, e.key = .int n t ∧ e.val = .str x u ∧ e.hash = hashInt n := fun e he => by
  have := List.all_eq_true.mp (b3_all P) e (Array.mem_toList_iff.mpr he)
  revert this
  obtain ⟨hs, k, v⟩ := e
  cases k <;> cases v <;> intro q <;> first | exact ⟨_, _, _, _, rfl, rfl, beq_iff_eq.mp q⟩ | cases q
noncomputable def b3find (P : Params) (k : Int) : Option Value := findBy Value.isInt (b3es P) k
theorem b3_map (prog : Program) (w : World) {h : Heap} (X : (KF w.params).In h) : h.MapOf (intKind prog w) 89 (b3find w.params) :=
  ⟨ob89 w.params, b3es w.params, _, X 89 _ (by kernel_rfl), ⟨rfl, rfl, rfl⟩, rfl, fun e he => by
    obtain ⟨n, t, x, u, h1, _, h3⟩ := b3_shape w.params e he
    exact ⟨n, by rw [h1]; exact intKind_is prog w n t, h3⟩, fun _ => rfl⟩
theorem b3find_str (P : Params) (k : Int) (v : Value) (h : b3find P k = some v) : ∃ x u, v = .str x u := by
  unfold b3find findBy at h
  obtain ⟨e, he, rfl⟩ := Option.map_eq_some_iff.mp h
  obtain ⟨n, t, x, u, _, h2, _⟩ := b3_shape P e (Array.mem_of_find?_eq_some he)
  exact ⟨x, u, h2⟩
noncomputable def b3F (P : Params) (cp : Nat) : Str := match b3find P cp with | some (.str x _) => x | _ => Txt.lower ⟨#[cp]⟩
theorem isNotNone_str {c : Cx} {x : Str} : Op c (fun vs => compareOp .IsNot (vs.getD 0 .none) (vs.getD 1 .none)) [.str x, .none] (.bool true) :=
  Op.two fun F s v u Q E hs hb hv hu hQ => by
    unfold VR at hv hu
    obtain ⟨t, rfl⟩ := hv
    subst hu
    exact isNot_none (hQ _ F _ (Ext.refl hs) VR.bool)
theorem isNotNone_none {c : Cx} : Op c (fun vs => compareOp .IsNot (vs.getD 0 .none) (vs.getD 1 .none)) [.none, .none] (.bool false) :=
  Op.two fun F s v u Q E hs hb hv hu hQ => by
    unfold VR at hv hu
    subst hv hu
    exact isNot_none (hQ _ F _ (Ext.refl hs) VR.bool)
theorem get_op {c : Cx} {w : World} (hK : c.K = KF w.params) (hp : c.w = w) {cp : Int} {r : SV} (h : ∀ F, VR F r ((b3find w.params cp).getD .none)) : Op c (fun vs => PySem.call (.builtin "dict.get") vs) [.ref 89, .int cp] r :=
  Op.two fun F s v u Q E hs hb hv hu hQ => by
    unfold VR at hv hu
    subst hv
    obtain ⟨t, rfl⟩ := hu
    have m := b3_map c.prog c.w (h := s.heap) fun a o e => hs _ _ (hb a o (by rw [hK, ← hp]; exact e))
    refine call_meetsIn PySem.F.slot_dict_get m.typeIs PySem.F.entry_dict_get (PySem.F.args_dict_get_2 _ _) (meets_dict_get (intKind c.prog c.w) 89 (intKind_is _ _ _ _) rfl) ⟨_, m, ?_⟩
    refine hQ _ F _ (Ext.tok hs _) ?_
    rw [hp]
    exact h F
theorem dictT {c : Cx} {w : World} (hK : c.K = KF w.params) : ∀ F (s : Shared) v, Sub F s.heap.get? → (∀ a o, c.K.lookup a = some o → F a = some o) → VR F (.ref 89) v → s.TypeIs v "dict" ∧ ∀ a, v = .ref a → ∃ ob, s.heap.get? a = some ob ∧ ob.dict = none := fun F s v hs hb h => by
  unfold VR at h
  subst h
  have e : s.heap.get? 89 = some (ob89 w.params) := hs _ _ (hb 89 _ (by rw [hK]; kernel_rfl))
  exact ⟨⟨_, e, rfl⟩, fun a q => by cases q; exact ⟨_, e, rfl⟩⟩
theorem b3_ok (w : World) (d cp : Nat) (hfit : Builtin.Str.tooLong (Txt.lower ⟨#[cp]⟩).length = false) : PureFn (KF w.params) PG w (d + 1) 134 [.str ⟨#[cp]⟩] (.str (b3F w.params cp)) := by
  refine PureFn.of_body (d := d) (o := ob134 w.params) (names := [Str.ofString "code"]) (by kernel_rfl) rfl rfl rfl (by kernel_rfl) (by kernel_rfl) (by kernel_rfl) (bind1 fun _ => rfl) (by decide +kernel) (by decide +kernel) (by decide +kernel) rfl rfl rfl (fun A L hr => ?_)
  cases hf : b3find w.params cp with
  | some v =>
    obtain ⟨x, u, rfl⟩ := b3find_str _ _ _ hf
    refine Runs.set (sv := .str x) (Ev.meth (ov := .ref 89) (Ev.glob rfl rfl rfl (by kernel_rfl) rfl) (Evs.co rfl (Ev.callB (id := "ord") (Ev.bltin rfl rfl rfl rfl (by kernel_rfl) (by kernel_rfl) rfl) (Evs.co rfl (Ev.name rfl rfl rfl) Evs.nil) Op.ord (fun _ => plain_any rfl)) Evs.nil) PySem.F.plainAttrs_dict PySem.F.slot_dict_get PySem.F.type_dict_get (dictT rfl) (get_op rfl rfl fun F => by rw [hf]; exact VR.str) (attr_plain rfl) (plain_few rfl rfl) rfl (fun _ => plain_any rfl)) rfl (.inl rfl) ?_ (swaps_plain rfl)
    refine Runs.ite (d := true) (EvT.compare (Ev.name rfl rfl rfl) Ev.nothing isNotNone_str rfl) (fun _ => ?_) (fun q => (nomatch q))
    refine Runs.ret' (Ev.name rfl rfl rfl) ?_
    unfold b3F; rw [hf]
  | none =>
    refine Runs.set (sv := .none) (Ev.meth (ov := .ref 89) (Ev.glob rfl rfl rfl (by kernel_rfl) rfl) (Evs.co rfl (Ev.callB (id := "ord") (Ev.bltin rfl rfl rfl rfl (by kernel_rfl) (by kernel_rfl) rfl) (Evs.co rfl (Ev.name rfl rfl rfl) Evs.nil) Op.ord (fun _ => plain_any rfl)) Evs.nil) PySem.F.plainAttrs_dict PySem.F.slot_dict_get PySem.F.type_dict_get (dictT rfl) (get_op rfl rfl fun F => by rw [hf]; unfold VR; rfl) (attr_plain rfl) (plain_few rfl rfl) rfl (fun _ => plain_any rfl)) rfl (.inl rfl) ?_ (swaps_plain rfl)
    refine Runs.ite (d := false) (EvT.compare (Ev.name rfl rfl rfl) Ev.nothing isNotNone_none rfl) (fun q => (nomatch q)) (fun _ => ?_)
    refine Runs.ret' (Ev.meth (Ev.name rfl rfl rfl) Evs.nil PySem.F.plainAttrs_str PySem.F.slot_str_lower PySem.F.type_str_lower strT (Op.lower hfit) (attr_plain rfl) (plain_few rfl rfl) rfl (fun _ => plain_any rfl)) ?_
    unfold b3F; rw [hf]
end Mine
end
section
open PySem PySem.W PyProof.Rows
namespace Mine
noncomputable def isB1 (cp : Nat) : Bool := decide ((cp : Int) ∈ unseenT)
noncomputable def prepL (P : Params) (x : List Nat) : List Str := (x.filter fun cp => !isB1 cp).map (b3F P)
noncomputable def prepS (P : Params) (x : Str) : Str := Txt.join Str.empty (prepL P x.cps.toList)
theorem isi_bool {c : Cx} {b : Bool} : Op c (fun vs => PySem.call (.builtin "isinstance") vs) [.bool b, .ty "bool"] (.bool true) :=
  Op.two fun F s v u Q E hs hb hv hu hQ => by
    unfold VR at hv hu
    subst hv hu
    exact IsiPair.bool_bool (hQ _ F _ (Ext.refl hs) VR.bool)
theorem filter_false {α : Type} (xs : List α) : xs.filter (fun _ => false) = [] := by
  induction xs with
  | nil => rfl
  | cons a r ih => rw [List.filter_cons_of_neg (by decide), ih]
theorem zip_map {α β : Type} (f : α → β) : ∀ xs : List α, xs.zip (xs.map f) = xs.map fun x => (x, f x)
  | [] => rfl
  | x :: xs => by rw [List.map_cons, List.map_cons, List.zip_cons_cons, zip_map f xs]
theorem prep_ok (w : World) (d : Nat) (x : Str) (hlen : x.cps.toList.length ≤ 1000) (hfit : ∀ cp ∈ x.cps.toList, Builtin.Str.tooLong (Txt.lower ⟨#[cp]⟩).length = false) (hok : JoinOk Str.empty (prepL w.params x.cps.toList) = true) :
    PureFn (KF w.params) PG w (d + 2) 151 [.str x] (.str (prepS w.params x)) := by
  refine PureFn.of_body (d := d + 1) (o := ob151 w.params) (names := [Str.ofString "text"]) (by kernel_rfl) rfl rfl rfl (by kernel_rfl) (by kernel_rfl) (by kernel_rfl) (bind1 fun _ => rfl) (by decide +kernel) (by decide +kernel) (by decide +kernel) rfl rfl rfl (fun A L hr => ?_)
  refine Runs.setComp (ρ' := []) (p := fun _ => true) (f := fun cp => .bool (isB1 cp)) ⟨Source.str (Ev.name rfl rfl rfl) hr.handled, hlen, by decide, rfl, by decide, by decide, trivial, rfl, fun _ _ => rfl, fold_plain rfl⟩ (fun cl C cp hcp => TestsOk.nil)
    (fun cl C cp hcp _ => Ev.callF (a := 88) (o := ob88 w.params) (Ev.glob rfl rfl rfl (by kernel_rfl) rfl) (Evs.co rfl (Ev.name rfl rfl rfl) Evs.nil) hr (by kernel_rfl) rfl (b1_ok w d cp) (fun _ => plain_any rfl)) rfl (.inl rfl) ?_ rfl
  rw [filter_true]
  refine Runs.ite (d := false) (EvT.compare (a := .lst []) ?first (Ev.list Evs.nil rfl) (Op.neEmpty hr) rfl) (fun q => (nomatch q)) (fun _ => ?_)
  case first =>
    exact Ev.compR (ρ' := []) (fun _ => false) (fun v => v) ⟨Source.list (Ev.name rfl rfl rfl) hr.handled, by rw [List.length_map]; exact hlen, by decide, rfl, by decide, by decide, trivial, rfl, fun _ _ => rfl, fold_plain rfl⟩
      (fun cl C v hv => TestsOk.one (by
        obtain ⟨cp, _, rfl⟩ := List.mem_map.mp hv
        exact EvT.not (b := true) (EvT.bool (Ev.callB (id := "isinstance") (Ev.bltin rfl rfl rfl rfl (by kernel_rfl) (by kernel_rfl) rfl) (Evs.co rfl (Ev.name rfl rfl rfl) (Evs.co rfl (Ev.tyin rfl rfl rfl rfl (by kernel_rfl) (by kernel_rfl) rfl) Evs.nil)) isi_bool (fun _ => plain_any rfl)) rfl)))
      (fun cl C v hv q => (nomatch q)) (by rw [filter_false]; rfl)
  refine Runs.ret (Ev.meth Ev.str (Evs.co rfl ?zip Evs.nil) PySem.F.plainAttrs_str PySem.F.slot_str_join PySem.F.type_str_join strT (Op.join (texts := prepL w.params x.cps.toList) hok) (attr_plain rfl) (plain_few rfl rfl) rfl (fun _ => plain_any rfl))
  case zip =>
    refine Ev.compR (α := Nat) (ρ' := []) (b := fun cp => [(Str.ofString "unseen", .bool (isB1 cp)), (Str.ofString "sign", .str ⟨#[cp]⟩)]) (xs := x.cps.toList) (fun cp => !isB1 cp) (fun cp => .str (b3F w.params cp)) ⟨?src, hlen, by decide, rfl, by decide, by decide, trivial, rfl, fun _ _ => rfl, fold_plain rfl⟩
      (fun cl C cp hcp => TestsOk.one (EvT.not (EvT.bool (Ev.name rfl rfl rfl) rfl)))
      (fun cl C cp hcp _ => Ev.callF (a := 134) (o := ob134 w.params) (Ev.glob rfl rfl rfl (by kernel_rfl) rfl) (Evs.co rfl (Ev.name rfl rfl rfl) Evs.nil) hr (by kernel_rfl) rfl (b3_ok w d cp (hfit cp hcp)) (fun _ => plain_any rfl)) ?_
    case src =>
      refine Source.map (g := fun cp => (cp, SV.bool (isB1 cp))) (b := fun u : Nat × SV => [(Str.ofString "unseen", u.2), (Str.ofString "sign", .str ⟨#[u.1]⟩)]) ?_
      rw [← zip_map]
      exact Source.zip (Ev.tyin rfl rfl rfl rfl (by kernel_rfl) (by kernel_rfl) rfl) (Ev.name rfl rfl rfl) (Ev.name rfl rfl rfl) (by simp) hr.handled (fun _ => plain_any rfl) (fun _ => starEach_cons rfl) (fun _ => starEach_cons rfl)
    · unfold prepL; rw [List.map_map]; rfl
end Mine
end
section
open PySem PySem.W PyProof.Rows
namespace Mine
theorem b3_list (P : Params) (k : Int) : b3find P k = ((b3es P).toList.find? fun e => Value.isInt k e.key).map (·.val) := by
  unfold b3find findBy
  rw [← Array.find?_toList]
noncomputable def b3G (P : Params) (cp : Nat) : Str := match (((b3es P).toList.find? (fun e => Value.isInt (cp : Int) e.key)).map (fun e => e.val) : Option Value) with | some (.str x _) => x | _ => Txt.lower ⟨#[cp]⟩
theorem b3F_eq (P : Params) (cp : Nat) : b3F P cp = b3G P cp := by unfold b3F b3G; rw [b3_list] <;> rfl
theorem t2 (P : Params) : b3G P 104 = ⟨#[104]⟩ := by kernel_rfl
theorem t5 (P : Params) : b3G P 65280 = ⟨#[65280]⟩ := by kernel_rfl
theorem t3 (P : Params) : b3G P 119815 = ⟨#[104]⟩ := by kernel_rfl
theorem t6 (P : Params) : Txt.lower ⟨#[65280]⟩ = ⟨#[65280]⟩ := by kernel_rfl
end Mine
end
section
open PySem PySem.W PyProof.Rows
namespace Mine
noncomputable def letterW (l : Nat) (a b : Int) : Int :=
  if a < 2 then l - 32 * a else if a = 2 then (if l = 112 then 8473 else 8459 + b) else 119808 + 52 * letterT.getD (a - 3).toNat 0 + l - 97
theorem letterC_W (l : Nat) (form : Int) : letterC l form = letterW l (form.fmod 13) ((form.fdiv 13).fmod 3) := rfl
noncomputable def ways : List (Nat × Int × Int) := [104, 112].flatMap fun l => ([0, 1, 2, 3, 4, 5, 6, 7, 8, 9, 10, 11, 12] : List Int).flatMap fun a => ([0, 1, 2] : List Int).map fun b => (l, a, b)
theorem ways_mem {l : Nat} (hl : l = 104 ∨ l = 112) (form : Int) : (l, form.fmod 13, (form.fdiv 13).fmod 3) ∈ ways := by
  have m := fmod_lt (a := form) (b := 13) (by decide)
  have n := fmod_lt (a := form.fdiv 13) (b := 3) (by decide)
  generalize form.fmod 13 = a at m
  generalize (form.fdiv 13).fmod 3 = b at n
  have ha : a ∈ ([0, 1, 2, 3, 4, 5, 6, 7, 8, 9, 10, 11, 12] : List Int) := by simp; lia
  have hb : b ∈ ([0, 1, 2] : List Int) := by simp; lia
  have hl' : l ∈ [104, 112] := by simpa using hl
  exact List.mem_flatMap.mpr ⟨l, hl', List.mem_flatMap.mpr ⟨a, ha, List.mem_map.mpr ⟨b, hb, rfl⟩⟩⟩
noncomputable def okSign (P : Params) (c : Nat) (x : Str) : Bool := !isB1 c && b3G P c == x && !Builtin.Str.tooLong (Txt.lower ⟨#[c]⟩).length
end Mine
namespace Mine
theorem letters_all (P : Params) : (ways.all fun t => okSign P (letterW t.1 t.2.1 t.2.2).toNat ⟨#[t.1]⟩) = true := by kernel_rfl
theorem stray_all (P : Params) : (strayT.all fun c => okSign P c.toNat ⟨#[c.toNat]⟩) = true := by kernel_rfl
theorem signs_all (P : Params) : (okSign P 13259 ⟨#[104, 112]⟩ && okSign P 13271 ⟨#[112, 104]⟩) = true := by kernel_rfl
theorem unseen_all : (unseenT.all fun c => isB1 c.toNat && !Builtin.Str.tooLong (Txt.lower ⟨#[c.toNat]⟩).length) = true := by kernel_rfl
end Mine
end
section
open PySem PySem.W PyProof.Rows
namespace Mine
theorem join_list (ts : List Str) : (Txt.join Str.empty ts).cps.toList = ts.flatMap (·.cps.toList) := by
  unfold Txt.join Builtin.Str.glued
  have gen : ∀ (r : List Str) (acc : Array Nat), (r.foldl (fun acc p => acc ++ Str.empty.cps ++ p.cps) acc).toList = acc.toList ++ r.flatMap (·.cps.toList) := by
    intro r
    induction r with
    | nil => intro acc; simp
    | cons a r ih =>
      intro acc
      rw [List.foldl_cons, ih, List.flatMap_cons]
      simp [Str.empty]
  cases ts with
  | nil => rfl
  | cons a r =>
    show ((List.drop 1 (a :: r)).foldl (fun acc p => acc ++ Str.empty.cps ++ p.cps) a.cps).toList = _
    rw [List.drop_one, List.tail_cons, gen, List.flatMap_cons]
theorem str_ext {a b : Str} (h : a.cps.toList = b.cps.toList) : a = b := by
  obtain ⟨a⟩ := a; obtain ⟨b⟩ := b
  exact congrArg Str.mk (Array.toList_inj.mp h)
theorem okSign_get {P : Params} {c : Nat} {x : Str} (h : okSign P c x = true) : isB1 c = false ∧ b3F P c = x ∧ Builtin.Str.tooLong (Txt.lower ⟨#[c]⟩).length = false := by
  unfold okSign at h
  rw [Bool.and_eq_true, Bool.and_eq_true] at h
  obtain ⟨⟨h1, h2⟩, h3⟩ := h
  refine ⟨by simpa using h1, ?_, by simpa using h3⟩
  rw [b3F_eq]; exact beq_iff_eq.mp h2
theorem letter_sign (P : Params) {l : Nat} (hl : l = 104 ∨ l = 112) (form : Int) : okSign P (letterC l form).toNat ⟨#[l]⟩ = true := by
  rw [letterC_W]
  have m := ways_mem hl form
  generalize form.fmod 13 = a at m ⊢
  generalize (form.fdiv 13).fmod 3 = b at m ⊢
  have := List.all_eq_true.mp (letters_all P) _ m
  dsimp only at this
  exact this
theorem getD_mem {l : List Int} {k : Nat} (h : k < l.length) : l.getD k 0 ∈ l := by
  rw [List.getD_eq_getElem?_getD, List.getElem?_eq_getElem h]; exact List.getElem_mem h
theorem stray_sign (P : Params) (form : Int) : okSign P (strayC form).toNat ⟨#[(strayC form).toNat]⟩ = true := by
  have m := fmod_lt (a := form.fdiv 27) (b := 23) (by decide)
  have k : ((form.fdiv 27).fmod 23).toNat < strayT.length := by show _ < 23; lia
  unfold strayC
  generalize ((form.fdiv 27).fmod 23).toNat = j at k
  have := List.all_eq_true.mp (stray_all P) _ (getD_mem k)
  exact this
theorem unseen_sign (form : Int) : isB1 (unseenC form).toNat = true ∧ Builtin.Str.tooLong (Txt.lower ⟨#[(unseenC form).toNat]⟩).length = false := by
  have m := fmod_lt (a := form) (b := 27) (by decide)
  have k : (form.fmod 27).toNat < unseenT.length := by show _ < 27; lia
  unfold unseenC
  generalize (form.fmod 27).toNat = j at k
  have := List.all_eq_true.mp unseen_all _ (getD_mem k)
  rw [Bool.and_eq_true] at this
  exact ⟨this.1, by have := this.2; rwa [Bool.not_eq_true'] at this⟩
structure Means (P : Params) (c : Nat) (x : List Nat) : Prop where
  fit : Builtin.Str.tooLong (Txt.lower ⟨#[c]⟩).length = false
  mean : (if isB1 c then [] else (b3F P c).cps.toList) = x
theorem Means.of_ok {P : Params} {c : Nat} {x : Str} (h : okSign P c x = true) : Means P c x.cps.toList := by
  obtain ⟨h1, h2, h3⟩ := okSign_get h
  exact ⟨h3, by rw [h1, h2]; rfl⟩
theorem prep_list (P : Params) : ∀ L : List Nat, (prepL P L).flatMap (·.cps.toList) = L.flatMap fun c => if isB1 c then [] else (b3F P c).cps.toList
  | [] => rfl
  | c :: L => by
    have ih := prep_list P L
    unfold prepL at ih ⊢
    rw [List.flatMap_cons, ← ih, List.filter_cons]
    cases h : isB1 c
    · rfl
    · rfl
theorem prepS_list (P : Params) (x : Str) : (prepS P x).cps.toList = x.cps.toList.flatMap fun c => if isB1 c then [] else (b3F P c).cps.toList := by
  unfold prepS
  rw [join_list, prep_list]
theorem wordS_list (l : Nat) (form : Int) : (wordS l form).cps.toList = (wordL l form).flatMap fun p => p.1.cps.toList := by
  unfold wordS; rw [join_list, List.flatMap_map]
theorem wordM_list (l : Nat) (form : Int) : (wordM l form).cps.toList = (wordL l form).flatMap fun p => p.2.cps.toList := by
  unfold wordM; rw [join_list, List.flatMap_map]
theorem word_means (P : Params) {l : Nat} (hl : l = 104 ∨ l = 112) (form : Int) : ∀ p ∈ wordL l form, ∃ c, p.1 = ⟨#[c]⟩ ∧ Means P c p.2.cps.toList := by
  intro p hp
  unfold wordL at hp
  rcases mem_ins hp with rfl | hp
  · exact ⟨_, rfl, Means.of_ok (stray_sign P form)⟩
  · rcases mem_ins hp with rfl | hp
    · exact ⟨_, rfl, (unseen_sign form).2, by rw [(unseen_sign form).1]; rfl⟩
    · rw [List.mem_singleton.mp hp]; exact ⟨_, rfl, Means.of_ok (letter_sign P hl form)⟩
theorem word_prep (P : Params) {l : Nat} (hl : l = 104 ∨ l = 112) (form : Int) : prepS P (wordS l form) = wordM l form := by
  refine str_ext ?_
  rw [prepS_list, wordS_list, wordM_list]
  have := word_means P hl form
  revert this
  generalize wordL l form = L
  induction L with
  | nil => intro _; rfl
  | cons p L ih =>
    intro h
    obtain ⟨c, e, m⟩ := h p List.mem_cons_self
    rw [List.flatMap_cons, List.flatMap_append, ih fun q hq => h q (List.mem_cons_of_mem _ hq), List.flatMap_cons, e]
    congr 1
    show List.flatMap _ [c] = _
    rw [List.flatMap_cons, List.flatMap_nil, List.append_nil, m.mean]
theorem prep_of (P : Params) (f : Nat → List Nat) : ∀ (L : List Nat), (∀ c ∈ L, Means P c (f c)) → (L.flatMap fun c => if isB1 c then [] else (b3F P c).cps.toList) = L.flatMap f
  | [], _ => rfl
  | c :: L, h => by rw [List.flatMap_cons, List.flatMap_cons, (h c List.mem_cons_self).mean, prep_of P f L fun d hd => h d (List.mem_cons_of_mem _ hd)]
theorem ins_flat {α β : Type} (f : α → List β) (xs : List α) (i : Int) (y : α) (hy : f y = []) : (ins xs i y).flatMap f = xs.flatMap f := by
  unfold ins
  rw [List.flatMap_append, List.flatMap_cons, hy, List.nil_append, ← List.flatMap_append, List.take_append_drop]
theorem image_prep (P : Params) {l : Nat} (hl : l = 104 ∨ l = 112) (form : Int) : prepS P (imageS l form) = ⟨#[l, other l]⟩ := by
  refine str_ext ?_
  rw [prepS_list]
  unfold imageS
  rw [join_list]
  have key : ∀ (xs : List Str) (i : Int), ((ins xs i (ch (unseenC form))).flatMap (·.cps.toList)).flatMap (fun c => if isB1 c then [] else (b3F P c).cps.toList) = (xs.flatMap (·.cps.toList)).flatMap (fun c => if isB1 c then [] else (b3F P c).cps.toList) := fun xs i => by
    rw [List.flatMap_assoc, List.flatMap_assoc]
    refine ins_flat _ xs i _ ?_
    have e0 : (ch (unseenC form)).cps.toList = [(unseenC form).toNat] := rfl
    rw [e0, List.flatMap_cons, List.flatMap_nil, List.append_nil, if_pos (unseen_sign form).1]
  have one : ∀ (c : Nat) (x : Str), okSign P c x = true → (if isB1 c then [] else (b3F P c).cps.toList) = x.cps.toList := fun c x h => (Means.of_ok h).mean
  unfold imageL
  split
  · rw [key]
    have s := signs_all P
    rw [Bool.and_eq_true] at s
    have e1 : ∀ n : Int, ([ch n] : List Str).flatMap (fun t => t.cps.toList) = [n.toNat] := fun _ => rfl
    rw [e1, List.flatMap_cons, List.flatMap_nil, List.append_nil]
    rcases hl with rfl | rfl
    · rw [show (if (104 : Nat) = 104 then (13259 : Int) else 13271) = 13259 from rfl, show ((13259 : Int).toNat) = 13259 from rfl, show other 104 = 112 from rfl]
      exact one 13259 ⟨#[104, 112]⟩ s.1
    · rw [show (if (112 : Nat) = 104 then (13259 : Int) else 13271) = 13271 from rfl, show ((13271 : Int).toNat) = 13271 from rfl, show other 112 = 104 from rfl]
      exact one 13271 ⟨#[112, 104]⟩ s.2
  · rw [key]
    have e2 : ∀ n m : Int, ([ch n, ch m] : List Str).flatMap (fun t => t.cps.toList) = [n.toNat, m.toNat] := fun _ _ => rfl
    rw [e2, List.flatMap_cons, List.flatMap_cons, List.flatMap_nil, List.append_nil, one _ _ (letter_sign P hl form), one _ _ (letter_sign P (other_is hl) (form.fdiv 13))]
    rfl
end Mine
end
section
open PySem PySem.W PyProof.Rows
namespace Mine
noncomputable def nlL (t : List Nat) : Int := (t.map nlc).sum
theorem nlL_cons (c : Nat) (t : List Nat) : nlL (c :: t) = nlc c + nlL t := by unfold nlL; rw [List.map_cons, List.sum_cons]
theorem nlL_nil : nlL [] = 0 := rfl
theorem nlL_app (a b : List Nat) : nlL (a ++ b) = nlL a + nlL b := by unfold nlL; rw [List.map_append, List.sum_append]
noncomputable def escL (hard : Nat → Bool) (t : List Nat) : List Nat := t.flatMap fun c => if hard c then [92, c] else [c]
theorem escL_cons (hard : Nat → Bool) (c : Nat) (t : List Nat) : escL hard (c :: t) = (if hard c then [92, c] else [c]) ++ escL hard t := by unfold escL; rw [List.flatMap_cons]
theorem nlL_esc (hard : Nat → Bool) : ∀ t, nlL (escL hard t) = nlL t
  | [] => rfl
  | c :: t => by
    rw [escL_cons, nlL_app, nlL_esc hard t, nlL_cons c t]
    cases hard c <;> simp [nlL_cons, nlL_nil, nlc]
theorem lexIn_esc (stop hard : Nat → Bool) (h92 : stop 92 = false) : ∀ (t tail : List Nat) (ln : Int) (acc : List Nat), (∀ c ∈ t, hard c = false → stop c = false ∧ c ≠ 92) → lexIn stop (escL hard t ++ tail) ln acc = lexIn stop tail (ln + nlL t) (acc ++ t)
  | [], tail, ln, acc, _ => by simp [escL, nlL_nil]
  | c :: t, tail, ln, acc, h => by
    rw [escL_cons, List.append_assoc]
    have ih := fun ln acc => lexIn_esc stop hard h92 t tail ln acc fun x hx => h x (List.mem_cons_of_mem _ hx)
    cases hc : hard c with
    | true =>
      rw [if_pos rfl]
      show lexIn stop (92 :: c :: (escL hard t ++ tail)) ln acc = _
      rw [lexIn, if_neg (by rw [h92]; decide), if_pos rfl]
      show lexIn stop (escL hard t ++ tail) (ln + nlc c) (acc ++ [c]) = _
      rw [ih, nlL_cons, Int.add_assoc, List.append_assoc]
      rfl
    | false =>
      obtain ⟨h1, h2⟩ := h c List.mem_cons_self hc
      rw [if_neg (by decide)]
      show lexIn stop (c :: (escL hard t ++ tail)) ln acc = _
      rw [lexIn.eq_def]
      dsimp only
      rw [if_neg (by rw [h1]; decide), if_neg h2, ih, nlL_cons, Int.add_assoc, List.append_assoc]
      rfl
theorem lexIn_stop (stop : Nat → Bool) (c : Nat) (r : List Nat) (ln : Int) (acc : List Nat) (h : stop c = true) : lexIn stop (c :: r) ln acc = (acc, r, ln + nlc c) := by
  rw [lexIn.eq_def]
  dsimp only
  rw [if_pos h]
theorem lexOut_ws (c : Nat) (r : List Nat) (ln : Int) (h : wsB c = true) : lexOut (c :: r) ln = lexOut r (ln + nlc c) := by rw [lexOut, if_pos h]
theorem lexOut_quoted (hard : Nat → Bool) (t rest : List Nat) (sep : Nat) (ln : Int) (h : ∀ c ∈ t, hard c = false → c ≠ 34 ∧ c ≠ 92) :
    lexOut ([34] ++ escL hard t ++ [34] ++ [sep] ++ rest) ln = (t, sep :: rest, ln + nlL t) := by
  have e : [34] ++ escL hard t ++ [34] ++ [sep] ++ rest = 34 :: (escL hard t ++ (34 :: sep :: rest)) := by simp
  rw [e, lexOut, if_neg (by decide), if_pos rfl, lexIn_esc _ hard (by decide) _ _ _ _ (fun c hc hh => ⟨by simp [(h c hc hh).1], (h c hc hh).2⟩), lexIn_stop _ _ _ _ _ rfl]
  simp [nlc]
theorem lexOut_bare (hard : Nat → Bool) (t rest : List Nat) (sep : Nat) (ln : Int) (hne : t ≠ []) (hs : wsB sep = true) (h : ∀ c ∈ t, hard c = false → wsB c = false ∧ c ≠ 34 ∧ c ≠ 92) :
    lexOut (escL hard t ++ [sep] ++ rest) ln = (t, rest, ln + nlL t + nlc sep) := by
  have key : lexIn wsB (escL hard t ++ (sep :: rest)) ln [] = (t, rest, ln + nlL t + nlc sep) := by
    rw [lexIn_esc _ hard (by decide) _ _ _ _ (fun c hc hh => ⟨(h c hc hh).1, (h c hc hh).2.2⟩), lexIn_stop _ _ _ _ _ hs]
    rfl
  have e : escL hard t ++ [sep] ++ rest = escL hard t ++ (sep :: rest) := by simp
  rw [e]
  cases t with
  | nil => exact absurd rfl hne
  | cons c t =>
    rw [escL_cons] at key ⊢
    cases hc : hard c with
    | true =>
      rw [hc, if_pos rfl] at key
      rw [if_pos rfl]
      show lexOut (92 :: _) ln = _
      rw [lexOut, if_neg (by decide), if_neg (by decide)]
      exact key
    | false =>
      obtain ⟨h1, h2, h3⟩ := h c List.mem_cons_self hc
      rw [hc, if_neg (by decide)] at key
      rw [if_neg (by decide)]
      show lexOut (c :: _) ln = _
      rw [lexOut, if_neg (by rw [h1]; decide), if_neg h2]
      exact key
end Mine
end
section
open PySem PySem.W PyProof.Rows
namespace Mine
noncomputable def hardS (t : Str) (m : Int) : Str := cond (m.fmod 2 != 0) t (Txt.slice ⟨#[34, 92, 32, 9, 10, 13]⟩ none (some (2 + 2 * m.fmod 4)))
noncomputable def markS (m : Int) : Str := cond (decide (m.fmod 4 < 2)) ⟨#[34]⟩ ⟨#[]⟩
noncomputable def signS (hard : Str) (c : Nat) : Str := cond (decide (c ∈ hard.cps.toList)) (⟨#[92]⟩ ++ ⟨#[c]⟩) ⟨#[c]⟩
noncomputable def sepT : List Nat := [10, 9, 32, 13]
noncomputable def bodyS (t : Str) (m : Int) : Str := Txt.join Str.empty (t.cps.toList.map (signS (hardS t m)))
noncomputable def writtenS (t : Str) (m : Int) : Str := markS m ++ bodyS t m ++ markS m ++ ⟨#[sepT.getD ((m.fdiv 4).fmod 4).toNat 0]⟩
theorem joinLen (ts : List Str) : (Txt.join Str.empty ts).length ≤ (ts.map (·.length)).sum := by
  have h := StrLaws.join_length_le Str.empty ts
  rw [← StrLaws.glued_eq_join] at h
  rw [show Str.empty.length = 0 from rfl, Nat.mul_zero, Nat.add_zero] at h
  exact h
theorem app_len (a b : Str) : (a ++ b).length = a.length + b.length := by
  show (a.cps ++ b.cps).size = _
  rw [Array.size_append]; rfl
theorem signS_len (h : Str) (c : Nat) : (signS h c).length ≤ 2 := by
  unfold signS
  cases decide (c ∈ h.cps.toList)
  · exact le1 rfl
  · exact le1 rfl
theorem sum_le {ts : List Str} {n : Nat} (h : ∀ t ∈ ts, t.length ≤ n) : (ts.map (·.length)).sum ≤ ts.length * n := by
  induction ts with
  | nil => simp
  | cons a r ih =>
    have e1 := h a List.mem_cons_self
    have e2 := ih fun t ht => h t (List.mem_cons_of_mem _ ht)
    rw [List.map_cons, List.sum_cons, List.length_cons, Nat.succ_mul]
    lia
theorem bodyS_len {t : Str} (ht : t.length ≤ 10) (m : Int) : (bodyS t m).length ≤ 20 := by
  have h1 := joinLen (t.cps.toList.map (signS (hardS t m)))
  have h2 := sum_le (ts := t.cps.toList.map (signS (hardS t m))) (n := 2) fun x hx => by obtain ⟨c, _, rfl⟩ := List.mem_map.mp hx; exact signS_len _ _
  rw [List.length_map, Array.length_toList] at h2
  unfold Str.length at ht
  unfold bodyS
  lia
theorem markS_len (m : Int) : (markS m).length ≤ 1 := by unfold markS; cases decide (m.fmod 4 < 2) <;> exact le1 rfl
theorem written_ok (w : World) (d : Nat) (t : Str) (m : Int) (ht : t.length ≤ 10) : PureFn (KF w.params) PG w (d + 1) 146 [.str t, .int m] (.str (writtenS t m)) := by
  have q := fmod_lt (a := m.fdiv 4) (b := 4) (by decide)
  have b1 := bodyS_len ht m
  have b2 := markS_len m
  have sz := sizeLine_eq
  have hl : t.cps.toList.length ≤ 1000 := by rw [Array.length_toList]; unfold Str.length at ht; lia
  refine PureFn.of_bodyC (d := d) (o := ob146 w.params) (names := [Str.ofString "token", Str.ofString "manner"]) (own := [Str.ofString "hard"]) (by kernel_rfl) rfl rfl rfl (by kernel_rfl) (by kernel_rfl) (by kernel_rfl) (bind2 fun _ _ => rfl) (by decide +kernel) (by decide +kernel) (by decide +kernel) (by decide +kernel) rfl rfl rfl (fun A L hr => ?_)
  refine Runs.set (sv := .str (hardS t m)) (Ev.ifS (EvT.int (Ev.binop (Ev.name rfl rfl rfl) Ev.int (Op.fmod (by decide))) rfl) (fun hc => (Ev.name rfl rfl rfl)) (fun hc => Ev.sliceTo Ev.str (Ev.binop Ev.int (Ev.binop Ev.int (Ev.binop (Ev.name rfl rfl rfl) Ev.int (Op.fmod (by decide))) (Op.mul (mulL (by decide) (by decide)))) Op.add) (le1 rfl))) rfl (.inr (List.mem_singleton.mpr rfl)) ?_ (swaps_plain rfl)
  refine Runs.set (sv := .str (markS m)) (Ev.ifS (EvT.compare (Ev.binop (Ev.name rfl rfl rfl) Ev.int (Op.fmod (by decide))) Ev.int Op.lt rfl) (fun hc => Ev.str) (fun hc => Ev.str)) rfl (.inl rfl) ?_ (swaps_plain rfl)
  refine Runs.set (sv := .str (bodyS t m)) (Ev.meth Ev.str (Evs.co rfl ?comp Evs.nil) PySem.F.plainAttrs_str PySem.F.slot_str_join PySem.F.type_str_join strT (Op.join (texts := t.cps.toList.map (signS (hardS t m))) (joinOk_short ?_ ?_)) (attr_plain rfl) (plain_few rfl rfl) rfl (fun _ => plain_any rfl)) rfl (.inl rfl) ?_ (swaps_plain rfl)
  case comp =>
    refine Ev.compS (ρ' := [(Str.ofString "hard", .str (hardS t m))]) ⟨Source.str (Ev.name rfl rfl rfl) hr.handled, hl, by decide, rfl, by decide, by decide, ⟨rfl, rfl, .inl rfl, trivial⟩, rfl, fun _ _ => rfl, fold_plain rfl⟩ (fun cl C c hc => ?_)
    exact Ev.ifS (EvT.compare (Ev.name rfl rfl rfl) (Ev.name rfl rfl rfl) Op.inChar rfl) (fun hc => (Ev.binop Ev.str (Ev.name rfl rfl rfl) (Op.addStr (by rw [sz]; exact le1 rfl)))) (fun hc => (Ev.name rfl rfl rfl))
  · intro x hx
    obtain ⟨c, _, rfl⟩ := List.mem_map.mp hx
    exact Nat.le_trans (signS_len _ _) (le1 rfl)
  · rw [List.length_map]; exact hl
  refine Runs.ret (Ev.binop (Ev.binop (Ev.binop (Ev.name rfl rfl rfl) (Ev.name rfl rfl rfl) (Op.addStr ?_)) (Ev.name rfl rfl rfl) (Op.addStr ?_)) (Ev.subStr Ev.str (Ev.binop (Ev.binop (Ev.name rfl rfl rfl) Ev.int (Op.fdiv (by decide) (PyProof.noPylong_small (by decide)))) Ev.int (Op.fmod (by decide))) ?_ ?_ ?_ (sub_plain rfl)) (Op.addStr ?_))
  · lia
  · rw [app_len]; lia
  · lia
  · lia
  · have : ((m.fdiv 4).fmod 4).toNat = 0 ∨ ((m.fdiv 4).fmod 4).toNat = 1 ∨ ((m.fdiv 4).fmod 4).toNat = 2 ∨ ((m.fdiv 4).fmod 4).toNat = 3 := by lia
    rcases this with e | e | e | e <;> rw [e] <;> rfl
  · rw [app_len, app_len]
    show _ + 1 ≤ _
    lia
end Mine
end
section
open PySem PySem.W PyProof.Rows
namespace Mine
noncomputable def sepC (m : Int) : Nat := sepT.getD ((m.fdiv 4).fmod 4).toNat 0
theorem sep_ws (m : Int) : wsB (sepC m) = true := by
  unfold sepC
  have h := fmod_lt (a := m.fdiv 4) (b := 4) (by decide)
  generalize (m.fdiv 4).fmod 4 = k at h
  obtain ⟨h0, h1⟩ := h
  have : k = 0 ∨ k = 1 ∨ k = 2 ∨ k = 3 := by lia
  rcases this with rfl | rfl | rfl | rfl <;> rfl
theorem cond_list (b : Bool) (c : Nat) : (cond b ((⟨#[92]⟩ : Str) ++ (⟨#[c]⟩ : Str)) ⟨#[c]⟩).cps.toList = if b = true then [92, c] else [c] := by cases b <;> rfl
theorem body_list (t : Str) (m : Int) : (bodyS t m).cps.toList = escL (fun c => decide (c ∈ (hardS t m).cps.toList)) t.cps.toList := by
  unfold bodyS escL
  rw [join_list, List.flatMap_map]
  congr 1
  funext c
  unfold signS
  exact cond_list _ c
theorem app_list (a b : Str) : (a ++ b).cps.toList = a.cps.toList ++ b.cps.toList := by
  show (a.cps ++ b.cps).toList = _
  exact Array.toList_append
theorem written_list (t : Str) (m : Int) : (writtenS t m).cps.toList = (markS m).cps.toList ++ escL (fun c => decide (c ∈ (hardS t m).cps.toList)) t.cps.toList ++ (markS m).cps.toList ++ [sepC m] := by
  unfold writtenS
  rw [app_list, app_list, app_list, body_list]
  rfl
theorem fmod_cases (m : Int) : (m.fmod 4 = 0 ∧ m.fmod 2 = 0) ∨ (m.fmod 4 = 1 ∧ m.fmod 2 = 1) ∨ (m.fmod 4 = 2 ∧ m.fmod 2 = 0) ∨ (m.fmod 4 = 3 ∧ m.fmod 2 = 1) := by
  rw [Int.fmod_eq_emod_of_nonneg m (by decide), Int.fmod_eq_emod_of_nonneg m (by decide)]
  lia
theorem lex_word (t : Str) (m : Int) (rest : List Nat) (ln : Int) (hne : t.cps.toList ≠ []) : ∃ g' ln', lexOut ((writtenS t m).cps.toList ++ rest) ln = (t.cps.toList, g', ln') ∧ lexOut g' ln' = lexOut rest (ln + nlL (writtenS t m).cps.toList) := by
  have hself : ∀ c ∈ t.cps.toList, decide (c ∈ t.cps.toList) = false → False := fun c hc h => by simp [hc] at h
  rw [written_list]
  have quoted : (markS m).cps.toList = [34] → (∀ c ∈ t.cps.toList, decide (c ∈ (hardS t m).cps.toList) = false → c ≠ 34 ∧ c ≠ 92) → ∃ g' ln', lexOut ((markS m).cps.toList ++ escL (fun c => decide (c ∈ (hardS t m).cps.toList)) t.cps.toList ++ (markS m).cps.toList ++ [sepC m] ++ rest) ln = (t.cps.toList, g', ln') ∧ lexOut g' ln' = lexOut rest (ln + nlL ((markS m).cps.toList ++ escL (fun c => decide (c ∈ (hardS t m).cps.toList)) t.cps.toList ++ (markS m).cps.toList ++ [sepC m])) := fun hm hh => by
    rw [hm]
    refine ⟨_, _, lexOut_quoted _ _ _ _ _ hh, ?_⟩
    rw [lexOut_ws _ _ _ (sep_ws m)]
    congr 1
    rw [nlL_app, nlL_app, nlL_app, nlL_esc]
    simp [nlL_cons, nlL_nil, nlc]
    lia
  have bare : (markS m).cps.toList = [] → (∀ c ∈ t.cps.toList, decide (c ∈ (hardS t m).cps.toList) = false → wsB c = false ∧ c ≠ 34 ∧ c ≠ 92) → ∃ g' ln', lexOut ((markS m).cps.toList ++ escL (fun c => decide (c ∈ (hardS t m).cps.toList)) t.cps.toList ++ (markS m).cps.toList ++ [sepC m] ++ rest) ln = (t.cps.toList, g', ln') ∧ lexOut g' ln' = lexOut rest (ln + nlL ((markS m).cps.toList ++ escL (fun c => decide (c ∈ (hardS t m).cps.toList)) t.cps.toList ++ (markS m).cps.toList ++ [sepC m])) := fun hm hh => by
    rw [hm, List.nil_append, List.append_nil]
    refine ⟨_, _, lexOut_bare _ _ _ _ _ hne (sep_ws m) hh, ?_⟩
    congr 1
    rw [nlL_app, nlL_esc]
    simp [nlL_cons, nlL_nil]
    lia
  rcases fmod_cases m with ⟨h4, h2⟩ | ⟨h4, h2⟩ | ⟨h4, h2⟩ | ⟨h4, h2⟩
  · refine quoted (by unfold markS; rw [h4]; rfl) fun c hc h => ?_
    have e : (hardS t m).cps.toList = [34, 92] := by unfold hardS; rw [h4, h2, show ((0 : Int) != 0) = false from rfl, cond_false]; decide
    rw [e] at h
    simpa using h
  · refine quoted (by unfold markS; rw [h4]; rfl) fun c hc h => ?_
    have e : (hardS t m).cps.toList = t.cps.toList := by unfold hardS; rw [h4, h2]; rfl
    rw [e] at h
    exact (hself c hc h).elim
  · refine bare (by unfold markS; rw [h4]; rfl) fun c hc h => ?_
    have e : (hardS t m).cps.toList = [34, 92, 32, 9, 10, 13] := by unfold hardS; rw [h4, h2, show ((0 : Int) != 0) = false from rfl, cond_false]; decide
    rw [e] at h
    simp at h
    simp [wsB, h]
  · refine bare (by unfold markS; rw [h4]; rfl) fun c hc h => ?_
    have e : (hardS t m).cps.toList = t.cps.toList := by unfold hardS; rw [h4, h2]; rfl
    rw [e] at h
    exact (hself c hc h).elim
noncomputable def lexTok (g : List Nat) (ln : Int) : Nat → List Nat
  | 0 => (lexOut g ln).1
  | n + 1 => lexTok (lexOut g ln).2.1 (lexOut g ln).2.2 n
noncomputable def lexSt (g : List Nat) (ln : Int) : Nat → List Nat × Int
  | 0 => (g, ln)
  | n + 1 => lexSt (lexOut g ln).2.1 (lexOut g ln).2.2 n
theorem lexTok_st : ∀ (n : Nat) (g : List Nat) (ln : Int), lexTok g ln n = (lexOut (lexSt g ln n).1 (lexSt g ln n).2).1
  | 0, _, _ => rfl
  | n + 1, g, ln => lexTok_st n _ _
theorem lexSt_succ : ∀ (n : Nat) (g : List Nat) (ln : Int), lexSt g ln (n + 1) = (lexOut (lexSt g ln n).1 (lexSt g ln n).2).2
  | 0, _, _ => rfl
  | n + 1, g, ln => lexSt_succ n _ _
noncomputable def textL (ts : List (Str × Int)) : List Nat := ts.flatMap fun p => (writtenS p.1 p.2).cps.toList
theorem lex_all : ∀ (ts : List (Str × Int)) (g : List Nat) (ln ln0 : Int), (∀ p ∈ ts, p.1.cps.toList ≠ []) → lexOut g ln = lexOut (textL ts) ln0 →
    (∀ i p, ts[i]? = some p → lexTok g ln i = p.1.cps.toList) ∧ lexTok g ln ts.length = [] ∧ lexSt g ln (ts.length + 1) = ([], ln0 + nlL (textL ts))
  | [], g, ln, ln0, _, h => by
    refine ⟨fun i p hi => by simp at hi, ?_, ?_⟩
    · show (lexOut g ln).1 = []
      rw [h]; rfl
    · show ((lexOut g ln).2.1, (lexOut g ln).2.2) = _
      rw [h]
      show (([] : List Nat), ln0) = ([], ln0 + nlL [])
      rw [nlL_nil, Int.add_zero]
  | p :: ts, g, ln, ln0, hne, h => by
    obtain ⟨g', ln', e1, e2⟩ := lex_word p.1 p.2 (textL ts) ln0 (hne p List.mem_cons_self)
    have e : textL (p :: ts) = (writtenS p.1 p.2).cps.toList ++ textL ts := by unfold textL; rw [List.flatMap_cons]
    rw [e, e1] at h
    obtain ⟨i1, i2, i3⟩ := lex_all ts g' ln' _ (fun q hq => hne q (List.mem_cons_of_mem _ hq)) e2
    refine ⟨fun i q hi => ?_, ?_, ?_⟩
    · cases i with
      | zero => cases hi; show (lexOut g ln).1 = _; rw [h]
      | succ i => show lexTok (lexOut g ln).2.1 (lexOut g ln).2.2 i = _; rw [h]; exact i1 i q hi
    · show lexTok (lexOut g ln).2.1 (lexOut g ln).2.2 ts.length = _; rw [h]; exact i2
    · show lexSt (lexOut g ln).2.1 (lexOut g ln).2.2 (ts.length + 1) = _
      rw [h, e, nlL_app, ← Int.add_assoc]; exact i3
theorem lexIn_len (stop : Nat → Bool) : ∀ (g : List Nat) (ln : Int) (t : List Nat), (lexIn stop g ln t).2.1.length ≤ g.length
  | [], ln, t => Nat.le_refl _
  | [c], ln, t => by
    rw [lexIn.eq_def]; dsimp only
    split
    · simp
    · split
      · simp
      · exact Nat.le_trans (lexIn_len stop [] _ _) (by simp)
  | c :: d :: r, ln, t => by
    rw [lexIn.eq_def]; dsimp only
    split
    · simp
    · split
      · exact Nat.le_trans (lexIn_len stop r _ _) (by simp; lia)
      · exact Nat.le_trans (lexIn_len stop (d :: r) _ _) (by simp)
theorem lexOut_len : ∀ (g : List Nat) (ln : Int), (lexOut g ln).2.1.length ≤ g.length
  | [], ln => Nat.le_refl _
  | c :: r, ln => by
    rw [lexOut]
    split
    · exact Nat.le_trans (lexOut_len r _) (by simp)
    · split
      · exact Nat.le_trans (lexIn_len _ r _ _) (by simp)
      · exact lexIn_len _ _ _ _
theorem lexSt_len : ∀ (n : Nat) (g : List Nat) (ln : Int), (lexSt g ln n).1.length ≤ g.length
  | 0, g, ln => Nat.le_refl _
  | n + 1, g, ln => by rw [lexSt_succ]; exact Nat.le_trans (lexOut_len _ _) (lexSt_len n g ln)
end Mine
end
section
open PySem PySem.W PyProof.Rows
namespace Mine
noncomputable def fdL : FuncData := ⟨(Str.ofString "law"), (Str.ofString "law"), dParams (stAt 20), .stmts (dBody (stAt 20)), dScope (stAt 20), 3, [], .none, .none, .none, .str (Str.ofString "law_rw0106_01") 2309, none, .ref 195, .none, 0⟩
noncomputable def ownL : List Str := [Str.ofString "script", Str.ofString "place", Str.ofString "heaps", Str.ofString "lexer", Str.ofString "share", Str.ofString "value", Str.ofString "light", Str.ofString "step", Str.ofString "ahead", Str.ofString "aside", Str.ofString "first", Str.ofString "second", Str.ofString "bars", Str.ofString "spread"]
noncomputable def cW (w : World) (A : Around) (Lc : Addr) : Cx := ⟨KF w.params, PG, w, A.deeper (callEnvC fdL Lc 196), callEnvC fdL Lc 196, ownL⟩
noncomputable def lawB : List Stmt := dBody (stAt 20)
noncomputable def rnd (h0 : Int) : Nat := (h0.fmod 6).toNat
noncomputable def sizeT : List Int := [6, 6, 6, 5, 3, 1]
noncomputable def sizI (h0 : Int) : Int := (h0.fdiv 6).fmod (sizeT.getD (rnd h0) 1) + 1
noncomputable def siz (h0 : Int) : Nat := (sizI h0).toNat
noncomputable def bitI (h0 : Int) (p : Nat) : Int := ((h0.fdiv 36).fdiv (2 ^ p)).fmod 2
noncomputable def bitL (h0 : Int) (p : Nat) : Nat := if bitI h0 p = 0 then 104 else 112
noncomputable def letL (h0 : Int) : List Nat := (List.range (siz h0)).map (bitL h0)
noncomputable def wordsP (h0 h2 : Int) : List (Nat × Int) := (letL h0 ++ [104]).zipIdx.map fun (u : Nat × Nat) => (u.1, h2 + 7 * (u.2 : Int))
noncomputable def wordV (p : Nat × Int) : SV := .tup [.str (wordS p.1 p.2), .str (wordM p.1 p.2)]
noncomputable def tsP (h0 h1 h2 : Int) : List (Str × Int) := (wordsP h0 h2).zipIdx.map fun (u : (Nat × Int) × Nat) => (wordS u.1.1 u.1.2, h1 + h2 + 5 * (u.2 : Int))
noncomputable def textS (h0 h1 h2 : Int) : Str := Txt.join Str.empty ((tsP h0 h1 h2).map fun p => writtenS p.1 p.2)
theorem rnd_lt (h0 : Int) : rnd h0 < 6 := by have := fmod_lt (a := h0) (b := 6) (by decide); unfold rnd; lia
theorem rnd_int (h0 : Int) : h0.fmod 6 = (rnd h0 : Int) := by have := fmod_lt (a := h0) (b := 6) (by decide); unfold rnd; lia
theorem sizeT_pos {r : Nat} (h : r < 6) : 1 ≤ sizeT.getD r 1 ∧ sizeT.getD r 1 ≤ 6 := by
  have : r = 0 ∨ r = 1 ∨ r = 2 ∨ r = 3 ∨ r = 4 ∨ r = 5 := by lia
  rcases this with rfl | rfl | rfl | rfl | rfl | rfl <;> decide
theorem siz_bounds (h0 : Int) : 1 ≤ sizI h0 ∧ sizI h0 ≤ 6 := by
  have h := sizeT_pos (rnd_lt h0)
  have m := fmod_lt (a := h0.fdiv 6) (b := sizeT.getD (rnd h0) 1) (by lia)
  unfold sizI
  lia
theorem siz_int (h0 : Int) : sizI h0 = (siz h0 : Int) := by have := siz_bounds h0; unfold siz; lia
theorem siz_le (h0 : Int) : siz h0 ≤ 6 := by have := siz_bounds h0; unfold siz; lia
theorem letL_len (h0 : Int) : (letL h0).length = siz h0 := by unfold letL; simp
theorem bitL_is (h0 : Int) (p : Nat) : bitL h0 p = 104 ∨ bitL h0 p = 112 := by unfold bitL; split <;> simp
theorem letL_is (h0 : Int) : ∀ l ∈ letL h0, l = 104 ∨ l = 112 := fun l hl => by
  obtain ⟨p, _, rfl⟩ := List.mem_map.mp hl
  exact bitL_is h0 p
theorem wordsP_len (h0 h2 : Int) : (wordsP h0 h2).length = siz h0 + 1 := by unfold wordsP; simp [letL_len]
theorem wordsP_is (h0 h2 : Int) : ∀ p ∈ wordsP h0 h2, p.1 = 104 ∨ p.1 = 112 := fun p hp => by
  obtain ⟨u, hu, rfl⟩ := List.mem_map.mp hp
  have hm : u.1 ∈ letL h0 ++ [104] := by
    have := List.fst_mem_of_mem_zipIdx hu
    exact this
  rcases List.mem_append.mp hm with h | h
  · exact letL_is h0 _ h
  · exact .inl (List.mem_singleton.mp h)
theorem flat_len {α : Type} (f : α → List Nat) : ∀ xs : List α, (∀ x ∈ xs, (f x).length = 1) → (xs.flatMap f).length = xs.length
  | [], _ => rfl
  | x :: xs, h => by rw [List.flatMap_cons, List.length_append, h x List.mem_cons_self, flat_len f xs fun y hy => h y (List.mem_cons_of_mem _ hy), List.length_cons]; lia
theorem word_len (P : Params) {l : Nat} (hl : l = 104 ∨ l = 112) (form : Int) : (wordS l form).length = 3 := by
  have h : (wordS l form).cps.toList.length = 3 := by
    rw [wordS_list, flat_len _ _ fun p hp => ?_, wordL_len]
    obtain ⟨c, hc, _⟩ := word_means P hl form p hp
    rw [hc]; rfl
  rw [← h]; exact (Array.length_toList).symm
theorem flat_one {α : Type} (f : α → Nat) : ∀ xs : List α, (xs.flatMap fun a => (⟨#[f a]⟩ : Str).cps.toList) = xs.map f
  | [] => rfl
  | x :: xs => by rw [List.flatMap_cons, flat_one f xs]; rfl
theorem mkS_list (l : List Nat) : (mkS l).cps.toList = l := by unfold mkS; simp
theorem letters_join (h0 : Int) : Txt.join Str.empty ((List.range (siz h0)).map fun p => (⟨#[bitL h0 p]⟩ : Str)) = mkS (letL h0) := by
  refine str_ext ?_
  rw [join_list, List.flatMap_map, flat_one, mkS_list]
  rfl
theorem pow2_small {p : Nat} (h : p < 6) : (2 : Int) ^ p ≠ 0 ∧ ((2 : Int) ^ p).natAbs < 1073741824 := by
  have : p = 0 ∨ p = 1 ∨ p = 2 ∨ p = 3 ∨ p = 4 ∨ p = 5 := by lia
  rcases this with rfl | rfl | rfl | rfl | rfl | rfl <;> decide
theorem bit_cp (h0 : Int) (p : Nat) : (Str.ofString "hp").cps[(bitI h0 p).toNat]? = some (bitL h0 p) := by
  have m := fmod_lt (a := (h0.fdiv 36).fdiv (2 ^ p)) (b := 2) (by decide)
  unfold bitL
  have e : bitI h0 p = 0 ∨ bitI h0 p = 1 := by unfold bitI; lia
  rcases e with e | e <;> rw [e] <;> rfl
theorem asc_ok (l : List Nat) (h : ∀ x ∈ l, x = 104 ∨ x = 112) : (mkS l).cps.all (· < 128) = true := by
  unfold mkS
  simp only [List.all_toArray', List.all_eq_true]
  intro x hx
  rcases h x hx with rfl | rfl <;> decide
theorem words_eq (h0 h2 : Int) : ((letL h0 ++ [104]).zipIdx.map fun (u : Nat × Nat) => wordV (u.1, h2 + 7 * (u.2 : Int))) = (wordsP h0 h2).map wordV := by unfold wordsP; rw [List.map_map]; rfl
theorem zipIdx_map' {α β : Type} (f : α → β) (xs : List α) : (xs.map f).zipIdx = xs.zipIdx.map fun u => (f u.1, u.2) := by
  rw [List.zipIdx_map]; rfl
theorem written_len {t : Str} (ht : t.length ≤ 10) (m : Int) : (writtenS t m).length ≤ 23 := by
  have b1 := bodyS_len ht m
  have b2 := markS_len m
  unfold writtenS
  rw [app_len, app_len, app_len]
  show _ + 1 ≤ _
  lia
theorem text_eq (h0 h1 h2 : Int) : Txt.join Str.empty ((wordsP h0 h2).zipIdx.map fun (u : (Nat × Int) × Nat) => writtenS (wordS u.1.1 u.1.2) (h1 + h2 + 5 * (u.2 : Int))) = textS h0 h1 h2 := by
  unfold textS tsP; rw [List.map_map]; rfl
theorem pre_ok {w : World} {A : Around} {Lc : Addr} {d : Nat} (hr : Room (cW w A Lc).A (d + 3)) {S : Side} {h0 h1 h2 : Int} {ρ : List (Str × SV)} {Φ : Flow → PM → Shared → Prop}
    (hrest : Runs (cW w A Lc) S [(Str.ofString "text", .str (textS h0 h1 h2)), (Str.ofString "words", .lst ((wordsP h0 h2).map wordV)), (Str.ofString "letters", .str (mkS (letL h0))), (Str.ofString "size", .int (siz h0)), (Str.ofString "rounds", .int (rnd h0)), (Str.ofString "heaps", .lst [.int h0, .int h1, .int h2])] (lawB.drop 6) Φ) :
    Runs (cW w A Lc) S [(Str.ofString "heaps", .lst [.int h0, .int h1, .int h2])] (lawB.drop 1) Φ := by
  refine Runs.set (sv := .int (h0.fmod 6)) (Ev.binop (Ev.subLst (Ev.name rfl rfl rfl) Ev.int (by decide) (by decide) rfl (sub_plain rfl)) Ev.int (Op.fmod (by decide))) rfl (.inl rfl) ?_ (swaps_plain rfl)
  rw [rnd_int]
  refine Runs.set (sv := .int (sizI h0)) (Ev.binop (Ev.binop (Ev.binop (Ev.subLst (Ev.name rfl rfl rfl) Ev.int (by decide) (by decide) rfl (sub_plain rfl)) Ev.int (Op.fdiv (by decide) (PyProof.noPylong_small (by decide)))) (Ev.subLst (sv := .int (sizeT.getD (rnd h0) 1)) (Ev.list (Evs.co rfl Ev.int (Evs.co rfl Ev.int (Evs.co rfl Ev.int (Evs.co rfl Ev.int (Evs.co rfl Ev.int (Evs.co rfl Ev.int Evs.nil)))))) rfl) (Ev.name rfl rfl rfl) (by lia) (by have := rnd_lt h0; lia) ?_ (sub_plain rfl)) (Op.fmod (by have := sizeT_pos (rnd_lt h0); lia))) Ev.int Op.add) rfl (.inl rfl) ?_ (swaps_plain rfl)
  · have := rnd_lt h0
    rw [Int.toNat_natCast]
    revert this
    generalize rnd h0 = r
    intro this
    have : r = 0 ∨ r = 1 ∨ r = 2 ∨ r = 3 ∨ r = 4 ∨ r = 5 := by lia
    rcases this with rfl | rfl | rfl | rfl | rfl | rfl <;> rfl
  rw [siz_int]
  refine Runs.set (sv := .str (Txt.join Str.empty ((List.range (siz h0)).map fun p => (⟨#[bitL h0 p]⟩ : Str)))) (Ev.meth Ev.str (Evs.co rfl ?comp Evs.nil) PySem.F.plainAttrs_str PySem.F.slot_str_join PySem.F.type_str_join strT (Op.join (texts := (List.range (siz h0)).map fun p => (⟨#[bitL h0 p]⟩ : Str)) (joinOk_short ?_ ?_)) (attr_plain rfl) (plain_few rfl rfl) rfl (fun _ => plain_any rfl)) rfl (.inl rfl) ?_ (swaps_plain rfl)
  case comp =>
    refine Ev.compS (ρ' := [(Str.ofString "heaps", .lst [.int h0, .int h1, .int h2])]) ⟨Source.range (Ev.tyin rfl rfl rfl rfl (by kernel_rfl) (by kernel_rfl) rfl) (Ev.name rfl rfl rfl) (siz_le h0) hr.handled (fun _ => plain_any rfl) (fun _ => starEach_cons rfl), by rw [List.length_range]; exact Nat.le_trans (siz_le h0) (by decide), by decide, rfl, by decide, by decide, ⟨rfl, rfl, .inl rfl, trivial⟩, rfl, fun _ _ => rfl, fold_plain rfl⟩ (fun cl C p hp => ?_)
    have hp6 : p < 6 := Nat.lt_of_lt_of_le (List.mem_range.mp hp) (siz_le h0)
    have p2 := pow2_small hp6
    exact Ev.subStr (k := bitI h0 p) Ev.str (Ev.binop (Ev.binop (Ev.binop (Ev.subLst (Ev.name rfl rfl rfl) Ev.int (by decide) (by decide) rfl (sub_plain rfl)) Ev.int (Op.fdiv (by decide) (PyProof.noPylong_small (by decide)))) (Ev.binop Ev.int (Ev.name rfl rfl rfl) (Op.pow (by lia) (by lia) (by decide))) (Op.fdiv p2.1 (PyProof.noPylong_small p2.2))) Ev.int (Op.fmod (by decide))) (by have := fmod_lt (a := (h0.fdiv 36).fdiv (2 ^ p)) (b := 2) (by decide); unfold bitI; lia) (by have := fmod_lt (a := (h0.fdiv 36).fdiv (2 ^ p)) (b := 2) (by decide); unfold bitI; lia) (bit_cp h0 p) (sub_plain rfl)
  · intro x hx
    obtain ⟨p, _, rfl⟩ := List.mem_map.mp hx
    exact le1 rfl
  · rw [List.length_map, List.length_range]; exact Nat.le_trans (siz_le h0) (by decide)
  rw [letters_join]
  have lenW : (letL h0 ++ [104]).length ≤ 1000 := by rw [List.length_append, letL_len]; have := siz_le h0; simp; lia
  refine Runs.setComp (ρ' := [(Str.ofString "heaps", .lst [.int h0, .int h1, .int h2])]) (xs := (mkS (letL h0 ++ [104])).cps.toList.zipIdx) (p := fun _ => true) (f := fun (u : Nat × Nat) => wordV (u.1, h2 + 7 * (u.2 : Int))) ⟨Source.enumStr (Ev.tyin rfl rfl rfl rfl (by kernel_rfl) (by kernel_rfl) rfl) (by rw [← mkS_add]; exact Ev.binop (Ev.name rfl rfl rfl) Ev.str (Op.addStr (by rw [mkS_len, letL_len]; exact szA (Nat.le_trans (siz_le h0) (by decide)) (Nat.le_refl 1)))) (asc_ok _ (fun l hl => ?_)) hr.handled (fun _ => plain_any rfl) (fun _ => starEach_cons rfl), by rw [List.length_zipIdx, mkS_list]; exact lenW, by decide, rfl, by decide, by decide, ⟨rfl, rfl, .inl rfl, trivial⟩, rfl, fun _ _ => rfl, fold_plain rfl⟩ (fun cl C u hu => TestsOk.nil) (fun cl C u hu _ => ?_) rfl (.inl rfl) ?_ rfl
  · rcases List.mem_append.mp hl with h | h
    · exact letL_is h0 _ h
    · exact .inl (List.mem_singleton.mp h)
  · have hl : u.1 = 104 ∨ u.1 = 112 := by
      have := List.fst_mem_of_mem_zipIdx hu
      rw [mkS_list] at this
      rcases List.mem_append.mp this with h | h
      · exact letL_is h0 _ h
      · exact .inl (List.mem_singleton.mp h)
    exact Ev.callF (a := 170) (o := ob170 w.params) (Ev.glob rfl rfl rfl (by kernel_rfl) rfl) (Evs.co rfl (Ev.name rfl rfl rfl) (Evs.co rfl (Ev.binop (Ev.subLst (Ev.name rfl rfl rfl) Ev.int (by decide) (by decide) rfl (sub_plain rfl)) (Ev.binop Ev.int (Ev.name rfl rfl rfl) (Op.mul (mulL (by decide) (by decide)))) Op.add) Evs.nil)) (hr.le (d' := d + 2) (by lia)) (by kernel_rfl) rfl (word_ok w d u.1 hl _) (fun _ => plain_any rfl)
  rw [filter_true, mkS_list, words_eq]
  have lenP : (wordsP h0 h2).length ≤ 1000 := by rw [wordsP_len]; have := siz_le h0; lia
  refine Runs.set (sv := .str (Txt.join Str.empty ((wordsP h0 h2).zipIdx.map fun (u : (Nat × Int) × Nat) => writtenS (wordS u.1.1 u.1.2) (h1 + h2 + 5 * (u.2 : Int))))) (Ev.meth Ev.str (Evs.co rfl ?comp2 Evs.nil) PySem.F.plainAttrs_str PySem.F.slot_str_join PySem.F.type_str_join strT (Op.join (texts := (wordsP h0 h2).zipIdx.map fun (u : (Nat × Int) × Nat) => writtenS (wordS u.1.1 u.1.2) (h1 + h2 + 5 * (u.2 : Int))) (joinOk_short ?_ ?_)) (attr_plain rfl) (plain_few rfl rfl) rfl (fun _ => plain_any rfl)) rfl (.inl rfl) ?_ (swaps_plain rfl)
  case comp2 =>
    refine Ev.compS (ρ' := [(Str.ofString "heaps", .lst [.int h0, .int h1, .int h2])]) ⟨Source.map (g := fun (u : (Nat × Int) × Nat) => (wordV u.1, u.2)) (b := fun (u : SV × Nat) => [(Str.ofString "word", u.1), (Str.ofString "place", .int u.2)]) (by rw [← zipIdx_map']; exact Source.enumList (Ev.tyin rfl rfl rfl rfl (by kernel_rfl) (by kernel_rfl) rfl) (Ev.name rfl rfl rfl) hr.handled (fun _ => plain_any rfl) (fun _ => starEach_cons rfl)), by rw [List.length_zipIdx]; exact lenP, by decide, rfl, by decide, by decide, ⟨rfl, rfl, .inl rfl, trivial⟩, rfl, fun _ _ => rfl, fold_plain rfl⟩ (fun cl C u hu => ?_)
    have hl := wordsP_is h0 h2 _ (List.fst_mem_of_mem_zipIdx hu)
    exact Ev.callF (a := 146) (o := ob146 w.params) (Ev.glob rfl rfl rfl (by kernel_rfl) rfl) (Evs.co rfl (Ev.subTup (xs := [.str (wordS u.1.1 u.1.2), .str (wordM u.1.1 u.1.2)]) (Ev.name rfl rfl rfl) Ev.int (by decide) (by decide) rfl (sub_plain rfl)) (Evs.co rfl (Ev.binop (Ev.binop (Ev.subLst (Ev.name rfl rfl rfl) Ev.int (by decide) (by decide) rfl (sub_plain rfl)) (Ev.subLst (Ev.name rfl rfl rfl) Ev.int (by decide) (by decide) rfl (sub_plain rfl)) Op.add) (Ev.binop Ev.int (Ev.name rfl rfl rfl) (Op.mul (mulL (by decide) (by decide)))) Op.add) Evs.nil)) (hr.le (d' := d + 1) (by lia)) (by kernel_rfl) rfl (written_ok w d _ _ (by rw [word_len w.params hl]; decide)) (fun _ => plain_any rfl)
  · intro x hx
    obtain ⟨u, hu, rfl⟩ := List.mem_map.mp hx
    have hl := wordsP_is h0 h2 _ (List.fst_mem_of_mem_zipIdx hu)
    exact Nat.le_trans (written_len (by rw [word_len w.params hl]; decide) _) (by decide)
  · rw [List.length_map, List.length_zipIdx]; exact lenP
  rw [text_eq]
  exact hrest
end Mine
end
section
open PySem PySem.W PyProof.Rows
namespace Mine
noncomputable def P136 (F : PM) (s : Shared) : Prop := F 136 = none ∧ s.heap.get? 136 = some (tabObj #[])
noncomputable def U136 : Addr → Prop := fun a => a = 136
theorem held136 : Held U136 P136 where
  dry := fun F s h a ha => by rw [show a = 136 from ha]; exact ⟨h.1, _, h.2⟩
  keep := fun W F s F' s' hW hW' h e => by
    have n : ¬ W 136 := fun q => hW 136 q h.1 rfl
    exact ⟨e.dry h.1 h.2 n, e.keep _ _ n h.2⟩
noncomputable def S136 : Side := ⟨U136, P136, held136⟩
theorem mkS_self (x : Str) : mkS x.cps.toList = x := by unfold mkS; simp
noncomputable def Tab136 (Φ : Flow → PM → Shared → Prop) : Flow → PM → Shared → Prop := fun fl F s => Φ fl F s ∧ ∃ ps, s.heap.get? 136 = some (tabObj ps)
section
variable {c : Cx} {ρ : List (Str × SV)}
theorem Runs.mkLexer {x fnm t : Str} {px fp tp cp p : Pos} {g : List Nat} {rest : List Stmt} {Φ : Flow → PM → Shared → Prop} {d : Nat} (hK : c.K = KF c.w.params) (hPG : c.prog = PG) (hk : c.env.scope.kind = .function) (ho : Own c x) (hr : Room c.A (d + 3)) (hg : g.length ≤ 1000)
    (hf : Ev c ρ (.Name fnm fp) (.ref 141)) (ht : Ev c ρ (.Name t tp) (.str (mkS g)))
    (hrest : ∀ L, Runs c ⟨LexU L, LexP L g 1 [], LexP.held⟩ ((x, .ref L.X) :: ρ) rest Φ)
    (hs : swapsWith (.Call (.Name fnm fp) [.Name t tp] [] cp) (some (.Name x px)) p.line c.env = Pure.pure false) :
    Runs c S136 ρ (.Assign [.Name x px] (.Call (.Name fnm fp) [.Name t tp] [] cp) p :: rest) (Tab136 Φ) := .mk fun F s Q E h hp hU hQ => by
  refine wpAny_execs_cons (wpAny_Assign_Name (wpAny_Call_Name_kw (hf.run F s _ E h.st fun v F₁ s₁ x₁ hv => ?_)) hs)
  unfold VR at hv; subst hv
  have h₁ := h.ext x₁
  have hp₁ : P136 F₁ s₁ := held136.ext hp x₁
  refine Calls.callWith_function (o := ob141 c.w.params) (fd := _) (evalArgs_of (fun _ => plain_any rfl) ((Evs.co rfl ht Evs.nil).run F₁ s₁ _ E cp h₁.st fun vs F₂ s₂ x₂ hvs => ⟨⟨?_, rfl⟩, ?_⟩))
  · exact x₂.inn _ _ (x₂.sub _ _ (h₁.st.base _ _ (by rw [hK]; kernel_rfl)))
  have h₂ := h₁.ext x₂
  have hp₂ : P136 F₂ s₂ := held136.ext hp₁ x₂
  rw [hPG]
  refine law_lexer_ok hg hr x₂.inn (fun a o q => h₂.st.base a o (by rw [hK]; exact q)) hvs hp₂.1 hp₂.2 fun L F₃ s₃ x₃ hL hfresh h6 htab => ?_
  rw [← hPG]
  have x12 := x₁.trans x₂
  have dead : ∀ a, LexU L a → s.heap.get? a = none := fun a ha => by
    cases q : s.heap.get? a with
    | none => rfl
    | some o => have := x12.keep _ _ q; rw [hfresh a ha] at this; cases this
  have hLr : ∀ a, LexU L a → ¬ Rel c a := fun a ha hr => by
    obtain ⟨o, ho⟩ := h.live hr
    rw [dead a ha] at ho; cases ho
  have h₃ := h₂.extV x₃ (fun a ha => hU a ha)
  refine h₃.storeX (sv := .ref L.X) hk ho (by unfold VR; rfl) fun s₄ h₄ x₄ => ?_
  refine (hrest L).run F₃ s₄ Q E h₄ (volU (hP := LexP.held) hL hLr h₃ x₄) hLr fun fl F₅ s₅ x₅ hfl => hQ fl F₅ s₅ ((((x12.v.trans (x₃.mono fun a q => (.inl (.inr q) : (Vol c a ∨ S136.U a) ∨ LexU L a))).trans (x₄.mono fun a q => .inl (.inl q))).trans (x₅.mono fun a q => q.elim (fun q => .inl (.inl q)) .inr)).drop fun a q => ?_) ⟨hfl, ?_⟩
  · rcases q with q | q
    · exact .inr q
    · exact .inl (dead a q)
  · obtain ⟨ps, hps⟩ := htab
    refine ⟨ps, x₅.keep _ _ (fun q => ?_) (x₄.keep _ _ (fun q => hU 136 rfl q.rel) hps)⟩
    rcases q with q | q
    · exact hU 136 rfl q.rel
    · have := hp₂.2
      rw [hfresh 136 q] at this; cases this
end
end Mine
end
section
open PySem PySem.W PyProof.Rows
namespace Mine
noncomputable def PO (U : Addr → Prop) (P : PM → Shared → Prop) (D : Addr) (xs : List SV) : PM → Shared → Prop := fun F s => P F s ∧ F D = none ∧ ¬ U D ∧ ∃ vs, LstAt s.heap D vs ∧ VRs F xs vs
noncomputable def UO (U : Addr → Prop) (D : Addr) : Addr → Prop := fun a => U a ∨ a = D
theorem heldO {U : Addr → Prop} {P : PM → Shared → Prop} {D : Addr} {xs : List SV} (hP : Held U P) : Held (UO U D) (PO U P D xs) where
  dry := fun F s h a ha => by
    rcases ha with ha | rfl
    · exact hP.dry F s h.1 a ha
    · obtain ⟨vs, ⟨n, hl⟩, _⟩ := h.2.2.2; exact ⟨h.2.1, _, hl⟩
  keep := fun W F s F' s' hW hW' h e => by
    obtain ⟨hp, fD, nU, vs, ⟨n, hl⟩, hv⟩ := h
    have nW : ¬ W D := fun q => hW D q fD (.inr rfl)
    exact ⟨hP.keep W F s F' s' (fun a ha hf hu => hW a ha hf (.inl hu)) hW' hp e, e.dry fD hl nW, nU, vs, ⟨n, e.keep _ _ nW hl⟩, hv.mono e.sub⟩
section
variable {c : Cx} {ρ : List (Str × SV)}
theorem Runs.setCompO {α : Type} {U : Addr → Prop} {P : Nat → PM → Shared → Prop} (hP : ∀ i, Held U (P i)) {ρ' : List (Str × SV)} {tg iter elt : Expr} {ifs : List Expr} {scope : Scope} {pos : Pos} {xs : List α} {b : α → List (Str × SV)} {p : α → Bool} {f : α → SV} {x : Str} {px sp : Pos} {rest : List Stmt} {Φ : Flow → PM → Shared → Prop}
    (k : CompOk c ρ ρ' tg iter elt ifs scope xs b p f)
    (htest : ∀ cl C, ∀ x ∈ xs, TestsOk (inner c scope cl C) (b x ++ ρ') ifs (p x))
    (hskip : ∀ i x F s, xs[i]? = some x → p x = false → P i F s → P (i + 1) F s)
    (helt : ∀ cl C i x F s (Q : Value → Shared → Prop) E, xs[i]? = some x → p x = true → Fm (inner c scope cl C) (b x ++ ρ') F s → (∀ a, U a → ¬ Rel (inner c scope cl C) a) → P i F s →
      (∀ v F' s', ExtV U F s F' s' → P (i + 1) F' s' → VR F' (f x) v → Q v s') → wpAny (model c.prog c.w) c.A (eval elt (inner c scope cl C).env) Q E s)
    (hk : c.env.scope.kind = .function) (hx : Own c x) (hr : ∀ D, Runs c ⟨UO U D, PO U (P xs.length) D ((xs.filter p).map f), heldO (hP _)⟩ ((x, .ref D) :: ρ) rest Φ)
    (hsw : swapsWith (.ListComp elt [⟨tg, iter, ifs, 0⟩] scope pos) (some (.Name x px)) sp.line c.env = pure true) : Runs c ⟨U, P 0, hP 0⟩ ρ (.Assign [.Name x px] (.ListComp elt [⟨tg, iter, ifs, 0⟩] scope pos) sp :: rest) Φ := .mk fun F s Q E h hS hU hQ => by
  refine wpAny_execs_cons ?_
  rw [exec_Assign_Name_used _ _ _ _ hsw]
  refine wpAny_bind (wpAny_standAt (wpAny_bind ?_))
  refine wpAny_bind (wpAny_mono (comp_core (use := some (PySem.assign (Expr.Name x px) c.env)) (Q := fun _ s' => wpAny (model c.prog c.w) c.A (execs rest c.env) Q E s') hP p f k.src k.len k.cell k.kind k.names k.tg k.caps (freeOk_get k.free) (fun x hx => keysApart_get (k.apart x hx)) htest hskip helt k.fold h.st hS hU fun D C F₂ s₂ ys n z => ?_)
    (fun _ s' hq => wpAny_pure (wpAny_pure hq)) fun _ _ e => e)
  have hf₂ := h.extV z.ext hU
  have hDr : ¬ Rel c D := fun q => by obtain ⟨o, ho⟩ := h.live q; rw [z.D0] at ho; cases ho
  have hCr : ¬ Rel c C := fun q => by obtain ⟨o, ho⟩ := h.live q; rw [z.C0] at ho; cases ho
  obtain ⟨m, hm⟩ := z.loc
  refine wpAny_assign_Name (hf₂.storeX (sv := .ref D) hk hx (by unfold VR; rfl) fun s₄ hf₄ e₄ => ?_)
  refine ⟨m, hm.at' fun o q => e₄.keep C o (fun q => hCr q.rel) q, fun h' hs' => ?_⟩
  have e₅ : ExtV (fun a => a = C) F₂ s₄ F₂ { s₄ with heap := h' } :=
    ⟨Sub.refl _, fun a o q => (hs'.2 a (by rintro rfl; rw [z.FC] at q; cases q)).trans (e₄.inn a o q), fun a o n q => (hs'.2 a n).trans q, fun a o q => .inl q, ⟨_, _, rfl⟩⟩
  have hO : PO U (P xs.length) D ((xs.filter p).map f) F₂ s₂ := ⟨z.held, z.FD, z.UD, ys, ⟨n, z.obj⟩, z.vrs⟩
  have hUO : ∀ a, UO U D a → ¬ Rel c a := fun a ha => ha.elim (hU a) fun q => by rw [q]; exact hDr
  have hO₄ : PO U (P xs.length) D ((xs.filter p).map f) F₂ s₄ := (heldO (hP _)).keep _ F₂ _ F₂ s₄ (fun a q _ hu => hUO a hu q.rel) hf₂.vol hO e₄
  have hO₅ : PO U (P xs.length) D ((xs.filter p).map f) F₂ { s₄ with heap := h' } := (heldO (hP _)).keep _ F₂ s₄ F₂ _ (fun a q _ hu => by subst q; exact hu.elim z.UC fun q => z.DC q.symm) (fun a q => by subst q; exact z.FC) hO₄ e₅
  refine (hr D).run F₂ _ Q E (hf₄.extV e₅ fun a q => by subst q; exact hCr) hO₅ hUO fun v F' s' e hv => hQ v F' s' ?_ hv
  refine ((((z.ext.mono fun a q => ?_).trans (e₄.mono fun a q => ?_)).trans (e₅.mono (W := fun a => (Vol c a ∨ U a) ∨ a = C ∨ a = D) fun a q => .inr (.inl q))).trans (e.mono fun a q => ?_)).drop fun a q => ?_
  · exact .inl (.inr q)
  · exact .inl (.inl q)
  · rcases q with q | q | q
    · exact .inl (.inl q)
    · exact .inl (.inr q)
    · exact .inr (.inr q)
  · rcases q with q | rfl | rfl
    · exact .inr q
    · exact .inl z.C0
    · exact .inl z.D0
end
end Mine
end
section
open PySem PySem.W PyProof.Rows
namespace Mine
theorem strS_vr {F Fp : PM} : ∀ (l : List Str) (vs : List Value), VRs F (l.map SV.str) vs → VRs Fp (l.map SV.str) vs
  | [], vs, h => by unfold List.map VRs at h ⊢; exact h
  | c :: g, vs, h => by
    rw [List.map_cons] at h ⊢
    unfold VRs at h ⊢
    obtain ⟨v, r, e, hv, hr⟩ := h
    exact ⟨v, r, e, by unfold VR at hv ⊢; exact hv, strS_vr g r hr⟩
noncomputable def Backs (P P' : PM → Shared → Prop) : Prop := ∀ F s F' s', P F s → P' F' s' → Sub F F' → P' F s'
theorem LexP.backs {L : LexA} {g g' : List Nat} {ln ln' : Int} {pb pb' : List Str} : Backs (LexP L g ln pb) (LexP L g' ln' pb') := fun F s F' s' h h' hs => by
  obtain ⟨vs, g1, g2⟩ := h'.sg
  obtain ⟨us, p1, p2⟩ := h'.pbk
  have dry : ∀ a, F' a = none → F a = none := fun a q => by
    cases z : F a with
    | none => rfl
    | some o => rw [hs _ _ z] at q; cases q
  exact { h with inn := hs.trans h'.inn, dG := dry _ h'.dG, dD := dry _ h'.dD, dP := dry _ h'.dP, sg := ⟨vs, g1, strs_vr g' vs g2⟩, ns := h'.ns, pbk := ⟨us, p1, strS_vr pb' us p2⟩ }
noncomputable def flatSV : SV → Bool
  | .tup _ => false
  | .lst _ => false
  | _ => true
theorem flat_vr {F : PM} {sv : SV} {v : Value} (h : VR F sv v) : ∃ svf, VR F svf v ∧ (∀ F' v', VR F' svf v' → VR F sv v') ∧ (flatSV sv = true → svf = sv) := by
  cases sv with
  | tup xs => unfold VR at h; obtain ⟨D, vs, n, rfl, h2⟩ := h; exact ⟨.ref D, by unfold VR; rfl, fun F' v' q => by unfold VR at q; subst q; unfold VR; exact ⟨D, vs, n, rfl, h2⟩, fun q => by cases q⟩
  | lst xs => unfold VR at h; obtain ⟨D, vs, n, rfl, h2⟩ := h; exact ⟨.ref D, by unfold VR; rfl, fun F' v' q => by unfold VR at q; subst q; unfold VR; exact ⟨D, vs, n, rfl, h2⟩, fun q => by cases q⟩
  | _ => exact ⟨_, h, fun F' v' q => by unfold VR at q ⊢; exact q, fun _ => rfl⟩
theorem flat_has {env : Env} {F : PM} {s : Shared} {x : Str} {sv : SV} (h : Has env F s x sv) : ∃ svf, Has env F s x svf ∧ (∀ F' s', Has env F' s' x svf → Has env F s' x sv) ∧ (flatSV sv = true → svf = sv) := by
  rcases h with ⟨k, m, v, hn, hm, hv⟩ | ⟨k, kd, a, v, hc, hx, hv⟩
  · obtain ⟨svf, h1, h2, h3⟩ := flat_vr hv
    refine ⟨svf, .inl ⟨k, m, v, hn, hm, h1⟩, fun F' s' q => ?_, h3⟩
    rcases q with ⟨k', m', v', hn', hm', hv'⟩ | ⟨k', kd', a', v', hc', hx', hv'⟩
    · exact .inl ⟨k', m', v', hn', hm', h2 _ _ hv'⟩
    · exact .inr ⟨k', kd', a', v', hc', hx', h2 _ _ hv'⟩
  · obtain ⟨svf, h1, h2, h3⟩ := flat_vr hv
    refine ⟨svf, .inr ⟨k, kd, a, v, hc, hx, h1⟩, fun F' s' q => ?_, h3⟩
    rcases q with ⟨k', m', v', hn', hm', hv'⟩ | ⟨k', kd', a', v', hc', hx', hv'⟩
    · exact .inl ⟨k', m', v', hn', hm', h2 _ _ hv'⟩
    · exact .inr ⟨k', kd', a', v', hc', hx', h2 _ _ hv'⟩
theorem lookup_append' {α : Type} : ∀ (l r : List (Str × α)) (y : Str), (l ++ r).lookup y = match l.lookup y with | some v => some v | none => r.lookup y
  | [], r, y => rfl
  | (k, v) :: l, r, y => by
    rw [List.cons_append, List.lookup_cons, List.lookup_cons]
    cases y == k with
    | true => rfl
    | false => exact lookup_append' l r y
theorem lookup_mapk (f : Str → SV) : ∀ (ρ : List (Str × SV)) (y : Str), (ρ.map fun p => (p.1, f p.1)).lookup y = (ρ.lookup y).map fun _ => f y
  | [], y => rfl
  | (k, v) :: r, y => by
    rw [List.map_cons, List.lookup_cons, List.lookup_cons]
    cases q : y == k with
    | true => have := beq_iff_eq.mp q; subst this; rfl
    | false => exact lookup_mapk f r y
theorem flat_all {c : Cx} {ρ : List (Str × SV)} {F : PM} {s : Shared} (h : Fm c ρ F s) : ∃ ρf : List (Str × SV), (∀ y, (ρf.lookup y).isSome = (ρ.lookup y).isSome) ∧ (∀ y sv, ρf.lookup y = some sv → Has c.env F s y sv) ∧
    (∀ y sv, ρ.lookup y = some sv → ∃ svf, ρf.lookup y = some svf ∧ ∀ F' s', Has c.env F' s' y svf → Has c.env F s' y sv) ∧ (∀ y sv, ρ.lookup y = some sv → flatSV sv = true → ρf.lookup y = some sv) := by
  classical
  have key : ∀ y, ∃ svf, ∀ sv, ρ.lookup y = some sv → Has c.env F s y svf ∧ (∀ F' s', Has c.env F' s' y svf → Has c.env F s' y sv) ∧ (flatSV sv = true → svf = sv) := fun y => by
    cases q : ρ.lookup y with
    | none => exact ⟨.none, fun sv e => by cases e⟩
    | some sv =>
      obtain ⟨svf, h1, h2, h3⟩ := flat_has (h.st.vars y sv q)
      exact ⟨svf, fun sv' e => by cases e; exact ⟨h1, h2, h3⟩⟩
  obtain ⟨f, hf⟩ := Classical.axiomOfChoice key
  refine ⟨ρ.map fun p => (p.1, f p.1), fun y => ?_, fun y sv hy => ?_, fun y sv hy => ?_, fun y sv hy hfl => ?_⟩
  · rw [lookup_mapk]; cases ρ.lookup y <;> rfl
  · rw [lookup_mapk] at hy
    cases q : ρ.lookup y with
    | none => rw [q] at hy; cases hy
    | some sv' => rw [q] at hy; cases hy; exact (hf y sv' q).1
  · exact ⟨f y, by rw [lookup_mapk, hy]; rfl, (hf y sv hy).2.1⟩
  · rw [lookup_mapk, hy, ← (hf y sv hy).2.2 hfl]; rfl
section
variable {c : Cx} {ρ : List (Str × SV)} {U : Addr → Prop} {P P' : PM → Shared → Prop} {D : Addr} {xs : List SV}
theorem borrowX {V : Addr → Prop} {F Fp F' : PM} {s s' : Shared} (hs : Sub F Fp) (x : ExtV V Fp s F' s') : ExtV V F s F s' := ⟨Sub.refl _, fun a o q => x.inn _ _ (x.sub _ _ (hs _ _ q)), x.keep, fun a o q => .inl q, x.rest⟩
theorem EvTS.borrow {x : Str} {e : Expr} {b : Bool} (hP : Held U P) (hx : ρ.lookup x = some (.ref D)) (hback : Backs P P') (he : EvTS c U P P' ((x, .lst xs) :: ρ) e b) : EvTS c (UO U D) (PO U P D xs) (PO U P' D xs) ρ e b := .mk fun F s Q E hf hp hU hQ => by
  obtain ⟨hp, fD, nU, vs, ⟨n, hl⟩, hv⟩ := hp
  obtain ⟨hf₁, x₁⟩ := hf.frozen fD hl hv (hU D (.inr rfl)) hx
  have hp₁ := hP.keep _ F s _ s (fun a q _ hu => nU (by rw [← show a = D from q]; exact hu)) (fun a q => by rw [show a = D from q]; exact fD) hp x₁
  refine he.run _ s Q E hf₁ hp₁ (fun a ha => hU a (.inl ha)) fun F' s' x hp' => ?_
  have sF : Sub F F' := x₁.sub.trans x.sub
  refine hQ F s' (borrowX x₁.sub (x.mono fun a q => .inl q)) ⟨hback F s F' s' hp hp' sF, fD, nU, vs, ⟨n, x.inn _ _ (x.sub _ _ (put_self _ _ _))⟩, hv⟩
noncomputable def PF (P : PM → Shared → Prop) (D : Addr) (o : Obj) : PM → Shared → Prop := fun F s => P F s ∧ F D = some o
theorem heldF {P : PM → Shared → Prop} {o : Obj} (hP : Held U P) : Held U (PF P D o) where
  dry := fun F s h a ha => hP.dry F s h.1 a ha
  keep := fun W F s F' s' hW hW' h e => ⟨hP.keep W F s F' s' hW hW' h.1 e, e.sub _ _ h.2⟩
theorem Runs.borrow {st : Stmt} {x : Str} {rest : List Stmt} {Φ : Flow → PM → Shared → Prop} (hP : Held U P) (hP' : Held U P') (hx : ρ.lookup x = some (.ref D)) (hback : Backs P P')
    (hst : ∀ (ρf : List (Str × SV)) (vs : List Value) (n : Nat) (F₀ : PM), VRs F₀ xs vs → (∀ y, (ρf.lookup y).isSome = (ρ.lookup y).isSome) → (∀ y sv, ρ.lookup y = some sv → flatSV sv = true → ρf.lookup y = some sv) →
      Runs c ⟨U, PF P D { cls := .type "list", data := .seq vs.toArray n }, heldF hP⟩ ρf [st] (Nxt c ⟨U, PF P' D { cls := .type "list", data := .seq vs.toArray n }, heldF hP'⟩ ρf))
    (hr : Runs c ⟨UO U D, PO U P' D xs, heldO hP'⟩ ρ rest Φ) : Runs c ⟨UO U D, PO U P D xs, heldO hP⟩ ρ (st :: rest) Φ := .mk fun F s Q E hf hp hU hQ => by
  obtain ⟨hp, fD, nU, vs, ⟨n, hl⟩, hv⟩ := hp
  obtain ⟨ρf, k1, k2, k3, k4⟩ := flat_all hf
  obtain ⟨hf₁, x₁⟩ := hf.frozen fD hl hv (hU D (.inr rfl)) hx
  have hp₁ := hP.keep _ F s _ s (fun a q _ hu => nU (by rw [← show a = D from q]; exact hu)) (fun a q => by rw [show a = D from q]; exact fD) hp x₁
  have hfp : Fm c ρf (put F D { cls := .type "list", data := .seq vs.toArray n }) s := by
    refine ⟨⟨hf₁.st.sub, hf₁.st.base, fun y sv hy => ?_⟩, hf₁.loc, hf₁.vol, hf₁.apart, hf₁.lit, hf₁.cell⟩
    exact (k2 y sv hy).extV x₁ (fun q => hU _ (.inr q) (.inl rfl)) fun n' a hn q => hU _ (.inr q) (.inr ⟨n', hn⟩)
  rw [show st :: rest = [st] ++ rest from rfl, execs_append]
  refine wpAny_bind (wpAny_mono ((hst ρf vs n F hv k1 k4).run _ s (fun fl s' => fl = .next ∧ wpAny (model c.prog c.w) c.A (execs rest c.env) Q E s') E hfp ⟨hp₁, put_self _ _ _⟩ (fun a ha => hU a (.inl ha)) fun fl F' s' xx hfl => ?_) (fun fl s' hh => ?_) fun _ _ e => e)
  · obtain ⟨rfl, hf', hp'⟩ := hfl
    refine ⟨rfl, ?_⟩
    have sF : Sub F F' := x₁.sub.trans xx.sub
    have bx := borrowX x₁.sub xx
    have hfe : Fm c ρ F s' := by
      refine ⟨⟨bx.inn, hf.st.base, fun y sv hy => ?_⟩, hf'.loc, hf.vol, hf.apart, hf'.lit, hf'.cell⟩
      obtain ⟨svf, j1, j2⟩ := k3 y sv hy
      exact j2 F' s' (hf'.st.vars y svf j1)
    exact hr.run F s' Q E hfe ⟨hback F s F' s' hp hp'.1 sF, fD, nU, vs, ⟨n, xx.inn _ _ (xx.sub _ _ (put_self _ _ _))⟩, hv⟩ hU fun fl F'' s'' y hfl => hQ fl F'' s'' ((bx.mono fun a q => q.elim .inl fun q => .inr (.inl q)).trans y) hfl
  · obtain ⟨rfl, hh⟩ := hh
    exact hh
end
end Mine
end
section
open PySem PySem.W PyProof.Rows
namespace Mine
noncomputable abbrev LS1 (L : LexA) (g : List Nat) (pb : List Str) (i : Nat) : PM → Shared → Prop := LexP L (lexSt g 1 i).1 (lexSt g 1 i).2 pb
noncomputable def tokV (g : List Nat) (i : Nat) : Str := mkS (lexTok g 1 i)
theorem zipIdx_fst {α : Type} (xs : List α) : xs.zipIdx.map (fun u => u.1) = xs := by
  rw [List.zipIdx_map_fst]
theorem zipIdx_at {α : Type} {xs : List α} {i : Nat} {u : α × Nat} (h : xs.zipIdx[i]? = some u) : u.2 = i := by
  rw [List.getElem?_zipIdx] at h
  cases q : xs[i]? with
  | none => rw [q] at h; cases h
  | some v => rw [q] at h; cases h; simp
theorem get_ev {c : Cx} {L : LexA} {g : List Nat} {ln : Int} {ρ : List (Str × SV)} {d : Nat} {px ap cp : Pos} (hK : c.K = KF c.w.params) (hPG : c.prog = PG) (hr : Room c.A (d + 4)) (hg : g.length ≤ 1000) (hx : Ev c ρ (.Name (Str.ofString "lexer") px) (.ref L.X))
    (hbase : attributeBase (.Name (Str.ofString "lexer") px) "get_token" c.env (eval (.Name (Str.ofString "lexer") px) c.env) = eval (.Name (Str.ofString "lexer") px) c.env) (hline : (ap.endLine == cp.line) = true) :
    EvS c (LexU L) (LexP L g ln []) (LexP L (lexOut g ln).2.1 (lexOut g ln).2.2 []) ρ (.Call (.Attribute (.Name (Str.ofString "lexer") px) "get_token" ap) [] [] cp) (.str (mkS (lexOut g ln).1)) :=
  EvS.callM hK hx (own_get _) obj_get (by decide) (of := ob42 c.w.params) (by kernel_rfl) rfl rfl Evs.nil hr (by rw [hK, hPG]; exact get_ok c.w d L g ln _ hg rfl) hbase (plain_few rfl rfl) hline (fun _ => plain_any rfl)
theorem read_ok {w : World} {A : Around} {Lc : Addr} {d : Nat} (hr : Room (cW w A Lc).A (d + 4)) {L : LexA} {g : List Nat} (hg : g.length ≤ 1000) {l : List Nat} (hl : l.length ≤ 1000) {ρ : List (Str × SV)} {Φ : Flow → PM → Shared → Prop} (h1 : ρ.lookup (Str.ofString "lexer") = some (.ref L.X)) (h2 : ρ.lookup (Str.ofString "letters") = some (.str (mkS l)))
    (hrest : ∀ D, Runs (cW w A Lc) ⟨UO (LexU L) D, PO (LexU L) (LS1 L g [] l.length) D (l.zipIdx.map fun u => .str (tokV g u.2)), heldO LexP.held⟩ ((Str.ofString "read", .ref D) :: ρ) (lawB.drop 8) Φ) :
    Runs (cW w A Lc) ⟨LexU L, LexP L g 1 [], LexP.held⟩ ρ (lawB.drop 7) Φ := by
  have hz : (mkS l).cps.toList.zipIdx.length = l.length := by rw [List.length_zipIdx, mkS_list]
  refine Runs.setCompO (U := LexU L) (P := LS1 L g []) (fun i => LexP.held) (ρ' := [(Str.ofString "lexer", .ref L.X)]) (xs := (mkS l).cps.toList.zipIdx) (b := fun (u : Nat × Nat) => [(Str.ofString "letter", .str ⟨#[u.1]⟩)]) (p := fun _ => true) (f := fun u => .str (tokV g u.2))
    ⟨Source.map (g := fun (u : Nat × Nat) => u.1) (b := fun cp => [(Str.ofString "letter", .str ⟨#[cp]⟩)]) (by rw [zipIdx_fst]; exact Source.str (Ev.name rfl h2 rfl) hr.handled), by rw [hz]; exact hl, by decide, rfl, by decide, by decide, ⟨h1, rfl, .inl rfl, trivial⟩, rfl, fun _ _ => rfl, fold_plain rfl⟩ (fun cl C u hu => TestsOk.nil) (fun _ _ _ _ _ q => by cases q) (fun cl C i u F s Q E hu _ hf hU hp hQ => ?_) rfl (.inl rfl) (fun D => ?_) rfl
  · have e := zipIdx_at hu
    refine (get_ev (c := inner (cW w A Lc) _ cl C) (L := L) (g := (lexSt g 1 i).1) (ln := (lexSt g 1 i).2) (d := d) rfl rfl hr (Nat.le_trans (lexSt_len i g 1) hg) (Ev.name rfl rfl rfl) rfl rfl).run F s Q E hf hp hU fun v F' s' x hp' hv => hQ v F' s' x ?_ ?_
    · show LexP L (lexSt g 1 (i + 1)).1 (lexSt g 1 (i + 1)).2 [] F' s'
      rw [lexSt_succ]; exact hp'
    · show VR F' (.str (mkS (lexTok g 1 u.2))) v
      rw [lexTok_st, e]; exact hv
  · have := hrest D
    rw [filter_true, mkS_list]
    rw [List.length_zipIdx]
    exact this
end Mine
end
section
open PySem PySem.W PyProof.Rows
namespace Mine
theorem drop_at {α : Type} {ts : List α} {i : Nat} {t : α} (h : ts[i]? = some t) : ts.drop i = t :: ts.drop (i + 1) := by
  obtain ⟨hi, rfl⟩ := List.getElem?_eq_some_iff.mp h
  exact List.drop_eq_getElem_cons hi
section
variable {c : Cx} {ρ : List (Str × SV)}
theorem EvS.comp {α : Type} {U : Addr → Prop} {P : Nat → PM → Shared → Prop} (hP : ∀ i, Held U (P i)) {ρ' : List (Str × SV)} {tg iter elt : Expr} {ifs : List Expr} {scope : Scope} {pos : Pos} {xs : List α} {b : α → List (Str × SV)} {p : α → Bool} {f : α → SV}
    (k : CompOk c ρ ρ' tg iter elt ifs scope xs b p f)
    (htest : ∀ cl C, ∀ x ∈ xs, TestsOk (inner c scope cl C) (b x ++ ρ') ifs (p x))
    (hskip : ∀ i x F s, xs[i]? = some x → p x = false → P i F s → P (i + 1) F s)
    (helt : ∀ cl C i x F s (Q : Value → Shared → Prop) E, xs[i]? = some x → p x = true → Fm (inner c scope cl C) (b x ++ ρ') F s → (∀ a, U a → ¬ Rel (inner c scope cl C) a) → P i F s →
      (∀ v F' s', ExtV U F s F' s' → P (i + 1) F' s' → VR F' (f x) v → Q v s') → wpAny (model c.prog c.w) c.A (eval elt (inner c scope cl C).env) Q E s) : EvS c U (P 0) (P xs.length) ρ (.ListComp elt [⟨tg, iter, ifs, 0⟩] scope pos) (.lst ((xs.filter p).map f)) := .mk fun F s Q E hf hp hU hQ => by
  rw [eval_ListComp]
  refine comp_core (U := U) (P := P) hP p f k.src k.len k.cell k.kind k.names k.tg k.caps (freeOk_get k.free) (fun x hx => keysApart_get (k.apart x hx)) htest hskip helt k.fold hf.st hp hU fun D C F₂ s₂ ys n z => ?_
  obtain ⟨m, hm⟩ := z.loc
  refine ⟨m, hm, fun h' hs' => ?_⟩
  obtain ⟨F₃, e₃, hP₃, hv, _⟩ := z.done (hP _) hs'
  exact hQ _ F₃ _ e₃ hP₃ hv
theorem push_for {L : LexA} {g : List Nat} {ln : Int} {pb ts : List Str} {R R' : List (Str × SV)} {y z : Str} {py pz pl pt ap cp p p' : Pos} {d : Nat} (hK : c.K = KF c.w.params) (hPG : c.prog = PG) (hr : Room c.A (d + 2)) (hk : c.env.scope.kind = .function)
    (hlen : pb.length + ts.length ≤ 999) (hz : R.lookup z = some (.lst (ts.map SV.str))) (hl : R.lookup (Str.ofString "lexer") = some (.ref L.X)) (hy : R.lookup y = none) (hyk : c.env.kindOf y = some .local) (hd : (z == ("__debug__" : Str)) = false) (hd' : (y == ("__debug__" : Str)) = false) (hyl : (Str.ofString "lexer" == y) = false)
    (hR : ∀ x sv, R'.lookup x = some sv → R.lookup x = some sv) (hline : (ap.endLine == cp.line) = true) (hi : interactive c.env = false)
    (hbase : attributeBase (.Name (Str.ofString "lexer") pl) "push_token" c.env (eval (.Name (Str.ofString "lexer") pl) c.env) = eval (.Name (Str.ofString "lexer") pl) c.env) :
    Runs c ⟨LexU L, LexP L g ln pb, LexP.held⟩ R [.For (.Name y py) (.Name z pz) [.Expr (.Call (.Attribute (.Name (Str.ofString "lexer") pl) "push_token" ap) [.Name y pt] [] cp) p'] [] p] (Nxt c ⟨LexU L, LexP L g ln (pb ++ ts), LexP.held⟩ R') := by
  have key : Runs c ⟨LexU L, LexP L g ln (pb ++ ts.take 0), LexP.held⟩ R [.For (.Name y py) (.Name z pz) [.Expr (.Call (.Attribute (.Name (Str.ofString "lexer") pl) "push_token" ap) [.Name y pt] [] cp) p'] [] p] (Nxt c ⟨LexU L, LexP L g ln (pb ++ ts), LexP.held⟩ R') := by
    refine Runs.for (U := LexU L) (P := fun i => LexP L g ln (pb ++ ts.take i)) (fun i => LexP.held) (ρs := fun _ => R) (xs := ts) (b := fun t => [(y, .str t)])
      (Source.map (g := SV.str) (b := fun v => [(y, v)]) (Source.list (Ev.name hk hz hd) hr.handled)) (fun x hx => by rw [List.mem_singleton.mp hx]; exact hyk) hk (fun i t ht => ?_) (Runs.nil fun F s hf hp => ⟨rfl, hf.sub hR, by rw [← List.take_length (l := ts)]; exact hp⟩)
    have hi' : i < ts.length := (List.getElem?_eq_some_iff.mp ht).1
    refine Runs.exprS (LexP.held (L := L) (g := g) (ln := ln) (pb := (pb ++ ts.take i) ++ [t])) (EvS.callM (svs := [.str t]) hK (Ev.name hk (by rw [List.cons_append, List.lookup_cons, hyl]; exact hl) rfl) (own_push _) obj_push (by decide) (of := ob49 c.w.params) (by kernel_rfl) rfl rfl (Evs.co rfl (Ev.name hk (by rw [List.cons_append, List.lookup_cons_self]) hd') Evs.nil) hr (by rw [hK, hPG]; exact push_ok c.w d L g ln t _ (by rw [List.length_append, List.length_take]; lia)) hbase (plain_few rfl rfl) hline (fun _ => plain_any rfl)) (Runs.nil fun F s hf hp => ⟨rfl, hf.sub fun x sv h => ?_, ?_⟩) hi rfl
    · rw [List.cons_append, List.lookup_cons]
      cases q : x == y with
      | true => have := beq_iff_eq.mp q; subst this; rw [hy] at h; cases h
      | false => exact h
    · show LexP L g ln (pb ++ ts.take (i + 1)) F s
      rw [List.take_add_one, ht, ← List.append_assoc]
      exact hp
  exact .mk fun F s Q E hf hp hU hQ => key.run F s Q E hf (show LexP L g ln (pb ++ ts.take 0) F s by rw [List.take_zero, List.append_nil]; exact hp) hU hQ
theorem back_eq {L : LexA} {g : List Nat} {ln : Int} {ts : List Str} {y z : Str} {py pz pl ap cp pos pz' p : Pos} {scope : Scope} {d : Nat} (hK : c.K = KF c.w.params) (hPG : c.prog = PG) (hr : Room c.A (d + 4)) (hk : c.env.scope.kind = .function)
    (hlen : ts.length ≤ 900) (hok : ts.all PyData.strOk = true) (hz : ρ.lookup z = some (.lst (ts.map SV.str))) (hl : ρ.lookup (Str.ofString "lexer") = some (.ref L.X)) (hd : (z == ("__debug__" : Str)) = false)
    (hkl : c.env.kindOf (Str.ofString "lexer") = some .cell) (hyl : (Str.ofString "lexer" == y) = false)
    (s1 : ∀ y ∈ scope.names, y.2 ≠ .cell) (s2 : scope.kind = .function) (s3 : ∀ y ∈ scope.names, y.2 = .local → scope.names.lookup y.1 = some .local) (s4 : scope.names.lookup y = some .local) (s5 : scope.names.lookup (Str.ofString "lexer") = some .free) (s6 : freeOk scope.names [Str.ofString "lexer"] = true)
    (s7 : (y == Str.ofString "lexer") = false) (hfold : ∀ x, foldedSetIterable (.Name z pz) c.env x = Pure.pure x) (hline : (ap.endLine == cp.line) = true)
    (hbase : ∀ cl C, attributeBase (.Name (Str.ofString "lexer") pl) "get_token" (inner c scope cl C).env (eval (.Name (Str.ofString "lexer") pl) (inner c scope cl C).env) = eval (.Name (Str.ofString "lexer") pl) (inner c scope cl C).env) :
    EvTS c (LexU L) (LexP L g ln ts) (LexP L g ln []) ρ (.Compare (.ListComp (.Call (.Attribute (.Name (Str.ofString "lexer") pl) "get_token" ap) [] [] cp) [⟨.Name y py, .Name z pz, [], 0⟩] scope pos) [.NotEq] [.Name z pz'] p) false := by
  have key : EvS c (LexU L) (LexP L g ln (ts.drop 0)) (LexP L g ln (ts.drop ts.length)) ρ (.ListComp (.Call (.Attribute (.Name (Str.ofString "lexer") pl) "get_token" ap) [] [] cp) [⟨.Name y py, .Name z pz, [], 0⟩] scope pos) (.lst ((ts.filter fun _ => true).map SV.str)) := by
    refine EvS.comp (U := LexU L) (P := fun i => LexP L g ln (ts.drop i)) (fun i => LexP.held) (ρ' := [(Str.ofString "lexer", .ref L.X)]) (b := fun t => [(y, .str t)])
      ⟨Source.map (g := SV.str) (b := fun v => [(y, v)]) (Source.list (Ev.name hk hz hd) hr.handled), Nat.le_trans hlen (by decide), s1, s2, s3, fun x hx => by rw [List.mem_singleton.mp hx]; exact s4, ⟨hl, s5, .inl hkl, trivial⟩, s6, fun _ _ => by show (!([Str.ofString "lexer"].contains y) && true) = true; rw [List.contains_cons, s7]; rfl, hfold⟩ (fun cl C u hu => TestsOk.nil) (fun _ _ _ _ _ q => by cases q) (fun cl C i t F s Q E ht _ hf hU hp hQ => ?_)
    have e : ts.drop i = t :: ts.drop (i + 1) := drop_at ht
    rw [e] at hp
    refine (EvS.callM (c := inner c scope cl C) (ρ := (y, .str t) :: [(Str.ofString "lexer", .ref L.X)]) hK (Ev.name s2 (by rw [List.lookup_cons, hyl]; rfl) rfl) (own_get _) obj_get (by decide) (of := ob42 c.w.params) (by kernel_rfl) rfl rfl Evs.nil hr (by show EffFn c.K c.prog c.w _ _ _ _ _ _ _; rw [hK, hPG]; exact get_back_ok c.w d L g ln t _ (by rw [List.length_drop]; lia)) (hbase cl C) (plain_few rfl rfl) hline (fun _ => plain_any rfl)).run F s Q E hf hp hU fun v F' s' x hp' hv => hQ v F' s' x hp' hv
  rw [filter_true] at key
  refine EvTS.compare LexP.held (.mk fun F s Q E hf hp hU hQ => key.run F s Q E hf hp hU fun v F' s' x hp' hv => hQ v F' s' x (by rw [List.drop_length] at hp'; exact hp') hv) (Ev.name hk hz hd) ?_ rfl
  have z := Op.neStrs (c := c) (ns := ts) (ms := ts) hr hok hok
  rw [show decide (ts = ts) = true from decide_eq_true rfl] at z
  exact z
end
end Mine
end
section
open PySem PySem.W PyProof.Rows
namespace Mine
section
variable {c : Cx}
theorem Runs.forP {α : Type} {U : Addr → Prop} {P : Nat → PM → Shared → Prop} (hP : ∀ i, Held U (P i)) {ρs : Nat → List (Str × SV)} {tg iter : Expr} {body rest : List Stmt} {p : Pos} {xs : List α} {b : α → List (Str × SV)} {Φ : Flow → PM → Shared → Prop}
    {ρp : List (Str × SV)} (src : Source c ρp iter tg xs b) (hpre : ∀ F s, Fm c (ρs 0) F s → P 0 F s → St c.K c.env ρp F s) (htg : ∀ y ∈ tgNames tg, c.env.kindOf y = some .local) (hk : c.env.scope.kind = .function)
    (hbody : ∀ i x, xs[i]? = some x → Runs c ⟨U, P i, hP i⟩ (b x ++ ρs i) body (Nxt c ⟨U, P (i + 1), hP _⟩ (ρs (i + 1))))
    (hr : Runs c ⟨U, P xs.length, hP _⟩ (ρs xs.length) rest Φ) (hs : ∀ x, foldedSetIterable iter c.env x = pure x := by exact fold_plain rfl) : Runs c ⟨U, P 0, hP 0⟩ (ρs 0) (.For tg iter body [] p :: rest) Φ := .mk fun F s Q E h hS hU hQ => by
  refine wpAny_execs_cons (wpAny_For (src F s _ E (hpre F s h hS) fun it V J F₁ s₁ x₁ hV hJ hsr => ?_) hs)
  have hsr := hsr c rfl rfl rfl hk htg
  have Vrel : ∀ a, V a → ¬ Rel c a := fun a ha hr => by obtain ⟨o, ho⟩ := h.live hr; rw [hV a ha] at ho; cases ho
  have UV : ∀ a, U a → ¬ V a := fun a ha hv => by obtain ⟨_, o, ho⟩ := (hP 0).dry F s hS a ha; rw [hV a hv] at ho; cases ho
  refine codeAny_forLoop_any (fun k s' => ∃ i F', i ≤ xs.length ∧ k = xs.length + 1 - i ∧ J i F' s' ∧ P i F' s' ∧ Fm c (ρs i) F' s' ∧ ExtV (fun a => V a ∨ Vol c a ∨ U a) F₁ s₁ F' s') ?_ (xs.length + 1)
    ⟨0, F₁, Nat.zero_le _, rfl, hJ, Side.ext (S := ⟨U, P 0, hP 0⟩) hS x₁, h.ext x₁, (Ext.refl x₁.inn).v⟩
  rintro k s' ⟨i, F', hi, rfl, hJ', hP', hf', e'⟩
  by_cases hlt : i < xs.length
  · have hx : xs[i]? = some xs[i] := List.getElem?_eq_getElem hlt
    generalize xs[i] = x at hx
    refine wpAny_mono (hsr.turn i x (ρs i) F' s' ?Q0 _ hx hJ' hf' Vrel ?turn) (fun r s₄ h₄ => ?conv) fun _ _ e => e
    case conv =>
      cases r with
      | none => exact h₄.elim
      | some v => exact h₄
    intro F₂ s₂ hJ₂ hf₂ e₂
    have W₂ : ∀ a, (V a ∨ Vol c a) → F' a = none := fun a ha => ha.elim (fun q => ((hsr.held i).dry F' s' hJ' a q).1) (hf'.vol a)
    have hP₂ : P i F₂ s₂ := (hP i).keep _ F' s' F₂ s₂ (fun a ha _ hu => ha.elim (fun q => UV a hu q) (fun q => hU a hu q.rel)) W₂ hP' e₂
    refine (hbody i x hx).run F₂ s₂ _ _ hf₂ hP₂ hU fun fl F₃ s₃ e₃ hfl => ?_
    obtain ⟨rfl, hf₃, hP₃⟩ := hfl
    have W₃ : ∀ a, (Vol c a ∨ U a) → F₂ a = none := fun a ha => ha.elim (hf₂.vol a) fun q => ((hP i).dry F₂ s₂ hP₂ a q).1
    have hJ₃ : J (i + 1) F₃ s₃ := (hsr.held (i + 1)).keep _ F₂ s₂ F₃ s₃ (fun a ha _ hv => ha.elim (fun q => Vrel a hv q.rel) (fun q => UV a q hv)) W₃ hJ₂ e₃
    exact ⟨xs.length + 1 - (i + 1), by lia, i + 1, F₃, hlt, rfl, hJ₃, hP₃, hf₃, (e'.trans (e₂.mono fun a q => q.elim .inl fun q => .inr (.inl q))).trans (e₃.mono fun a q => .inr q)⟩
  · obtain rfl : i = xs.length := Nat.le_antisymm hi (Nat.not_lt.mp hlt)
    refine hsr.done F' s' _ _ hJ' fun F₂ s₂ e₂ => ?_
    have hf₂ := hf'.extV e₂ Vrel
    have hP₂ : P xs.length F₂ s₂ := (hP _).keep V F' s' F₂ s₂ (fun a ha _ hu => UV a hu ha) (fun a ha => ((hsr.held _).dry F' s' hJ' a ha).1) hP' e₂
    show wpAny _ _ (execs [] c.env) _ _ _
    rw [show execs ([] : List Stmt) c.env = pure .next from rfl]
    refine wpAny_pure ?_
    refine hr.run F₂ s₂ Q E hf₂ hP₂ hU fun fl F₃ s₃ e₃ hfl => hQ fl F₃ s₃ (((x₁.v.trans e').trans (e₂.mono fun a q => .inl q)).trans (e₃.mono fun a q => .inr q) |>.drop fun a q => ?_) hfl
    rcases q with q | q
    · exact .inl (hV a q)
    · exact .inr q
end
section
variable {c : Cx} {ρ : List (Str × SV)} {U : Addr → Prop} {P P' : PM → Shared → Prop} {D : Addr} {o : Obj}
theorem EvS.frameF {e : Expr} {sv : SV} (h : EvS c U P P' ρ e sv) : EvS c U (PF P D o) (PF P' D o) ρ e sv := .mk fun F s Q E hf hp hU hQ =>
  h.run F s Q E hf hp.1 hU fun v F' s' x hp' hv => hQ v F' s' x ⟨hp', x.sub _ _ hp.2⟩ hv
end
section
variable {c : Cx} {ρ : List (Str × SV)}
theorem push_own {L : LexA} {g : List Nat} {ln : Int} {pb ts : List Str} {R : List (Str × SV)} {y z : Str} {py pz pl pt ap cp p p' : Pos} {d : Nat} {D : Addr} {vs : List Value} {n : Nat} {F₀ : PM} (hK : c.K = KF c.w.params) (hPG : c.prog = PG) (hr : Room c.A (d + 2)) (hk : c.env.scope.kind = .function)
    (hlen : pb.length + ts.length ≤ 999) (hv : VRs F₀ (ts.map SV.str) vs) (hz : R.lookup z = some (.ref D)) (hl : R.lookup (Str.ofString "lexer") = some (.ref L.X)) (hy : R.lookup y = none) (hyk : c.env.kindOf y = some .local) (hd : (z == ("__debug__" : Str)) = false) (hd' : (y == ("__debug__" : Str)) = false) (hyl : (Str.ofString "lexer" == y) = false)
    (hline : (ap.endLine == cp.line) = true) (hi : interactive c.env = false)
    (hbase : attributeBase (.Name (Str.ofString "lexer") pl) "push_token" c.env (eval (.Name (Str.ofString "lexer") pl) c.env) = eval (.Name (Str.ofString "lexer") pl) c.env) :
    Runs c ⟨LexU L, PF (LexP L g ln pb) D { cls := .type "list", data := .seq vs.toArray n }, heldF LexP.held⟩ R [.For (.Name y py) (.Name z pz) [.Expr (.Call (.Attribute (.Name (Str.ofString "lexer") pl) "push_token" ap) [.Name y pt] [] cp) p'] [] p] (Nxt c ⟨LexU L, PF (LexP L g ln (pb ++ ts)) D { cls := .type "list", data := .seq vs.toArray n }, heldF LexP.held⟩ R) := by
  have key : Runs c ⟨LexU L, PF (LexP L g ln (pb ++ ts.take 0)) D { cls := .type "list", data := .seq vs.toArray n }, heldF LexP.held⟩ R [.For (.Name y py) (.Name z pz) [.Expr (.Call (.Attribute (.Name (Str.ofString "lexer") pl) "push_token" ap) [.Name y pt] [] cp) p'] [] p] (Nxt c ⟨LexU L, PF (LexP L g ln (pb ++ ts)) D { cls := .type "list", data := .seq vs.toArray n }, heldF LexP.held⟩ R) := by
    refine Runs.forP (U := LexU L) (P := fun i => PF (LexP L g ln (pb ++ ts.take i)) D { cls := .type "list", data := .seq vs.toArray n }) (fun i => heldF LexP.held) (ρs := fun _ => R) (xs := ts) (b := fun t => [(y, .str t)]) (ρp := [(z, .lst (ts.map SV.str))])
      (Source.map (g := SV.str) (b := fun v => [(y, v)]) (Source.list (Ev.name hk (by rw [List.lookup_cons_self]) hd) hr.handled)) (fun F s hf hp => ⟨hf.st.sub, hf.st.base, fun x sv hx => ?_⟩) (fun x hx => by rw [List.mem_singleton.mp hx]; exact hyk) hk (fun i t ht => ?_) (Runs.nil fun F s hf hp => ⟨rfl, hf, by rw [← List.take_length (l := ts)]; exact hp⟩)
    · have hm := mem_of_lookup hx
      have := List.mem_singleton.mp hm
      cases this
      have w : VR F (.lst (ts.map SV.str)) (.ref D) := by unfold VR; exact ⟨D, vs, n, rfl, hp.2, strS_vr ts vs hv⟩
      rcases hf.st.vars z _ hz with ⟨k, m, v, hn, hm, hv'⟩ | ⟨k, kd, a, v, hc, hx', hv'⟩
      · unfold VR at hv'; subst hv'; exact .inl ⟨k, m, _, hn, hm, w⟩
      · unfold VR at hv'; subst hv'; exact .inr ⟨k, kd, a, _, hc, hx', w⟩
    · have hi' : i < ts.length := (List.getElem?_eq_some_iff.mp ht).1
      refine Runs.exprS (heldF (LexP.held (L := L) (g := g) (ln := ln) (pb := (pb ++ ts.take i) ++ [t]))) (EvS.frameF (EvS.callM (svs := [.str t]) hK (Ev.name hk (by rw [List.cons_append, List.lookup_cons, hyl]; exact hl) rfl) (own_push _) obj_push (by decide) (of := ob49 c.w.params) (by kernel_rfl) rfl rfl (Evs.co rfl (Ev.name hk (by rw [List.cons_append, List.lookup_cons_self]) hd') Evs.nil) hr (by rw [hK, hPG]; exact push_ok c.w d L g ln t _ (by rw [List.length_append, List.length_take]; lia)) hbase (plain_few rfl rfl) hline (fun _ => plain_any rfl))) (Runs.nil fun F s hf hp => ⟨rfl, hf.sub fun x sv h => ?_, ?_⟩) hi rfl
      · rw [List.cons_append, List.lookup_cons]
        cases q : x == y with
        | true => have := beq_iff_eq.mp q; subst this; rw [hy] at h; cases h
        | false => exact h
      · show PF (LexP L g ln (pb ++ ts.take (i + 1))) D _ F s
        rw [List.take_add_one, ht, ← List.append_assoc]
        exact hp
  exact .mk fun F s Q E hf hp hU hQ => key.run F s Q E hf (show PF (LexP L g ln (pb ++ ts.take 0)) D _ F s by rw [List.take_zero, List.append_nil]; exact hp) hU hQ
end
end Mine
end
section
open PySem PySem.W PyProof.Rows
namespace Mine
theorem again_ok {w : World} {A : Around} {Lc : Addr} {d : Nat} (hr : Room (cW w A Lc).A (d + 4)) {L : LexA} {g : List Nat} {ln : Int} {ts : List Str} {D : Addr} {ρ : List (Str × SV)} {Φ : Flow → PM → Shared → Prop} (h1 : ρ.lookup (Str.ofString "lexer") = some (.ref L.X)) (h2 : ρ.lookup (Str.ofString "read") = some (.ref D)) (h3 : ρ.lookup (Str.ofString "token") = none)
    (hlen : ts.length ≤ 900) (hok : ts.all PyData.strOk = true)
    (hrest : Runs (cW w A Lc) ⟨UO (LexU L) D, PO (LexU L) (LexP L g ln []) D (ts.map SV.str), heldO LexP.held⟩ ρ (lawB.drop 10) Φ) :
    Runs (cW w A Lc) ⟨UO (LexU L) D, PO (LexU L) (LexP L g ln []) D (ts.map SV.str), heldO LexP.held⟩ ρ (lawB.drop 8) Φ := by
  refine Runs.borrow (x := Str.ofString "read") LexP.held (LexP.held (pb := [] ++ ts)) h2 LexP.backs (fun ρf vs n F₀ hv k1 k4 => push_own (d := d + 2) rfl rfl hr rfl (by simp; lia) hv (k4 _ _ h2 rfl) (k4 _ _ h1 rfl) ?_ rfl rfl rfl rfl rfl rfl rfl) ?_
  · have := k1 (Str.ofString "token")
    rw [h3] at this
    cases q : ρf.lookup (Str.ofString "token") with
    | none => rfl
    | some v => rw [q] at this; cases this
  refine Runs.iteS (d := false) (heldO LexP.held) (EvTS.borrow LexP.held h2 LexP.backs (back_eq (d := d) (z := Str.ofString "read") (y := Str.ofString "token") rfl rfl hr rfl hlen hok rfl (by rw [List.lookup_cons]; exact h1) rfl rfl rfl (by decide) rfl (by decide) rfl rfl (by rfl) rfl (fold_plain rfl) rfl (fun _ _ => rfl))) (fun q => by cases q) (fun _ => ?_)
  exact hrest
end Mine
end
section
open PySem PySem.W PyProof.Rows
namespace Mine
theorem prep_ready (P : Params) (L : List Nat) (h : ∀ c ∈ L, ∃ x, Means P c x ∧ x.length ≤ 1000) (hl : L.length ≤ 1000) : (∀ c ∈ L, Builtin.Str.tooLong (Txt.lower ⟨#[c]⟩).length = false) ∧ JoinOk Str.empty (prepL P L) = true := by
  refine ⟨fun c hc => (h c hc).choose_spec.1.fit, joinOk_short (fun t ht => ?_) ?_⟩
  · unfold prepL at ht
    obtain ⟨c, hc, rfl⟩ := List.mem_map.mp ht
    obtain ⟨hc, hb⟩ := List.mem_filter.mp hc
    obtain ⟨x, m, hx⟩ := h c hc
    have e := m.mean
    rw [if_neg (by simpa using hb)] at e
    have : (b3F P c).length = x.length := by rw [← e]; exact (Array.length_toList).symm
    lia
  · unfold prepL
    rw [List.length_map]
    exact Nat.le_trans (List.length_filter_le _ _) hl
theorem image_means (P : Params) {l : Nat} (hl : l = 104 ∨ l = 112) (form : Int) : ∀ t ∈ imageL l form, ∃ c x, t = ⟨#[c]⟩ ∧ Means P c x ∧ x.length ≤ 1000 := by
  intro t ht
  have unseen : ∃ c x, ch (unseenC form) = ⟨#[c]⟩ ∧ Means P c x ∧ x.length ≤ 1000 := ⟨_, [], rfl, ⟨(unseen_sign form).2, by rw [(unseen_sign form).1]; rfl⟩, Nat.zero_le _⟩
  unfold imageL at ht
  split at ht
  · rcases mem_ins ht with rfl | ht
    · exact unseen
    · rw [List.mem_singleton.mp ht]
      have s := signs_all P
      rw [Bool.and_eq_true] at s
      rcases hl with rfl | rfl
      · exact ⟨_, _, rfl, Means.of_ok s.1, by decide⟩
      · exact ⟨_, _, rfl, Means.of_ok s.2, by decide⟩
  · rcases mem_ins ht with rfl | ht
    · exact unseen
    · rcases List.mem_cons.mp ht with rfl | ht
      · exact ⟨_, _, rfl, Means.of_ok (letter_sign P hl form), le1 rfl⟩
      · rw [List.mem_singleton.mp ht]
        exact ⟨_, _, rfl, Means.of_ok (letter_sign P (other_is hl) _), le1 rfl⟩
theorem prep_img (w : World) (d : Nat) {l : Nat} (hl : l = 104 ∨ l = 112) (form : Int) : PureFn (KF w.params) PG w (d + 2) 151 [.str (imageS l form)] (.str ⟨#[l, other l]⟩) := by
  have hlist : (imageS l form).cps.toList = (imageL l form).flatMap (·.cps.toList) := by unfold imageS; rw [join_list]
  have hm := image_means w.params hl form
  have hlen : (imageS l form).cps.toList.length ≤ 1000 := by
    rw [hlist, flat_len _ _ fun t ht => ?_]
    · exact (imageL_len l form).2
    · obtain ⟨c, x, rfl, _⟩ := hm t ht; rfl
  obtain ⟨h1, h2⟩ := prep_ready w.params (imageS l form).cps.toList (fun c hc => by
    rw [hlist] at hc
    obtain ⟨t, ht, hc⟩ := List.mem_flatMap.mp hc
    obtain ⟨c', x, rfl, m, hx⟩ := hm t ht
    have : c = c' := by simpa using hc
    subst this
    exact ⟨x, m, hx⟩) hlen
  have := prep_ok w d (imageS l form) hlen h1 h2
  rw [image_prep w.params hl form] at this
  exact this
theorem prep_word (w : World) (d : Nat) {l : Nat} (hl : l = 104 ∨ l = 112) (form : Int) : PureFn (KF w.params) PG w (d + 2) 151 [.str (wordS l form)] (.str (wordM l form)) := by
  have hlist := wordS_list l form
  have hm := word_means w.params hl form
  have hlen : (wordS l form).cps.toList.length ≤ 1000 := by
    rw [Array.length_toList]; have := word_len w.params hl form; unfold Str.length at this; lia
  obtain ⟨h1, h2⟩ := prep_ready w.params (wordS l form).cps.toList (fun c hc => by
    rw [hlist] at hc
    obtain ⟨t, ht, hc⟩ := List.mem_flatMap.mp hc
    obtain ⟨c', e, m⟩ := hm t ht
    rw [e] at hc
    have : c = c' := by simpa using hc
    subst this
    exact ⟨_, m, by rw [Array.length_toList]; exact (wordL_short l form t ht).2⟩) hlen
  have := prep_ok w d (wordS l form) hlen h1 h2
  rw [word_prep w.params hl form] at this
  exact this
theorem prep_none (w : World) (d : Nat) : PureFn (KF w.params) PG w (d + 2) 151 [.str Str.empty] (.str Str.empty) := by
  obtain ⟨h1, h2⟩ := prep_ready w.params (Str.empty).cps.toList (fun c hc => by cases hc) (Nat.zero_le _)
  exact prep_ok w d Str.empty (Nat.zero_le _) h1 h2
end Mine
end
section
open PySem PySem.W PyProof.Rows
namespace Mine
section
variable {c : Cx} {ρ ρ' : List (Str × SV)} {U : Addr → Prop} {P P' : PM → Shared → Prop} {D : Addr} {xs : List SV}
theorem PO.keep {V : Addr → Prop} {F F' : PM} {s s' : Shared} (h : PO U P D xs F s) (x : ExtV V F s F' s') (hD : ¬ V D) (hp : P' F' s') : PO U P' D xs F' s' := by
  obtain ⟨_, fD, nU, vs, ⟨n, hl⟩, hv⟩ := h
  exact ⟨hp, x.dry fD hl hD, nU, vs, ⟨n, x.keep _ _ hD hl⟩, hv.mono x.sub⟩
theorem Runs.frameO {b : List Stmt} {hP : Held U P} {hP' : Held U P'} (h : Runs c ⟨U, P, hP⟩ ρ b (Nxt c ⟨U, P', hP'⟩ ρ')) : Runs c ⟨UO U D, PO U P D xs, heldO hP⟩ ρ b (Nxt c ⟨UO U D, PO U P' D xs, heldO hP'⟩ ρ') := .mk fun F s Q E hf hp hU hQ =>
  h.run F s Q E hf hp.1 (fun a ha => hU a (.inl ha)) fun fl F' s' x hfl => hQ fl F' s' (x.mono fun a q => q.elim .inl fun q => .inr (.inl q)) ⟨hfl.1, hfl.2.1, hp.keep x (fun q => q.elim (fun q => hU D (.inr rfl) q.rel) hp.2.2.1) hfl.2.2⟩
theorem EvTS.frameO {e : Expr} {b : Bool} (h : EvTS c U P P' ρ e b) : EvTS c (UO U D) (PO U P D xs) (PO U P' D xs) ρ e b := .mk fun F s Q E hf hp hU hQ =>
  h.run F s Q E hf hp.1 (fun a ha => hU a (.inl ha)) fun F' s' x hp' => hQ F' s' (x.mono fun a q => .inl q) (hp.keep x hp.2.2.1 hp')
theorem Runs.seq {S S' : Side} {st : Stmt} {rest : List Stmt} {Φ : Flow → PM → Shared → Prop} (hSS : ∀ a, S'.U a ↔ S.U a) (h : Runs c S ρ [st] (Nxt c S' ρ')) (hr : Runs c S' ρ' rest Φ) : Runs c S ρ (st :: rest) Φ := .mk fun F s Q E hf hp hU hQ => by
  rw [show st :: rest = [st] ++ rest from rfl, execs_append]
  refine wpAny_bind (wpAny_mono (h.run F s (fun fl s' => fl = .next ∧ wpAny (model c.prog c.w) c.A (execs rest c.env) Q E s') E hf hp hU fun fl F' s' x hfl => ?_) (fun fl s' hh => ?_) fun _ _ e => e)
  · obtain ⟨rfl, hf', hp'⟩ := hfl
    exact ⟨rfl, hr.run F' s' Q E hf' hp' (fun a ha => hU a ((hSS a).mp ha)) fun fl F'' s'' y hfl => hQ fl F'' s'' (x.trans (y.mono fun a q => q.elim .inl fun q => .inr ((hSS a).mp q))) hfl⟩
  · obtain ⟨rfl, hh⟩ := hh; exact hh
end
noncomputable def growL (l : List Nat) : List Nat := l.flatMap fun x => [x, other x]
noncomputable def grownL (l : List Nat) : Nat → List Nat
  | 0 => l
  | i + 1 => growL (grownL l i)
theorem growL_is {l : List Nat} (h : ∀ x ∈ l, x = 104 ∨ x = 112) : ∀ x ∈ growL l, x = 104 ∨ x = 112 := fun x hx => by
  unfold growL at hx
  obtain ⟨y, hy, hx⟩ := List.mem_flatMap.mp hx
  rcases List.mem_cons.mp hx with rfl | hx
  · exact h _ hy
  · rw [List.mem_singleton.mp hx]; exact other_is (h _ hy)
theorem grownL_is {l : List Nat} (h : ∀ x ∈ l, x = 104 ∨ x = 112) : ∀ i, ∀ x ∈ grownL l i, x = 104 ∨ x = 112
  | 0 => h
  | i + 1 => growL_is (grownL_is h i)
theorem growL_len (l : List Nat) : (growL l).length = 2 * l.length := by
  unfold growL
  induction l with
  | nil => rfl
  | cons x l ih => rw [List.flatMap_cons, List.length_append, ih, List.length_cons]; simp; lia
theorem grownL_len (l : List Nat) : ∀ i, (grownL l i).length = 2 ^ i * l.length
  | 0 => by simp [grownL]
  | i + 1 => by show (growL _).length = _; rw [growL_len, grownL_len l i, Nat.pow_succ]; rw [← Nat.mul_assoc, Nat.mul_comm 2]
theorem strok_is {t : Str} (h : ∀ c ∈ t.cps.toList, c < 0x110000) : PyData.strOk t = true := by
  unfold PyData.strOk
  rw [Array.all_eq_true_iff_forall_mem]
  intro c hc
  exact decide_eq_true (h c (Array.mem_toList_iff.mpr hc))
end Mine
end
section
open PySem PySem.W PyProof.Rows
namespace Mine
theorem letters_lt : (ways.all fun t => decide ((letterW t.1 t.2.1 t.2.2).toNat < 0x110000)) = true := by kernel_rfl
theorem letterC_lt {l : Nat} (hl : l = 104 ∨ l = 112) (form : Int) : (letterC l form).toNat < 0x110000 := by
  rw [letterC_W]
  have m := ways_mem hl form
  generalize form.fmod 13 = a at m ⊢
  generalize (form.fdiv 13).fmod 3 = b at m ⊢
  exact of_decide_eq_true (List.all_eq_true.mp letters_lt _ m)
theorem unseenC_lt (form : Int) : (unseenC form).toNat < 0x110000 := by
  have m := fmod_lt (a := form) (b := 27) (by decide)
  have := unseenT_le (form.fmod 27).toNat (by lia)
  unfold unseenC; lia
theorem strayC_lt (form : Int) : (strayC form).toNat < 0x110000 := by
  have m := fmod_lt (a := form.fdiv 27) (b := 23) (by decide)
  have := strayT_le ((form.fdiv 27).fmod 23).toNat (by lia)
  unfold strayC; lia
theorem image_strok {l : Nat} (hl : l = 104 ∨ l = 112) (form : Int) : PyData.strOk (imageS l form) = true := by
  refine strok_is fun c hc => ?_
  have hlist : (imageS l form).cps.toList = (imageL l form).flatMap (·.cps.toList) := by unfold imageS; rw [join_list]
  rw [hlist] at hc
  obtain ⟨t, ht, hc⟩ := List.mem_flatMap.mp hc
  have one : ∀ n : Int, c ∈ (ch n).cps.toList → c = n.toNat := fun n h => by simpa [ch] using h
  unfold imageL at ht
  split at ht
  · rcases mem_ins ht with rfl | ht
    · rw [one _ hc]; exact unseenC_lt _
    · rw [List.mem_singleton.mp ht] at hc
      rw [one _ hc]
      split <;> decide
  · rcases mem_ins ht with rfl | ht
    · rw [one _ hc]; exact unseenC_lt _
    · rcases List.mem_cons.mp ht with rfl | ht
      · rw [one _ hc]; exact letterC_lt hl _
      · rw [List.mem_singleton.mp ht] at hc
        rw [one _ hc]; exact letterC_lt (other_is hl) _
theorem word_strok {l : Nat} (hl : l = 104 ∨ l = 112) (form : Int) : PyData.strOk (wordS l form) = true := by
  refine strok_is fun c hc => ?_
  rw [wordS_list] at hc
  obtain ⟨p, hp, hc⟩ := List.mem_flatMap.mp hc
  have one : ∀ n : Int, c ∈ (ch n).cps.toList → c = n.toNat := fun n h => by simpa [ch] using h
  unfold wordL at hp
  rcases mem_ins hp with rfl | hp
  · rw [one _ hc]; exact strayC_lt _
  · rcases mem_ins hp with rfl | hp
    · rw [one _ hc]; exact unseenC_lt _
    · rw [List.mem_singleton.mp hp] at hc
      rw [one _ hc]; exact letterC_lt hl _
noncomputable def imgs (h2 : Int) (l : List Nat) : List Str := l.zipIdx.map fun (u : Nat × Nat) => imageS u.1 (h2 + (u.2 : Int).fmod 3)
theorem imgs_len (h2 : Int) (l : List Nat) : (imgs h2 l).length = l.length := by unfold imgs; simp
theorem imgs_ok {h2 : Int} {l : List Nat} (hl : ∀ x ∈ l, x = 104 ∨ x = 112) : (imgs h2 l).all PyData.strOk = true := by
  rw [List.all_eq_true]
  intro t ht
  obtain ⟨u, hu, rfl⟩ := List.mem_map.mp ht
  exact image_strok (hl _ (List.fst_mem_of_mem_zipIdx hu)) _
theorem imgs_join (h2 : Int) (l : List Nat) : Txt.join Str.empty (l.zipIdx.map fun (u : Nat × Nat) => (⟨#[u.1, other u.1]⟩ : Str)) = mkS (growL l) := by
  refine str_ext ?_
  rw [join_list, List.flatMap_map, mkS_list]
  unfold growL
  have : ∀ (l : List Nat) (k : Nat), (l.zipIdx k).flatMap (fun u => (⟨#[u.1, other u.1]⟩ : Str).cps.toList) = l.flatMap fun x => [x, other x] := by
    intro l
    induction l with
    | nil => intro k; rfl
    | cons x l ih => intro k; rw [List.zipIdx_cons, List.flatMap_cons, ih, List.flatMap_cons]
  exact this l 0
theorem lk_skip {ρ : List (Str × SV)} {a b c' : Str} {x y z z' : SV} (ha : (a == c') = false) (hb : (b == c') = false) (h1 : ρ.lookup a = none) (h2 : ρ.lookup b = none) (n : Str) (sv : SV) (h : ((c', z) :: ρ).lookup n = some sv) : ((c', z) :: (a, x) :: (b, y) :: (c', z') :: ρ).lookup n = some sv := by
  rw [List.lookup_cons] at h ⊢
  cases q : n == c' with
  | true => rw [q] at h; exact h
  | false =>
    rw [q] at h
    have na : (n == a) = false := by
      cases z : n == a with
      | false => rfl
      | true => have := beq_iff_eq.mp z; subst this; rw [h1] at h; cases h
    have nb : (n == b) = false := by
      cases z : n == b with
      | false => rfl
      | true => have := beq_iff_eq.mp z; subst this; rw [h2] at h; cases h
    rw [List.lookup_cons, na, List.lookup_cons, nb, List.lookup_cons, q]; exact h
end Mine
end
section
open PySem PySem.W PyProof.Rows
namespace Mine
theorem grow_le {l : List Nat} (hl : l.length ≤ 6) {i : Nat} (hi : i ≤ 6) : (grownL l i).length ≤ 400 := by
  rw [grownL_len]
  have : 2 ^ i ≤ 2 ^ 6 := Nat.pow_le_pow_right (by decide) hi
  have h2 : 2 ^ i * l.length ≤ 2 ^ 6 * 6 := Nat.mul_le_mul this hl
  lia
theorem rounds_ok {w : World} {A : Around} {Lc : Addr} {d : Nat} (hr : Room (cW w A Lc).A (d + 4)) {L : LexA} {g : List Nat} {ln : Int} {xs : List SV} {D : Addr} {ρ : List (Str × SV)} {Φ : Flow → PM → Shared → Prop} {h0 h1 h2 : Int} {l : List Nat} {r : Nat}
    (k1 : ρ.lookup (Str.ofString "lexer") = some (.ref L.X)) (k2 : ρ.lookup (Str.ofString "heaps") = some (.lst [.int h0, .int h1, .int h2])) (k3 : ρ.lookup (Str.ofString "letters") = some (.str (mkS l))) (k4 : ρ.lookup (Str.ofString "rounds") = some (.int r))
    (n1 : ρ.lookup (Str.ofString "turn") = none) (n2 : ρ.lookup (Str.ofString "images") = none) (n3 : ρ.lookup (Str.ofString "image") = none)
    (hl : ∀ x ∈ l, x = 104 ∨ x = 112) (hlen : l.length ≤ 6) (hr5 : r ≤ 5)
    (hrest : Runs (cW w A Lc) ⟨UO (LexU L) D, PO (LexU L) (LexP L g ln []) D xs, heldO LexP.held⟩ ((Str.ofString "grown", .str (mkS (grownL l r))) :: ρ) (lawB.drop 12) Φ) :
    Runs (cW w A Lc) ⟨UO (LexU L) D, PO (LexU L) (LexP L g ln []) D xs, heldO LexP.held⟩ ρ (lawB.drop 10) Φ := by
  refine Runs.set (sv := .str (mkS l)) (Ev.name rfl k3 rfl) rfl (.inl rfl) ?_ (swaps_plain rfl)
  have lk : ∀ {x : Str} {a : SV} {sv : SV}, (x == Str.ofString "grown") = false → ρ.lookup x = some sv → ((Str.ofString "grown", a) :: ρ).lookup x = some sv := fun h h' => by rw [List.lookup_cons, h]; exact h'
  refine Runs.for (U := UO (LexU L) D) (P := fun _ => PO (LexU L) (LexP L g ln []) D xs) (fun _ => heldO LexP.held) (ρs := fun i => (Str.ofString "grown", .str (mkS (grownL l i))) :: ρ) (Source.range (Ev.tyin rfl rfl rfl rfl (by kernel_rfl) (by kernel_rfl) rfl) (Ev.name rfl (lk rfl k4) rfl) (Nat.le_succ_of_le hr5) hr.handled (fun _ => plain_any rfl) (fun _ => starEach_cons rfl)) (fun x hx => by rw [List.mem_singleton.mp hx]; rfl) rfl (fun i x hx => ?_) (by rw [List.length_range]; exact hrest)
  have hi : i < r := by
    have := (List.getElem?_eq_some_iff.mp hx).1
    rwa [List.length_range] at this
  have hg := grownL_is hl i
  have hgl := grow_le hlen (i := i) (by lia)
  refine Runs.setComp (ρ' := [(Str.ofString "heaps", .lst [.int h0, .int h1, .int h2])]) (xs := (mkS (grownL l i)).cps.toList.zipIdx) (p := fun _ => true) (f := fun (u : Nat × Nat) => .str (imageS u.1 (h2 + (u.2 : Int).fmod 3)))
    ⟨Source.enumStr (Ev.tyin rfl rfl rfl rfl (by kernel_rfl) (by kernel_rfl) rfl) (Ev.name rfl rfl rfl) (asc_ok _ hg) hr.handled (fun _ => plain_any rfl) (fun _ => starEach_cons rfl), by rw [List.length_zipIdx, mkS_list]; lia, by decide, rfl, by decide, by decide, ⟨k2, rfl, .inl rfl, trivial⟩, rfl, fun _ _ => rfl, fold_plain rfl⟩ (fun cl C u hu => TestsOk.nil) (fun cl C u hu _ => ?_) rfl (.inl rfl) ?_ rfl
  · have hu1 : u.1 = 104 ∨ u.1 = 112 := by
      have := List.fst_mem_of_mem_zipIdx hu
      rw [mkS_list] at this
      exact hg _ this
    exact Ev.callF (a := 177) (o := ob177 w.params) (Ev.glob rfl rfl rfl (by kernel_rfl) rfl) (Evs.co rfl (Ev.name rfl rfl rfl) (Evs.co rfl (Ev.binop (Ev.subLst (Ev.name rfl rfl rfl) Ev.int (by decide) (by decide) rfl (sub_plain rfl)) (Ev.binop (Ev.name rfl rfl rfl) Ev.int (Op.fmod (by decide))) Op.add) Evs.nil)) (hr.le (d' := d + 2) (by lia)) (by kernel_rfl) rfl (image_ok w d u.1 hu1 _) (fun _ => plain_any rfl)
  rw [filter_true, mkS_list, show ((grownL l i).zipIdx.map fun (u : Nat × Nat) => SV.str (imageS u.1 (h2 + (u.2 : Int).fmod 3))) = (imgs h2 (grownL l i)).map SV.str from by unfold imgs; rw [List.map_map]; rfl]
  have hil : (imgs h2 (grownL l i)).length ≤ 900 := by rw [imgs_len]; lia
  have lk2 : ∀ {x : Str} {a b e : SV} {sv : SV}, (x == Str.ofString "grown") = false → (x == Str.ofString "turn") = false → (x == Str.ofString "images") = false → ρ.lookup x = some sv → ((Str.ofString "images", a) :: (Str.ofString "turn", b) :: (Str.ofString "grown", e) :: ρ).lookup x = some sv := fun h h' h'' k => by rw [List.lookup_cons, h'', List.lookup_cons, h', List.lookup_cons, h]; exact k
  refine Runs.seq (S' := ⟨UO (LexU L) D, PO (LexU L) (LexP L g ln ([] ++ imgs h2 (grownL l i))) D xs, heldO LexP.held⟩) (fun _ => Iff.rfl) (Runs.frameO (hP' := LexP.held) (push_for (d := d + 2) (pb := []) rfl rfl hr rfl (by simp; lia) rfl k1 ?_ rfl rfl rfl rfl (fun x sv h => h) rfl rfl rfl)) ?_
  · show List.lookup _ ((Str.ofString "images", _) :: (Str.ofString "turn", _) :: (Str.ofString "grown", _) :: ρ) = none
    exact n3
  refine Runs.iteS (d := false) (heldO LexP.held) (EvTS.frameO (back_eq (d := d) (z := Str.ofString "images") (y := Str.ofString "image") rfl rfl hr rfl hil (imgs_ok (h2 := h2) hg) rfl k1 rfl rfl rfl (by decide) rfl (by decide) rfl rfl (by rfl) rfl (fold_plain rfl) rfl (fun _ _ => rfl))) (fun q => by cases q) (fun _ => ?_)
  refine Runs.set (sv := .str (Txt.join Str.empty ((grownL l i).zipIdx.map fun (u : Nat × Nat) => (⟨#[u.1, other u.1]⟩ : Str)))) (Ev.meth Ev.str (Evs.co rfl ?comp Evs.nil) PySem.F.plainAttrs_str PySem.F.slot_str_join PySem.F.type_str_join strT (Op.join (texts := (grownL l i).zipIdx.map fun (u : Nat × Nat) => (⟨#[u.1, other u.1]⟩ : Str)) (joinOk_short ?_ ?_)) (attr_plain rfl) (plain_few rfl rfl) rfl (fun _ => plain_any rfl)) rfl (.inl rfl) ?_ (swaps_plain rfl)
  case comp =>
    refine Ev.compS (ρ' := []) ⟨Source.map (g := fun (u : Nat × Nat) => SV.str (imageS u.1 (h2 + (u.2 : Int).fmod 3))) (b := fun v => [(Str.ofString "image", v)]) (Source.list (Ev.name rfl (by show some (SV.lst ((imgs h2 (grownL l i)).map SV.str)) = _; unfold imgs; rw [List.map_map]; rfl) rfl) hr.handled), by rw [List.length_zipIdx]; lia, by decide, rfl, by decide, by decide, trivial, rfl, fun _ _ => rfl, fold_plain rfl⟩ (fun cl C u hu => ?_)
    have hu1 := hg _ (List.fst_mem_of_mem_zipIdx hu)
    exact Ev.callF (a := 151) (o := ob151 w.params) (Ev.glob rfl rfl rfl (by kernel_rfl) rfl) (Evs.co rfl (Ev.name rfl rfl rfl) Evs.nil) (hr.le (d' := d + 2) (by lia)) (by kernel_rfl) rfl (prep_img w d hu1 _) (fun _ => plain_any rfl)
  · intro t ht
    obtain ⟨u, _, rfl⟩ := List.mem_map.mp ht
    exact le1 rfl
  · rw [List.length_map, List.length_zipIdx]; lia
  rw [imgs_join 0]
  exact Runs.nil fun F s hf hp => ⟨rfl, hf.sub (lk_skip rfl rfl n2 n1), hp⟩
end Mine
end
section
open PySem PySem.W PyProof.Rows
namespace Mine
section
variable {c : Cx} {ρ : List (Str × SV)} {U : Addr → Prop} {P P' : PM → Shared → Prop} {D : Addr} {xs ys : List SV}
theorem EvS.extend {x : Str} {e : Expr} {px ap cp : Pos} (hP : Held U P) (hP' : Held U P') (hk : c.env.scope.kind = .function) (hx : ρ.lookup x = some (.ref D)) (hd : (x == ("__debug__" : Str)) = false) (he : EvS c U P P' ρ e (.lst ys)) (hstar : notStar e = true) (l1 : xs.length ≤ 1000) (l2 : ys.length ≤ 1000)
    (hbase : attributeBase (.Name x px) "extend" c.env (eval (.Name x px) c.env) = eval (.Name x px) c.env)
    (hfew : ((backTo cp (starEach [e] c.env)).all (fun x => !x.1) && (backToKw cp (keywordEach [] c.env)).all (fun x => x.1.isSome)
      && decide ([e].length + ([] : List Keyword).length + (if ([] : List Keyword).isEmpty then 0 else 1) < 30)) = true)
    (hline : (ap.endLine == cp.line) = true) (hst : ∀ env : Env, (backTo cp (starEach [e] env)).any (·.1) = false) :
    EvS c (UO U D) (PO U P D xs) (PO U P' D (xs ++ ys)) ρ (.Call (.Attribute (.Name x px) "extend" ap) [e] [] cp) .none := .mk fun F s Q E hfm hp hU hQ => by
  refine wpAny_Call_method_lateS hbase hfew hline ((Ev.name hk hx hd).run F s _ E hfm.st fun v F₁ s₁ x₁ hv₁ => ?_)
  unfold VR at hv₁; subst hv₁
  have hp₁ := (heldO hP).ext hp x₁
  obtain ⟨hpp, fD, nU, vs, ⟨n, hl⟩, hv⟩ := hp₁
  refine ⟨"list", "list.extend", PySem.F.plainAttrs_list, PySem.F.slot_list_extend, PySem.F.type_list_extend, ⟨_, hl, rfl⟩, fun a e => by cases e; exact ⟨_, hl, rfl⟩, ?_⟩
  have hf₁ := hfm.ext x₁
  refine callWith_machine (first := [.ref D]) rfl (hst _) (evalArgs_of hst ((EvsS.cons hstar he (EvsS.pure hP' Evs.nil)).run F₁ s₁ _ E cp hf₁ hpp (fun a ha => hU a (.inl ha)) fun us F₂ s₂ x₂ hp₂ hus => ?_))
  unfold VRs VRs at hus
  obtain ⟨u, r, rfl, hu, rfl⟩ := hus
  unfold VR at hu
  obtain ⟨B, us', m, rfl, hB, hus'⟩ := hu
  have hl₂ := x₂.keep _ _ nU hl
  have fD₂ := x₂.dry fD hl nU
  have lv := hv.length
  have lu := hus'.length
  refine call_extend (vs := vs) (us := us') ⟨n, hl₂⟩ ⟨m, x₂.inn _ _ hB⟩ (by lia) (by lia) fun h' hl' hs' => ?_
  have x₃ : ExtV (fun a => a = D) F₂ s₂ F₂ { s₂ with heap := h' } := ⟨Sub.refl _, fun a o q => (hs'.2 a (by rintro rfl; rw [fD₂] at q; cases q)).trans (x₂.inn a o q), fun a o n q => (hs'.2 a n).trans q, fun a o q => .inl q, ⟨_, _, rfl⟩⟩
  have hp₃ : P' F₂ { s₂ with heap := h' } := hP'.keep (fun a => a = D) F₂ s₂ F₂ _ (fun a q _ hu => nU (by rw [← show a = D from q]; exact hu)) (fun a q => by rw [show a = D from q]; exact fD₂) hp₂ x₃
  exact hQ .none F₂ _ ((x₁.v.trans (x₂.mono fun a q => .inl q)).trans (x₃.mono fun a q => .inr q)) ⟨hp₃, fD₂, nU, vs ++ us', hl', VRs.app (hv.mono x₂.sub) hus'⟩ (by unfold VR; rfl)
theorem Runs.freezeO {x : Str} {b : List Stmt} {Φ : Flow → PM → Shared → Prop} (hP : Held U P) (hx : ρ.lookup x = some (.ref D)) (hr : Runs c ⟨U, P, hP⟩ ((x, .lst xs) :: ρ) b Φ) : Runs c ⟨UO U D, PO U P D xs, heldO hP⟩ ρ b Φ := .mk fun F s Q E h hS hU hQ => by
  obtain ⟨hp, hF, nU, vs, ⟨n, hl⟩, hv⟩ := hS
  obtain ⟨hf₂, e₁⟩ := h.frozen hF hl hv (hU D (.inr rfl)) hx
  have hp₁ := hP.keep _ F s _ s (fun a q _ hu => nU (by rw [← show a = D from q]; exact hu)) (fun a q => by rw [show a = D from q]; exact hF) hp e₁
  exact hr.run _ s Q E hf₂ hp₁ (fun a ha => hU a (.inl ha)) fun fl F₃ s₃ e₃ hfl => hQ fl F₃ s₃ ((e₁.mono (W := fun a => Vol c a ∨ UO U D a) fun a q => .inr (.inr q)).trans (e₃.mono fun a q => q.elim .inl fun q => .inr (.inl q))) hfl
end
end Mine
end
section
open PySem PySem.W PyProof.Rows
namespace Mine
theorem extend_ok {w : World} {A : Around} {Lc : Addr} {d : Nat} (hr : Room (cW w A Lc).A (d + 4)) {L : LexA} {g : List Nat} {n : Nat} {toks : List SV} {D : Addr} {ρ : List (Str × SV)} {Φ : Flow → PM → Shared → Prop} (hg : g.length ≤ 1000) (k1 : ρ.lookup (Str.ofString "lexer") = some (.ref L.X)) (k2 : ρ.lookup (Str.ofString "read") = some (.ref D)) (hlen : toks.length ≤ 900)
    (hrest : Runs (cW w A Lc) ⟨LexU L, LS1 L g [] (n + 2), LexP.held⟩ ((Str.ofString "read", .lst (toks ++ [.str (tokV g n), .str (tokV g (n + 1))])) :: ρ) (lawB.drop 13) Φ) :
    Runs (cW w A Lc) ⟨UO (LexU L) D, PO (LexU L) (LS1 L g [] n) D toks, heldO LexP.held⟩ ρ (lawB.drop 12) Φ := by
  have b0 := lexSt_len n g 1
  have b1 := lexSt_len (n + 1) g 1
  have e1 := lexSt_succ n g 1
  have e2 := lexSt_succ (n + 1) g 1
  have t1 : tokV g n = mkS (lexOut (lexSt g 1 n).1 (lexSt g 1 n).2).1 := by unfold tokV; rw [lexTok_st]
  have t2 : tokV g (n + 1) = mkS (lexOut (lexSt g 1 (n + 1)).1 (lexSt g 1 (n + 1)).2).1 := by unfold tokV; rw [lexTok_st]
  have g1 : ∀ {c : Cx} {ρ : List (Str × SV)} {px ap cp : Pos} (hK : c.K = KF c.w.params) (hPG : c.prog = PG) (hr : Room c.A (d + 4)) (hx : Ev c ρ (.Name (Str.ofString "lexer") px) (.ref L.X)) (hbase : attributeBase (.Name (Str.ofString "lexer") px) "get_token" c.env (eval (.Name (Str.ofString "lexer") px) c.env) = eval (.Name (Str.ofString "lexer") px) c.env) (hline : (ap.endLine == cp.line) = true) (k : Nat),
      EvS c (LexU L) (LS1 L g [] k) (LS1 L g [] (k + 1)) ρ (.Call (.Attribute (.Name (Str.ofString "lexer") px) "get_token" ap) [] [] cp) (.str (tokV g k)) := fun hK hPG hr hx hb hl k => .mk fun F s Q E hf hp hU hQ =>
    (get_ev (d := d) hK hPG hr (Nat.le_trans (lexSt_len k g 1) hg) hx hb hl).run F s Q E hf hp hU fun v F' s' x hp' hv => hQ v F' s' x (by show LexP L (lexSt g 1 (k + 1)).1 (lexSt g 1 (k + 1)).2 [] F' s'; rw [lexSt_succ]; exact hp') (by unfold tokV; rw [lexTok_st]; exact hv)
  refine Runs.exprS (sv := .none) (heldO (P := LS1 L g [] (n + 2)) LexP.held) (EvS.extend (ys := [.str (tokV g n), .str (tokV g (n + 1))]) LexP.held LexP.held rfl k2 rfl (EvS.list LexP.held (EvsS.cons rfl (g1 rfl rfl hr (Ev.name rfl k1 rfl) rfl rfl n) (EvsS.cons rfl (g1 rfl rfl hr (Ev.name rfl k1 rfl) rfl rfl (n + 1)) (EvsS.pure LexP.held Evs.nil))) rfl) rfl (by lia) (le1 rfl) rfl (plain_few rfl rfl) rfl (fun _ => plain_any rfl)) ?_ rfl rfl
  exact Runs.freezeO LexP.held k2 hrest
section
variable {c : Cx} {ρ : List (Str × SV)} {U : Addr → Prop} {P P' : PM → Shared → Prop}
theorem EvTS.or2 {a b : Expr} {p : Pos} (ha : EvTS c U P P' ρ a false) (hb : EvTS c U P' P' ρ b false) :
    EvTS c U P P' ρ (.BoolOp .Or [a, b] p) false := .mk fun F s Q E hf hp hU hQ => by
  refine wpAny_isTrue_BoolOp (wpAny_allTrue_Or_cons (ha.run F s _ E hf hp hU fun F₁ s₁ x₁ hp₁ => ?_))
  rw [if_neg (by decide)]
  refine wpAny_allTrue_Or_cons (hb.run F₁ s₁ _ E (hf.extV x₁ hU) hp₁ hU fun F₂ s₂ x₂ hp₂ => ?_)
  rw [if_neg (by decide)]
  exact wpAny_allTrue_Or_nil (hQ F₂ s₂ (x₁.trans x₂) hp₂)
theorem Op.ne {a b : Int} : Op c (fun vs => compareOp .NotEq (vs.getD 0 .none) (vs.getD 1 .none)) [.int a, .int b] (.bool (a != b)) := Op.ints fun s x y Q E h => ne_int (h _ s.toks fun _ => VR.bool)
end
end Mine
end
section
open PySem PySem.W PyProof.Rows
namespace Mine
noncomputable def rdS' (h0 h2 : Int) : List Str := (wordsP h0 h2).map (fun p => wordS p.1 p.2) ++ [Str.empty]
noncomputable def gOf (h0 h1 h2 : Int) : List Nat := (textS h0 h1 h2).cps.toList
theorem gOf_eq (h0 h1 h2 : Int) : gOf h0 h1 h2 = textL (tsP h0 h1 h2) := by
  unfold gOf textS textL
  rw [join_list, List.flatMap_map]
theorem tsP_len (h0 h1 h2 : Int) : (tsP h0 h1 h2).length = siz h0 + 1 := by unfold tsP; simp [wordsP_len]
theorem word_ne (P : Params) {l : Nat} (hl : l = 104 ∨ l = 112) (form : Int) : (wordS l form).cps.toList ≠ [] := fun h => by
  have := word_len P hl form
  have e : (wordS l form).cps.toList.length = 3 := by rw [Array.length_toList]; exact this
  rw [h] at e; cases e
theorem tsP_at (h0 h1 h2 : Int) (i : Nat) (p : Nat × Int) (h : (wordsP h0 h2)[i]? = some p) : (tsP h0 h1 h2)[i]? = some (wordS p.1 p.2, h1 + h2 + 5 * (i : Int)) := by
  unfold tsP
  rw [List.getElem?_map, List.getElem?_zipIdx, h]
  simp
theorem lex_law (P : Params) (h0 h1 h2 : Int) : (∀ i p, (wordsP h0 h2)[i]? = some p → tokV (gOf h0 h1 h2) i = wordS p.1 p.2) ∧ tokV (gOf h0 h1 h2) (siz h0 + 1) = Str.empty ∧ lexSt (gOf h0 h1 h2) 1 (siz h0 + 2) = ([], 1 + nlL (gOf h0 h1 h2)) := by
  have hne : ∀ p ∈ tsP h0 h1 h2, p.1.cps.toList ≠ [] := fun p hp => by
    unfold tsP at hp
    obtain ⟨u, hu, rfl⟩ := List.mem_map.mp hp
    exact word_ne P (wordsP_is h0 h2 _ (List.fst_mem_of_mem_zipIdx hu)) _
  obtain ⟨a, b, c⟩ := lex_all (tsP h0 h1 h2) (gOf h0 h1 h2) 1 1 hne (by rw [gOf_eq])
  rw [tsP_len] at b c
  refine ⟨fun i p hp => ?_, ?_, ?_⟩
  · unfold tokV
    rw [a i _ (tsP_at h0 h1 h2 i p hp)]
    exact mkS_self _
  · unfold tokV; rw [b]; rfl
  · rw [c, gOf_eq]
theorem toks_words (P : Params) (h0 h1 h2 : Int) : (List.range (siz h0 + 1)).map (tokV (gOf h0 h1 h2)) = (wordsP h0 h2).map fun p => wordS p.1 p.2 := by
  refine List.ext_getElem? fun i => ?_
  rw [List.getElem?_map, List.getElem?_map]
  by_cases hi : i < siz h0 + 1
  · rw [List.getElem?_range hi]
    have hw : i < (wordsP h0 h2).length := by rw [wordsP_len]; exact hi
    rw [List.getElem?_eq_getElem hw]
    exact congrArg some ((lex_law P h0 h1 h2).1 i _ (List.getElem?_eq_getElem hw))
  · have h1' : (List.range (siz h0 + 1))[i]? = none := List.getElem?_eq_none (by rw [List.length_range]; lia)
    have h2' : (wordsP h0 h2)[i]? = none := List.getElem?_eq_none (by rw [wordsP_len]; lia)
    rw [h1', h2']; rfl
theorem zipIdx_range {β : Type} (l : List Nat) (f : Nat → β) : (l.zipIdx.map fun u => f u.2) = (List.range l.length).map f := by
  refine List.ext_getElem? fun i => ?_
  rw [List.getElem?_map, List.getElem?_map, List.getElem?_zipIdx]
  by_cases hi : i < l.length
  · rw [List.getElem?_range hi, List.getElem?_eq_getElem hi]; simp
  · rw [List.getElem?_eq_none (by lia), List.getElem?_eq_none (by rw [List.length_range]; lia)]; rfl
theorem read_eq (P : Params) (h0 h1 h2 : Int) : ((letL h0).zipIdx.map fun u => SV.str (tokV (gOf h0 h1 h2) u.2)) ++ [.str (tokV (gOf h0 h1 h2) (letL h0).length), .str (tokV (gOf h0 h1 h2) ((letL h0).length + 1))] = (rdS' h0 h2).map SV.str := by
  rw [zipIdx_range (letL h0) fun i => SV.str (tokV (gOf h0 h1 h2) i), letL_len, (lex_law P h0 h1 h2).2.1]
  unfold rdS'
  rw [← toks_words P h0 h1 h2, List.range_succ, List.map_append, List.map_append, List.map_append, List.map_map]
  simp
end Mine
end
section
open PySem PySem.W PyProof.Rows
namespace Mine
open Builtin Builtin.Str StrLaws in
theorem occ_count (x : Str) (c limit : Nat) : ∀ (k a : Nat) (st : Array Nat × Nat), st.2 ≤ a → st.1.size + k ≤ limit →
    (forIn (List.range' a k) st (occBody x ⟨#[c]⟩ x.length limit)).run.fst.size = st.1.size + ((List.range' a k).filter fun i => x.cps.toList[i]? == some c).length
  | 0, a, st, _, _ => rfl
  | k + 1, a, st, h1, h2 => by
    rw [List.range'_succ, List.forIn_cons, List.filter_cons]
    unfold occBody
    by_cases hc : x.cps.toList[a]? = some c
    · have hh := (subAt_one x c a).mpr hc
      rw [if_pos ⟨⟨⟨by lia, h1⟩, hh.1⟩, hh.2⟩, if_pos (beq_iff_eq.mpr hc)]
      have ih := occ_count x c limit k (a + 1) (st.1.push a, a + (⟨#[c]⟩ : Str).length) (Nat.le_refl _) (by simp; lia)
      refine Eq.trans ih ?_
      rw [Array.size_push, List.length_cons]
      lia
    · rw [if_neg fun q => hc ((subAt_one x c a).mp ⟨q.1.2, q.2⟩), if_neg (by simpa using hc)]
      exact occ_count x c limit k (a + 1) st (by lia) (by lia)
theorem filter_at (l : List Nat) (c : Nat) : ((List.range' 0 (l.length + 1)).filter fun i => l[i]? == some c).length = l.count c := by
  have gen : ∀ (l : List Nat) (p : List Nat), ((List.range' p.length (l.length + 1)).filter fun i => (p ++ l)[i]? == some c).length = l.count c := by
    intro l
    induction l with
    | nil => intro p; simp [List.range'_succ]
    | cons y l ih =>
      intro p
      rw [List.length_cons, List.range'_succ, List.filter_cons]
      have e : (p ++ y :: l)[p.length]? = some y := by simp
      have ih' := ih (p ++ [y])
      rw [List.length_append, List.length_singleton, List.append_assoc] at ih'
      rw [e, List.count_cons]
      by_cases hy : y = c
      · subst hy
        rw [if_pos (by simp), List.length_cons, ← ih']
        simp
      · rw [if_neg (by simpa using hy), ← ih']
        simp [hy]
  exact gen l []
theorem count_nl (x : Str) : Txt.count x (Str.ofString "\n") = nlL x.cps.toList := by
  have e : (Str.ofString "\n") = (⟨#[10]⟩ : Str) := by decide
  rw [e]
  unfold Txt.count
  rw [StrLaws.occ_eq, Array.length_toList]
  have hl : x.length = x.cps.toList.length := (Array.length_toList).symm
  rw [occ_count x 10 (x.length + 1) _ 0 (#[], 0) (Nat.le_refl _) (by simp)]
  have f := filter_at x.cps.toList 10
  rw [← hl] at f
  show (((#[] : Array Nat).size + _ : Nat) : Int) = _
  rw [show x.length + 1 - 0 = x.length + 1 from rfl, f]
  have : ∀ l : List Nat, ((l.count 10 : Nat) : Int) = nlL l := by
    intro l
    induction l with
    | nil => rfl
    | cons y l ih =>
      rw [List.count_cons, nlL_cons, ← ih]
      unfold nlc
      by_cases h : y = 10
      · subst h; simp; lia
      · rw [if_neg (by simpa using h), if_neg h]; simp
  rw [← this]
  simp
end Mine
end
section
open PySem PySem.W PyProof.Rows
namespace Mine
theorem rd_ok (h0 h2 : Int) : (rdS' h0 h2).all PyData.strOk = true := by
  rw [List.all_eq_true]
  intro t ht
  rcases List.mem_append.mp ht with h | h
  · obtain ⟨p, hp, rfl⟩ := List.mem_map.mp h
    exact word_strok (wordsP_is h0 h2 p hp) _
  · rw [List.mem_singleton.mp h]; exact strok_is fun c hc => by cases hc
theorem wordM_strok {l : Nat} (hl : l = 104 ∨ l = 112) (form : Int) : PyData.strOk (wordM l form) = true := by
  refine strok_is fun c hc => ?_
  rw [wordM_list] at hc
  obtain ⟨p, hp, hc⟩ := List.mem_flatMap.mp hc
  have one : ∀ n : Int, c ∈ (ch n).cps.toList → c = n.toNat := fun n h => by simpa [ch] using h
  unfold wordL at hp
  rcases mem_ins hp with rfl | hp
  · rw [one _ hc]; exact strayC_lt _
  · rcases mem_ins hp with rfl | hp
    · cases hc
    · rw [List.mem_singleton.mp hp] at hc
      have e : c = l := by simpa using hc
      rw [e]; rcases hl with rfl | rfl <;> decide
theorem words_le (h0 h2 : Int) : (wordsP h0 h2).length ≤ 7 := by rw [wordsP_len]; have := siz_le h0; lia
theorem told_ok {w : World} {A : Around} {Lc : Addr} {d : Nat} (hr : Room (cW w A Lc).A (d + 4)) {L : LexA} {h0 h1 h2 : Int} {ρ : List (Str × SV)} {Φ : Flow → PM → Shared → Prop} (k1 : ρ.lookup (Str.ofString "lexer") = some (.ref L.X)) (k2 : ρ.lookup (Str.ofString "read") = some (.lst ((rdS' h0 h2).map SV.str)))
    (k3 : ρ.lookup (Str.ofString "words") = some (.lst ((wordsP h0 h2).map wordV))) (k4 : ρ.lookup (Str.ofString "text") = some (.str (textS h0 h1 h2)))
    (hrest : Runs (cW w A Lc) ⟨LexU L, LS1 L (gOf h0 h1 h2) [] (siz h0 + 2), LexP.held⟩ ρ (lawB.drop 15) Φ) :
    Runs (cW w A Lc) ⟨LexU L, LS1 L (gOf h0 h1 h2) [] (siz h0 + 2), LexP.held⟩ ρ (lawB.drop 13) Φ := by
  have hw := words_le h0 h2
  have hln : ((lexSt (gOf h0 h1 h2) 1 (siz h0 + 2)).2 != (1 + Txt.count (textS h0 h1 h2) (Str.ofString "\n"))) = false := by
    rw [(lex_law w.params h0 h1 h2).2.2, count_nl]
    show ((1 + nlL (gOf h0 h1 h2)) != (1 + nlL (gOf h0 h1 h2))) = false
    simp
  have right : ∀ {e₁ : Expr} {pl pb p : Pos} {kk : Nat}, Ev (cW w A Lc) ρ e₁ (.lst (((wordsP h0 h2).map fun p => wordS p.1 p.2).map SV.str)) → Ev (cW w A Lc) ρ (.BinOp e₁ .Add (.List [.Constant (.str Str.empty) kk pl] pb) p) (.lst ((rdS' h0 h2).map SV.str)) := fun he => by
    unfold rdS'
    rw [List.map_append]
    exact Ev.binop he (Ev.list (svs := [.str Str.empty]) (Evs.co rfl Ev.str Evs.nil) rfl) (Op.addLst (by rw [List.length_map, List.length_map]; exact Nat.ble_eq_true_of_le (by simp; lia)))
  refine Runs.iteS (d := false) LexP.held (EvTS.or2 (EvTS.pure LexP.held (EvT.compare (Ev.name rfl k2 rfl) (right (Ev.compS (ρ' := []) ⟨Source.map (g := wordV) (b := fun v => [(Str.ofString "word", v)]) (Source.list (Ev.name rfl k3 rfl) hr.handled), by lia, by decide, rfl, by decide, by decide, trivial, rfl, fun _ _ => rfl, fold_plain rfl⟩ (fun cl C p hp => Ev.subTup (xs := [.str (wordS p.1 p.2), .str (wordM p.1 p.2)]) (Ev.name rfl rfl rfl) Ev.int (by decide) (by decide) rfl (sub_plain rfl)))) ?_ rfl))
    (EvTS.compare LexP.held (EvS.lineno rfl (Ev.name rfl k1 rfl)) (Ev.binop Ev.int (Ev.meth (Ev.name rfl k4 rfl) (Evs.co rfl (Ev.str (x := Str.ofString "\n")) Evs.nil) PySem.F.plainAttrs_str PySem.F.slot_str_count PySem.F.type_str_count strT Op.count (attr_plain rfl) (plain_few rfl rfl) rfl (fun _ => plain_any rfl)) Op.add) ?_ rfl)) (fun q => by cases q) (fun _ => ?_)
  · have z := Op.neStrs (c := cW w A Lc) (ns := rdS' h0 h2) (ms := rdS' h0 h2) hr (rd_ok h0 h2) (rd_ok h0 h2)
    rw [show decide (rdS' h0 h2 = rdS' h0 h2) = true from decide_eq_true rfl] at z
    exact z
  · rw [← hln]; exact Op.ne
  let os : List (Option (Nat × Int)) := (wordsP h0 h2).map some ++ [none]
  let so : Option (Nat × Int) → Str := fun o => match o with | some p => wordS p.1 p.2 | none => Str.empty
  let mo : Option (Nat × Int) → Str := fun o => match o with | some p => wordM p.1 p.2 | none => Str.empty
  have eS : (rdS' h0 h2).map SV.str = os.map fun o => SV.str (so o) := by show _ = List.map _ ((wordsP h0 h2).map some ++ [none]); unfold rdS'; rw [List.map_append, List.map_append, List.map_map, List.map_map]; rfl
  have eM : (os.map mo) = (wordsP h0 h2).map (fun p => wordM p.1 p.2) ++ [Str.empty] := by show List.map _ ((wordsP h0 h2).map some ++ [none]) = _; rw [List.map_append, List.map_map]; rfl
  have lo : os.length ≤ 1000 := by show ((wordsP h0 h2).map some ++ [none]).length ≤ 1000; simp; lia
  have okM : (os.map mo).all PyData.strOk = true := by
    rw [eM, List.all_eq_true]
    intro t ht
    rcases List.mem_append.mp ht with h | h
    · obtain ⟨p, hp, rfl⟩ := List.mem_map.mp h
      exact wordM_strok (wordsP_is h0 h2 p hp) _
    · rw [List.mem_singleton.mp h]; exact strok_is fun c hc => by cases hc
  have right2 : ∀ {e₁ : Expr} {pl pb p : Pos} {kk : Nat}, Ev (cW w A Lc) ρ e₁ (.lst (((wordsP h0 h2).map fun p => wordM p.1 p.2).map SV.str)) → Ev (cW w A Lc) ρ (.BinOp e₁ .Add (.List [.Constant (.str Str.empty) kk pl] pb) p) (.lst ((os.map mo).map SV.str)) := fun he => by
    rw [eM, List.map_append]
    exact Ev.binop he (Ev.list (svs := [.str Str.empty]) (Evs.co rfl Ev.str Evs.nil) rfl) (Op.addLst (by rw [List.length_map, List.length_map]; exact Nat.ble_eq_true_of_le (by simp; lia)))
  refine Runs.iteS (d := false) LexP.held (EvTS.pure LexP.held (EvT.compare (Ev.compS (xs := os) (g := mo) (ρ' := []) ⟨Source.map (g := fun o => SV.str (so o)) (b := fun v => [(Str.ofString "token", v)]) (Source.list (Ev.name rfl (by rw [← eS]; exact k2) rfl) hr.handled), lo, by decide, rfl, by decide, by decide, trivial, rfl, fun _ _ => rfl, fold_plain rfl⟩ (fun cl C o ho => ?_)) (right2 (Ev.compS (ρ' := []) ⟨Source.map (g := wordV) (b := fun v => [(Str.ofString "word", v)]) (Source.list (Ev.name rfl k3 rfl) hr.handled), by lia, by decide, rfl, by decide, by decide, trivial, rfl, fun _ _ => rfl, fold_plain rfl⟩ (fun cl C p hp => Ev.subTup (xs := [.str (wordS p.1 p.2), .str (wordM p.1 p.2)]) (Ev.name rfl rfl rfl) Ev.int (by decide) (by decide) rfl (sub_plain rfl)))) ?_ rfl)) (fun q => by cases q) (fun _ => hrest)
  · refine Ev.callF (a := 151) (o := ob151 w.params) (Ev.glob rfl rfl rfl (by kernel_rfl) rfl) (Evs.co rfl (Ev.name (sv := .str (so o)) rfl rfl rfl) Evs.nil) (hr.le (d' := d + 2) (by lia)) (by kernel_rfl) rfl ?_ (fun _ => plain_any rfl)
    cases o with
    | none => exact prep_none w d
    | some p =>
      have hp : p ∈ wordsP h0 h2 := by
        rcases List.mem_append.mp ho with h | h
        · obtain ⟨q, hq, e⟩ := List.mem_map.mp h; cases e; exact hq
        · cases List.mem_singleton.mp h
      exact prep_word w d (wordsP_is h0 h2 p hp) _
  · have z := Op.neStrs (c := cW w A Lc) (ns := os.map mo) (ms := os.map mo) hr okM okM
    rw [show decide (os.map mo = os.map mo) = true from decide_eq_true rfl] at z
    exact z
end Mine
end
section
open PySem PySem.W PyProof.Rows
namespace Mine
theorem text_len (P : Params) (h0 h1 h2 : Int) : (gOf h0 h1 h2).length ≤ 1000 := by
  rw [gOf_eq]
  unfold textL
  have : ∀ ts : List (Str × Int), (∀ p ∈ ts, p.1.length ≤ 10) → (ts.flatMap fun p => (writtenS p.1 p.2).cps.toList).length ≤ ts.length * 23 := by
    intro ts
    induction ts with
    | nil => intro _; exact Nat.le_refl _
    | cons p ts ih =>
      intro h
      rw [List.flatMap_cons, List.length_append, List.length_cons]
      have a := written_len (h p List.mem_cons_self) p.2
      have b := ih fun q hq => h q (List.mem_cons_of_mem _ hq)
      have e : (writtenS p.1 p.2).cps.toList.length = (writtenS p.1 p.2).length := Array.length_toList
      lia
  have h := this (tsP h0 h1 h2) fun p hp => by
    unfold tsP at hp
    obtain ⟨u, hu, rfl⟩ := List.mem_map.mp hp
    rw [word_len P (wordsP_is h0 h2 _ (List.fst_mem_of_mem_zipIdx hu))]; decide
  rw [tsP_len] at h
  have := siz_le h0
  lia
end Mine
end
section
open PySem PySem.W PyProof.Rows
namespace Mine
theorem front_ok {w : World} {A : Around} {Lc : Addr} {d : Nat} (hr : Room (cW w A Lc).A (d + 4)) {h0 h1 h2 : Int} {Φ : Flow → PM → Shared → Prop}
    (hrest : ∀ L, Runs (cW w A Lc) ⟨LexU L, LS1 L (gOf h0 h1 h2) [] (siz h0 + 2), LexP.held⟩ [(Str.ofString "grown", .str (mkS (grownL (letL h0) (rnd h0)))), (Str.ofString "letters", .str (mkS (letL h0))), (Str.ofString "rounds", .int (rnd h0)), (Str.ofString "heaps", .lst [.int h0, .int h1, .int h2])] (lawB.drop 15) Φ) :
    Runs (cW w A Lc) S136 [(Str.ofString "heaps", .lst [.int h0, .int h1, .int h2])] (lawB.drop 1) (Tab136 Φ) := by
  have hg := text_len w.params h0 h1 h2
  have hl6 : (letL h0).length ≤ 6 := by rw [letL_len]; exact siz_le h0
  refine pre_ok (ρ := []) (d := d + 1) hr ?_
  refine Runs.mkLexer (g := gOf h0 h1 h2) (d := d + 1) rfl rfl rfl (.inr (show Str.ofString "lexer" ∈ ownL by decide)) hr hg (Ev.glob rfl rfl rfl (by kernel_rfl) rfl) (Ev.name rfl (by rw [show mkS (gOf h0 h1 h2) = textS h0 h1 h2 from mkS_self _]; rfl) rfl) (fun L => ?_) rfl
  refine read_ok (d := d) hr hg (l := letL h0) (by lia) rfl rfl (fun D => ?_)
  have ez : ((letL h0).zipIdx.map fun u => SV.str (tokV (gOf h0 h1 h2) u.2)) = ((List.range (letL h0).length).map (tokV (gOf h0 h1 h2))).map SV.str := by rw [List.map_map]; exact zipIdx_range (letL h0) fun i => SV.str (tokV (gOf h0 h1 h2) i)
  rw [ez]
  refine again_ok (d := d) hr rfl rfl rfl (by simp; lia) (by
    rw [letL_len]
    rw [List.all_eq_true]
    intro t ht
    obtain ⟨i, hi, rfl⟩ := List.mem_map.mp ht
    have hi' : i < (wordsP h0 h2).length := by rw [wordsP_len]; have := List.mem_range.mp hi; lia
    rw [(lex_law w.params h0 h1 h2).1 i _ (List.getElem?_eq_getElem hi')]
    exact word_strok (wordsP_is h0 h2 _ (List.getElem_mem hi')) _) ?_
  refine rounds_ok (d := d) hr (l := letL h0) (r := rnd h0) rfl rfl rfl rfl rfl rfl rfl (letL_is h0) hl6 (by have := rnd_lt h0; lia) ?_
  refine extend_ok (d := d) hr hg rfl rfl (by simp; lia) ?_
  rw [← ez, read_eq w.params, letL_len]
  refine told_ok (d := d) (h0 := h0) (h1 := h1) (h2 := h2) hr rfl rfl rfl rfl ?_
  refine Runs.weak (hrest L) fun x sv h => ?_
  have hm := mem_of_lookup h
  simp only [List.mem_cons, List.not_mem_nil, or_false, Prod.mk.injEq] at hm
  rcases hm with ⟨rfl, rfl⟩ | ⟨rfl, rfl⟩ | ⟨rfl, rfl⟩ | ⟨rfl, rfl⟩ <;> rfl
end Mine
end
section
open PySem PySem.W PyProof.Rows
namespace Mine
open Float64
theorem V_any : ∀ (k q : Nat), q ≤ 2 ^ 53 → ∃ t, V t = q * 2 ^ k
  | 0, q, h => ⟨0 * 2 ^ 52 + q, V_at h (.inr rfl)⟩
  | k + 1, q, h => by
    by_cases h2 : 2 ^ 52 ≤ q
    · exact ⟨_, V_at h (.inl h2)⟩
    · obtain ⟨t, ht⟩ := V_any k (2 * q) (by lia)
      exact ⟨t, by rw [ht, Nat.pow_succ, Nat.mul_comm 2 q, Nat.mul_assoc, Nat.mul_comm 2]⟩
noncomputable def Fin64 (x : UInt64) : Prop := ∃ a m e, decode x = .fin a m e
theorem dist_of {a b : Nat} : dist a b = (a - b) + (b - a) := rfl
theorem sgn_dist (neg : Bool) (W Y : Nat) : (sgn neg Y - sgn neg W).natAbs = dist W Y := by
  unfold sgn dist; cases neg <;> simp <;> lia
theorem right_fin {r : UInt64} {neg : Bool} {W D : Nat} (h : Right r neg W D) (hD : 0 < D) (hW : W ≤ D * 2 ^ 2000) : ∃ t, r = pack neg t ∧ t < infMag ∧ Fin64 r ∧ val r = sgn neg (V t) ∧ ∀ t', dist W (D * V t) ≤ dist W (D * V t') := by
  obtain ⟨t, rfl, hle, hinf, hn⟩ := h
  have hlt : t < infMag := by
    rcases Nat.lt_or_ge t infMag with q | q
    · exact q
    · exfalso
      have := hinf.mp (Nat.le_antisymm hle q)
      have e : (2 : Nat) ^ 2000 * 2 < (2 ^ 54 - 1) * 2 ^ 2045 := by decide +kernel
      generalize (2 : Nat) ^ 2000 = K at *
      generalize (2 ^ 54 - 1) * 2 ^ 2045 = J at *
      have h1 : D * (K * 2) < D * J := Nat.mul_lt_mul_of_pos_left e hD
      have h2 : D * (K * 2) = 2 * (D * K) := by rw [← Nat.mul_assoc, Nat.mul_comm]
      lia
  obtain ⟨m, e, hd, _⟩ := decode_pack neg hlt
  exact ⟨t, rfl, hlt, ⟨_, _, _, hd⟩, val_pack neg hlt, fun t' => (hn hlt t').1⟩
theorem natAbs_sgn (neg : Bool) (W : Nat) : (sgn neg W).natAbs = W := sgn_natAbs neg W
theorem right_abs {r : UInt64} {neg : Bool} {W D j : Nat} {T : Int} (h : Right r neg W D) (hT : T = sgn neg W) (hD : 0 < D) (hj : j ≤ 1900) (hW : T.natAbs ≤ D * 2 ^ (j + 52)) :
    Fin64 r ∧ -((D * 2 ^ j : Nat) : Int) ≤ 2 * ((D : Int) * val r - T) ∧ 2 * ((D : Int) * val r - T) ≤ ((D * 2 ^ j : Nat) : Int) := by
  have hW' : W ≤ D * 2 ^ (j + 52) := by rw [hT, sgn_natAbs] at hW; exact hW
  obtain ⟨t, rfl, hlt, hf, hv, hn⟩ := right_fin h hD (Nat.le_trans hW' (Nat.mul_le_mul_left _ (Nat.pow_le_pow_right (by decide) (by lia))))
  refine ⟨hf, ?_⟩
  have hg : 0 < D * 2 ^ j := Nat.mul_pos hD (Nat.two_pow_pos _)
  have hq : W / (D * 2 ^ j) ≤ 2 ^ 52 := by
    refine Nat.div_le_of_le_mul ?_
    rw [Nat.pow_add, ← Nat.mul_assoc] at hW'; exact hW'
  obtain ⟨t1, e1⟩ := V_any j (W / (D * 2 ^ j)) (by lia)
  obtain ⟨t2, e2⟩ := V_any j (W / (D * 2 ^ j) + 1) (by lia)
  have a1 := hn t1
  have a2 := hn t2
  rw [e1] at a1
  rw [e2] at a2
  have dm := Nat.div_add_mod W (D * 2 ^ j)
  have ml := Nat.mod_lt W hg
  have m1 : D * (W / (D * 2 ^ j) * 2 ^ j) = D * 2 ^ j * (W / (D * 2 ^ j)) := by ac_rfl
  have m2 : D * ((W / (D * 2 ^ j) + 1) * 2 ^ j) = D * 2 ^ j * (W / (D * 2 ^ j)) + D * 2 ^ j := by rw [Nat.add_mul, Nat.mul_add, Nat.one_mul, m1]
  rw [m1] at a1
  rw [m2] at a2
  have hd2 : 2 * dist W (D * V t) ≤ D * 2 ^ j := by
    rw [dist_of] at *
    rw [dist_of] at a1 a2
    lia
  have e3 : ((D : Int) * val (pack neg t) - T).natAbs = dist W (D * V t) := by
    rw [hv, hT, ← sgn_dist neg, Nat.mul_comm D, sgn_mul, Int.mul_comm]
  lia
theorem right_exact {r : UInt64} {neg : Bool} {W D k : Nat} {T n : Int} (h : Right r neg W D) (hT : T = sgn neg W) (hD : 0 < D) (hk : k ≤ 1900) (hn : n.natAbs ≤ 2 ^ 53) (he : T = (D : Int) * (n * ((2 ^ k : Nat) : Int))) :
    Fin64 r ∧ val r = n * ((2 ^ k : Nat) : Int) := by
  have hW : W = D * (n.natAbs * 2 ^ k) := by
    have := congrArg Int.natAbs (hT.symm.trans he)
    rw [sgn_natAbs, Int.natAbs_mul, Int.natAbs_mul, Int.natAbs_natCast, Int.natAbs_natCast] at this
    exact this
  have hb : W ≤ D * 2 ^ 2000 := by
    rw [hW]
    refine Nat.mul_le_mul_left _ (Nat.le_trans (Nat.mul_le_mul hn (Nat.pow_le_pow_right (n := 2) (by decide) hk)) ?_)
    rw [← Nat.pow_add]
    exact Nat.pow_le_pow_right (by decide) (by decide)
  obtain ⟨t, rfl, hlt, hf, hv, hnn⟩ := right_fin h hD hb
  refine ⟨hf, ?_⟩
  obtain ⟨t1, e1⟩ := V_any k n.natAbs hn
  have a1 := hnn t1
  rw [e1, ← hW] at a1
  have z : dist W W = 0 := by unfold dist; lia
  rw [z] at a1
  have : D * V t = W := by rw [dist_of] at a1; lia
  have vt : (D : Int) * val (pack neg t) = T := by rw [hv, hT, ← this, Nat.mul_comm D, sgn_mul, Int.mul_comm]
  rw [he] at vt
  exact Int.eq_of_mul_eq_mul_left (by lia) vt
theorem fin_sgn {x : UInt64} {a : Bool} {m : Nat} {e : Int} (h : decode x = .fin a m e) : val x = sgn a (val x).natAbs := by rw [val_natAbs h]; exact val_eq h
theorem sgn_xor (a b : Bool) (m k : Nat) : sgn (a != b) (m * k) = sgn a m * sgn b k := by
  unfold sgn; cases a <;> cases b <;> simp [Int.mul_neg, Int.neg_mul]
theorem sgn_self (i : Int) : i = sgn (decide (i < 0)) i.natAbs := by
  unfold sgn; by_cases h : i < 0 <;> simp [h] <;> lia
theorem val_zero (b : Bool) : Fin64 (zero b) ∧ val (zero b) = 0 := by
  obtain ⟨m, e, h1, h2⟩ := decode_pack b (t := 0) (by decide)
  refine ⟨⟨_, _, _, h1⟩, ?_⟩
  show val (pack b 0) = 0
  rw [val_pack b (by decide), V_zero]; unfold sgn; cases b <;> rfl
section
variable {x y : UInt64} {j : Nat}
theorem mul_abs (hx : Fin64 x) (hy : Fin64 y) (hj : j ≤ 1900) (h : (val x * val y).natAbs ≤ 2 ^ 1074 * 2 ^ (j + 52)) :
    Fin64 (mul x y) ∧ -((2 ^ 1074 * 2 ^ j : Nat) : Int) ≤ 2 * (((2 ^ 1074 : Nat) : Int) * val (mul x y) - val x * val y) ∧ 2 * (((2 ^ 1074 : Nat) : Int) * val (mul x y) - val x * val y) ≤ ((2 ^ 1074 * 2 ^ j : Nat) : Int) := by
  obtain ⟨a, m, e, hx⟩ := hx
  obtain ⟨b, k, f, hy⟩ := hy
  refine right_abs (mul_right hx hy) ?_ (Nat.two_pow_pos _) hj h
  rw [sgn_xor, ← fin_sgn hx, ← fin_sgn hy]
theorem mul_exact {k : Nat} {n : Int} (hx : Fin64 x) (hy : Fin64 y) (hk : k ≤ 1900) (hn : n.natAbs ≤ 2 ^ 53) (he : val x * val y = ((2 ^ 1074 : Nat) : Int) * (n * ((2 ^ k : Nat) : Int))) : Fin64 (mul x y) ∧ val (mul x y) = n * ((2 ^ k : Nat) : Int) := by
  obtain ⟨a, m, e, hx⟩ := hx
  obtain ⟨b, l, f, hy⟩ := hy
  refine right_exact (mul_right hx hy) ?_ (Nat.two_pow_pos _) hk hn he
  rw [sgn_xor, ← fin_sgn hx, ← fin_sgn hy]
theorem div_pre (hx : Fin64 x) (hy : Fin64 y) (h0 : 0 < val y) : ∃ a : Bool, Right (div x y) a ((val x).natAbs * 2 ^ 1074) (val y).toNat ∧ val x * ((2 ^ 1074 : Nat) : Int) = sgn a ((val x).natAbs * 2 ^ 1074) := by
  obtain ⟨a, m, e, hx⟩ := hx
  obtain ⟨b, l, f, hy⟩ := hy
  have hl : l ≠ 0 := by
    intro q
    rw [val_eq hy, q] at h0
    unfold sgn at h0; cases b <;> simp at h0
  have hb : b = false := by
    cases b
    · rfl
    · rw [val_eq hy] at h0; unfold sgn at h0; simp only [if_true] at h0; lia
  have h := div_right hx hy hl
  subst hb
  rw [show (val y).natAbs = (val y).toNat by lia] at h
  refine ⟨_, h, ?_⟩
  rw [sgn_mul, Bool.bne_false, ← fin_sgn hx]
theorem div_abs (hx : Fin64 x) (hy : Fin64 y) (h0 : 0 < val y) (hj : j ≤ 1900) (h : (val x).natAbs * 2 ^ 1074 ≤ (val y).toNat * 2 ^ (j + 52)) :
    Fin64 (div x y) ∧ -(val y * ((2 ^ j : Nat) : Int)) ≤ 2 * (val y * val (div x y) - val x * ((2 ^ 1074 : Nat) : Int)) ∧ 2 * (val y * val (div x y) - val x * ((2 ^ 1074 : Nat) : Int)) ≤ val y * ((2 ^ j : Nat) : Int) := by
  obtain ⟨a, hr, hs⟩ := div_pre hx hy h0
  have z := right_abs (j := j) hr hs (by lia) hj (by rw [Int.natAbs_mul, Int.natAbs_natCast]; exact h)
  rw [Int.natCast_mul, show (((val y).toNat : Nat) : Int) = val y by lia] at z
  exact z
theorem div_exact {k : Nat} {n : Int} (hx : Fin64 x) (hy : Fin64 y) (h0 : 0 < val y) (hk : k ≤ 1900) (hn : n.natAbs ≤ 2 ^ 53) (he : val x * ((2 ^ 1074 : Nat) : Int) = val y * (n * ((2 ^ k : Nat) : Int))) : Fin64 (div x y) ∧ val (div x y) = n * ((2 ^ k : Nat) : Int) := by
  obtain ⟨a, hr, hs⟩ := div_pre hx hy h0
  exact right_exact hr hs (by lia) hk hn (by rw [show (((val y).toNat : Nat) : Int) = val y by lia]; exact he)
theorem add_abs (hx : Fin64 x) (hy : Fin64 y) (hj : j ≤ 1900) (h : (val x + val y).natAbs ≤ 2 ^ (j + 52)) :
    Fin64 (add x y) ∧ -((2 ^ j : Nat) : Int) ≤ 2 * (val (add x y) - (val x + val y)) ∧ 2 * (val (add x y) - (val x + val y)) ≤ ((2 ^ j : Nat) : Int) := by
  obtain ⟨a, m, e, hx⟩ := hx
  obtain ⟨b, l, f, hy⟩ := hy
  have z := add_right hx hy
  by_cases h0 : val x + val y = 0
  · rw [z.1 h0, (val_zero _).2, h0]
    have := Nat.two_pow_pos j
    exact ⟨(val_zero _).1, by lia, by lia⟩
  · have z := right_abs (j := j) (z.2 h0) (sgn_self _) (by decide) hj (by rw [Nat.one_mul]; exact h)
    rw [Nat.one_mul, show ((1 : Nat) : Int) = 1 from rfl, Int.one_mul] at z
    exact z
theorem add_exact {k : Nat} {n : Int} (hx : Fin64 x) (hy : Fin64 y) (hk : k ≤ 1900) (hn : n.natAbs ≤ 2 ^ 53) (he : val x + val y = n * ((2 ^ k : Nat) : Int)) : Fin64 (add x y) ∧ val (add x y) = n * ((2 ^ k : Nat) : Int) := by
  obtain ⟨a, m, e, hx⟩ := hx
  obtain ⟨b, l, f, hy⟩ := hy
  have z := add_right hx hy
  by_cases h0 : val x + val y = 0
  · rw [z.1 h0, (val_zero _).2, ← he, h0]
    exact ⟨(val_zero _).1, rfl⟩
  · exact right_exact (z.2 h0) (sgn_self _) (by decide) hk hn (by rw [show ((1 : Nat) : Int) = 1 from rfl, Int.one_mul]; exact he)
theorem neg_fin (hy : Fin64 y) : Fin64 (neg y) ∧ val (neg y) = -val y := by
  obtain ⟨b, l, f, hy⟩ := hy
  exact ⟨⟨_, _, _, neg_decode hy⟩, neg_val hy⟩
theorem sub_abs (hx : Fin64 x) (hy : Fin64 y) (hj : j ≤ 1900) (h : (val x - val y).natAbs ≤ 2 ^ (j + 52)) :
    Fin64 (sub x y) ∧ -((2 ^ j : Nat) : Int) ≤ 2 * (val (sub x y) - (val x - val y)) ∧ 2 * (val (sub x y) - (val x - val y)) ≤ ((2 ^ j : Nat) : Int) := by
  have n := neg_fin hy
  have z := add_abs (j := j) hx n.1 hj (by rw [n.2, ← Int.sub_eq_add_neg]; exact h)
  rw [n.2, ← Int.sub_eq_add_neg] at z
  unfold Float64.sub
  exact z
theorem sub_exact {k : Nat} {n : Int} (hx : Fin64 x) (hy : Fin64 y) (hk : k ≤ 1900) (hn : n.natAbs ≤ 2 ^ 53) (he : val x - val y = n * ((2 ^ k : Nat) : Int)) : Fin64 (sub x y) ∧ val (sub x y) = n * ((2 ^ k : Nat) : Int) := by
  have m := neg_fin hy
  unfold Float64.sub
  exact add_exact hx m.1 hk hn (by rw [m.2, ← Int.sub_eq_add_neg]; exact he)
theorem cmp_fin (hx : Fin64 x) (hy : Fin64 y) : cmp x y = some (compare (val x) (val y)) := by
  obtain ⟨a, m, e, hx⟩ := hx
  obtain ⟨b, l, f, hy⟩ := hy
  exact cmp_right hx hy
end
noncomputable def Ex (x : UInt64) (n : Int) : Prop := Fin64 x ∧ val x = n * ((2 ^ 1054 : Nat) : Int)
noncomputable def exB (x : UInt64) (n : Int) : Bool := match decode x with
  | .fin a m e => sgn a (m * 2 ^ (e + 1074).toNat) == n * ((2 ^ 1054 : Nat) : Int)
  | _ => false
theorem Ex.chk {x : UInt64} {n : Int} (h : exB x n = true) : Ex x n := by
  unfold exB at h
  split at h
  · rename_i a m e hd
    exact ⟨⟨_, _, _, hd⟩, by rw [val_eq hd]; exact beq_iff_eq.mp h⟩
  · cases h
theorem k20 : ((2 ^ 1074 : Nat) : Int) = ((2 ^ 1054 : Nat) : Int) * 1048576 := by rw [show (1074 : Nat) = 1054 + 20 by rfl, Nat.pow_add, Int.natCast_mul]; rfl
theorem kpos : (0 : Int) < ((2 ^ 1054 : Nat) : Int) := Int.ofNat_lt.mpr (Nat.two_pow_pos _)
section
variable {x y : UInt64} {n m r : Int}
theorem Ex.add (hx : Ex x n) (hy : Ex y m) (h : (n + m).natAbs ≤ 2 ^ 53) : Ex (add x y) (n + m) :=
  add_exact hx.1 hy.1 (by decide) h (by rw [hx.2, hy.2, Int.add_mul])
theorem Ex.sub (hx : Ex x n) (hy : Ex y m) (h : (n - m).natAbs ≤ 2 ^ 53) : Ex (sub x y) (n - m) :=
  sub_exact hx.1 hy.1 (by decide) h (by rw [hx.2, hy.2, Int.sub_mul])
theorem Ex.mul (hx : Ex x n) (hy : Ex y m) (h : n * m = r * 1048576) (hr : r.natAbs ≤ 2 ^ 53) : Ex (mul x y) r :=
  mul_exact hx.1 hy.1 (by decide) hr (by
    rw [hx.2, hy.2, k20]
    generalize ((2 ^ 1054 : Nat) : Int) = K
    have e : n * K * (m * K) = (n * m) * (K * K) := by ac_rfl
    rw [e, h]; ac_rfl)
theorem Ex.div (hx : Ex x n) (hy : Ex y m) (hm : 0 < m) (h : n * 1048576 = m * r) (hr : r.natAbs ≤ 2 ^ 53) : Ex (div x y) r :=
  div_exact hx.1 hy.1 (by rw [hy.2]; exact Int.mul_pos hm kpos) (by decide) hr (by
    rw [hx.2, hy.2, k20]
    generalize ((2 ^ 1054 : Nat) : Int) = K
    have e : n * K * (K * 1048576) = (n * 1048576) * (K * K) := by ac_rfl
    rw [e, h]; ac_rfl)
theorem Ex.int {i : Int} (h : i.natAbs ≤ 2 ^ 53) : Ex (ofInt i) (i * 1048576) := by
  have z := right_exact (n := i) (k := 1074) (T := i * ((2 ^ 1074 : Nat) : Int)) (ofInt_right i) (by rw [sgn_mul, ← sgn_self]) (by decide) (by decide) h (by rw [show ((1 : Nat) : Int) = 1 from rfl, Int.one_mul])
  refine ⟨z.1, ?_⟩
  rw [z.2, k20, Int.mul_comm ((2 ^ 1054 : Nat) : Int), Int.mul_assoc]
theorem compare_scale {p q K : Int} (hK : 0 < K) : compare (p * K) (q * K) = compare p q := by
  rcases Int.lt_trichotomy p q with h | h | h
  · rw [Int.compare_eq_lt.mpr h, Int.compare_eq_lt.mpr (Int.mul_lt_mul_of_pos_right h hK)]
  · subst h; simp
  · rw [Int.compare_eq_gt.mpr h, Int.compare_eq_gt.mpr (Int.mul_lt_mul_of_pos_right h hK)]
theorem Ex.cmp (hx : Ex x n) (hy : Ex y m) : cmp x y = some (compare n m) := by
  rw [cmp_fin hx.1 hy.1, hx.2, hy.2, compare_scale kpos]
theorem Ex.cmpInt (hx : Ex x n) (i : Int) : cmpInt x i = some (compare n (i * 1048576)) := by
  obtain ⟨⟨a, m, e, hd⟩, hv⟩ := hx
  have z := cmpInt_right hd i
  have e2 : i * 2 ^ 1074 = (i * 1048576) * ((2 ^ 1054 : Nat) : Int) := by
    have : (2 : Int) ^ 1074 = ((2 ^ 1074 : Nat) : Int) := by simp
    rw [this, k20, Int.mul_comm ((2 ^ 1054 : Nat) : Int), Int.mul_assoc]
  rw [z, hv, e2, compare_scale kpos]
theorem Ex.isZero (hx : Ex x n) (h : n ≠ 0) : isZero x = false := by
  obtain ⟨⟨a, m, e, hd⟩, hv⟩ := hx
  unfold Float64.isZero
  rw [hd]
  cases m with
  | zero =>
    exfalso
    rw [val_eq hd] at hv
    have : (0 : Int) = n * ((2 ^ 1054 : Nat) : Int) := by rw [← hv]; unfold sgn; cases a <;> simp
    rcases Int.mul_eq_zero.mp this.symm with q | q
    · exact h q
    · have := kpos; lia
  | succ m => rfl
theorem Ex.eq (hx : Ex x n) (hy : Ex x m) : n = m := Int.eq_of_mul_eq_mul_right (by have := kpos; lia) (hx.2.symm.trans hy.2)
theorem noInf_fin (hx : Fin64 x) : isInf x = false := by obtain ⟨a, m, e, hd⟩ := hx; unfold isInf; rw [hd]
end
end Mine
end
section
open PySem PySem.W PyProof.Rows
namespace Mine
section
variable {c : Cx}
theorem Op.flts {t : List Value → Sem Value} {a b : UInt64} {r : SV}
    (h : ∀ s (x y : Tok) (Q : Value → Shared → Prop) E, (∀ v tk, (∀ F, VR F r v) → Q v { s with toks := tk }) → wpAny (model c.prog c.w) c.A (t [.float a x, .float b y]) Q E s) : Op c t [.flt a, .flt b] r :=
  Op.two fun F s v u Q E hs hb hv hu hQ => by
    unfold VR at hv hu
    obtain ⟨x, rfl⟩ := hv
    obtain ⟨y, rfl⟩ := hu
    exact h s x y Q E fun v tk hv => hQ v F _ (Ext.tok hs tk) (hv F)
theorem Op.fltInt {t : List Value → Sem Value} {a : UInt64} {b : Int} {r : SV}
    (h : ∀ s (x y : Tok) (Q : Value → Shared → Prop) E, (∀ v tk, (∀ F, VR F r v) → Q v { s with toks := tk }) → wpAny (model c.prog c.w) c.A (t [.float a x, .int b y]) Q E s) : Op c t [.flt a, .int b] r :=
  Op.two fun F s v u Q E hs hb hv hu hQ => by
    unfold VR at hv hu
    obtain ⟨x, rfl⟩ := hv
    obtain ⟨y, rfl⟩ := hu
    exact h s x y Q E fun v tk hv => hQ v F _ (Ext.tok hs tk) (hv F)
theorem Op.intFlt {t : List Value → Sem Value} {a : UInt64} {b : Int} {r : SV}
    (h : ∀ s (x y : Tok) (Q : Value → Shared → Prop) E, (∀ v tk, (∀ F, VR F r v) → Q v { s with toks := tk }) → wpAny (model c.prog c.w) c.A (t [.int b x, .float a y]) Q E s) : Op c t [.int b, .flt a] r :=
  Op.two fun F s v u Q E hs hb hv hu hQ => by
    unfold VR at hv hu
    obtain ⟨x, rfl⟩ := hv
    obtain ⟨y, rfl⟩ := hu
    exact h s x y Q E fun v tk hv => hQ v F _ (Ext.tok hs tk) (hv F)
theorem Op.addF {a b : UInt64} : Op c (fun vs => binaryOp .Add (vs.getD 0 .none) (vs.getD 1 .none)) [.flt a, .flt b] (.flt (Float64.add a b)) := Op.flts fun s x y Q E h => AutoFloatOps.add_0 (h _ _ fun _ => VR.flt)
theorem Op.subF {a b : UInt64} : Op c (fun vs => binaryOp .Sub (vs.getD 0 .none) (vs.getD 1 .none)) [.flt a, .flt b] (.flt (Float64.sub a b)) := Op.flts fun s x y Q E h => AutoFloatOps.sub_0 (h _ _ fun _ => VR.flt)
theorem Op.mulF {a b : UInt64} : Op c (fun vs => binaryOp .Mult (vs.getD 0 .none) (vs.getD 1 .none)) [.flt a, .flt b] (.flt (Float64.mul a b)) := Op.flts fun s x y Q E h => AutoFloatOps.mul_0 (h _ _ fun _ => VR.flt)
theorem Op.divF {a b : UInt64} (hb : Float64.isZero b = false) : Op c (fun vs => binaryOp .Div (vs.getD 0 .none) (vs.getD 1 .none)) [.flt a, .flt b] (.flt (Float64.div a b)) := Op.flts fun s x y Q E h => AutoFloatOps.truediv_1 (by rw [hb]; decide) (h _ _ fun _ => VR.flt)
theorem Op.modF {a b : UInt64} (hb : Float64.isZero b = false) : Op c (fun vs => binaryOp .Mod (vs.getD 0 .none) (vs.getD 1 .none)) [.flt a, .flt b] (.flt (Float64.divmod a b).snd) := Op.flts fun s x y Q E h => AutoFloatOps.mod_1 (by rw [hb]; decide) (h _ _ fun _ => VR.flt)
theorem Op.eqF {a b : UInt64} : Op c (fun vs => compareOp .Eq (vs.getD 0 .none) (vs.getD 1 .none)) [.flt a, .flt b] (.bool (Float64.cmp a b == some .eq)) := Op.flts fun s x y Q E h => AutoFloatOps.eq_0 (h _ s.toks fun _ => VR.bool)
theorem Op.subFI {a : UInt64} {b : Int} (hb : Float64.isInf (Float64.ofInt b) = false) : Op c (fun vs => binaryOp .Sub (vs.getD 0 .none) (vs.getD 1 .none)) [.flt a, .int b] (.flt (Float64.sub a (Float64.ofInt b))) := Op.fltInt fun s x y Q E h => PySem.AutoFloatOpsIf.sub_fi (by rw [if_neg (by rw [hb]; decide)]; exact h _ _ fun _ => VR.flt)
theorem Op.mulFI {a : UInt64} {b : Int} (hb : Float64.isInf (Float64.ofInt b) = false) : Op c (fun vs => binaryOp .Mult (vs.getD 0 .none) (vs.getD 1 .none)) [.flt a, .int b] (.flt (Float64.mul a (Float64.ofInt b))) := Op.fltInt fun s x y Q E h => PySem.AutoFloatOpsIf.mul_fi (by rw [if_neg (by rw [hb]; decide)]; exact h _ _ fun _ => VR.flt)
theorem Op.divIF {a : UInt64} {b : Int} (hb : Float64.isInf (Float64.ofInt b) = false) (ha : Float64.isZero a = false) : Op c (fun vs => binaryOp .Div (vs.getD 0 .none) (vs.getD 1 .none)) [.int b, .flt a] (.flt (Float64.div (Float64.ofInt b) a)) := Op.intFlt fun s x y Q E h => PySem.AutoFloatOpsIf.truediv_if (by rw [if_neg (by rw [hb]; decide), if_neg (by rw [ha]; decide)]; exact h _ _ fun _ => VR.flt)
theorem Op.neFI {a : UInt64} {b : Int} : Op c (fun vs => compareOp .NotEq (vs.getD 0 .none) (vs.getD 1 .none)) [.flt a, .int b] (.bool (Float64.cmpInt a b != some .eq)) := Op.fltInt fun s x y Q E h => ne_fi (h _ s.toks fun _ => VR.bool)
theorem Op.intF {x : UInt64} {sg : Bool} {m : Nat} {e : Int} (hd : Float64.decode x = .fin sg m e) : Op c (fun vs => PySem.call (.type "int") vs) [.flt x] (.int (Float64.truncOf sg m e)) :=
  Op.one fun F s v Q E hs hb hv hQ => by
    unfold VR at hv
    obtain ⟨t, rfl⟩ := hv
    exact call_int_float hd (hQ _ F _ (Ext.tok hs _) VR.int)
end
end Mine
end
section
open PySem PySem.W PyProof.Rows
namespace Mine
noncomputable def bestOf (r : UInt64 → UInt64 → Bool) (a b c : UInt64) : UInt64 := if r b a then (if r c b then c else b) else (if r c a then c else a)
noncomputable def gtF (x y : UInt64) : Bool := Float64.cmp x y == some .gt
noncomputable def ltF (x y : UInt64) : Bool := Float64.cmp x y == some .lt
noncomputable def nth3 (a b c : UInt64) (i : Nat) : UInt64 := if i = 0 then a else if i = 1 then b else c
theorem best_arg (r : UInt64 → UInt64 → Bool) (a b c : UInt64) : nth3 a b c (argBest (fun i j => r (nth3 a b c i) (nth3 a b c j)) 2) = bestOf r a b c := by
  unfold bestOf
  cases h1 : r b a
  · cases h2 : r c a
    · simp [argBest, nth3, h1, h2]
    · simp [argBest, nth3, h1, h2]
  · cases h2 : r c b
    · simp [argBest, nth3, h1, h2]
    · simp [argBest, nth3, h1, h2]
theorem arr3 {x y z v : Value} {a b c : UInt64} {i : Nat} (hx : ∃ t, x = .float a t) (hy : ∃ t, y = .float b t) (hz : ∃ t, z = .float c t) (h : (#[x, y, z] : Array Value)[i]? = some v) : ∃ t, v = .float (nth3 a b c i) t := by
  match i, h with
  | 0, h => simp at h; subst h; exact hx
  | 1, h => simp at h; subst h; exact hy
  | 2, h => simp at h; subst h; exact hz
  | i + 3, h => simp at h
section
variable {c : Cx}
theorem cmpGt {prog : Program} {w : World} {A : Around} {x y z : Value} {a b d : UInt64} (hx : ∃ t, x = .float a t) (hy : ∃ t, y = .float b t) (hz : ∃ t, z = .float d t) : CmpOf prog w A .Gt (fun i v => (#[x, y, z] : Array Value)[i]? = some v) (fun i j => gtF (nth3 a b d i) (nth3 a b d j)) := fun i j vi vj s Q E hi hj hQ => by
  obtain ⟨t, rfl⟩ := arr3 hx hy hz hi
  obtain ⟨u, rfl⟩ := arr3 hx hy hz hj
  exact AutoFloatOps.gt_0 hQ
theorem cmpLt {prog : Program} {w : World} {A : Around} {x y z : Value} {a b d : UInt64} (hx : ∃ t, x = .float a t) (hy : ∃ t, y = .float b t) (hz : ∃ t, z = .float d t) : CmpOf prog w A .Lt (fun i v => (#[x, y, z] : Array Value)[i]? = some v) (fun i j => ltF (nth3 a b d i) (nth3 a b d j)) := fun i j vi vj s Q E hi hj hQ => by
  obtain ⟨t, rfl⟩ := arr3 hx hy hz hi
  obtain ⟨u, rfl⟩ := arr3 hx hy hz hj
  exact AutoFloatOps.lt_0 hQ
theorem kept1 {s s' : Heap} {I : Addr} (hI : s.objs.size ≤ I) {h' : Heap} (hk : ∀ b o, b ∉ [I] → s'.get? b = some o → h'.get? b = some o) (h0 : ∀ b o, s.get? b = some o → s'.get? b = some o) : ∀ b o, s.get? b = some o → h'.get? b = some o := fun b o e => by
  refine hk b o (fun hm => ?_) (h0 b o e)
  rw [List.mem_singleton] at hm
  subst hm
  exact absurd (Heap.lt_size e) (Nat.not_lt.mpr hI)
theorem Op.max3F {a b d : UInt64} (hh : c.A.handled = none) : Op c (fun vs => PySem.call (.builtin "max") vs) [.flt a, .flt b, .flt d] (.flt (bestOf gtF a b d)) :=
  Op.three fun F s v u z Q E hs hb hv hu hz hQ => by
    unfold VR at hv hu hz
    have hT : (s.heap.push { cls := .type "tuple", data := .seq #[v, u, z] }).IsTuple s.heap.objs.size #[v, u, z] := ⟨_, Heap.get?_push_size _ rfl, rfl, 0, rfl⟩
    have hsz : (s.heap.push { cls := .type "tuple", data := .seq #[v, u, z] }).objs.size = s.heap.objs.size + 1 := Heap.size_push ..
    refine call_max_three (wpAny_pyIter_tuple hT ?_)
    refine ⟨_, [_, s.heap.objs.size], [_], _, _, _, _, rfl, Walks.tuple (A := c.A.in1) hh _ s.heap.objs.size (by rw [hsz]; exact Nat.ne_of_lt (Nat.lt_succ_self _)) #[v, u, z],
      ⟨⟨_, Heap.get?_push_size _ rfl, rfl, rfl⟩, hT.push _⟩, fun e he => ?_, by simp, cmpGt hv hu hz, fun x h' tk hP hk => ?_⟩
    · show e < ((s.heap.push _).push _).objs.size
      rw [Heap.size_push, hsz]
      simp at he
      rcases he with rfl | rfl
      · exact Nat.lt_succ_self _
      · exact Nat.lt_succ_of_lt (Nat.lt_succ_self _)
    · obtain ⟨t, rfl⟩ := arr3 hv hu hz hP
      refine hQ _ F _ (Ext.made hs (kept1 (by rw [hsz]; exact Nat.le_succ _) hk fun b o e => Heap.get?_push_of_some _ (Heap.get?_push_of_some _ e))) ?_
      unfold VR
      exact ⟨t, by rw [← best_arg]; rfl⟩
theorem Op.min3F {a b d : UInt64} (hh : c.A.handled = none) : Op c (fun vs => PySem.call (.builtin "min") vs) [.flt a, .flt b, .flt d] (.flt (bestOf ltF a b d)) :=
  Op.three fun F s v u z Q E hs hb hv hu hz hQ => by
    unfold VR at hv hu hz
    have hT : (s.heap.push { cls := .type "tuple", data := .seq #[v, u, z] }).IsTuple s.heap.objs.size #[v, u, z] := ⟨_, Heap.get?_push_size _ rfl, rfl, 0, rfl⟩
    have hsz : (s.heap.push { cls := .type "tuple", data := .seq #[v, u, z] }).objs.size = s.heap.objs.size + 1 := Heap.size_push ..
    refine call_min_three (wpAny_pyIter_tuple hT ?_)
    refine ⟨_, [_, s.heap.objs.size], [_], _, _, _, _, rfl, Walks.tuple (A := c.A.in1) hh _ s.heap.objs.size (by rw [hsz]; exact Nat.ne_of_lt (Nat.lt_succ_self _)) #[v, u, z],
      ⟨⟨_, Heap.get?_push_size _ rfl, rfl, rfl⟩, hT.push _⟩, fun e he => ?_, by simp, cmpLt hv hu hz, fun x h' tk hP hk => ?_⟩
    · show e < ((s.heap.push _).push _).objs.size
      rw [Heap.size_push, hsz]
      simp at he
      rcases he with rfl | rfl
      · exact Nat.lt_succ_self _
      · exact Nat.lt_succ_of_lt (Nat.lt_succ_self _)
    · obtain ⟨t, rfl⟩ := arr3 hv hu hz hP
      refine hQ _ F _ (Ext.made hs (kept1 (by rw [hsz]; exact Nat.le_succ _) hk fun b o e => Heap.get?_push_of_some _ (Heap.get?_push_of_some _ e))) ?_
      unfold VR
      exact ⟨t, by rw [← best_arg]; rfl⟩
theorem Op.maxTup {a b d : UInt64} (hh : c.A.handled = none) : Op c (fun vs => PySem.call (.builtin "max") vs) [.tup [.flt a, .flt b, .flt d]] (.flt (bestOf gtF a b d)) :=
  Op.one fun F s v Q E hs hb hv hQ => by
    unfold VR at hv
    obtain ⟨D, vs, n, rfl, hD, hvs⟩ := hv
    obtain ⟨v, u, z, rfl, hv, hu, hz⟩ := hvs.inv3
    unfold VR at hv hu hz
    have hDh := hs _ _ hD
    have hlt : D < s.heap.objs.size := Heap.lt_size hDh
    have hT : s.heap.IsTuple D #[v, u, z] := ⟨_, hDh, rfl, n, rfl⟩
    refine call_max_walk (wpAny_pyIter_tuple hT ?_)
    refine ⟨_, [_, D], [_], _, _, _, _, rfl, Walks.tuple (A := c.A.in1) hh _ D (Nat.ne_of_lt hlt) #[v, u, z],
      ⟨⟨_, Heap.get?_push_size _ rfl, rfl, rfl⟩, hT.push _⟩, fun e he => ?_, by simp, cmpGt hv hu hz, fun x h' tk hP hk => ?_⟩
    · show e < (s.heap.push _).objs.size
      rw [Heap.size_push]
      simp at he
      rcases he with rfl | rfl
      · exact Nat.lt_succ_self _
      · exact Nat.lt_succ_of_lt hlt
    · obtain ⟨t, rfl⟩ := arr3 hv hu hz hP
      refine hQ _ F _ (Ext.made hs (kept1 (Nat.le_refl _) hk fun b o e => Heap.get?_push_of_some _ e)) ?_
      unfold VR
      exact ⟨t, by rw [← best_arg]; rfl⟩
theorem Op.minTup {a b d : UInt64} (hh : c.A.handled = none) : Op c (fun vs => PySem.call (.builtin "min") vs) [.tup [.flt a, .flt b, .flt d]] (.flt (bestOf ltF a b d)) :=
  Op.one fun F s v Q E hs hb hv hQ => by
    unfold VR at hv
    obtain ⟨D, vs, n, rfl, hD, hvs⟩ := hv
    obtain ⟨v, u, z, rfl, hv, hu, hz⟩ := hvs.inv3
    unfold VR at hv hu hz
    have hDh := hs _ _ hD
    have hlt : D < s.heap.objs.size := Heap.lt_size hDh
    have hT : s.heap.IsTuple D #[v, u, z] := ⟨_, hDh, rfl, n, rfl⟩
    refine call_min_walk (wpAny_pyIter_tuple hT ?_)
    refine ⟨_, [_, D], [_], _, _, _, _, rfl, Walks.tuple (A := c.A.in1) hh _ D (Nat.ne_of_lt hlt) #[v, u, z],
      ⟨⟨_, Heap.get?_push_size _ rfl, rfl, rfl⟩, hT.push _⟩, fun e he => ?_, by simp, cmpLt hv hu hz, fun x h' tk hP hk => ?_⟩
    · show e < (s.heap.push _).objs.size
      rw [Heap.size_push]
      simp at he
      rcases he with rfl | rfl
      · exact Nat.lt_succ_self _
      · exact Nat.lt_succ_of_lt hlt
    · obtain ⟨t, rfl⟩ := arr3 hv hu hz hP
      refine hQ _ F _ (Ext.made hs (kept1 (Nat.le_refl _) hk fun b o e => Heap.get?_push_of_some _ e)) ?_
      unfold VR
      exact ⟨t, by rw [← best_arg]; rfl⟩
end
end Mine
end
section
open PySem PySem.W PyProof.Rows
namespace Mine
open Float64
noncomputable def fl6 : UInt64 := 0x4018000000000000
noncomputable def fl1 : UInt64 := 0x3FF0000000000000
noncomputable def fl2 : UInt64 := 0x4000000000000000
noncomputable def fl4 : UInt64 := 0x4010000000000000
noncomputable def hsvL (h s v : UInt64) (i : Int) : List UInt64 :=
  if cmp s 0 == some .eq then [v, v, v] else
  let f := sub (mul h fl6) (ofInt i)
  let p := mul v (sub fl1 s)
  let q := mul v (sub fl1 (mul s f))
  let t := mul v (sub fl1 (mul s (sub fl1 f)))
  if i.fmod 6 = 0 then [v, t, p] else if i.fmod 6 = 1 then [q, v, p] else if i.fmod 6 = 2 then [p, v, t] else if i.fmod 6 = 3 then [p, q, v] else if i.fmod 6 = 4 then [t, p, v] else [v, p, q]
theorem bind3 {fd : FuncData} {x y z : Str} {a b d : SV} (h : ∀ v u t, bindArgs fd ⟨[v, u, t], []⟩ = pure [(x, v), (y, u), (z, t)]) (F : PM) (vals : List Value) (hv : VRs F [a, b, d] vals) : bindArgs fd ⟨vals, []⟩ = pure ([x, y, z].zip vals) := by
  obtain ⟨v, u, t, rfl, _⟩ := hv.inv3
  exact h v u t
theorem hsv_ok (w : World) (d : Nat) (h s v : UInt64) (sg : Bool) (m : Nat) (e : Int) (hd : decode (mul h fl6) = .fin sg m e) (hi : isInf (ofInt (truncOf sg m e)) = false) :
    PureFn (KF w.params) PG w (d + 1) 70 [.flt h, .flt s, .flt v] (.tup ((hsvL h s v (truncOf sg m e)).map .flt)) := by
  generalize hI : truncOf sg m e = i at *
  have m6 := fmod_lt (a := i) (b := 6) (by decide)
  refine PureFn.of_body (d := d) (o := ob70 w.params) (names := [Str.ofString "h", Str.ofString "s", Str.ofString "v"]) (by kernel_rfl) rfl rfl rfl (by kernel_rfl) (by kernel_rfl) (by kernel_rfl) (bind3 fun _ _ _ => rfl) (by decide +kernel) (by decide +kernel) (by decide +kernel) rfl rfl rfl (fun A L hr => ?_)
  refine Runs.ite (EvT.compare (Ev.name rfl rfl rfl) Ev.flt Op.eqF rfl) (fun hc => ?_) (fun hc => ?_)
  · refine Runs.ret' (Ev.tuple (Evs.co rfl (Ev.name rfl rfl rfl) (Evs.co rfl (Ev.name rfl rfl rfl) (Evs.co rfl (Ev.name rfl rfl rfl) Evs.nil))) rfl) ?_
    unfold hsvL; rw [if_pos hc]; rfl
  · refine Runs.set (sv := .int i) (Ev.callT (t := "int") (Ev.tyin rfl rfl rfl rfl (by kernel_rfl) (by kernel_rfl) rfl) (Evs.co rfl (Ev.binop (Ev.name rfl rfl rfl) Ev.flt Op.mulF) Evs.nil) (hI ▸ Op.intF hd) (fun _ => plain_any rfl)) rfl (.inl rfl) ?_ (swaps_plain rfl)
    refine Runs.set (Ev.binop (Ev.binop (Ev.name rfl rfl rfl) Ev.flt Op.mulF) (Ev.name rfl rfl rfl) (Op.subFI hi)) rfl (.inl rfl) ?_ (swaps_plain rfl)
    refine Runs.set (Ev.binop (Ev.name rfl rfl rfl) (Ev.binop Ev.flt (Ev.name rfl rfl rfl) Op.subF) Op.mulF) rfl (.inl rfl) ?_ (swaps_plain rfl)
    refine Runs.set (Ev.binop (Ev.name rfl rfl rfl) (Ev.binop Ev.flt (Ev.binop (Ev.name rfl rfl rfl) (Ev.name rfl rfl rfl) Op.mulF) Op.subF) Op.mulF) rfl (.inl rfl) ?_ (swaps_plain rfl)
    refine Runs.set (Ev.binop (Ev.name rfl rfl rfl) (Ev.binop Ev.flt (Ev.binop (Ev.name rfl rfl rfl) (Ev.binop Ev.flt (Ev.name rfl rfl rfl) Op.subF) Op.mulF) Op.subF) Op.mulF) rfl (.inl rfl) ?_ (swaps_plain rfl)
    refine Runs.set (Ev.binop (Ev.name rfl rfl rfl) Ev.int (Op.fmod (by decide))) rfl (.inl rfl) ?_ (swaps_plain rfl)
    refine Runs.ite (EvT.compare (Ev.name rfl rfl rfl) Ev.int Op.eq rfl) (fun h0 => ?_) (fun h0 => ?_)
    · refine Runs.ret' (Ev.tuple (Evs.co rfl (Ev.name rfl rfl rfl) (Evs.co rfl (Ev.name rfl rfl rfl) (Evs.co rfl (Ev.name rfl rfl rfl) Evs.nil))) rfl) ?_
      unfold hsvL; rw [if_neg (by rw [hc]; decide), if_pos (beq_iff_eq.mp h0)]; rfl
    have h0 : ¬ i.fmod 6 = 0 := fun q => by rw [beq_iff_eq.mpr q] at h0; cases h0
    refine Runs.ite (EvT.compare (Ev.name rfl rfl rfl) Ev.int Op.eq rfl) (fun h1 => ?_) (fun h1 => ?_)
    · refine Runs.ret' (Ev.tuple (Evs.co rfl (Ev.name rfl rfl rfl) (Evs.co rfl (Ev.name rfl rfl rfl) (Evs.co rfl (Ev.name rfl rfl rfl) Evs.nil))) rfl) ?_
      unfold hsvL; rw [if_neg (by rw [hc]; decide), if_neg h0, if_pos (beq_iff_eq.mp h1)]; rfl
    have h1 : ¬ i.fmod 6 = 1 := fun q => by rw [beq_iff_eq.mpr q] at h1; cases h1
    refine Runs.ite (EvT.compare (Ev.name rfl rfl rfl) Ev.int Op.eq rfl) (fun h2 => ?_) (fun h2 => ?_)
    · refine Runs.ret' (Ev.tuple (Evs.co rfl (Ev.name rfl rfl rfl) (Evs.co rfl (Ev.name rfl rfl rfl) (Evs.co rfl (Ev.name rfl rfl rfl) Evs.nil))) rfl) ?_
      unfold hsvL; rw [if_neg (by rw [hc]; decide), if_neg h0, if_neg h1, if_pos (beq_iff_eq.mp h2)]; rfl
    have h2 : ¬ i.fmod 6 = 2 := fun q => by rw [beq_iff_eq.mpr q] at h2; cases h2
    refine Runs.ite (EvT.compare (Ev.name rfl rfl rfl) Ev.int Op.eq rfl) (fun h3 => ?_) (fun h3 => ?_)
    · refine Runs.ret' (Ev.tuple (Evs.co rfl (Ev.name rfl rfl rfl) (Evs.co rfl (Ev.name rfl rfl rfl) (Evs.co rfl (Ev.name rfl rfl rfl) Evs.nil))) rfl) ?_
      unfold hsvL; rw [if_neg (by rw [hc]; decide), if_neg h0, if_neg h1, if_neg h2, if_pos (beq_iff_eq.mp h3)]; rfl
    have h3 : ¬ i.fmod 6 = 3 := fun q => by rw [beq_iff_eq.mpr q] at h3; cases h3
    refine Runs.ite (EvT.compare (Ev.name rfl rfl rfl) Ev.int Op.eq rfl) (fun h4 => ?_) (fun h4 => ?_)
    · refine Runs.ret' (Ev.tuple (Evs.co rfl (Ev.name rfl rfl rfl) (Evs.co rfl (Ev.name rfl rfl rfl) (Evs.co rfl (Ev.name rfl rfl rfl) Evs.nil))) rfl) ?_
      unfold hsvL; rw [if_neg (by rw [hc]; decide), if_neg h0, if_neg h1, if_neg h2, if_neg h3, if_pos (beq_iff_eq.mp h4)]; rfl
    have h4 : ¬ i.fmod 6 = 4 := fun q => by rw [beq_iff_eq.mpr q] at h4; cases h4
    refine Runs.ite (d := true) (EvT.compare (Ev.name rfl rfl rfl) Ev.int ?_ rfl) (fun h5 => ?_) (fun h5 => (nomatch h5))
    · have : i.fmod 6 = 5 := by lia
      have e : (i.fmod 6 == 5) = true := beq_iff_eq.mpr this
      rw [← e]; exact Op.eq
    · refine Runs.ret' (Ev.tuple (Evs.co rfl (Ev.name rfl rfl rfl) (Evs.co rfl (Ev.name rfl rfl rfl) (Evs.co rfl (Ev.name rfl rfl rfl) Evs.nil))) rfl) ?_
      unfold hsvL; rw [if_neg (by rw [hc]; decide), if_neg h0, if_neg h1, if_neg h2, if_neg h3, if_neg h4]; rfl
end Mine
end
section
open PySem PySem.W PyProof.Rows
namespace Mine
open Float64
noncomputable def maxF (r g b : UInt64) : UInt64 := bestOf gtF r g b
noncomputable def minF (r g b : UInt64) : UInt64 := bestOf ltF r g b
noncomputable def eqF (x y : UInt64) : Bool := cmp x y == some .eq
noncomputable def rcF (r g b x : UInt64) : UInt64 := div (sub (maxF r g b) x) (sub (maxF r g b) (minF r g b))
noncomputable def rawF (r g b : UInt64) : UInt64 :=
  if eqF r (maxF r g b) then sub (rcF r g b b) (rcF r g b g) else if eqF g (maxF r g b) then sub (add fl2 (rcF r g b r)) (rcF r g b b) else sub (add fl4 (rcF r g b g)) (rcF r g b r)
noncomputable def hueF (r g b : UInt64) : UInt64 := (divmod (div (rawF r g b) fl6) fl1).snd
noncomputable def rgbL (r g b : UInt64) : List UInt64 :=
  if eqF (minF r g b) (maxF r g b) then [0, 0, maxF r g b] else [hueF r g b, div (sub (maxF r g b) (minF r g b)) (maxF r g b), maxF r g b]
theorem rgb_ok (w : World) (d : Nat) (r g b : UInt64) (h1 : eqF (minF r g b) (maxF r g b) = false → isZero (maxF r g b) = false ∧ isZero (sub (maxF r g b) (minF r g b)) = false) :
    PureFn (KF w.params) PG w (d + 1) 63 [.flt r, .flt g, .flt b] (.tup ((rgbL r g b).map .flt)) := by
  refine PureFn.of_body (d := d) (o := ob63 w.params) (names := [Str.ofString "r", Str.ofString "g", Str.ofString "b"]) (by kernel_rfl) rfl rfl rfl (by kernel_rfl) (by kernel_rfl) (by kernel_rfl) (bind3 fun _ _ _ => rfl) (by decide +kernel) (by decide +kernel) (by decide +kernel) rfl rfl rfl (fun A L hr => ?_)
  refine Runs.set (sv := .flt (maxF r g b)) (Ev.callB (id := "max") (Ev.bltin rfl rfl rfl rfl (by kernel_rfl) (by kernel_rfl) rfl) (Evs.co rfl (Ev.name rfl rfl rfl) (Evs.co rfl (Ev.name rfl rfl rfl) (Evs.co rfl (Ev.name rfl rfl rfl) Evs.nil))) (Op.max3F hr.handled) (fun _ => plain_any rfl)) rfl (.inl rfl) ?_ (swaps_plain rfl)
  refine Runs.set (sv := .flt (minF r g b)) (Ev.callB (id := "min") (Ev.bltin rfl rfl rfl rfl (by kernel_rfl) (by kernel_rfl) rfl) (Evs.co rfl (Ev.name rfl rfl rfl) (Evs.co rfl (Ev.name rfl rfl rfl) (Evs.co rfl (Ev.name rfl rfl rfl) Evs.nil))) (Op.min3F hr.handled) (fun _ => plain_any rfl)) rfl (.inl rfl) ?_ (swaps_plain rfl)
  refine Runs.set (Ev.binop (Ev.name rfl rfl rfl) (Ev.name rfl rfl rfl) Op.subF) rfl (.inl rfl) ?_ (swaps_plain rfl)
  refine Runs.set (Ev.name rfl rfl rfl) rfl (.inl rfl) ?_ (swaps_plain rfl)
  refine Runs.ite (EvT.compare (Ev.name rfl rfl rfl) (Ev.name rfl rfl rfl) Op.eqF rfl) (fun hc => ?_) (fun hc => ?_)
  · refine Runs.ret' (Ev.tuple (Evs.co rfl Ev.flt (Evs.co rfl Ev.flt (Evs.co rfl (Ev.name rfl rfl rfl) Evs.nil))) rfl) ?_
    unfold rgbL; rw [if_pos (show eqF (minF r g b) (maxF r g b) = true from hc)]; rfl
  · obtain ⟨z1, z2⟩ := h1 hc
    refine Runs.set (Ev.binop (Ev.name rfl rfl rfl) (Ev.name rfl rfl rfl) (Op.divF z1)) rfl (.inl rfl) ?_ (swaps_plain rfl)
    refine Runs.set (Ev.binop (Ev.binop (Ev.name rfl rfl rfl) (Ev.name rfl rfl rfl) Op.subF) (Ev.name rfl rfl rfl) (Op.divF z2)) rfl (.inl rfl) ?_ (swaps_plain rfl)
    refine Runs.set (Ev.binop (Ev.binop (Ev.name rfl rfl rfl) (Ev.name rfl rfl rfl) Op.subF) (Ev.name rfl rfl rfl) (Op.divF z2)) rfl (.inl rfl) ?_ (swaps_plain rfl)
    refine Runs.set (Ev.binop (Ev.binop (Ev.name rfl rfl rfl) (Ev.name rfl rfl rfl) Op.subF) (Ev.name rfl rfl rfl) (Op.divF z2)) rfl (.inl rfl) ?_ (swaps_plain rfl)
    refine Runs.ite (EvT.compare (Ev.name rfl rfl rfl) (Ev.name rfl rfl rfl) Op.eqF rfl) (fun hr' => ?_) (fun hr' => ?_)
    · refine Runs.set (Ev.binop (Ev.name rfl rfl rfl) (Ev.name rfl rfl rfl) Op.subF) rfl (.inl rfl) ?_ (swaps_plain rfl)
      refine Runs.set (Ev.binop (Ev.binop (Ev.name rfl rfl rfl) Ev.flt (Op.divF (by decide +kernel))) Ev.flt (Op.modF (by decide +kernel))) rfl (.inl rfl) ?_ (swaps_plain rfl)
      refine Runs.ret' (Ev.tuple (Evs.co rfl (Ev.name rfl rfl rfl) (Evs.co rfl (Ev.name rfl rfl rfl) (Evs.co rfl (Ev.name rfl rfl rfl) Evs.nil))) rfl) ?_
      unfold rgbL hueF rawF; rw [if_neg (by rw [show eqF (minF r g b) (maxF r g b) = false from hc]; decide), if_pos (show eqF r (maxF r g b) = true from hr')]; rfl
    · refine Runs.ite (EvT.compare (Ev.name rfl rfl rfl) (Ev.name rfl rfl rfl) Op.eqF rfl) (fun hg => ?_) (fun hg => ?_)
      · refine Runs.set (Ev.binop (Ev.binop Ev.flt (Ev.name rfl rfl rfl) Op.addF) (Ev.name rfl rfl rfl) Op.subF) rfl (.inl rfl) ?_ (swaps_plain rfl)
        refine Runs.set (Ev.binop (Ev.binop (Ev.name rfl rfl rfl) Ev.flt (Op.divF (by decide +kernel))) Ev.flt (Op.modF (by decide +kernel))) rfl (.inl rfl) ?_ (swaps_plain rfl)
        refine Runs.ret' (Ev.tuple (Evs.co rfl (Ev.name rfl rfl rfl) (Evs.co rfl (Ev.name rfl rfl rfl) (Evs.co rfl (Ev.name rfl rfl rfl) Evs.nil))) rfl) ?_
        unfold rgbL hueF rawF; rw [if_neg (by rw [show eqF (minF r g b) (maxF r g b) = false from hc]; decide), if_neg (by rw [show eqF r (maxF r g b) = false from hr']; decide), if_pos (show eqF g (maxF r g b) = true from hg)]; rfl
      · refine Runs.set (Ev.binop (Ev.binop Ev.flt (Ev.name rfl rfl rfl) Op.addF) (Ev.name rfl rfl rfl) Op.subF) rfl (.inl rfl) ?_ (swaps_plain rfl)
        refine Runs.set (Ev.binop (Ev.binop (Ev.name rfl rfl rfl) Ev.flt (Op.divF (by decide +kernel))) Ev.flt (Op.modF (by decide +kernel))) rfl (.inl rfl) ?_ (swaps_plain rfl)
        refine Runs.ret' (Ev.tuple (Evs.co rfl (Ev.name rfl rfl rfl) (Evs.co rfl (Ev.name rfl rfl rfl) (Evs.co rfl (Ev.name rfl rfl rfl) Evs.nil))) rfl) ?_
        unfold rgbL hueF rawF; rw [if_neg (by rw [show eqF (minF r g b) (maxF r g b) = false from hc]; decide), if_neg (by rw [show eqF r (maxF r g b) = false from hr']; decide), if_neg (by rw [show eqF g (maxF r g b) = false from hg]; decide)]; rfl
end Mine
end
section
open PySem PySem.W PyProof.Rows
namespace Mine
open Float64
theorem trunc_val {x : UInt64} {sg : Bool} {m : Nat} {e : Int} (h : decode x = .fin sg m e) (h0 : 0 ≤ val x) : truncOf sg m e = val x / ((2 ^ 1074 : Nat) : Int) := by
  have he := decode_ge h
  have hv := val_eq h
  have key : ∀ p q : Nat, p + q = 1074 → ((2 ^ 1074 : Nat) : Int) = ((2 ^ p : Nat) : Int) * ((2 ^ q : Nat) : Int) := fun p q hp => by rw [← Int.natCast_mul, ← Nat.pow_add, hp]
  have pos : ∀ n : Nat, (0 : Int) < ((2 ^ n : Nat) : Int) := fun n => Int.ofNat_lt.mpr (Nat.two_pow_pos _)
  cases sg with
  | false =>
    have hv : val x = (m : Int) * ((2 ^ (e + 1074).toNat : Nat) : Int) := by rw [hv, sgn_mul]; rfl
    show floorOf false m e = _
    unfold floorOf
    show (if e ≥ 0 then (m : Int) * 2 ^ e.toNat else (m : Int).fdiv (2 ^ (-e).toNat)) = _
    have cst : ∀ n : Nat, ((2 : Int) ^ n) = ((2 ^ n : Nat) : Int) := fun n => by simp
    rw [cst, cst]
    split
    · rename_i h1
      have e1 : ((2 ^ (e + 1074).toNat : Nat) : Int) = ((2 ^ e.toNat : Nat) : Int) * ((2 ^ 1074 : Nat) : Int) := by
        rw [← Int.natCast_mul, ← Nat.pow_add]; congr 2; lia
      rw [hv, e1, ← Int.mul_assoc]
      have := pos 1074
      generalize ((2 ^ 1074 : Nat) : Int) = K at *
      rw [Int.mul_ediv_cancel _ (by lia)]
    · rename_i h1
      rw [hv, key ((e + 1074).toNat) ((-e).toNat) (by lia), Int.mul_comm (m : Int), Int.mul_ediv_mul_of_pos _ _ (pos _), Int.fdiv_eq_ediv_of_nonneg _ (Int.le_of_lt (pos _))]
  | true =>
    have z : m = 0 := by
      rcases Nat.eq_zero_or_pos m with q | q
      · exact q
      · exfalso
        have := Nat.mul_pos q (Nat.two_pow_pos (e + 1074).toNat)
        rw [hv] at h0; unfold sgn at h0; simp only [if_true] at h0
        lia
    subst z
    have : val x = 0 := by rw [hv]; unfold sgn; simp
    rw [this, Int.zero_ediv]
    show -floorOf (!true) 0 e = 0
    unfold floorOf sgn
    split <;> simp
theorem trunc_ex {x : UInt64} {sg : Bool} {m : Nat} {e n : Int} (h : decode x = .fin sg m e) (hx : Ex x n) (h0 : 0 ≤ n) : truncOf sg m e = n / 1048576 := by
  rw [trunc_val h (by rw [hx.2]; exact Int.mul_nonneg h0 (Int.le_of_lt kpos)), hx.2, k20, Int.mul_comm n, Int.mul_ediv_mul_of_pos _ _ kpos]
noncomputable def fl48 : UInt64 := 0x4048000000000000
noncomputable def fl8 : UInt64 := 0x4020000000000000
noncomputable def fl64 : UInt64 := 0x4050000000000000
noncomputable def hhB (H : Nat) : Bool := exB (mul (div (ofInt H) fl48) fl6) (H * 131072)
noncomputable def hhC (k : Nat) : Bool := (List.range' (100 * k) 100).all hhB
theorem hhc0 : hhC 0 = true := by decide +kernel
theorem hhc1 : hhC 1 = true := by decide +kernel
theorem hhc2 : hhC 2 = true := by decide +kernel
theorem hhc3 : hhC 3 = true := by decide +kernel
theorem hhc4 : hhC 4 = true := by decide +kernel
theorem hhc5 : hhC 5 = true := by decide +kernel
theorem hhc6 : hhC 6 = true := by decide +kernel
theorem hhc7 : hhC 7 = true := by decide +kernel
theorem hhc8 : hhC 8 = true := by decide +kernel
theorem hhc9 : hhC 9 = true := by decide +kernel
theorem hhc10 : hhC 10 = true := by decide +kernel
theorem hhc_all (k : Nat) (h : k < 11) : hhC k = true := by
  match k, h with
  | 0, _ => exact hhc0
  | 1, _ => exact hhc1
  | 2, _ => exact hhc2
  | 3, _ => exact hhc3
  | 4, _ => exact hhc4
  | 5, _ => exact hhc5
  | 6, _ => exact hhc6
  | 7, _ => exact hhc7
  | 8, _ => exact hhc8
  | 9, _ => exact hhc9
  | 10, _ => exact hhc10
theorem hh_ex {H : Nat} (h : H < 1100) : Ex (mul (div (ofInt H) fl48) fl6) (H * 131072) :=
  Ex.chk (List.all_eq_true.mp (hhc_all (H / 100) (by lia)) H (by rw [List.mem_range'_1]; lia))
end Mine
end
section
open PySem PySem.W PyProof.Rows
namespace Mine
open Float64
theorem mulB {a b A B : Int} (h1 : 0 ≤ a) (h2 : a ≤ A) (h3 : 0 ≤ b) (h4 : b ≤ B) : 0 ≤ a * b ∧ a * b ≤ A * B :=
  ⟨Int.mul_nonneg h1 h3, Int.mul_le_mul h2 h4 h3 (Int.le_trans h1 h2)⟩
noncomputable def lampT (k r : Int) : List Int := ([[8, r, 0], [8 - r, 8, 0], [0, 8, r], [0, 8 - r, 8], [r, 0, 8], [8, 0, 8 - r]] : List (List Int)).getD (k.fmod 6).toNat []
noncomputable def colI (value share lamp : Int) : Int := value * (64 - share * (8 - lamp))
theorem six_of (k : Int) : (k.fmod 6 = 0 ∨ k.fmod 6 = 1 ∨ k.fmod 6 = 2 ∨ k.fmod 6 = 3 ∨ k.fmod 6 = 4 ∨ k.fmod 6 = 5) := by have := fmod_lt (a := k) (b := 6) (by decide); lia
theorem hsv_core {v s hh : UInt64} {value share r k : Int} (hv : Ex v (value * 131072)) (hs : Ex s (share * 131072)) (hf : Ex (sub hh (ofInt k)) (r * 131072)) {h : UInt64} (hm : mul h fl6 = hh)
    (v0 : 0 ≤ value) (v1 : value ≤ 8) (s0 : 0 ≤ share) (s1 : share ≤ 8) (r0 : 0 ≤ r) (r1 : r ≤ 8) :
    ∃ a b d l0 l1 l2, hsvL h s v k = [a, b, d] ∧ lampT k r = [l0, l1, l2] ∧ Ex a (colI value share l0 * 2048) ∧ Ex b (colI value share l1 * 2048) ∧ Ex d (colI value share l2 * 2048) := by
  have one : Ex fl1 1048576 := Ex.chk (by decide +kernel)
  have hz : Ex (0 : UInt64) 0 := Ex.chk (by decide +kernel)
  have cz : (cmp s 0 == some .eq) = decide (share = 0) := by
    rw [hs.cmp hz]
    by_cases q : share = 0
    · subst q; rfl
    · rw [decide_eq_false q]
      have : ¬ compare (share * 131072) 0 = .eq := fun e => q (by have := Int.compare_eq_eq.mp e; lia)
      cases e : compare (share * 131072) 0 <;> first | rfl | exact absurd e this
  have V : Ex v (colI value share 8 * 2048) := by
    have e : colI value share 8 * 2048 = value * 131072 := by unfold colI; grind
    rw [e]; exact hv
  have lt6 := six_of k
  have L3 : ∃ l0 l1 l2, lampT k r = [l0, l1, l2] := by
    unfold lampT
    rcases lt6 with e | e | e | e | e | e <;> rw [e] <;> exact ⟨_, _, _, rfl⟩
  unfold hsvL
  rw [cz]
  by_cases q : share = 0
  · subst q
    rw [if_pos (by simp)]
    obtain ⟨l0, l1, l2, hl⟩ := L3
    have e : ∀ l, colI value 0 l * 2048 = value * 131072 := fun l => by unfold colI; grind
    refine ⟨v, v, v, l0, l1, l2, rfl, hl, ?_⟩
    rw [e, e, e]
    exact ⟨hv, hv, hv⟩
  · rw [if_neg (by simp [q])]
    have m1 := mulB s0 s1 r0 r1
    have m2 := mulB s0 s1 (show 0 ≤ 8 - r by lia) (show 8 - r ≤ 8 by lia)
    have mv : ∀ w : Int, 0 ≤ w → w ≤ 64 → (value * w * 2048).natAbs ≤ 2 ^ 53 := fun w w0 w1 => by
      have := mulB v0 v1 w0 w1
      generalize value * w = z at *
      lia
    rw [hm]
    have P : Ex (mul v (sub fl1 s)) (colI value share 0 * 2048) := by
      refine Ex.mul hv (Ex.sub one hs (by lia)) (by unfold colI; grind) ?_
      exact mv _ (by lia) (by lia)
    have Q : Ex (mul v (sub fl1 (mul s (sub hh (ofInt k))))) (colI value share (8 - r) * 2048) := by
      refine Ex.mul hv (Ex.sub one (Ex.mul (r := share * r * 16384) hs hf (by grind) (by lia)) (by lia)) (by unfold colI; grind) ?_
      refine mv _ ?_ ?_ <;> rw [show 8 - (8 - r) = r by lia] <;> lia
    have T : Ex (mul v (sub fl1 (mul s (sub fl1 (sub hh (ofInt k)))))) (colI value share r * 2048) := by
      refine Ex.mul hv (Ex.sub one (Ex.mul (r := share * (8 - r) * 16384) hs (Ex.sub one hf (by lia)) (by grind) (by lia)) (by lia)) (by unfold colI; grind) ?_
      exact mv _ (by lia) (by lia)
    unfold lampT
    rcases lt6 with e | e | e | e | e | e <;> rw [e]
    · exact ⟨_, _, _, _, _, _, rfl, rfl, V, T, P⟩
    · exact ⟨_, _, _, _, _, _, rfl, rfl, Q, V, P⟩
    · exact ⟨_, _, _, _, _, _, rfl, rfl, P, V, T⟩
    · exact ⟨_, _, _, _, _, _, rfl, rfl, P, Q, V⟩
    · exact ⟨_, _, _, _, _, _, rfl, rfl, T, P, V⟩
    · exact ⟨_, _, _, _, _, _, rfl, rfl, V, P, Q⟩
theorem div8 {n : Nat} (h : n ≤ 8) : Ex (div (ofInt n) fl8) (n * 131072) :=
  Ex.div (Ex.int (by lia)) (Ex.chk (show exB fl8 8388608 = true by decide +kernel)) (by decide) (by lia) (by lia)
theorem hsv_cols {H share value : Nat} (hH : H < 1100) (hs : share ≤ 8) (hv : value ≤ 8) :
    ∃ sg m e a b d l0 l1 l2, decode (mul (div (ofInt H) fl48) fl6) = .fin sg m e ∧ truncOf sg m e = ((H / 8 : Nat) : Int) ∧ hsvL (div (ofInt H) fl48) (div (ofInt share) fl8) (div (ofInt value) fl8) ((H / 8 : Nat) : Int) = [a, b, d] ∧ lampT ((H / 8 : Nat) : Int) ((H % 8 : Nat) : Int) = [l0, l1, l2] ∧
      Ex a (colI value share l0 * 2048) ∧ Ex b (colI value share l1 * 2048) ∧ Ex d (colI value share l2 * 2048) := by
  have hx := hh_ex hH
  obtain ⟨⟨sg, m, e, hd⟩, hval⟩ := id hx
  have ht : truncOf sg m e = ((H / 8 : Nat) : Int) := by rw [trunc_ex hd hx (by lia)]; lia
  have hk : Ex (ofInt ((H / 8 : Nat) : Int)) (((H / 8 : Nat) : Int) * 1048576) := Ex.int (by lia)
  have hf : Ex (sub (mul (div (ofInt H) fl48) fl6) (ofInt ((H / 8 : Nat) : Int))) (((H % 8 : Nat) : Int) * 131072) := by
    have := Ex.sub hx hk (by lia)
    have e : (H : Int) * 131072 - ((H / 8 : Nat) : Int) * 1048576 = ((H % 8 : Nat) : Int) * 131072 := by lia
    rw [e] at this; exact this
  obtain ⟨a, b, d, l0, l1, l2, h1, h2, h3⟩ := hsv_core (div8 hv) (div8 hs) hf rfl (by lia) (by lia) (by lia) (by lia) (by lia) (by lia)
  exact ⟨sg, m, e, a, b, d, l0, l1, l2, hd, ht, h1, h2, h3⟩
noncomputable def max3 (a b d : Int) : Int := if b > a then (if d > b then d else b) else (if d > a then d else a)
noncomputable def min3 (a b d : Int) : Int := if b < a then (if d < b then d else b) else (if d < a then d else a)
section
variable {a b d : UInt64} {p q r : Int}
theorem Ex.gt (hx : Ex a p) (hy : Ex b q) : gtF a b = decide (p > q) := by
  unfold gtF
  rw [hx.cmp hy]
  rcases Int.lt_trichotomy p q with h | h | h
  · rw [Int.compare_eq_lt.mpr h, decide_eq_false (by lia)]; rfl
  · subst h; simp
  · rw [Int.compare_eq_gt.mpr h, decide_eq_true h]; rfl
theorem Ex.lt (hx : Ex a p) (hy : Ex b q) : ltF a b = decide (p < q) := by
  unfold ltF
  rw [hx.cmp hy]
  rcases Int.lt_trichotomy p q with h | h | h
  · rw [Int.compare_eq_lt.mpr h, decide_eq_true h]; rfl
  · subst h; simp
  · rw [Int.compare_eq_gt.mpr h, decide_eq_false (by lia)]; rfl
theorem Ex.eqB (hx : Ex a p) (hy : Ex b q) : (Float64.cmp a b == some .eq) = decide (p = q) := by
  rw [hx.cmp hy]
  rcases Int.lt_trichotomy p q with h | h | h
  · rw [Int.compare_eq_lt.mpr h, decide_eq_false (by lia)]; rfl
  · subst h; simp
  · rw [Int.compare_eq_gt.mpr h, decide_eq_false (by lia)]; rfl
theorem Ex.max3 (hx : Ex a p) (hy : Ex b q) (hz : Ex d r) : Ex (bestOf gtF a b d) (max3 p q r) := by
  unfold bestOf Mine.max3
  rw [hy.gt hx, hz.gt hy, hz.gt hx]
  by_cases h : q > p <;> by_cases h' : r > q <;> by_cases h'' : r > p <;> simp [h, h', h''] <;> assumption
theorem Ex.min3 (hx : Ex a p) (hy : Ex b q) (hz : Ex d r) : Ex (bestOf ltF a b d) (min3 p q r) := by
  unfold bestOf Mine.min3
  rw [hy.lt hx, hz.lt hy, hz.lt hx]
  by_cases h : q < p <;> by_cases h' : r < q <;> by_cases h'' : r < p <;> simp [h, h', h''] <;> assumption
end
theorem hsv_max {value share k r l0 l1 l2 : Int} (v0 : 0 ≤ value) (s0 : 0 ≤ share) (r0 : 0 ≤ r) (r1 : r ≤ 8) (hl : lampT k r = [l0, l1, l2]) :
    max3 (colI value share l0 * 2048) (colI value share l1 * 2048) (colI value share l2 * 2048) = value * 131072 ∧ min3 (colI value share l0 * 2048) (colI value share l1 * 2048) (colI value share l2 * 2048) = value * (8 - share) * 16384 := by
  have mono : ∀ {x y : Int}, x ≤ y → colI value share x ≤ colI value share y := fun {x y} h => by
    unfold colI
    refine Int.mul_le_mul_of_nonneg_left ?_ v0
    have := Int.mul_le_mul_of_nonneg_left (show 8 - y ≤ 8 - x by lia) s0
    lia
  have t8 : colI value share 8 * 2048 = value * 131072 := by unfold colI; grind
  have t0 : colI value share 0 * 2048 = value * (8 - share) * 16384 := by unfold colI; grind
  have a1 := mono (show r ≤ 8 by lia)
  have a2 := mono (show 0 ≤ r by lia)
  have a3 := mono (show 8 - r ≤ 8 by lia)
  have a4 := mono (show 0 ≤ 8 - r by lia)
  have a5 := mono (show (0 : Int) ≤ 8 by lia)
  rw [← t8, ← t0]
  unfold lampT at hl
  rcases six_of k with e | e | e | e | e | e <;> rw [e] at hl <;> injection hl with h1 h2 <;> injection h2 with h2 h3 <;> injection h3 with h3 _ <;> subst h1 <;> subst h2 <;> subst h3 <;> unfold max3 min3 <;>
    (generalize colI value share r = x at *; generalize colI value share (8 - r) = y at *; generalize colI value share 8 = z at *; generalize colI value share 0 = u at *; constructor <;> repeat' split) <;> lia
end Mine
end
section
open PySem PySem.W PyProof.Rows
namespace Mine
open Float64
noncomputable def K : Int := ((2 ^ 1022 : Nat) : Int)
theorem Kpos : 0 < K := Int.ofNat_lt.mpr (Nat.two_pow_pos _)
theorem pwK (j n : Nat) (h : j = 1022 + n) : ((2 ^ j : Nat) : Int) = ((2 ^ n : Nat) : Int) * K := by
  subst h; rw [Nat.pow_add, Int.natCast_mul, Int.mul_comm]; rfl
theorem exK (n : Int) : n * ((2 ^ 1054 : Nat) : Int) = n * (4294967296 * K) := by rw [pwK 1054 32 rfl]; rfl
theorem k74 : ((2 ^ 1074 : Nat) : Int) = 4503599627370496 * K := by rw [pwK 1074 52 rfl]; rfl
theorem natAbs_le_of {t : Int} {n : Nat} (h1 : -((n : Nat) : Int) ≤ t) (h2 : t ≤ ((n : Nat) : Int)) : t.natAbs ≤ n := by lia
structure Ap (x : UInt64) (a b e : Int) : Prop where
  fin : Fin64 x
  lo : -(e * (b * K)) ≤ 2 * (b * val x - 4503599627370496 * (a * K))
  hi : 2 * (b * val x - 4503599627370496 * (a * K)) ≤ e * (b * K)
section
variable {x y : UInt64} {a a' b e e' n m : Int}
theorem Ap.mono (h : Ap x a b e) (hb : 0 < b) (he : e ≤ e') : Ap x a b e' := by
  have := Int.mul_le_mul_of_nonneg_right he (Int.le_of_lt (Int.mul_pos hb Kpos))
  exact ⟨h.fin, by have := h.lo; lia, by have := h.hi; lia⟩
theorem Ap.of_ex (h : Ex x (n * 1048576)) : Ap x (n * b) b 0 := by
  refine ⟨h.1, ?_, ?_⟩ <;> rw [h.2, exK] <;> grind
theorem Ap.div (hx : Ex x n) (hy : Ex y m) (hm : 0 < m) (h : n.natAbs ≤ m.toNat) : Ap (div x y) n m 1 := by
  have hpos : 0 < val y := by rw [hy.2]; exact Int.mul_pos hm kpos
  have z := div_abs (j := 1022) hx.1 hy.1 hpos (by decide) (by
    rw [hx.2, hy.2, Int.natAbs_mul, Int.natAbs_natCast, Int.toNat_mul (Int.le_of_lt hm) (Int.le_of_lt kpos), Int.toNat_natCast]
    exact Nat.mul_le_mul_right _ (Nat.mul_le_mul_right _ h))
  suffices h : -(1 * (m * K)) ≤ 2 * (m * val (Float64.div x y) - 4503599627370496 * (n * K)) ∧ 2 * (m * val (Float64.div x y) - 4503599627370496 * (n * K)) ≤ 1 * (m * K) from ⟨z.1, h.1, h.2⟩
  have z := z.2
  rw [hx.2, hy.2, exK, exK, k74, show ((2 ^ 1022 : Nat) : Int) = K from rfl] at z
  have kp := Kpos
  generalize val (Float64.div x y) = v at *
  have e1 : m * (4294967296 * K) * v - n * (4294967296 * K) * (4503599627370496 * K) = (4294967296 * K) * (m * v - 4503599627370496 * (n * K)) := by grind
  have e2 : m * (4294967296 * K) * K = (4294967296 * K) * (m * K) := by grind
  rw [e1, e2] at z
  have kp' : 0 < 4294967296 * K := by lia
  constructor
  · refine Int.le_of_mul_le_mul_left ?_ kp'
    have := z.1
    rw [Int.one_mul, Int.mul_neg]
    have e3 : 4294967296 * K * (2 * (m * v - 4503599627370496 * (n * K))) = 2 * (4294967296 * K * (m * v - 4503599627370496 * (n * K))) := by grind
    rw [e3]; exact this
  · refine Int.le_of_mul_le_mul_left ?_ kp'
    have := z.2
    rw [Int.one_mul]
    have e3 : 4294967296 * K * (2 * (m * v - 4503599627370496 * (n * K))) = 2 * (4294967296 * K * (m * v - 4503599627370496 * (n * K))) := by grind
    rw [e3]; exact this
theorem Ap.neg (h : Ap x a b e) : Ap (neg x) (-a) b e := by
  have n := neg_fin h.fin
  refine ⟨n.1, ?_, ?_⟩ <;> rw [n.2, Int.mul_neg, Int.neg_mul, Int.mul_neg]
  · have := h.hi; lia
  · have := h.lo; lia
theorem Ap.add (hx : Ap x a b e) (hy : Ap y a' b e') (hb : 0 < b) (he : 0 ≤ e + e') (he' : e + e' ≤ 1000000) (h1 : -(7 * b) ≤ a + a') (h2 : a + a' ≤ 7 * b) : Ap (add x y) (a + a') b (e + e' + 8) := by
  have kp := Kpos
  have hbk := Int.mul_pos hb kp
  have xl := hx.lo
  have xh := hx.hi
  have yl := hy.lo
  have yh := hy.hi
  have q1 : e * (b * K) + e' * (b * K) = (e + e') * (b * K) := (Int.add_mul _ _ _).symm
  have q2 := Int.mul_le_mul_of_nonneg_right he' (Int.le_of_lt hbk)
  have q3 : a * K + a' * K = (a + a') * K := (Int.add_mul _ _ _).symm
  have q4 := Int.mul_le_mul_of_nonneg_right h1 (Int.le_of_lt kp)
  have q5 := Int.mul_le_mul_of_nonneg_right h2 (Int.le_of_lt kp)
  have q6 : -(7 * b) * K = -(7 * (b * K)) := by rw [Int.neg_mul, Int.mul_assoc]
  have q7 : 7 * b * K = 7 * (b * K) := Int.mul_assoc _ _ _
  have q8 : b * (val x + val y) = b * val x + b * val y := Int.mul_add _ _ _
  have up : val x + val y ≤ 8 * (4503599627370496 * K) := by
    refine Int.le_of_mul_le_mul_left ?_ hb
    have : b * (8 * (4503599627370496 * K)) = 36028797018963968 * (b * K) := by grind
    lia
  have dn : -(8 * (4503599627370496 * K)) ≤ val x + val y := by
    refine Int.le_of_mul_le_mul_left ?_ hb
    have : b * (-(8 * (4503599627370496 * K))) = -(36028797018963968 * (b * K)) := by grind
    lia
  have e77 : ((2 ^ 1077 : Nat) : Int) = 8 * (4503599627370496 * K) := by rw [pwK 1077 55 rfl]; show 36028797018963968 * K = _; lia
  have e25 : ((2 ^ 1025 : Nat) : Int) = 8 * K := by rw [pwK 1025 3 rfl]; rfl
  have z := add_abs (j := 1025) hx.fin hy.fin (by decide) (natAbs_le_of (by show -((2 ^ 1077 : Nat) : Int) ≤ _; rw [e77]; exact dn) (by show _ ≤ ((2 ^ 1077 : Nat) : Int); rw [e77]; exact up))
  rw [e25] at z
  obtain ⟨zf, zl, zh⟩ := z
  suffices h : -((e + e' + 8) * (b * K)) ≤ 2 * (b * val (Float64.add x y) - 4503599627370496 * ((a + a') * K)) ∧ 2 * (b * val (Float64.add x y) - 4503599627370496 * ((a + a') * K)) ≤ (e + e' + 8) * (b * K) from ⟨zf, h.1, h.2⟩
  generalize val (Float64.add x y) = v at *
  have m1 := Int.mul_le_mul_of_nonneg_left zl (Int.le_of_lt hb)
  have m2 := Int.mul_le_mul_of_nonneg_left zh (Int.le_of_lt hb)
  have r1 : b * (2 * (v - (val x + val y))) = 2 * (b * v) - 2 * (b * val x) - 2 * (b * val y) := by grind
  have r2 : b * (8 * K) = 8 * (b * K) := by grind
  have r3 : (e + e' + 8) * (b * K) = (e + e') * (b * K) + 8 * (b * K) := Int.add_mul _ _ _
  rw [r1] at m1 m2
  rw [Int.mul_neg, r2] at m1
  rw [r2] at m2
  rw [r3, ← q3, ← q1]
  generalize b * K = B at *
  generalize hA : a * K = A at *
  generalize hA' : a' * K = A' at *
  generalize b * val x = X at *
  generalize b * val y = Y at *
  generalize e * B = P at *
  generalize e' * B = P' at *
  generalize b * v = Z at *
  constructor <;> lia
theorem Ap.sub (hx : Ap x a b e) (hy : Ap y a' b e') (hb : 0 < b) (he : 0 ≤ e + e') (he' : e + e' ≤ 1000000) (h1 : -(7 * b) ≤ a - a') (h2 : a - a' ≤ 7 * b) : Ap (sub x y) (a - a') b (e + e' + 8) := by
  have z := hx.add hy.neg hb he he' (by lia) (by lia)
  unfold Float64.sub
  rw [Int.sub_eq_add_neg]; exact z
end
end Mine
end
section
open PySem PySem.W PyProof.Rows
namespace Mine
open Float64
section
variable {x y : UInt64} {n : Int} {J : Nat} {B : Int}
theorem mulK_of {v vx vy : Int} (hv : vx = n * (4294967296 * K)) (z : -((2 ^ 1074 * 2 ^ (1022 + J) : Nat) : Int) ≤ 2 * (((2 ^ 1074 : Nat) : Int) * v - vx * vy) ∧ 2 * (((2 ^ 1074 : Nat) : Int) * v - vx * vy) ≤ ((2 ^ 1074 * 2 ^ (1022 + J) : Nat) : Int)) (hB : ((2 ^ J : Nat) : Int) = B) :
    -(1048576 * (B * K)) ≤ 2 * (1048576 * v - n * vy) ∧ 2 * (1048576 * v - n * vy) ≤ 1048576 * (B * K) := by
  rw [Int.natCast_mul, k74, pwK (1022 + J) J rfl, hB, hv] at z
  have kp := Kpos
  have kp' : 0 < 4294967296 * K := by lia
  have e1 : 2 * (4503599627370496 * K * v - n * (4294967296 * K) * vy) = 4294967296 * K * (2 * (1048576 * v - n * vy)) := by grind
  have e2 : 4503599627370496 * K * (B * K) = 4294967296 * K * (1048576 * (B * K)) := by grind
  rw [e1, e2] at z
  constructor
  · refine Int.le_of_mul_le_mul_left ?_ kp'
    rw [Int.mul_neg]; exact z.1
  · exact Int.le_of_mul_le_mul_left z.2 kp'
theorem mulK (hx : Ex x n) (hy : Fin64 y) (hJ : J ≤ 100) (hB : ((2 ^ J : Nat) : Int) = B) (h1 : -(1048576 * (4503599627370496 * (B * K))) ≤ n * val y) (h2 : n * val y ≤ 1048576 * (4503599627370496 * (B * K))) :
    Fin64 (mul x y) ∧ -(1048576 * (B * K)) ≤ 2 * (1048576 * val (mul x y) - n * val y) ∧ 2 * (1048576 * val (mul x y) - n * val y) ≤ 1048576 * (B * K) := by
  have kp := Kpos
  have kp' : 0 ≤ 4294967296 * K := by lia
  have e0 : val x * val y = 4294967296 * K * (n * val y) := by rw [hx.2, exK]; grind
  have e1 : ((2 ^ 1074 * 2 ^ (1022 + J + 52) : Nat) : Int) = 4294967296 * K * (1048576 * (4503599627370496 * (B * K))) := by
    rw [Int.natCast_mul, k74, Nat.add_assoc, pwK (1022 + (J + 52)) (J + 52) rfl, Nat.pow_add, Int.natCast_mul, hB]; show 4503599627370496 * K * (B * 4503599627370496 * K) = _; grind
  have z := mul_abs (j := 1022 + J) hx.1 hy (by lia) (natAbs_le_of (by rw [e1, e0, ← Int.mul_neg]; exact Int.mul_le_mul_of_nonneg_left h1 kp') (by rw [e1, e0]; exact Int.mul_le_mul_of_nonneg_left h2 kp'))
  exact ⟨z.1, mulK_of (by rw [hx.2, exK]) z.2 hB⟩
theorem mul_comm' (hx : Fin64 x) (hy : Fin64 y) : mul x y = mul y x := by
  obtain ⟨a, m, e, hx⟩ := hx
  obtain ⟨b, k, f, hy⟩ := hy
  unfold Float64.mul
  rw [hx, hy]
  show ofBin (a != b) (m * k) (e + f) = ofBin (b != a) (k * m) (f + e)
  rw [Nat.mul_comm, Int.add_comm]
  cases a <;> cases b <;> rfl
theorem addK (hx : Fin64 x) (hy : Fin64 y) (hJ : J ≤ 100) (hB : ((2 ^ J : Nat) : Int) = B) (h1 : -(4503599627370496 * (B * K)) ≤ val x + val y) (h2 : val x + val y ≤ 4503599627370496 * (B * K)) :
    Fin64 (add x y) ∧ -(B * K) ≤ 2 * (val (add x y) - (val x + val y)) ∧ 2 * (val (add x y) - (val x + val y)) ≤ B * K := by
  have e1 : ((2 ^ (1022 + J + 52) : Nat) : Int) = 4503599627370496 * (B * K) := by
    rw [Nat.add_assoc, pwK (1022 + (J + 52)) (J + 52) rfl, Nat.pow_add, Int.natCast_mul, hB]; show B * 4503599627370496 * K = _; grind
  have z := add_abs (j := 1022 + J) hx hy (by lia) (natAbs_le_of (by rw [e1]; exact h1) (by rw [e1]; exact h2))
  rw [pwK (1022 + J) J rfl, hB] at z
  exact z
end
noncomputable def fH : UInt64 := 0x3FE0000000000000
noncomputable def fl35 : UInt64 := 0x4220000000000000
theorem val_half : Fin64 fH ∧ val fH = 2251799813685248 * K := by
  have z : Ex fH 524288 := Ex.chk (by decide +kernel)
  exact ⟨z.1, by rw [z.2, exK]; grind⟩
theorem edv {v Z c : Int} (hZ : 0 < Z) (h1 : c * Z ≤ v) (h2 : v < (c + 1) * Z) : v / Z = c := by
  have a := Int.le_ediv_of_mul_le hZ h1
  have b := Int.ediv_lt_of_lt_mul hZ h2
  lia
theorem round_half {x : UInt64} {c : Int} (hx : Fin64 x) (c0 : 0 ≤ c) (c1 : c ≤ 274877906944) (h1 : -(4398046511104 * K) ≤ val x - 4503599627370496 * (c * K)) (h2 : val x - 4503599627370496 * (c * K) ≤ 4398046511104 * K) :
    ∃ sg m e, decode (add x fH) = .fin sg m e ∧ truncOf sg m e = c := by
  have kp := Kpos
  have b1 := Int.mul_le_mul_of_nonneg_right c1 (Int.le_of_lt kp)
  have b0 := Int.mul_nonneg c0 (Int.le_of_lt kp)
  obtain ⟨zf, z1, z2⟩ := addK (J := 39) hx val_half.1 (by decide) (B := 549755813888) rfl (by rw [val_half.2]; lia) (by rw [val_half.2]; lia)
  obtain ⟨sg, m, e, hd⟩ := id zf
  refine ⟨sg, m, e, hd, ?_⟩
  rw [val_half.2] at z1 z2
  rw [trunc_val hd (by lia), k74]
  have m1 : c * (4503599627370496 * K) = 4503599627370496 * (c * K) := by grind
  have m2 : (c + 1) * (4503599627370496 * K) = 4503599627370496 * (c * K) + 4503599627370496 * K := by grind
  refine edv (by lia) ?_ ?_
  · rw [m1]; lia
  · rw [m2]; lia
theorem spread_is {depth top : UInt64} {P Q : Int} (hd : Ap depth P Q 1) (ht : Ex top Q) (q0 : 0 < Q) (q1 : Q ≤ 1048576) (p0 : 0 ≤ P) (p1 : P ≤ Q) :
    ∃ sg m e, decode (add (mul (mul fl35 depth) top) fH) = .fin sg m e ∧ truncOf sg m e = P * 32768 := by
  have kp := Kpos
  have dl := hd.lo
  have dh := hd.hi
  rw [Int.one_mul] at dl dh
  have qk := Int.mul_pos q0 kp
  have pk := Int.mul_nonneg p0 (Int.le_of_lt kp)
  have pq := Int.mul_le_mul_of_nonneg_right p1 (Int.le_of_lt kp)
  have qK := Int.mul_le_mul_of_nonneg_right q1 (Int.le_of_lt kp)
  have up : val depth ≤ 2 * (4503599627370496 * K) := by
    refine Int.le_of_mul_le_mul_left ?_ q0
    have : Q * (2 * (4503599627370496 * K)) = 9007199254740992 * (Q * K) := by grind
    lia
  have dn : -(2 * (4503599627370496 * K)) ≤ val depth := by
    refine Int.le_of_mul_le_mul_left ?_ q0
    have : Q * (-(2 * (4503599627370496 * K))) = -(9007199254740992 * (Q * K)) := by grind
    lia
  have h35 : Ex fl35 36028797018963968 := Ex.chk (by decide +kernel)
  obtain ⟨fl1, a1, a2⟩ := mulK (J := 36) h35 hd.fin (by decide) (B := 68719476736) rfl (by lia) (by lia)
  generalize mul fl35 depth = r1 at *
  have u1 : val r1 ≤ 137438953472 * (4503599627370496 * K) := by lia
  have d1 : -(137438953472 * (4503599627370496 * K)) ≤ val r1 := by lia
  have t1 := Int.mul_le_mul_of_nonneg_left u1 (Int.le_of_lt q0)
  have t2 := Int.mul_le_mul_of_nonneg_left d1 (Int.le_of_lt q0)
  have s1 : Q * (137438953472 * (4503599627370496 * K)) = 618970019642690137449562112 * (Q * K) := by grind
  have s2 : Q * (-(137438953472 * (4503599627370496 * K))) = -(618970019642690137449562112 * (Q * K)) := by grind
  obtain ⟨fl2, b1, b2⟩ := mulK (J := 37) ht fl1 (by decide) (B := 137438953472) rfl (by lia) (by lia)
  rw [← mul_comm' fl1 ht.1] at fl2 b1 b2
  have m1 := Int.mul_le_mul_of_nonneg_left a1 (Int.le_of_lt q0)
  have m2 := Int.mul_le_mul_of_nonneg_left a2 (Int.le_of_lt q0)
  have w1 : Q * (2 * (1048576 * val r1 - 36028797018963968 * val depth)) = 2097152 * (Q * val r1) - 72057594037927936 * (Q * val depth) := by grind
  have w2 : Q * (1048576 * (68719476736 * K)) = 72057594037927936 * (Q * K) := by grind
  have w3 : Q * (-(1048576 * (68719476736 * K))) = -(72057594037927936 * (Q * K)) := by grind
  rw [w1, w3] at m1
  rw [w1, w2] at m2
  refine round_half fl2 (by lia) (by lia) ?_ ?_
  · have : P * 32768 * K = 32768 * (P * K) := by grind
    rw [this]
    generalize P * K = pk' at *
    generalize Q * K = qk' at *
    generalize Q * val depth = qd at *
    generalize Q * val r1 = qr at *
    lia
  · have : P * 32768 * K = 32768 * (P * K) := by grind
    rw [this]
    generalize P * K = pk' at *
    generalize Q * K = qk' at *
    generalize Q * val depth = qd at *
    generalize Q * val r1 = qr at *
    lia
end Mine
end
section
open PySem PySem.W PyProof.Rows
namespace Mine
open Float64
theorem Ap.div6 {x : UInt64} {N D : Int} (h : Ap x N D 18) (hD : 0 < D) (h1 : -(5 * D) ≤ N) (h2 : N ≤ 5 * D) : Ap (Float64.div x fl6) N (6 * D) 4 := by
  have kp := Kpos
  have dk := Int.mul_pos hD kp
  have l := h.lo
  have u := h.hi
  have n1 := Int.mul_le_mul_of_nonneg_right h1 (Int.le_of_lt kp)
  have n2 := Int.mul_le_mul_of_nonneg_right h2 (Int.le_of_lt kp)
  have q1 : -(5 * D) * K = -(5 * (D * K)) := by rw [Int.neg_mul, Int.mul_assoc]
  have q2 : 5 * D * K = 5 * (D * K) := Int.mul_assoc _ _ _
  have up : val x ≤ 6 * (4503599627370496 * K) := by
    refine Int.le_of_mul_le_mul_left ?_ hD
    have : D * (6 * (4503599627370496 * K)) = 27021597764222976 * (D * K) := by grind
    lia
  have dn : -(6 * (4503599627370496 * K)) ≤ val x := by
    refine Int.le_of_mul_le_mul_left ?_ hD
    have : D * (-(6 * (4503599627370496 * K))) = -(27021597764222976 * (D * K)) := by grind
    lia
  have h6 : Ex fl6 6291456 := Ex.chk (by decide +kernel)
  have v6 : val fl6 = 6 * (4503599627370496 * K) := by rw [h6.2, exK]; grind
  obtain ⟨zf, z1, z2⟩ := div_abs (j := 1022) h.fin h6.1 (by rw [v6]; lia) (by decide) (by
    refine Nat.mul_le_mul_right (2 ^ 1074) ?_
    rw [v6]; lia)
  rw [v6, k74, show ((2 ^ 1022 : Nat) : Int) = K from rfl] at z1 z2
  suffices g : -(4 * (6 * D * K)) ≤ 2 * (6 * D * val (Float64.div x fl6) - 4503599627370496 * (N * K)) ∧ 2 * (6 * D * val (Float64.div x fl6) - 4503599627370496 * (N * K)) ≤ 4 * (6 * D * K) from ⟨zf, g.1, g.2⟩
  generalize val (Float64.div x fl6) = v at *
  have kp' : 0 < 4503599627370496 * K := by lia
  have w1 : 2 * (6 * (4503599627370496 * K) * v - val x * (4503599627370496 * K)) = 4503599627370496 * K * (2 * (6 * v - val x)) := by grind
  have w2 : 6 * (4503599627370496 * K) * K = 4503599627370496 * K * (6 * K) := by grind
  rw [w1, w2] at z1 z2
  rw [← Int.mul_neg] at z1
  have z1 := Int.mul_le_mul_of_nonneg_left (Int.le_of_mul_le_mul_left z1 kp') (Int.le_of_lt hD)
  have z2 := Int.mul_le_mul_of_nonneg_left (Int.le_of_mul_le_mul_left z2 kp') (Int.le_of_lt hD)
  have r1 : D * (2 * (6 * v - val x)) = 12 * (D * v) - 2 * (D * val x) := by grind
  have r2 : D * (6 * K) = 6 * (D * K) := by grind
  have r3 : D * (-(6 * K)) = -(6 * (D * K)) := by grind
  have r4 : 6 * D * K = 6 * (D * K) := by grind
  have r5 : 6 * D * v = 6 * (D * v) := by grind
  rw [r1, r3] at z1
  rw [r1, r2] at z2
  rw [r4, r5]
  generalize D * K = dk' at *
  generalize D * v = dv at *
  generalize D * val x = dx at *
  generalize N * K = nk at *
  constructor <;> lia
theorem dec_f1 : decode fl1 = .fin false 4503599627370496 (-52) := by with_unfolding_all rfl
theorem fmod_one {q : UInt64} (hq : Fin64 q) (h : (val q).natAbs < 2 ^ 1074) : Fin64 (fmod q fl1) ∧ val (fmod q fl1) = val q := by
  obtain ⟨a, m, e, hd⟩ := hq
  have he := decode_ge hd
  have hn := val_natAbs hd
  have hg : -1074 ≤ min e (-52) := by lia
  have e0 : fmod q fl1 = ofBin a (m * 2 ^ (e - min e (-52)).toNat % (4503599627370496 * 2 ^ (-52 - min e (-52)).toNat)) (min e (-52)) := by
    unfold fmod
    rw [hd, dec_f1]
    rfl
  have p1 : (2 : Nat) ^ (e + 1074).toNat = 2 ^ (e - min e (-52)).toNat * 2 ^ (min e (-52) + 1074).toNat := by rw [← Nat.pow_add]; congr 1; lia
  have p2 : (2 : Nat) ^ 1074 = 4503599627370496 * 2 ^ (-52 - min e (-52)).toNat * 2 ^ (min e (-52) + 1074).toNat := by
    rw [show (4503599627370496 : Nat) = 2 ^ 52 from rfl, ← Nat.pow_add, ← Nat.pow_add]; congr 1; lia
  have hlt : m * 2 ^ (e - min e (-52)).toNat < 4503599627370496 * 2 ^ (-52 - min e (-52)).toNat := by
    rw [hn, p1, p2, ← Nat.mul_assoc] at h
    exact Nat.lt_of_mul_lt_mul_right h
  rw [Nat.mod_eq_of_lt hlt] at e0
  have hr : Right (fmod q fl1) a (m * 2 ^ (e + 1074).toNat) 1 := by
    rw [e0]
    unfold ofBin
    refine ofFrac_right (shift_pos _ _ _ (by decide)) ?_ (by decide)
    have := shift_one (m * 2 ^ (e - min e (-52)).toNat) (min e (-52)) 1074 (by lia)
    rw [p1, Nat.mul_one, ← Nat.mul_assoc]
    exact this
  have hm := (decode_le hd).1
  by_cases m0 : m = 0
  · subst m0
    have z := right_exact (n := 0) (k := 0) hr (T := 0) (by unfold sgn; cases a <;> simp) (by decide) (by decide) (by decide) (by simp)
    refine ⟨z.1, z.2.trans ?_⟩
    rw [val_eq hd]; unfold sgn; cases a <;> simp
  · have hk : (e + 1074).toNat ≤ 1074 := by
      rcases Nat.lt_or_ge 1074 (e + 1074).toNat with g | g
      · exfalso
        rw [hn] at h
        have := Nat.mul_le_mul (show 1 ≤ m by lia) (Nat.pow_le_pow_right (n := 2) (by decide) (Nat.le_of_lt g))
        lia
      · exact g
    have z := right_exact (n := sgn a m) (k := (e + 1074).toNat) hr rfl (by decide) (by lia) (by rw [sgn_natAbs]; lia) (by rw [sgn_mul, show ((1 : Nat) : Int) = 1 from rfl, Int.one_mul])
    exact ⟨z.1, z.2.trans (by rw [val_eq hd, sgn_mul])⟩
theorem isZero_val {x : UInt64} (hx : Fin64 x) : isZero x = decide (val x = 0) := by
  obtain ⟨a, m, e, hd⟩ := hx
  unfold Float64.isZero
  rw [hd]
  have hv := val_natAbs hd
  cases m with
  | zero => simp at hv; simp [hv]
  | succ m =>
    have := Nat.mul_pos (Nat.succ_pos m) (Nat.two_pow_pos (e + 1074).toNat)
    have hne : ¬ val x = 0 := by
      intro q
      rw [q] at hv
      rw [← hv] at this
      exact absurd this (by decide)
    rw [decide_eq_false hne]
    rfl
theorem mod_one {q : UInt64} (hq : Fin64 q) (h : (val q).natAbs < 2 ^ 1074) :
    Fin64 (divmod q fl1).snd ∧ ((0 ≤ val q ∧ val (divmod q fl1).snd = val q) ∨ (val q < 0 ∧ -K ≤ 2 * (val (divmod q fl1).snd - (val q + 4503599627370496 * K)) ∧ 2 * (val (divmod q fl1).snd - (val q + 4503599627370496 * K)) ≤ K)) := by
  obtain ⟨mf, mv⟩ := fmod_one hq h
  have z0 := val_zero false
  have one : Fin64 fl1 ∧ val fl1 = 4503599627370496 * K := by
    have z : Ex fl1 1048576 := Ex.chk (by decide +kernel)
    exact ⟨z.1, by rw [z.2, exK]; grind⟩
  have kp := Kpos
  have e0 : (divmod q fl1).snd = if isZero (fmod q fl1) then copysign (zero false) fl1 else if Float64.lt fl1 (zero false) != Float64.lt (fmod q fl1) (zero false) then Float64.add (fmod q fl1) fl1 else fmod q fl1 := by
    unfold divmod
    simp only
    split
    · rfl
    · split <;> rfl
  have c0 : copysign (zero false) fl1 = zero false := by with_unfolding_all rfl
  have l1 : Float64.lt fl1 (zero false) = false := by with_unfolding_all rfl
  rw [e0, isZero_val mf, mv, c0, l1]
  by_cases hz : val q = 0
  · rw [if_pos (by simpa using hz), z0.2, hz]
    exact ⟨z0.1, .inl ⟨Int.le_refl _, rfl⟩⟩
  · rw [if_neg (by simpa using hz)]
    unfold Float64.lt
    rw [cmp_fin mf z0.1, mv, z0.2]
    by_cases hn : val q < 0
    · rw [Int.compare_eq_lt.mpr hn, if_pos (by decide)]
      have hb : (-(4503599627370496 * K)) < val q := by
        have : (val q).natAbs < (4503599627370496 * K).toNat := by
          have e : (4503599627370496 * K).toNat = 2 ^ 1074 := by rw [← k74]; rfl
          rw [e]; exact h
        lia
      obtain ⟨f, a, b⟩ := addK (J := 0) mf one.1 (by decide) (B := 1) rfl (by rw [mv, one.2]; lia) (by rw [mv, one.2]; lia)
      rw [mv, one.2, Int.one_mul] at a b
      exact ⟨f, .inr ⟨hn, a, b⟩⟩
    · have hp : 0 < val q := by lia
      rw [Int.compare_eq_gt.mpr hp, if_neg (by decide)]
      exact ⟨mf, .inl ⟨by lia, mv⟩⟩
theorem lt74 {v : Int} (h1 : -(4503599627370496 * K) < v) (h2 : v < 4503599627370496 * K) : v.natAbs < 2 ^ 1074 := by
  have e : (4503599627370496 * K).toNat = 2 ^ 1074 := by rw [← k74]; rfl
  have kp := Kpos
  rw [← e]; lia
theorem hue_is {raw : UInt64} {N D : Int} (h : Ap raw N D 18) (hD : 0 < D) (hD2 : D ≤ 1048576) (h1 : -D ≤ N) (h2 : N ≤ 5 * D) :
    ∃ N', (N' = N ∨ N' = N + 6 * D) ∧ 0 ≤ N' ∧ N' ≤ 6 * D ∧ Ap (divmod (div raw fl6) fl1).snd N' (6 * D) 5 := by
  have kp := Kpos
  have dk := Int.mul_pos hD kp
  have q := h.div6 hD (by lia) h2
  have d6 : 0 < 6 * D := by lia
  have ql := q.lo
  have qh := q.hi
  have qf := q.fin
  have n1 := Int.mul_le_mul_of_nonneg_right h1 (Int.le_of_lt kp)
  have n2 := Int.mul_le_mul_of_nonneg_right h2 (Int.le_of_lt kp)
  have dK := Int.mul_le_mul_of_nonneg_right hD2 (Int.le_of_lt kp)
  have e1 : -D * K = -(D * K) := Int.neg_mul _ _
  have e2 : 5 * D * K = 5 * (D * K) := Int.mul_assoc _ _ _
  have e3 : 6 * D * K = 6 * (D * K) := Int.mul_assoc _ _ _
  rw [e3] at ql qh
  have up : val (div raw fl6) < 4503599627370496 * K := by
    refine Int.lt_of_mul_lt_mul_left (a := 6 * D) ?_ (Int.le_of_lt d6)
    have : 6 * D * (4503599627370496 * K) = 27021597764222976 * (D * K) := by grind
    lia
  have dn : -(4503599627370496 * K) < val (div raw fl6) := by
    refine Int.lt_of_mul_lt_mul_left (a := 6 * D) ?_ (Int.le_of_lt d6)
    have : 6 * D * (-(4503599627370496 * K)) = -(27021597764222976 * (D * K)) := by grind
    lia
  obtain ⟨hf, hc⟩ := mod_one qf (lt74 dn up)
  generalize (divmod (div raw fl6) fl1).snd = hue at *
  generalize val (div raw fl6) = v at *
  rcases hc with ⟨v0, hv⟩ | ⟨v0, a, b⟩
  · have hN : 0 ≤ N := by
      rcases Int.lt_or_le N 0 with g | g
      · exfalso
        have := Int.mul_le_mul_of_nonneg_right (show N ≤ -1 by lia) (Int.le_of_lt kp)
        have := Int.mul_nonneg (Int.le_of_lt d6) v0
        lia
      · exact g
    refine ⟨N, .inl rfl, hN, by lia, hf, ?_, ?_⟩ <;> rw [hv, e3] <;> lia
  · have hN : N ≤ 0 := by
      rcases Int.lt_or_le 0 N with g | g
      · exfalso
        have := Int.mul_le_mul_of_nonneg_right (show 1 ≤ N by lia) (Int.le_of_lt kp)
        have : 6 * D * v ≤ 0 := by rw [← Int.mul_zero (6 * D)]; exact Int.mul_le_mul_of_nonneg_left (Int.le_of_lt v0) (Int.le_of_lt d6)
        lia
      · exact g
    have a := Int.mul_le_mul_of_nonneg_left a (Int.le_of_lt d6)
    have b := Int.mul_le_mul_of_nonneg_left b (Int.le_of_lt d6)
    have w1 : 6 * D * (2 * (val hue - (v + 4503599627370496 * K))) = 2 * (6 * D * val hue) - 2 * (6 * D * v) - 54043195528445952 * (D * K) := by grind
    have w2 : 6 * D * (-K) = -(6 * (D * K)) := by grind
    have w3 : (N + 6 * D) * K = N * K + 6 * (D * K) := by grind
    rw [w1, w2] at a
    rw [w1, e3] at b
    refine ⟨N + 6 * D, .inr rfl, by lia, by lia, hf, ?_, ?_⟩ <;> rw [w3, e3] <;> lia
end Mine
end
section
open PySem PySem.W PyProof.Rows
namespace Mine
open Float64
theorem place_is {hue : UInt64} {N D : Int} (h : Ap hue N (6 * D) 5) (hD : 0 < D) (hD2 : D ≤ 1048576) (n0 : 0 ≤ N) (n1 : N ≤ 6 * D) :
    ∃ sg m e, decode (add (mul (mul fl6 hue) (ofInt (D * 32768))) fH) = .fin sg m e ∧ truncOf sg m e = N * 32768 := by
  have kp := Kpos
  have dk := Int.mul_pos hD kp
  have d6 : 0 < 6 * D := by lia
  have l := h.lo
  have u := h.hi
  have e3 : 6 * D * K = 6 * (D * K) := Int.mul_assoc _ _ _
  rw [e3] at l u
  have k0 := Int.mul_nonneg n0 (Int.le_of_lt kp)
  have k1 := Int.mul_le_mul_of_nonneg_right n1 (Int.le_of_lt kp)
  rw [e3] at k1
  have dK := Int.mul_le_mul_of_nonneg_right hD2 (Int.le_of_lt kp)
  have up : val hue ≤ 4503599627370499 * K := by
    refine Int.le_of_mul_le_mul_left ?_ d6
    have : 6 * D * (4503599627370499 * K) = 27021597764222994 * (D * K) := by grind
    lia
  have dn : -(3 * K) ≤ val hue := by
    refine Int.le_of_mul_le_mul_left ?_ d6
    have : 6 * D * (-(3 * K)) = -(18 * (D * K)) := by grind
    lia
  have h6 : Ex fl6 6291456 := Ex.chk (by decide +kernel)
  obtain ⟨fl1, a1, a2⟩ := mulK (J := 3) h6 h.fin (by decide) (B := 8) rfl (by lia) (by lia)
  generalize mul fl6 hue = r1 at *
  have u1 : val r1 ≤ 7 * (4503599627370496 * K) := by lia
  have d1 : -(4503599627370496 * K) ≤ val r1 := by lia
  have hS : Ex (ofInt (D * 32768)) (D * 32768 * 1048576) := Ex.int (by lia)
  have t1 := Int.mul_le_mul_of_nonneg_left u1 (Int.le_of_lt hD)
  have t2 := Int.mul_le_mul_of_nonneg_left d1 (Int.le_of_lt hD)
  have s1 : D * (7 * (4503599627370496 * K)) = 31525197391593472 * (D * K) := by grind
  have s2 : D * (-(4503599627370496 * K)) = -(4503599627370496 * (D * K)) := by grind
  have s3 : D * 32768 * 1048576 * val r1 = 34359738368 * (D * val r1) := by grind
  obtain ⟨fl2, b1, b2⟩ := mulK (J := 38) hS fl1 (by decide) (B := 274877906944) rfl (by rw [s3]; lia) (by rw [s3]; lia)
  rw [← mul_comm' fl1 hS.1] at fl2 b1 b2
  rw [s3] at b1 b2
  have m1 := Int.mul_le_mul_of_nonneg_left a1 (Int.le_of_lt hD)
  have m2 := Int.mul_le_mul_of_nonneg_left a2 (Int.le_of_lt hD)
  have w0 : 6 * D * val hue = 6 * (D * val hue) := Int.mul_assoc _ _ _
  have w1 : D * (2 * (1048576 * val r1 - 6291456 * val hue)) = 2097152 * (D * val r1) - 12582912 * (D * val hue) := by grind
  have w2 : D * (1048576 * (8 * K)) = 8388608 * (D * K) := by grind
  have w3 : D * (-(1048576 * (8 * K))) = -(8388608 * (D * K)) := by grind
  rw [w1, w3] at m1
  rw [w1, w2] at m2
  rw [w0] at l u
  refine round_half fl2 (by lia) (by lia) ?_ ?_
  · have : N * 32768 * K = 32768 * (N * K) := by grind
    rw [this]
    generalize N * K = nk at *
    generalize D * K = dk' at *
    generalize D * val hue = dh at *
    generalize D * val r1 = dr at *
    lia
  · have : N * 32768 * K = 32768 * (N * K) := by grind
    rw [this]
    generalize N * K = nk at *
    generalize D * K = dk' at *
    generalize D * val hue = dh at *
    generalize D * val r1 = dr at *
    lia
theorem half_zero {x : UInt64} (h : Ex x 0) : ∃ sg m e, decode (add x fH) = .fin sg m e ∧ truncOf sg m e = 0 :=
  round_half h.1 (Int.le_refl _) (by decide) (by rw [h.2]; have := Kpos; lia) (by rw [h.2]; have := Kpos; lia)
noncomputable def PlaceOf (x y z place : Int) : Prop :=
  (max3 x y z = min3 x y z ∧ place = 0) ∨ (min3 x y z < max3 x y z ∧ ∃ N, (place = N * 1048576 ∨ place = (N + 6 * (max3 x y z - min3 x y z)) * 1048576) ∧
    ((x = max3 x y z ∧ N = y - z) ∨ (y = max3 x y z ∧ N = 2 * (max3 x y z - min3 x y z) + z - x) ∨ (z = max3 x y z ∧ N = 4 * (max3 x y z - min3 x y z) + x - y)))
theorem max3_scale (x y z : Int) : max3 (32 * x) (32 * y) (32 * z) = 32 * max3 x y z ∧ min3 (32 * x) (32 * y) (32 * z) = 32 * min3 x y z := by
  unfold max3 min3
  constructor <;> (repeat' split) <;> lia
theorem max3_bounds (x y z : Int) : x ≤ max3 x y z ∧ y ≤ max3 x y z ∧ z ≤ max3 x y z ∧ min3 x y z ≤ x ∧ min3 x y z ≤ y ∧ min3 x y z ≤ z ∧ (max3 x y z = x ∨ max3 x y z = y ∨ max3 x y z = z) ∧ (min3 x y z = x ∨ min3 x y z = y ∨ min3 x y z = z) := by
  unfold max3 min3
  (repeat' split) <;> lia
theorem rgb_is {r g b : UInt64} {x y z : Int} (hr : Ex r (32 * x)) (hg : Ex g (32 * y)) (hb : Ex b (32 * z)) (x0 : 0 ≤ x) (x1 : x ≤ 32768) (y0 : 0 ≤ y) (y1 : y ≤ 32768) (z0 : 0 ≤ z) (z1 : z ≤ 32768) :
    (eqF (minF r g b) (maxF r g b) = false → isZero (maxF r g b) = false ∧ isZero (sub (maxF r g b) (minF r g b)) = false) ∧
    ∃ hue depth top place, rgbL r g b = [hue, depth, top] ∧ (∃ sg m e, decode (add (mul (mul fl35 depth) top) fH) = .fin sg m e ∧ truncOf sg m e = (max3 x y z - min3 x y z) * 1048576) ∧
      (∃ sg m e, decode (add (mul (mul fl6 hue) (ofInt ((max3 x y z - min3 x y z) * 1048576))) fH) = .fin sg m e ∧ truncOf sg m e = place) ∧ PlaceOf x y z place := by
  have hM := Ex.max3 hr hg hb
  have hm := Ex.min3 hr hg hb
  rw [(max3_scale x y z).1] at hM
  rw [(max3_scale x y z).2] at hm
  obtain ⟨B1, B2, B3, B4, B5, B6, B7, B8⟩ := max3_bounds x y z
  have hq : eqF (minF r g b) (maxF r g b) = decide (32 * min3 x y z = 32 * max3 x y z) := hm.eqB hM
  have hD := hM.sub hm (by lia)
  have eD : 32 * max3 x y z - 32 * min3 x y z = 32 * (max3 x y z - min3 x y z) := by lia
  unfold PlaceOf
  generalize max3 x y z = M at *
  generalize min3 x y z = mn at *
  refine ⟨fun q => ?_, ?_⟩
  · rw [hq] at q
    have q := of_decide_eq_false q
    exact ⟨hM.isZero (by lia), hD.isZero (by lia)⟩
  · by_cases e : mn = M
    · have : rgbL r g b = [0, 0, maxF r g b] := by unfold rgbL; rw [hq, decide_eq_true (by lia), if_pos rfl]
      have z0 : Ex (0 : UInt64) 0 := Ex.chk (by decide +kernel)
      refine ⟨0, 0, _, 0, this, ?_, ?_, .inl ⟨e.symm, rfl⟩⟩
      · have := half_zero (x := mul (mul fl35 0) (maxF r g b)) (Ex.mul (Ex.mul (r := 0) (Ex.chk (show exB fl35 36028797018963968 = true by decide +kernel)) z0 (by decide) (by decide)) hM (by rw [Int.zero_mul, Int.zero_mul]) (by decide))
        rw [show (M - mn) * 1048576 = 0 by lia]; exact this
      · have := half_zero (x := mul (mul fl6 0) (ofInt ((M - mn) * 1048576))) (Ex.mul (Ex.mul (r := 0) (Ex.chk (show exB fl6 6291456 = true by decide +kernel)) z0 (by decide) (by decide)) (Ex.int (by lia)) (by rw [Int.zero_mul, Int.zero_mul]) (by decide))
        exact this
    · have hlt : mn < M := by lia
      have : rgbL r g b = [hueF r g b, div (sub (maxF r g b) (minF r g b)) (maxF r g b), maxF r g b] := by unfold rgbL; rw [hq, decide_eq_false (by lia), if_neg (by decide)]
      rw [eD] at hD
      generalize hDD : M - mn = D at *
      have hD0 : 0 < D := by lia
      have dep : Ap (div (sub (maxF r g b) (minF r g b)) (maxF r g b)) (32 * D) (32 * M) 1 := Ap.div hD hM (by lia) (by lia)
      have sp := spread_is dep hM (by lia) (by lia) (by lia) (by lia)
      rw [show 32 * D * 32768 = D * 1048576 by lia] at sp
      have rc : ∀ {c : UInt64} {t : Int}, Ex c (32 * t) → mn ≤ t → t ≤ M → Ap (rcF r g b c) (32 * (M - t)) (32 * D) 1 := fun {c t} hc t0 t1 => by
        have s := hM.sub hc (by lia)
        rw [show 32 * M - 32 * t = 32 * (M - t) by lia] at s
        exact Ap.div s hD (by lia) (by lia)
      have P0 : 0 < 32 * D := by lia
      have rb := rc hb B6 B3
      have rg := rc hg B5 B2
      have rr := rc hr B4 B1
      have f2x : Ap fl2 (2 * (32 * D)) (32 * D) 0 := Ap.of_ex (Ex.chk (show exB fl2 (2 * 1048576) = true by decide +kernel))
      have f4x : Ap fl4 (4 * (32 * D)) (32 * D) 0 := Ap.of_ex (Ex.chk (show exB fl4 (4 * 1048576) = true by decide +kernel))
      have raw : ∃ N, Ap (rawF r g b) (32 * N) (32 * D) 18 ∧ -D ≤ N ∧ N ≤ 5 * D ∧ ((x = M ∧ N = y - z) ∨ (y = M ∧ N = 2 * D + z - x) ∨ (z = M ∧ N = 4 * D + x - y)) := by
        unfold rawF
        rw [show eqF r (maxF r g b) = decide (32 * x = 32 * M) from hr.eqB hM, show eqF g (maxF r g b) = decide (32 * y = 32 * M) from hg.eqB hM]
        by_cases e1 : x = M
        · rw [decide_eq_true (by lia), if_pos rfl]
          refine ⟨y - z, ?_, by lia, by lia, .inl ⟨e1, rfl⟩⟩
          have s := (rb.sub rg P0 (by decide) (by decide) (by lia) (by lia)).mono P0 (show (1 : Int) + 1 + 8 ≤ 18 by decide)
          rw [show 32 * (M - z) - 32 * (M - y) = 32 * (y - z) by lia] at s
          exact s
        · rw [decide_eq_false (by lia), if_neg (by decide)]
          by_cases e2 : y = M
          · rw [decide_eq_true (by lia), if_pos rfl]
            refine ⟨2 * D + z - x, ?_, by lia, by lia, .inr (.inl ⟨e2, rfl⟩)⟩
            have s := ((f2x.add rr P0 (by decide) (by decide) (by lia) (by lia)).sub rb P0 (by decide) (by decide) (by lia) (by lia)).mono P0 (show (0 : Int) + 1 + 8 + 1 + 8 ≤ 18 by decide)
            rw [show 2 * (32 * D) + 32 * (M - x) - 32 * (M - z) = 32 * (2 * D + z - x) by lia] at s
            exact s
          · rw [decide_eq_false (by lia), if_neg (by decide)]
            refine ⟨4 * D + x - y, ?_, by lia, by lia, .inr (.inr ⟨by lia, rfl⟩)⟩
            have s := ((f4x.add rg P0 (by decide) (by decide) (by lia) (by lia)).sub rr P0 (by decide) (by decide) (by lia) (by lia)).mono P0 (show (0 : Int) + 1 + 8 + 1 + 8 ≤ 18 by decide)
            rw [show 4 * (32 * D) + 32 * (M - y) - 32 * (M - x) = 32 * (4 * D + x - y) by lia] at s
            exact s
      obtain ⟨N, hN, N0, N1, hc⟩ := raw
      obtain ⟨N', hN', n0, n1, hh⟩ := hue_is hN P0 (by lia) (by lia) (by lia)
      have pl := place_is hh P0 (by lia) n0 n1
      rw [show 32 * D * 32768 = D * 1048576 by lia] at pl
      refine ⟨_, _, _, N' * 32768, this, sp, pl, .inr ⟨hlt, N, ?_, hc⟩⟩
      rcases hN' with e | e
      · left; lia
      · right; lia
end Mine
end
section
open PySem PySem.W PyProof.Rows
namespace Mine
section
variable {c : Cx} {ρ : List (Str × SV)}
theorem Op.max2 {a b : Int} (hh : c.A.handled = none) : Op c (fun vs => PySem.call (.builtin "max") vs) [.int a, .int b] (.int (if b > a then b else a)) :=
  Op.two fun F s v u Q E hs hb hv hu hQ => by
    unfold VR at hv hu
    obtain ⟨t, rfl⟩ := hv
    obtain ⟨t', rfl⟩ := hu
    refine max_two_ints hh fun h' tk hk => hQ _ F _ (Ext.made hs hk) ?_
    unfold VR
    by_cases q : b > a
    · rw [if_pos q, if_pos q]; exact ⟨_, rfl⟩
    · rw [if_neg q, if_neg q]; exact ⟨_, rfl⟩
theorem Op.min2 {a b : Int} (hh : c.A.handled = none) : Op c (fun vs => PySem.call (.builtin "min") vs) [.int a, .int b] (.int (if b < a then b else a)) :=
  Op.two fun F s v u Q E hs hb hv hu hQ => by
    unfold VR at hv hu
    obtain ⟨t, rfl⟩ := hv
    obtain ⟨t', rfl⟩ := hu
    refine min_two_ints hh fun h' tk hk => hQ _ F _ (Ext.made hs hk) ?_
    unfold VR
    by_cases q : b < a
    · rw [if_pos q, if_pos q]; exact ⟨_, rfl⟩
    · rw [if_neg q, if_neg q]; exact ⟨_, rfl⟩
theorem Op.absI {a : Int} : Op c (fun vs => PySem.call (.builtin "abs") vs) [.int a] (.int (if a < 0 then -a else a)) :=
  Op.one fun F s v Q E hs hb hv hQ => by
    unfold VR at hv
    obtain ⟨t, rfl⟩ := hv
    exact call_abs_int fun u tk => hQ _ F _ (Ext.tok hs tk) VR.int
theorem Op.min3I {a b d : Int} (hh : c.A.handled = none) : Op c (fun vs => PySem.call (.builtin "min") vs) [.lst [.int a, .int b, .int d]] (.int (min3 a b d)) :=
  Op.one fun F s v Q E hs hb hv hQ => by
    unfold VR at hv
    obtain ⟨D, vs, n, rfl, hD, hvs⟩ := hv
    obtain ⟨v, u, z, rfl, hv, hu, hz⟩ := hvs.inv3
    unfold VR at hv hu hz
    obtain ⟨t1, rfl⟩ := hv
    obtain ⟨t2, rfl⟩ := hu
    obtain ⟨t3, rfl⟩ := hz
    have hl : s.heap.IsList D (intItems #[(a, t1), (b, t2), (d, t3)]) := ⟨_, hs _ _ hD, rfl, n, by simp [intItems]⟩
    refine min_intList hh hl (show 0 < 3 by decide) fun v h' tk hP hk => hQ v F _ (Ext.made hs hk) ?_
    have e : (#[(a, t1), (b, t2), (d, t3)] : Array (Int × Tok)).size - 1 = 2 := rfl
    rw [e] at hP
    unfold VR
    by_cases h1 : b < a
    · by_cases h2 : d < b
      · have q : argBest (fun i j => decide (numAt #[(a, t1), (b, t2), (d, t3)] i < numAt #[(a, t1), (b, t2), (d, t3)] j)) 2 = 2 := by simp [argBest, numAt, h1, h2]
        rw [q] at hP
        simp [intItems] at hP
        exact ⟨t3, by rw [← hP]; unfold min3; rw [if_pos h1, if_pos h2]⟩
      · have q : argBest (fun i j => decide (numAt #[(a, t1), (b, t2), (d, t3)] i < numAt #[(a, t1), (b, t2), (d, t3)] j)) 2 = 1 := by simp [argBest, numAt, h1, h2]
        rw [q] at hP
        simp [intItems] at hP
        exact ⟨t2, by rw [← hP]; unfold min3; rw [if_pos h1, if_neg h2]⟩
    · by_cases h2 : d < a
      · have q : argBest (fun i j => decide (numAt #[(a, t1), (b, t2), (d, t3)] i < numAt #[(a, t1), (b, t2), (d, t3)] j)) 2 = 2 := by simp [argBest, numAt, h1, h2]
        rw [q] at hP
        simp [intItems] at hP
        exact ⟨t3, by rw [← hP]; unfold min3; rw [if_neg h1, if_pos h2]⟩
      · have q : argBest (fun i j => decide (numAt #[(a, t1), (b, t2), (d, t3)] i < numAt #[(a, t1), (b, t2), (d, t3)] j)) 2 = 0 := by simp [argBest, numAt, h1, h2]
        rw [q] at hP
        simp [intItems] at hP
        exact ⟨t1, by rw [← hP]; unfold min3; rw [if_neg h1, if_neg h2]⟩
theorem Op.sumI {ns : List Int} (hh : c.A.handled = none) : Op c (fun vs => PySem.call (.builtin "sum") vs) [.lst (ns.map .int)] (.int ns.sum) :=
  Op.one fun F s v Q E hs hb hv hQ => by
    unfold VR at hv
    obtain ⟨D, vs, n, rfl, hD, hvs⟩ := hv
    have hi := hvs.ints
    obtain ⟨xs, hx⟩ := hi.allInts.items
    have hl : s.heap.IsList D (intItems xs) := ⟨_, hs _ _ hD, rfl, n, by rw [hx]⟩
    refine sum_intListG hh hl fun h' tk t' hk => hQ _ F _ (Ext.made hs hk) ?_
    unfold VR
    refine ⟨t', ?_⟩
    have e := hi.numsOf
    rw [show vs = (intItems xs).toList by rw [← hx], nums_intItems] at e
    rw [preSum_eq, List.take_of_length_le (by simp), e]
theorem VRs.ofInts {F : PM} : ∀ {vs : List Value} {ns : List Int}, IntsAre vs ns → VRs F (ns.map .int) vs
  | _, _, .nil => by unfold List.map VRs; rfl
  | _, _, .cons n t r => by
    rw [List.map_cons]
    unfold VRs
    exact ⟨_, _, rfl, VR.int, VRs.ofInts r⟩
theorem Ev.sliceStep {x : Str} {px p pos : Pos} {lo st : Expr} {ns : List Int} {k j : Int} (hv : Ev c ρ (.Name x px) (.lst (ns.map .int))) (hlo : Ev c ρ lo (.int k)) (hst : Ev c ρ st (.int j)) (hj : j ≠ 0) (hn : ns.length ≤ 1000)
    (hsub : ∀ o i, ∃ ops, subscripted (.Slice (some lo) none (some st) p) false o i = operate ops (getItem o i)) :
    Ev c ρ (.Subscript (.Name x px) (.Slice (some lo) none (some st) p) pos) (.lst ((pickNums ns (some k) none (some j)).map .int)) := .mk fun F s Q E h hQ =>
  Subscript_ (hv.run F s _ E h fun v F₁ s₁ x₁ hv => by
    unfold VR at hv
    obtain ⟨D, vs, n, rfl, hD, hvs⟩ := hv
    refine wpAny_Slice ?_
    rw [evalPart_none, evalPart_some, evalPart_some]
    refine hlo.run F₁ s₁ _ E (h.ext x₁) fun u F₂ s₂ x₂ hu => ?_
    refine wpAny_pure (hst.run F₂ s₂ _ E ((h.ext x₁).ext x₂) fun u' F₃ s₃ x₃ hu' => ?_)
    unfold VR at hu hu'
    obtain ⟨t, rfl⟩ := hu
    obtain ⟨t', rfl⟩ := hu'
    have hD₃ := x₃.inn _ _ (x₃.sub _ _ (x₂.sub _ _ hD))
    have hl : s₃.heap.IsList D vs.toArray := ⟨_, hD₃, rfl, n, rfl⟩
    obtain ⟨ops, ho⟩ := hsub (.ref D) (.ref s₃.heap.objs.size)
    refine subscriptTail_ops (Heap.IsList.typeIs (s := { s₃ with heap := s₃.heap.push { cls := .type "slice", data := .fields #[.int k t, .none, .int j t'] } }) (hl.push _)) list_getitem_lookup
      (wpAny_getItem_list_slice (hl.push _) (Heap.IsSliceOf.new ..) (.int k t) .none (.int j t') (by intro q; cases q; exact hj rfl) ?_ ?_) ho (fun r => rfl)
    · have x₄ : Ext F₃ s₃ F₃ { s₃ with heap := s₃.heap.push { cls := .type "slice", data := .fields #[.int k t, .none, .int j t'] } } := Ext.made x₃.inn fun a o e => Heap.get?_push_of_some _ e
      have x₅ := Ext.alloc (F := F₃) (s := { s₃ with heap := s₃.heap.push { cls := .type "slice", data := .fields #[.int k t, .none, .int j t'] } }) x₄.inn { cls := .type "list", data := .seq (slicePick vs.toArray (some k) none (some j)) } rfl
      refine hQ _ _ _ ((((x₁.trans x₂).trans x₃).trans x₄).trans x₅) ?_
      unfold VR
      refine ⟨_, (slicePick vs.toArray (some k) none (some j)).toList, 0, rfl, ?_, VRs.ofInts (hvs.ints.pick _ _ _)⟩
      exact put_self _ _ _
    · have := hvs.length
      rw [List.length_map] at this
      rw [List.size_toArray, this]
      exact Nat.le_trans hn (by decide))
theorem EvT.or2 {a b : Expr} {p : Pos} (ha : EvT c ρ a false) (hb : EvT c ρ b false) : EvT c ρ (.BoolOp .Or [a, b] p) false := .mk fun F s Q E h hQ => by
  refine wpAny_isTrue_BoolOp (wpAny_allTrue_Or_cons (ha.run F s _ E h fun F₁ s₁ x₁ => ?_))
  rw [if_neg (by decide)]
  refine wpAny_allTrue_Or_cons (hb.run F₁ s₁ _ E (h.ext x₁) fun F₂ s₂ x₂ => ?_)
  rw [if_neg (by decide)]
  exact wpAny_allTrue_Or_nil (hQ F₂ s₂ (x₁.trans x₂))
end
end Mine
end
section
open PySem PySem.W PyProof.Rows
namespace Mine
section
variable {c : Cx} {ρ : List (Str × SV)}
theorem Ev.and2 {a b : Expr} {p : Pos} {sv : SV} (ha : Ev c ρ a (.bool true)) (hb : Ev c ρ b sv) : Ev c ρ (.BoolOp .And [a, b] p) sv := .mk fun F s Q E h hQ =>
  BoolOp_and (ha.run F s _ E h fun v F₁ s₁ x₁ hv => by
    unfold VR at hv
    subst hv
    refine wpAny_truthy_bool ?_
    rw [if_pos rfl]
    exact BoolOp_one (hb.run F₁ s₁ Q E (h.ext x₁) fun v F₂ s₂ x₂ hv => hQ v F₂ s₂ (x₁.trans x₂) hv))
end
noncomputable def heapI (ns : List Int) (u : Int × Nat) : Int := (u.1 + (pickNums ns (some (u.2 : Int)) none (some 3)).sum).fmod (10 ^ 12)
theorem heaps_ok {w : World} {A : Around} {Lc : Addr} {d : Nat} (hr : Room (cW w A Lc).A (d + 1)) {S : Side} {ns : List Int} (hn : ns.length ≤ 63) {Φ : Flow → PM → Shared → Prop}
    (hrest : Runs (cW w A Lc) S [(Str.ofString "heaps", .lst [.int (heapI ns (135, 0)), .int (heapI ns (7978, 1)), .int (heapI ns (12, 2))])] (lawB.drop 1) Φ) :
    Runs (cW w A Lc) S [(Str.ofString "script", .lst (ns.map .int))] lawB Φ := by
  refine Runs.set (sv := .lst (([135, 7978, 12] : List Int).zipIdx.map fun (u : Int × Nat) => .int (heapI ns u))) (Ev.comp0 (ρ' := [(Str.ofString "script", .lst (ns.map .int))]) ⟨Source.map (g := fun (u : Int × Nat) => (SV.int u.1, u.2)) (b := fun (u : SV × Nat) => [(Str.ofString "fixed", u.1), (Str.ofString "place", .int u.2)]) (by rw [← zipIdx_map']; exact Source.enumList (Ev.tyin rfl rfl rfl rfl (by kernel_rfl) (by kernel_rfl) rfl) (Ev.list (Evs.co rfl Ev.int (Evs.co rfl Ev.int (Evs.co rfl Ev.int Evs.nil))) rfl) hr.handled (fun _ => plain_any rfl) (fun _ => starEach_cons rfl)), by decide, by decide, rfl, by decide, by decide, ⟨rfl, rfl, .inl rfl, trivial⟩, rfl, fun _ _ => rfl, fold_plain rfl⟩ (fun cl C u hu => ?_)) rfl (.inr (show Str.ofString "heaps" ∈ ownL by decide)) ?_ rfl
  · exact Ev.binop (Ev.binop (Ev.name rfl rfl rfl) (Ev.callB (id := "sum") (Ev.bltin rfl rfl rfl rfl (by kernel_rfl) (by kernel_rfl) rfl) (Evs.co rfl (Ev.sliceStep (Ev.name rfl rfl rfl) (Ev.name rfl rfl rfl) Ev.int (by decide) (by lia) (fun _ _ => ⟨_, rfl⟩)) Evs.nil) (Op.sumI hr.handled) (fun _ => plain_any rfl)) Op.add) (Ev.binop Ev.int Ev.int (Op.pow (by decide) (by decide) (by decide))) (Op.fmod (by decide))
  · exact Runs.weak hrest fun x sv h => by
      have hm := mem_of_lookup h
      simp only [List.mem_cons, List.not_mem_nil, or_false, Prod.mk.injEq] at hm
      obtain ⟨rfl, rfl⟩ := hm
      rfl
end Mine
end
section
open PySem PySem.W PyProof.Rows
namespace Mine
open Float64
theorem step_facts {H share value : Nat} (hH : H < 1100) (hs : share ≤ 8) (hv : value ≤ 8) :
    ∃ sg m e a b d, decode (mul (div (ofInt H) fl48) fl6) = .fin sg m e ∧ truncOf sg m e = ((H / 8 : Nat) : Int) ∧ hsvL (div (ofInt H) fl48) (div (ofInt share) fl8) (div (ofInt value) fl8) ((H / 8 : Nat) : Int) = [a, b, d] ∧
      (cmpInt (mul fl8 (bestOf gtF a b d)) value != some .eq) = false ∧ (cmpInt (mul fl64 (bestOf ltF a b d)) ((value : Int) * (8 - share)) != some .eq) = false := by
  obtain ⟨sg, m, e, a, b, d, l0, l1, l2, h1, h2, h3, h4, e0, e1, e2⟩ := hsv_cols hH hs hv
  refine ⟨sg, m, e, a, b, d, h1, h2, h3, ?_, ?_⟩
  · have M := e0.max3 e1 e2
    rw [(hsv_max (by lia) (by lia) (by lia) (by lia) h4).1] at M
    have E := Ex.mul (r := (value : Int) * 1048576) (Ex.chk (show exB fl8 8388608 = true by decide +kernel)) M (by lia) (by lia)
    rw [E.cmpInt, compare_scale (by decide)]
    simp
  · have M := e0.min3 e1 e2
    rw [(hsv_max (by lia) (by lia) (by lia) (by lia) h4).2] at M
    have B := mulB (a := value) (A := 8) (b := 8 - (share : Int)) (B := 8) (by lia) (by lia) (by lia) (by lia)
    generalize (value : Int) * (8 - share) = z at *
    have E := Ex.mul (r := z * 1048576) (Ex.chk (show exB fl64 67108864 = true by decide +kernel)) M (by lia) (by lia)
    rw [E.cmpInt, compare_scale (by decide)]
    simp
end Mine
end
section
open PySem PySem.W PyProof.Rows
namespace Mine
noncomputable def sideN (h1 : Int) : Nat := (h1.fmod 2).toNat * 4 + 1
noncomputable def startN (h1 : Int) : Nat := ((h1.fdiv 2).fmod 96).toNat
noncomputable def shareN (h1 : Int) : Nat := ((h1.fdiv 192).fmod 9).toNat
noncomputable def valueN (h1 : Int) : Nat := ((h1.fdiv 1536).fmod 8).toNat + 1
theorem side_int (h1 : Int) : h1.fmod 2 * 4 + 1 = (sideN h1 : Int) := by have := fmod_lt (a := h1) (b := 2) (by decide); unfold sideN; lia
theorem start_int (h1 : Int) : (h1.fdiv 2).fmod 96 = (startN h1 : Int) := by have := fmod_lt (a := h1.fdiv 2) (b := 96) (by decide); unfold startN; lia
theorem share_int (h1 : Int) : (h1.fdiv 192).fmod 9 = (shareN h1 : Int) := by have := fmod_lt (a := h1.fdiv 192) (b := 9) (by decide); unfold shareN; lia
theorem value_int (h1 : Int) : (h1.fdiv 1536).fmod 8 + 1 = (valueN h1 : Int) := by have := fmod_lt (a := h1.fdiv 1536) (b := 8) (by decide); unfold valueN; lia
theorem side_is (h1 : Int) : sideN h1 = 1 ∨ sideN h1 = 5 := by have := fmod_lt (a := h1) (b := 2) (by decide); unfold sideN; lia
theorem start_lt (h1 : Int) : startN h1 < 96 := by have := fmod_lt (a := h1.fdiv 2) (b := 96) (by decide); unfold startN; lia
theorem share_le (h1 : Int) : shareN h1 ≤ 8 := by have := fmod_lt (a := h1.fdiv 192) (b := 9) (by decide); unfold shareN; lia
theorem value_le (h1 : Int) : 1 ≤ valueN h1 ∧ valueN h1 ≤ 8 := by have := fmod_lt (a := h1.fdiv 1536) (b := 8) (by decide); unfold valueN; lia
noncomputable def R0 (g l : List Nat) (r : Nat) (h0 h1 h2 : Int) : List (Str × SV) := [(Str.ofString "grown", .str (mkS g)), (Str.ofString "letters", .str (mkS l)), (Str.ofString "rounds", .int r), (Str.ofString "heaps", .lst [.int h0, .int h1, .int h2])]
noncomputable def R1 (g l : List Nat) (r : Nat) (side start share value : Nat) : List (Str × SV) := [(Str.ofString "share", .int share), (Str.ofString "value", .int value), (Str.ofString "side", .int side), (Str.ofString "start", .int start), (Str.ofString "grown", .str (mkS g)), (Str.ofString "letters", .str (mkS l)), (Str.ofString "rounds", .int r)]
theorem sides_ok {w : World} {A : Around} {Lc : Addr} {d : Nat} (hr : Room (cW w A Lc).A (d + 1)) {S : Side} {g l : List Nat} {r : Nat} {h0 h1 h2 : Int} {Φ : Flow → PM → Shared → Prop}
    (hrest : Runs (cW w A Lc) S ((Str.ofString "heading", .int (startN h1)) :: (Str.ofString "light", .lst [.flt 0, .flt 0, .flt 0]) :: R1 g l r (sideN h1) (startN h1) (shareN h1) (valueN h1)) (lawB.drop 18) Φ) :
    Runs (cW w A Lc) S (R0 g l r h0 h1 h2) (lawB.drop 15) Φ := by
  refine Runs.swap2 (Ev.tuple (Evs.co rfl (Ev.binop (Ev.binop (Ev.binop (Ev.subLst (Ev.name rfl rfl rfl) Ev.int (by decide) (by decide) rfl (sub_plain rfl)) Ev.int (Op.fmod (by decide))) Ev.int (Op.mul (mulR (by decide) (by decide)))) Ev.int Op.add) (Evs.co rfl (Ev.binop (Ev.binop (Ev.subLst (Ev.name rfl rfl rfl) Ev.int (by decide) (by decide) rfl (sub_plain rfl)) Ev.int (Op.fdiv (by decide) (PyProof.noPylong_small (by decide)))) Ev.int (Op.fmod (by decide))) Evs.nil)) rfl) hr.handled rfl (.inl rfl) (.inl rfl) ?_ rfl rfl
  rw [side_int, start_int]
  refine Runs.unpack2 (Ev.tuple (Evs.co rfl (Ev.binop (Ev.binop (Ev.subLst (Ev.name rfl rfl rfl) Ev.int (by decide) (by decide) rfl (sub_plain rfl)) Ev.int (Op.fdiv (by decide) (PyProof.noPylong_small (by decide)))) Ev.int (Op.fmod (by decide))) (Evs.co rfl (Ev.binop (Ev.binop (Ev.binop (Ev.subLst (Ev.name rfl rfl rfl) Ev.int (by decide) (by decide) rfl (sub_plain rfl)) Ev.int (Op.fdiv (by decide) (PyProof.noPylong_small (by decide)))) Ev.int (Op.fmod (by decide))) Ev.int Op.add) Evs.nil)) rfl) hr.handled rfl (.inr (show Str.ofString "share" ∈ ownL by decide)) (.inr (show Str.ofString "value" ∈ ownL by decide)) ?_ rfl rfl
  rw [share_int, value_int]
  refine Runs.unpack2 (Ev.tuple (Evs.co rfl (Ev.name rfl rfl rfl) (Evs.co rfl (Ev.list (Evs.co rfl Ev.flt (Evs.co rfl Ev.flt (Evs.co rfl Ev.flt Evs.nil))) rfl) Evs.nil)) rfl) hr.handled rfl (.inl rfl) (.inr (show Str.ofString "light" ∈ ownL by decide)) ?_ rfl rfl
  refine Runs.weak hrest fun x sv h => ?_
  have hm := mem_of_lookup h
  unfold R1 at hm
  simp only [List.mem_cons, List.not_mem_nil, or_false, Prod.mk.injEq] at hm
  rcases hm with ⟨rfl, rfl⟩ | ⟨rfl, rfl⟩ | ⟨rfl, rfl⟩ | ⟨rfl, rfl⟩ | ⟨rfl, rfl⟩ | ⟨rfl, rfl⟩ | ⟨rfl, rfl⟩ | ⟨rfl, rfl⟩ | ⟨rfl, rfl⟩ <;> rfl
end Mine
end
section
open PySem PySem.W PyProof.Rows
namespace Mine
open Float64 in
noncomputable def litStep (side share value : Nat) (st : Nat × List UInt64) (c : Nat) : Nat × List UInt64 :=
  if c = 104 then (st.1, (List.range 3).map fun k => add (st.2.getD k 0) ((hsvL (div (ofInt st.1) fl48) (div (ofInt share) fl8) (div (ofInt value) fl8) ((st.1 / 8 : Nat) : Int)).getD k 0)) else (st.1 + 8 * side, st.2)
noncomputable def litAt (side share value start : Nat) (l : List Nat) : Nat × List UInt64 := l.foldl (litStep side share value) (start, [0, 0, 0])
noncomputable def pc : List Nat → Nat
  | [] => 0
  | c :: l => (if c = 104 then 0 else 1) + pc l
theorem pc_cons (c : Nat) (l : List Nat) : pc (c :: l) = (if c = 104 then 0 else 1) + pc l := rfl
theorem h_str : Str.ofString "h" = ⟨#[104]⟩ := by rfl
theorem pc_app : ∀ a b : List Nat, pc (a ++ b) = pc a + pc b
  | [], b => by simp [pc]
  | c :: a, b => by rw [List.cons_append, pc_cons, pc_cons, pc_app a b]; lia
theorem pc_take (l : List Nat) (i : Nat) : pc (l.take i) ≤ pc l := by
  have := pc_app (l.take i) (l.drop i)
  rw [List.take_append_drop] at this
  lia
theorem lit_heading (side share value : Nat) : ∀ (l : List Nat) (st : Nat × List UInt64), (l.foldl (litStep side share value) st).1 = st.1 + 8 * side * pc l
  | [], st => by simp [pc]
  | c :: l, st => by
    rw [List.foldl_cons, lit_heading side share value l, pc_cons]
    unfold litStep
    by_cases q : c = 104
    · simp [q]
    · simp only [q, if_false]; rw [Nat.mul_add, Nat.mul_one]; lia
theorem lit_len (side share value : Nat) : ∀ (l : List Nat) (st : Nat × List UInt64), st.2.length = 3 → (l.foldl (litStep side share value) st).2.length = 3
  | [], st, h => h
  | c :: l, st, h => by
    rw [List.foldl_cons]
    refine lit_len side share value l _ ?_
    unfold litStep
    by_cases q : c = 104
    · simp [q]
    · simp only [q, if_false]; exact h
theorem lit_next (side share value start : Nat) {l : List Nat} {i c : Nat} (h : l[i]? = some c) : litAt side share value start (l.take (i + 1)) = litStep side share value (litAt side share value start (l.take i)) c := by
  unfold litAt
  rw [List.take_add_one, h, Option.toList_some, List.foldl_append]
  rfl
noncomputable def RL (g l : List Nat) (r : Nat) (side start share value : Nat) (st : Nat × List UInt64) : List (Str × SV) := (Str.ofString "heading", .int st.1) :: (Str.ofString "light", .lst (st.2.map .flt)) :: R1 g l r side start share value
theorem three_of {α : Type} {l : List α} (h : l.length = 3) : ∃ a b c, l = [a, b, c] := by
  match l, h with
  | [a, b, c], _ => exact ⟨a, b, c, rfl⟩
theorem noInf_int {H : Nat} (h : H ≤ 1000000) : Float64.isInf (Float64.ofInt (H : Int)) = false := noInf_fin (Ex.int (by lia)).1
open Float64 in
theorem lights_ok {w : World} {A : Around} {Lc : Addr} {d : Nat} (hr : Room (cW w A Lc).A (d + 1)) {S : Side} {g l : List Nat} {r side start share value : Nat} {Φ : Flow → PM → Shared → Prop}
    (hs1 : side ≤ 5) (hs2 : start < 96) (hs3 : share ≤ 8) (hs4 : value ≤ 8) (hp : pc g ≤ 24)
    (hrest : Runs (cW w A Lc) S (RL g l r side start share value (litAt side share value start g)) (lawB.drop 19) Φ) :
    Runs (cW w A Lc) S (RL g l r side start share value (start, [0, 0, 0])) (lawB.drop 18) Φ := by
  refine Runs.for (U := S.U) (P := fun _ => S.P) (fun _ => S.held) (ρs := fun i => RL g l r side start share value (litAt side share value start (g.take i))) (xs := (mkS g).cps.toList) (b := fun cp => [(Str.ofString "letter", .str ⟨#[cp]⟩)]) (Source.str (x := mkS g) (Ev.name rfl rfl rfl) hr.handled) (fun x hx => by rw [List.mem_singleton.mp hx]; rfl) rfl (fun i x hx => ?_) (by rw [mkS_list, List.take_length]; exact hrest)
  rw [mkS_list] at hx
  have hnext := lit_next side share value start hx
  have hH : (litAt side share value start (g.take i)).1 < 1100 := by
    unfold litAt
    rw [lit_heading]
    have := pc_take g i
    have : 8 * side * pc (g.take i) ≤ 40 * 24 := Nat.mul_le_mul (by lia) (by lia)
    show start + _ < 1100
    lia
  have hlen : (litAt side share value start (g.take i)).2.length = 3 := lit_len side share value _ _ rfl
  rw [hnext]
  generalize litAt side share value start (g.take i) = st at *
  obtain ⟨H, fs⟩ := st
  obtain ⟨f0, f1', f2', rfl⟩ := three_of hlen
  have hH : H < 1100 := hH
  obtain ⟨sg, m, e, a, b, dd, hd, ht, hl, c1, c2⟩ := step_facts hH hs3 hs4
  refine Runs.ite (EvT.compare (Ev.name rfl rfl rfl) Ev.str Op.eqStr rfl) (fun hc => ?_) (fun hc => ?_)
  · have hx104 : x = 104 := by
      have := eq_of_beq hc
      rw [h_str] at this
      injection this with this
      have := congrArg Array.toList this
      simpa using this
    have hstep : litStep side share value (H, [f0, f1', f2']) x = (H, (List.range 3).map fun k => add ([f0, f1', f2'].getD k 0) ([a, b, dd].getD k 0)) := by
      unfold litStep; rw [if_pos hx104, hl]
    rw [hstep]
    have hok := hsv_ok w d (div (ofInt (H : Int)) fl48) (div (ofInt (share : Int)) fl8) (div (ofInt (value : Int)) fl8) sg m e hd (by rw [ht]; exact noInf_int (by lia))
    rw [ht, hl] at hok
    refine Runs.set (sv := .tup [.flt a, .flt b, .flt dd]) (Ev.callF (a := 70) (o := ob70 w.params) (Ev.glob rfl rfl rfl (by kernel_rfl) rfl) (Evs.co rfl (Ev.binop (Ev.name rfl rfl rfl) Ev.flt (Op.divIF (noInf_int (by lia)) (by decide +kernel))) (Evs.co rfl (Ev.binop (Ev.name rfl rfl rfl) Ev.flt (Op.divIF (noInf_int (by lia)) (by decide +kernel))) (Evs.co rfl (Ev.binop (Ev.name rfl rfl rfl) Ev.flt (Op.divIF (noInf_int (by lia)) (by decide +kernel))) Evs.nil))) hr (by kernel_rfl) rfl hok (fun _ => plain_any rfl)) rfl (.inr (show Str.ofString "step" ∈ ownL by decide)) ?_ (swaps_plain rfl)
    refine Runs.ite (d := false) (EvT.or2 (EvT.compare (Ev.binop Ev.flt (Ev.callB (id := "max") (Ev.bltin rfl rfl rfl rfl (by kernel_rfl) (by kernel_rfl) rfl) (Evs.co rfl (Ev.name rfl rfl rfl) Evs.nil) (Op.maxTup hr.handled) (fun _ => plain_any rfl)) Op.mulF) (Ev.name rfl rfl rfl) (by rw [← c1]; exact Op.neFI) rfl)
      (EvT.compare (Ev.binop Ev.flt (Ev.callB (id := "min") (Ev.bltin rfl rfl rfl rfl (by kernel_rfl) (by kernel_rfl) rfl) (Evs.co rfl (Ev.name rfl rfl rfl) Evs.nil) (Op.minTup hr.handled) (fun _ => plain_any rfl)) Op.mulF) (Ev.binop (Ev.name rfl rfl rfl) (Ev.binop Ev.int (Ev.name rfl rfl rfl) Op.sub) (Op.mul (mulL (by lia) (by lia)))) (by rw [← c2]; exact Op.neFI) rfl)) (fun q => by cases q) (fun _ => ?_)
    refine Runs.set (sv := .lst ((List.range 3).map fun k => .flt (add ([f0, f1', f2'].getD k 0) ([a, b, dd].getD k 0)))) (Ev.comp0 (ρ' := [(Str.ofString "light", .lst [.flt f0, .flt f1', .flt f2']), (Str.ofString "step", .tup [.flt a, .flt b, .flt dd])])
      ⟨Source.range (n := 3) (Ev.tyin rfl rfl rfl rfl (by kernel_rfl) (by kernel_rfl) rfl) Ev.int (by decide) hr.handled (fun _ => plain_any rfl) (fun _ => starEach_cons rfl), by decide, by decide, rfl, by decide, by decide, ⟨rfl, rfl, .inl rfl, rfl, rfl, .inl rfl, trivial⟩, rfl, fun _ _ => rfl, fold_plain rfl⟩ (fun cl C k hk => ?_)) rfl (.inr (show Str.ofString "light" ∈ ownL by decide)) ?_ rfl
    · have hk3 : k < 3 := List.mem_range.mp hk
      refine Ev.binop (Ev.subLst (sv := .flt ([f0, f1', f2'].getD k 0)) (Ev.name rfl rfl rfl) (Ev.name rfl rfl rfl) (by lia) (by lia) ?_ (sub_plain rfl)) (Ev.subTup (sv := .flt ([a, b, dd].getD k 0)) (Ev.name rfl rfl rfl) (Ev.name rfl rfl rfl) (by lia) (by lia) ?_ (sub_plain rfl)) Op.addF
      · rw [Int.toNat_natCast]
        have : k = 0 ∨ k = 1 ∨ k = 2 := by lia
        rcases this with rfl | rfl | rfl <;> rfl
      · rw [Int.toNat_natCast]
        have : k = 0 ∨ k = 1 ∨ k = 2 := by lia
        rcases this with rfl | rfl | rfl <;> rfl
    · refine Runs.nil fun F s hf hp => ⟨rfl, hf.sub fun y sy h => ?_, hp⟩
      have hm := mem_of_lookup h
      unfold RL R1 at hm
      simp only [List.mem_cons, List.not_mem_nil, or_false, Prod.mk.injEq] at hm
      rcases hm with ⟨rfl, rfl⟩ | ⟨rfl, rfl⟩ | ⟨rfl, rfl⟩ | ⟨rfl, rfl⟩ | ⟨rfl, rfl⟩ | ⟨rfl, rfl⟩ | ⟨rfl, rfl⟩ | ⟨rfl, rfl⟩ | ⟨rfl, rfl⟩ <;> rfl
  · have hx104 : ¬ x = 104 := by
      rintro rfl
      revert hc
      decide
    have hstep : litStep side share value (H, [f0, f1', f2']) x = (H + 8 * side, [f0, f1', f2']) := by
      unfold litStep; rw [if_neg hx104]
    rw [hstep]
    refine Runs.set (Ev.binop (Ev.name rfl rfl rfl) (Ev.binop Ev.int (Ev.name rfl rfl rfl) (Op.mul (mulL (by decide) (by decide)))) Op.add) rfl (.inl rfl) ?_ (swaps_plain rfl)
    refine Runs.nil fun F s hf hp => ⟨rfl, hf.sub fun y sy h => ?_, hp⟩
    have hm := mem_of_lookup h
    unfold RL R1 at hm
    simp only [List.mem_cons, List.not_mem_nil, or_false, Prod.mk.injEq] at hm
    rcases hm with ⟨rfl, rfl⟩ | ⟨rfl, rfl⟩ | ⟨rfl, rfl⟩ | ⟨rfl, rfl⟩ | ⟨rfl, rfl⟩ | ⟨rfl, rfl⟩ | ⟨rfl, rfl⟩ | ⟨rfl, rfl⟩ | ⟨rfl, rfl⟩ <;> rfl
end Mine
end
section
open PySem PySem.W PyProof.Rows
namespace Mine
noncomputable def leadsL (r : Nat) : List (Int × Int) := match r with
  | 0 => [(1, 0), (0, 0)]
  | 1 => [(1, 0), (0, 1)]
  | 2 => [(0, 1), (0, 2)]
  | 3 => [(-2, 1), (-1, 2)]
  | 4 => [(0, 0), (0, 3)]
  | _ => [(-3, 0), (0, 3)]
noncomputable def ptS (p : Int × Int) : SV := .tup [.int p.1, .int p.2]
theorem leads_ok (w : World) (d r : Nat) (h5 : r ≤ 5) : PureFn (KF w.params) PG w (d + 1) 184 [.int r] (.lst ((leadsL r).map ptS)) := by
  have five : r = 0 ∨ r = 1 ∨ r = 2 ∨ r = 3 ∨ r = 4 ∨ r = 5 := by lia
  refine PureFn.of_body (d := d) (o := ob184 w.params) (names := [Str.ofString "rounds"]) (by kernel_rfl) rfl rfl rfl (by kernel_rfl) (by kernel_rfl) (by kernel_rfl) (bind1 fun _ => rfl) (by decide +kernel) (by decide +kernel) (by decide +kernel) rfl rfl rfl (fun A L hr => ?_)
  refine Runs.ite (EvT.compare (Ev.name rfl rfl rfl) Ev.int Op.lt rfl) (fun hd => ?_) (fun hd => ?_)
  · have hd : (r : Int) < 2 := of_decide_eq_true hd
    refine Runs.ret' (Ev.list (Evs.co rfl (Ev.tuple (Evs.co rfl Ev.int (Evs.co rfl Ev.int Evs.nil)) rfl) (Evs.co rfl (Ev.tuple (Evs.co rfl Ev.int (Evs.co rfl (Ev.name rfl rfl rfl) Evs.nil)) rfl) Evs.nil)) rfl) ?_
    have : r = 0 ∨ r = 1 := by lia
    rcases this with rfl | rfl <;> rfl
  · have hd : ¬ (r : Int) < 2 := of_decide_eq_false hd
    refine Runs.swap2 (Ev.tuple (Evs.co rfl (Ev.binop (Ev.binop Ev.int (Ev.binop Ev.int (Ev.binop (Ev.binop (Ev.name rfl rfl rfl) Ev.int (Op.fdiv (by decide) (PyProof.noPylong_small (by decide)))) Ev.int Op.sub) (Op.pow ?_ ?_ ?_)) Op.sub) Ev.int (Op.fdiv (by decide) (PyProof.noPylong_small (by decide)))) (Evs.co rfl (Ev.binop (Ev.binop Ev.int (Ev.binop Ev.int (Ev.binop (Ev.binop (Ev.name rfl rfl rfl) Ev.int (Op.fdiv (by decide) (PyProof.noPylong_small (by decide)))) Ev.int Op.sub) (Op.pow ?_ ?_ ?_)) Op.add) Ev.int (Op.fdiv (by decide) (PyProof.noPylong_small (by decide)))) Evs.nil)) rfl) hr.handled rfl (.inl rfl) (.inl rfl) ?_ rfl rfl
    · rcases five with rfl | rfl | rfl | rfl | rfl | rfl <;> first | decide | (exfalso; revert hd; decide)
    · rcases five with rfl | rfl | rfl | rfl | rfl | rfl <;> decide
    · decide
    · rcases five with rfl | rfl | rfl | rfl | rfl | rfl <;> first | decide | (exfalso; revert hd; decide)
    · rcases five with rfl | rfl | rfl | rfl | rfl | rfl <;> decide
    · decide
    refine Runs.ret' (Ev.ifV (EvT.compare (Ev.binop (Ev.name rfl rfl rfl) Ev.int (Op.fmod (by decide))) Ev.int Op.eq rfl) (fun hc => (Ev.list (Evs.co rfl (Ev.tuple (Evs.co rfl (Ev.unop (Ev.name rfl rfl rfl) Op.neg) (Evs.co rfl (Ev.name rfl rfl rfl) Evs.nil)) rfl) (Evs.co rfl (Ev.tuple (Evs.co rfl (Ev.unop (Ev.name rfl rfl rfl) Op.neg) (Evs.co rfl (Ev.name rfl rfl rfl) Evs.nil)) rfl) Evs.nil)) rfl)) (fun hc => (Ev.list (Evs.co rfl (Ev.tuple (Evs.co rfl Ev.int (Evs.co rfl (Ev.name rfl rfl rfl) Evs.nil)) rfl) (Evs.co rfl (Ev.tuple (Evs.co rfl Ev.int (Evs.co rfl (Ev.name rfl rfl rfl) Evs.nil)) rfl) Evs.nil)) rfl))) ?_
    rcases five with rfl | rfl | rfl | rfl | rfl | rfl
    · exact absurd (by decide) hd
    · exact absurd (by decide) hd
    · rfl
    · rfl
    · rfl
    · rfl
end Mine
end
section
open PySem PySem.W PyProof.Rows
namespace Mine
theorem Op.gt {c : Cx} {a b : Int} : Op c (fun vs => compareOp .Gt (vs.getD 0 .none) (vs.getD 1 .none)) [.int a, .int b] (.bool (decide (b < a))) := Op.ints fun s x y Q E h => PyProof.Rows.gt_int (h _ s.toks fun _ => VR.bool)
noncomputable def rotI (p : Int × Int) : Int × Int := (-p.2, p.1 + p.2)
noncomputable def rotN : Nat → Int × Int → Int × Int
  | 0, p => p
  | n + 1, p => rotI (rotN n p)
noncomputable def hpI (c : Nat) : Nat := if c = 104 then 0 else 1
noncomputable def turnC (r c : Nat) : Nat := if r = 0 then hpI c else 2 ^ (r - 1)
structure Tur where
  x : Int
  y : Int
  t : Nat
noncomputable def leadC (r c : Nat) : Int × Int := (leadsL r).getD (hpI c) (0, 0)
noncomputable def turStep (r : Nat) (s : Tur) (c : Nat) : Tur := ⟨s.x + (rotN (s.t % 6) (leadC r c)).1, s.y + (rotN (s.t % 6) (leadC r c)).2, s.t + turnC r c⟩
noncomputable def turAt (r : Nat) (l : List Nat) : Tur := l.foldl (turStep r) ⟨0, 0, 0⟩
theorem tur_next (r : Nat) {l : List Nat} {i c : Nat} (h : l[i]? = some c) : turAt r (l.take (i + 1)) = turStep r (turAt r (l.take i)) c := by
  unfold turAt
  rw [List.take_add_one, h, Option.toList_some, List.foldl_append]
  rfl
theorem leads_len {r : Nat} (h : r ≤ 5) : (leadsL r).length = 2 := by
  have : r = 0 ∨ r = 1 ∨ r = 2 ∨ r = 3 ∨ r = 4 ∨ r = 5 := by lia
  rcases this with rfl | rfl | rfl | rfl | rfl | rfl <;> rfl
theorem hp_at {c : Nat} (h : c = 104 ∨ c = 112) : ∃ rest, Builtin.Str.occurrences (Str.ofString "hp") ⟨#[c]⟩ 0 (Str.ofString "hp").length 1 = hpI c :: rest := by
  rcases h with rfl | rfl
  · exact ⟨[], by decide +kernel⟩
  · exact ⟨[], by decide +kernel⟩
noncomputable def RTu (ρ : List (Str × SV)) (s : Tur) : List (Str × SV) := (Str.ofString "turned", .int s.t) :: (Str.ofString "aside", .int s.y) :: (Str.ofString "ahead", .int s.x) :: ρ
theorem turtle_ok {w : World} {A : Around} {Lc : Addr} {d : Nat} (hr : Room (cW w A Lc).A (d + 1)) {S : Side} {g l : List Nat} {r side start share value : Nat} {st : Nat × List UInt64} {Φ : Flow → PM → Shared → Prop}
    (hr5 : r ≤ 5) (hl : ∀ x ∈ l, x = 104 ∨ x = 112)
    (hrest : Runs (cW w A Lc) S (RTu (RL g l r side start share value st) (turAt r l)) (lawB.drop 21) Φ) :
    Runs (cW w A Lc) S (RL g l r side start share value st) (lawB.drop 19) Φ := by
  refine Runs.unpack3 (Ev.tuple (Evs.co rfl Ev.int (Evs.co rfl Ev.int (Evs.co rfl Ev.int Evs.nil))) rfl) hr.handled rfl (.inr (show Str.ofString "ahead" ∈ ownL by decide)) (.inr (show Str.ofString "aside" ∈ ownL by decide)) (.inl rfl) ?_ rfl rfl
  refine Runs.for (U := S.U) (P := fun _ => S.P) (fun _ => S.held) (ρs := fun i => RTu (RL g l r side start share value st) (turAt r (l.take i))) (xs := (mkS l).cps.toList) (b := fun cp => [(Str.ofString "letter", .str ⟨#[cp]⟩)]) (Source.str (x := mkS l) (Ev.name rfl rfl rfl) hr.handled) (fun x hx => by rw [List.mem_singleton.mp hx]; rfl) rfl (fun i x hx => ?_) (by rw [mkS_list, List.take_length]; exact hrest)
  rw [mkS_list] at hx
  have hxl := hl x (List.mem_of_getElem? hx)
  have hnext := tur_next r hx
  rw [hnext]
  generalize turAt r (l.take i) = s at *
  obtain ⟨x0, y0, t⟩ := s
  rw [show turStep r ⟨x0, y0, t⟩ x = ⟨x0 + (rotN (t % 6) (leadC r x)).1, y0 + (rotN (t % 6) (leadC r x)).2, t + turnC r x⟩ from rfl]
  obtain ⟨occ, hocc⟩ := hp_at hxl
  have hlead : ((leadsL r).map ptS)[hpI x]? = some (.tup [.int (leadC r x).1, .int (leadC r x).2]) := by
    have h2 := leads_len hr5
    unfold leadC
    have : r = 0 ∨ r = 1 ∨ r = 2 ∨ r = 3 ∨ r = 4 ∨ r = 5 := by lia
    rcases hxl with rfl | rfl <;> rcases this with rfl | rfl | rfl | rfl | rfl | rfl <;> rfl
  have hidx : ∀ {c : Cx} {ρ : List (Str × SV)} {p1 p2 p3 p4 : Pos} {k : Nat}, c.env.scope.kind = .function → ρ.lookup (Str.ofString "letter") = some (.str ⟨#[x]⟩) → (p2.endLine == p4.line) = true → Ev c ρ (.Call (.Attribute (.Constant (.str (Str.ofString "hp")) k p1) (Str.ofString "index") p2) [.Name (Str.ofString "letter") p3] [] p4) (.int (hpI x)) := fun hk hlk hline =>
    Ev.meth Ev.str (Evs.co rfl (Ev.name hk hlk rfl) Evs.nil) PySem.F.plainAttrs_str PySem.F.slot_str_index PySem.F.type_str_index strT (Op.index hocc) (attr_plain rfl) (plain_few rfl rfl) hline (fun _ => plain_any rfl)
  have hpx : hpI x < 2 := by unfold hpI; split <;> lia
  refine Runs.unpack2 (a := .int (leadC r x).1) (b := .int (leadC r x).2) (Ev.subLst (Ev.callF (a := 184) (o := ob184 w.params) (Ev.glob rfl rfl rfl (by kernel_rfl) rfl) (Evs.co rfl (Ev.name rfl rfl rfl) Evs.nil) hr (by kernel_rfl) rfl (leads_ok w d r hr5) (fun _ => plain_any rfl)) (hidx rfl rfl rfl) (by lia) (by lia) (by rw [Int.toNat_natCast]; exact hlead) (sub_plain rfl)) hr.handled rfl (.inl rfl) (.inl rfl) ?_ rfl rfl
  generalize leadC r x = q at *
  refine Runs.for (U := S.U) (P := fun _ => S.P) (fun _ => S.held) (ρs := fun j => (Str.ofString "y", .int (rotN j q).2) :: (Str.ofString "x", .int (rotN j q).1) :: (Str.ofString "letter", .str ⟨#[x]⟩) :: RTu (RL g l r side start share value st) ⟨x0, y0, t⟩) (xs := List.range (t % 6)) (b := fun k => [(Str.ofString "turn", .int k)])
    (Source.range (n := t % 6) (Ev.tyin rfl rfl rfl rfl (by kernel_rfl) (by kernel_rfl) rfl) (by rw [show ((t % 6 : Nat) : Int) = (t : Int).fmod 6 from by rw [Int.fmod_eq_emod_of_nonneg _ (by decide)]; lia]; exact Ev.binop (Ev.name rfl rfl rfl) Ev.int (Op.fmod (by decide))) (by lia) hr.handled (fun _ => plain_any rfl) (fun _ => starEach_cons rfl)) (fun x hx => by rw [List.mem_singleton.mp hx]; rfl) rfl (fun j k hk => ?_) ?_
  · refine Runs.swap2 (Ev.tuple (Evs.co rfl (Ev.unop (Ev.name rfl rfl rfl) Op.neg) (Evs.co rfl (Ev.binop (Ev.name rfl rfl rfl) (Ev.name rfl rfl rfl) Op.add) Evs.nil)) rfl) hr.handled rfl (.inl rfl) (.inl rfl) ?_ rfl rfl
    refine Runs.nil fun F s hf hp => ⟨rfl, hf.sub fun y sy h => ?_, hp⟩
    have hm := mem_of_lookup h
    unfold RTu RL R1 at hm
    simp only [List.mem_cons, List.not_mem_nil, or_false, Prod.mk.injEq] at hm
    rcases hm with ⟨rfl, rfl⟩ | ⟨rfl, rfl⟩ | ⟨rfl, rfl⟩ | ⟨rfl, rfl⟩ | ⟨rfl, rfl⟩ | ⟨rfl, rfl⟩ | ⟨rfl, rfl⟩ | ⟨rfl, rfl⟩ | ⟨rfl, rfl⟩ | ⟨rfl, rfl⟩ | ⟨rfl, rfl⟩ | ⟨rfl, rfl⟩ | ⟨rfl, rfl⟩ | ⟨rfl, rfl⟩ | ⟨rfl, rfl⟩ <;> rfl
  rw [List.length_range]
  refine Runs.unpack2 (Ev.tuple (Evs.co rfl (Ev.binop (Ev.name rfl rfl rfl) (Ev.name rfl rfl rfl) Op.add) (Evs.co rfl (Ev.binop (Ev.name rfl rfl rfl) (Ev.name rfl rfl rfl) Op.add) Evs.nil)) rfl) hr.handled rfl (.inr (show Str.ofString "ahead" ∈ ownL by decide)) (.inr (show Str.ofString "aside" ∈ ownL by decide)) ?_ rfl rfl
  refine Runs.set (sv := .int ((t : Int) + (turnC r x : Nat))) (Ev.binop (b := .int (turnC r x : Nat)) (Ev.name rfl rfl rfl) (Ev.ifexp (d := decide (0 < r)) (by
    have z := Op.gt (c := cW w A Lc) (a := (r : Int)) (b := 0)
    rw [show decide ((0 : Int) < (r : Int)) = decide (0 < r) from decide_eq_decide.mpr (by lia)] at z
    exact EvT.compare (Ev.name rfl rfl rfl) Ev.int z rfl) (fun hd => ?_) (fun hd => ?_)) Op.add) rfl (.inl rfl) ?_ (swaps_plain rfl)
  · have hd : 0 < r := of_decide_eq_true hd
    rw [show ((turnC r x : Nat) : Int) = 2 ^ (((r : Int) - 1).toNat) from by unfold turnC; rw [if_neg (by lia), show ((r : Int) - 1).toNat = r - 1 by lia]; simp]
    exact Ev.binop Ev.int (Ev.binop (Ev.name rfl rfl rfl) Ev.int Op.sub) (Op.pow (by lia) (by lia) (by decide))
  · have hd : r = 0 := by have := of_decide_eq_false hd; lia
    rw [show turnC r x = hpI x from by unfold turnC; rw [if_pos hd]]
    exact hidx rfl rfl rfl
  · refine Runs.nil fun F s hf hp => ⟨rfl, hf.sub fun y sy h => ?_, hp⟩
    have hm := mem_of_lookup h
    unfold RTu RL R1 at hm
    simp only [List.mem_cons, List.not_mem_nil, or_false, Prod.mk.injEq] at hm
    rcases hm with ⟨rfl, rfl⟩ | ⟨rfl, rfl⟩ | ⟨rfl, rfl⟩ | ⟨rfl, rfl⟩ | ⟨rfl, rfl⟩ | ⟨rfl, rfl⟩ | ⟨rfl, rfl⟩ | ⟨rfl, rfl⟩ | ⟨rfl, rfl⟩ | ⟨rfl, rfl⟩ | ⟨rfl, rfl⟩ | ⟨rfl, rfl⟩ <;> rfl
end Mine
end
section
open PySem PySem.W PyProof.Rows
namespace Mine
noncomputable def modI (S : Int) : Int := if 1 > 6 * S then 1 else 6 * S
noncomputable def absI (z : Int) : Int := if z < 0 then -z else z
noncomputable def wayI (S place c : Int) : Int := absI ((place - 2 * S * c + 3 * S).fmod (modI S) - 3 * S)
noncomputable def minI (a b : Int) : Int := if b < a then b else a
noncomputable def maxI (a b : Int) : Int := if b > a then b else a
noncomputable def toldI (S w : Int) : Int := maxI 0 (minI S (2 * S - w))
noncomputable def posI (e : Int) : Int := if e < 0 then 0 else e
theorem fmod_at {X M q r : Int} (h0 : 0 ≤ r) (h1 : r < M) (e : X = r + M * q) : X.fmod M = r := by
  rw [Int.fmod_eq_emod_of_nonneg _ (by clear e; lia), e, Int.add_mul_emod_self_left, Int.emod_eq_of_lt h0 h1]
theorem told_z {Z D T : Int} (h : (0 ≤ D ∧ 2 * D ≤ Z ∧ Z ≤ 4 * D ∧ T = D) ∨ (0 ≤ D ∧ D ≤ Z ∧ Z ≤ 2 * D ∧ T = Z - D) ∨ (0 ≤ D ∧ Z ≤ D ∧ T = 0) ∨ (0 ≤ D ∧ 4 * D ≤ Z ∧ Z ≤ 5 * D ∧ T = 5 * D - Z) ∨ (0 ≤ D ∧ 5 * D ≤ Z ∧ T = 0)) :
    toldI (D * 1048576) (absI (Z * 1048576 - 3 * (D * 1048576))) = 1048576 * T := by
  unfold toldI maxI minI absI
  rcases h with h | h | h | h | h <;> (repeat' split) <;> lia
theorem way_at {place D N j c k Z : Int} (hD : 0 < D) (hp : place = (N + 6 * D * j) * 1048576) (h0 : 0 ≤ Z) (h1 : Z < 6 * D) (hz : Z = N + 3 * D - 2 * D * c - 6 * D * k) :
    wayI (D * 1048576) place c = absI (Z * 1048576 - 3 * (D * 1048576)) := by
  have hm : modI (D * 1048576) = 6 * (D * 1048576) := by unfold modI; rw [if_neg (by clear hp hz h0 h1; lia)]
  unfold wayI
  rw [hm, fmod_at (q := j + k) (r := Z * 1048576) (by clear hp hz h1; lia) (by clear hp hz h0; lia) (by rw [hp, hz]; grind)]
section
variable {place D j e : Int}
theorem told0 {b : Int} (hD : 0 < D) (h1 : -D ≤ e) (h2 : e ≤ D) (hp : place = (2 * D * b + e + 6 * D * j) * 1048576) : toldI (D * 1048576) (wayI (D * 1048576) place b) = 1048576 * D := by
  rw [way_at (N := 2 * D * b + e) (Z := e + 3 * D) (k := 0) hD hp (by clear hp; lia) (by clear hp; lia) (by grind)]
  exact told_z (.inl ⟨by clear hp; lia, by clear hp; lia, by clear hp; lia, rfl⟩)
theorem told1 {b c k : Int} (hD : 0 < D) (h1 : -D ≤ e) (h2 : e ≤ D) (hp : place = (2 * D * b + e + 6 * D * j) * 1048576) (hc : c = b + 1 + 3 * k) : toldI (D * 1048576) (wayI (D * 1048576) place c) = 1048576 * posI e := by
  rw [way_at (N := 2 * D * b + e) (Z := e + D) (k := -k) hD hp (by clear hp; lia) (by clear hp; lia) (by rw [hc]; grind)]
  clear hp hc
  refine told_z ?_
  unfold posI
  split
  · exact .inr (.inr (.inl ⟨by lia, by lia, rfl⟩))
  · exact .inr (.inl ⟨by lia, by lia, by lia, by lia⟩)
theorem told2 {b c k : Int} (hD : 0 < D) (h1 : -D ≤ e) (h2 : e ≤ D) (hp : place = (2 * D * b + e + 6 * D * j) * 1048576) (hc : c = b + 2 + 3 * k) : toldI (D * 1048576) (wayI (D * 1048576) place c) = 1048576 * posI (-e) := by
  by_cases q : e = D
  · rw [way_at (N := 2 * D * b + e) (Z := 0) (k := -k) hD hp (Int.le_refl _) (by clear hp; lia) (by rw [hc, q]; grind)]
    have t : posI (-e) = 0 := by unfold posI; rw [if_pos (by clear hp hc; lia)]
    rw [t]
    exact told_z (.inr (.inr (.inl ⟨Int.le_of_lt hD, Int.le_of_lt hD, rfl⟩)))
  · rw [way_at (N := 2 * D * b + e) (Z := e + 5 * D) (k := -1 - k) hD hp (by clear hp hc; lia) (by clear hp hc; lia) (by rw [hc]; grind)]
    clear hp hc
    refine told_z ?_
    unfold posI
    split
    · exact .inr (.inr (.inr (.inr ⟨by lia, by lia, rfl⟩)))
    · exact .inr (.inr (.inr (.inl ⟨by lia, by lia, by lia, by lia⟩)))
end
theorem low_two {y z m : Int} (h : m = y ∨ m = z) (h1 : m ≤ y) (h2 : m ≤ z) : posI (y - z) = y - m ∧ posI (-(y - z)) = z - m := by
  unfold posI
  rcases h with rfl | rfl <;> constructor <;> split <;> lia
theorem low_of {x y z M m : Int} (h : m = x ∨ m = y ∨ m = z) (hx : x = M) (hm : m < M) : m = y ∨ m = z := h.elim (fun e => absurd (e.trans hx) (Int.ne_of_lt hm)) id
theorem told_back {x y z place : Int} (h : PlaceOf x y z place) :
    toldI ((max3 x y z - min3 x y z) * 1048576) (wayI ((max3 x y z - min3 x y z) * 1048576) place 0) = 1048576 * (x - min3 x y z) ∧
    toldI ((max3 x y z - min3 x y z) * 1048576) (wayI ((max3 x y z - min3 x y z) * 1048576) place 1) = 1048576 * (y - min3 x y z) ∧
    toldI ((max3 x y z - min3 x y z) * 1048576) (wayI ((max3 x y z - min3 x y z) * 1048576) place 2) = 1048576 * (z - min3 x y z) := by
  obtain ⟨B1, B2, B3, B4, B5, B6, B7, B8⟩ := max3_bounds x y z
  unfold PlaceOf at h
  generalize max3 x y z = M at *
  generalize min3 x y z = m at *
  rcases h with ⟨e, rfl⟩ | ⟨hlt, N, hp, hN⟩
  · subst e
    have e0 : (M - M) * 1048576 = 0 := by rw [Int.sub_self, Int.zero_mul]
    have t0 : ∀ c, toldI 0 (wayI 0 0 c) = 0 := fun c => by
      unfold wayI toldI modI
      rw [if_pos (by decide), show (0 - 2 * 0 * c + 3 * 0 : Int) = 0 by simp]
      decide
    have u : ∀ {v : Int}, v ≤ M → M ≤ v → (0 : Int) = 1048576 * (v - M) := fun {v} a b => by rw [Int.le_antisymm a b, Int.sub_self, Int.mul_zero]
    rw [e0, t0, t0, t0]
    exact ⟨u B1 B4, u B2 B5, u B3 B6⟩
  · have D0 : 0 < M - m := Int.sub_pos_of_lt hlt
    have hj : ∃ j : Int, place = (N + 6 * (M - m) * j) * 1048576 := by
      rcases hp with e | e
      · exact ⟨0, by rw [e, Int.mul_zero, Int.add_zero]⟩
      · exact ⟨1, by rw [e, Int.mul_one]⟩
    obtain ⟨j, hp⟩ := hj
    clear hlt B7
    rcases hN with ⟨hM, hN⟩ | ⟨hM, hN⟩ | ⟨hM, hN⟩
    · have l := low_two (low_of B8 hM (Int.lt_of_sub_pos D0)) B5 B6
      have hn : N = 2 * (M - m) * 0 + (y - z) := by clear hp l; lia
      have hp' : place = (2 * (M - m) * 0 + (y - z) + 6 * (M - m) * j) * 1048576 := by rw [hp, hn]
      clear hp hN hn
      have a1 : -(M - m) ≤ y - z := by clear hp' l; lia
      have a2 : y - z ≤ M - m := by clear hp' l; lia
      refine ⟨(told0 D0 a1 a2 hp').trans (by rw [hM]), (told1 (c := 1) (k := 0) D0 a1 a2 hp' (by decide)).trans (by rw [l.1]), (told2 (c := 2) (k := 0) D0 a1 a2 hp' (by decide)).trans (by rw [l.2])⟩
    · have l := low_two (y := z) (z := x) ((low_of (x := y) (y := x) (z := z) (B8.elim (fun e => .inr (.inl e)) fun e => e.elim .inl fun e => .inr (.inr e)) hM (Int.lt_of_sub_pos D0)).symm) B6 B4
      have hn : N = 2 * (M - m) * 1 + (z - x) := by clear hp l; lia
      have hp' : place = (2 * (M - m) * 1 + (z - x) + 6 * (M - m) * j) * 1048576 := by rw [hp, hn]
      clear hp hN hn
      have a1 : -(M - m) ≤ z - x := by clear hp' l; lia
      have a2 : z - x ≤ M - m := by clear hp' l; lia
      refine ⟨(told2 (c := 0) (k := -1) D0 a1 a2 hp' (by decide)).trans (by rw [l.2]), (told0 D0 a1 a2 hp').trans (by rw [hM]), (told1 (c := 2) (k := 0) D0 a1 a2 hp' (by decide)).trans (by rw [l.1])⟩
    · have l := low_two (y := x) (z := y) (low_of (x := z) (y := x) (z := y) (B8.elim (fun e => .inr (.inl e)) fun e => e.elim (fun e => .inr (.inr e)) .inl) hM (Int.lt_of_sub_pos D0)) B4 B5
      have hn : N = 2 * (M - m) * 2 + (x - y) := by clear hp l; lia
      have hp' : place = (2 * (M - m) * 2 + (x - y) + 6 * (M - m) * j) * 1048576 := by rw [hp, hn]
      clear hp hN hn
      have a1 : -(M - m) ≤ x - y := by clear hp' l; lia
      have a2 : x - y ≤ M - m := by clear hp' l; lia
      refine ⟨(told1 (c := 0) (k := -1) D0 a1 a2 hp' (by decide)).trans (by rw [l.1]), (told2 (c := 1) (k := -1) D0 a1 a2 hp' (by decide)).trans (by rw [l.2]), (told0 D0 a1 a2 hp').trans (by rw [hM])⟩
end Mine
end
section
open PySem PySem.W PyProof.Rows
namespace Mine
open Float64
theorem lampT3 (k r : Int) : ∃ l0 l1 l2, lampT k r = [l0, l1, l2] := by
  unfold lampT
  rcases six_of k with e | e | e | e | e | e <;> rw [e] <;> exact ⟨_, _, _, rfl⟩
theorem lampT_b {k r l0 l1 l2 : Int} (r0 : 0 ≤ r) (r1 : r ≤ 8) (h : lampT k r = [l0, l1, l2]) : (0 ≤ l0 ∧ l0 ≤ 8) ∧ (0 ≤ l1 ∧ l1 ≤ 8) ∧ (0 ≤ l2 ∧ l2 ≤ 8) := by
  unfold lampT at h
  rcases six_of k with e | e | e | e | e | e <;> rw [e] at h <;> injection h with h1 h2 <;> injection h2 with h2 h3 <;> injection h3 with h3 _ <;> subst h1 <;> subst h2 <;> subst h3 <;> lia
theorem tail_ok {w : World} {A : Around} {Lc : Addr} {d : Nat} (hr : Room (cW w A Lc).A (d + 1)) {S : Side} {g l : List Nat} {r side start share value H : Nat} {f0 f1 f2 : UInt64} {T : Tur} {L0 L1 L2 : Int}
    (hs1 : side ≤ 5) (hs2 : start < 96) (hs3 : share ≤ 8) (hs4 : value ≤ 8)
    (e0 : Ex f0 (L0 * 2048)) (e1 : Ex f1 (L1 * 2048)) (e2 : Ex f2 (L2 * 2048)) (b0 : 0 ≤ L0 ∧ L0 ≤ 32768) (b1 : 0 ≤ L1 ∧ L1 ≤ 32768) (b2 : 0 ≤ L2 ∧ L2 ≤ 32768)
    {p0 p1 p2 q0 q1 q2 : Int} (hp : lampT ((start : Int).fdiv 8) ((start : Int).fmod 8) = [p0, p1, p2]) (hq : lampT ((start : Int).fdiv 8 + side) ((start : Int).fmod 8) = [q0, q1, q2])
    (hH : (H : Int) = (start : Int) + 8 * side * T.t)
    (hb : ∃ t : Int, (share : Int) * value * (T.x * p0 + T.y * q0) + t = L0 ∧ (share : Int) * value * (T.x * p1 + T.y * q1) + t = L1 ∧ (share : Int) * value * (T.x * p2 + T.y * q2) + t = L2) :
    Runs (cW w A Lc) S (RTu (RL g l r side start share value (H, [f0, f1, f2])) T) (lawB.drop 21) (Ret (.bool true)) := by
  have m8 := fmod_lt (a := (start : Int)) (b := 8) (by decide)
  obtain ⟨⟨pa0, pa1⟩, ⟨pb0, pb1⟩, pc0, pc1⟩ := lampT_b m8.1 (by lia) hp
  obtain ⟨⟨qa0, qa1⟩, ⟨qb0, qb1⟩, qc0, qc1⟩ := lampT_b m8.1 (by lia) hq
  obtain ⟨x, y, t⟩ := T
  have lp := lamps_ok w d ((start : Int).fdiv 8) ((start : Int).fmod 8)
  have lq := lamps_ok w d ((start : Int).fdiv 8 + side) ((start : Int).fmod 8)
  rw [show (([[8, (start : Int).fmod 8, 0], [8 - (start : Int).fmod 8, 8, 0], [0, 8, (start : Int).fmod 8], [0, 8 - (start : Int).fmod 8, 8], [(start : Int).fmod 8, 0, 8], [8, 0, 8 - (start : Int).fmod 8]] : List (List Int)).getD (((start : Int).fdiv 8).fmod 6).toNat []) = [p0, p1, p2] from hp] at lp
  rw [show (([[8, (start : Int).fmod 8, 0], [8 - (start : Int).fmod 8, 8, 0], [0, 8, (start : Int).fmod 8], [0, 8 - (start : Int).fmod 8, 8], [(start : Int).fmod 8, 0, 8], [8, 0, 8 - (start : Int).fmod 8]] : List (List Int)).getD (((start : Int).fdiv 8 + side).fmod 6).toNat []) = [q0, q1, q2] from hq] at lq
  refine Runs.unpack2 (a := .tup [.int p0, .int p1, .int p2]) (b := .tup [.int q0, .int q1, .int q2]) (Ev.tuple (Evs.co rfl (Ev.callF (a := 191) (o := ob191 w.params) (Ev.glob rfl rfl rfl (by kernel_rfl) rfl) (Evs.co rfl (Ev.binop (Ev.name rfl rfl rfl) Ev.int (Op.fdiv (by decide) (PyProof.noPylong_small (by decide)))) (Evs.co rfl (Ev.binop (Ev.name rfl rfl rfl) Ev.int (Op.fmod (by decide))) Evs.nil)) hr (by kernel_rfl) rfl lp (fun _ => plain_any rfl)) (Evs.co rfl (Ev.callF (a := 191) (o := ob191 w.params) (Ev.glob rfl rfl rfl (by kernel_rfl) rfl) (Evs.co rfl (Ev.binop (Ev.binop (Ev.name rfl rfl rfl) Ev.int (Op.fdiv (by decide) (PyProof.noPylong_small (by decide)))) (Ev.name rfl rfl rfl) Op.add) (Evs.co rfl (Ev.binop (Ev.name rfl rfl rfl) Ev.int (Op.fmod (by decide))) Evs.nil)) hr (by kernel_rfl) rfl lq (fun _ => plain_any rfl)) Evs.nil)) rfl) hr.handled rfl (.inr (show Str.ofString "first" ∈ ownL by decide)) (.inr (show Str.ofString "second" ∈ ownL by decide)) ?_ rfl rfl
  have sv := mulB (a := (share : Int)) (b := (value : Int)) (A := 8) (B := 8) (by lia) (by lia) (by lia) (by lia)
  have atc : ∀ {α : Type} {k : Nat} (a b c : α), k < 3 → ∃ z, ([a, b, c] : List α)[k]? = some z := fun {α k} a b c hk => by
    have : k = 0 ∨ k = 1 ∨ k = 2 := by lia
    rcases this with rfl | rfl | rfl <;> exact ⟨_, rfl⟩
  let barV : Nat → Int := fun k => (share : Int) * value * (x * [p0, p1, p2].getD k 0 + y * [q0, q1, q2].getD k 0)
  refine Runs.set (sv := .lst ((List.range 3).map fun k => .int (barV k))) (Ev.comp0 (ρ' := [(Str.ofString "share", .int share), (Str.ofString "value", .int value), (Str.ofString "ahead", .int x), (Str.ofString "first", .tup [.int p0, .int p1, .int p2]), (Str.ofString "aside", .int y), (Str.ofString "second", .tup [.int q0, .int q1, .int q2])])
      ⟨Source.range (n := 3) (Ev.tyin rfl rfl rfl rfl (by kernel_rfl) (by kernel_rfl) rfl) Ev.int (by decide) hr.handled (fun _ => plain_any rfl) (fun _ => starEach_cons rfl), by decide, by decide, rfl, by decide, by decide, ⟨rfl, rfl, .inl rfl, rfl, rfl, .inl rfl, rfl, rfl, .inl rfl, rfl, rfl, .inl rfl, rfl, rfl, .inl rfl, rfl, rfl, .inl rfl, trivial⟩, rfl, fun _ _ => rfl, fold_plain rfl⟩ (fun cl C k hk => ?_)) rfl (.inr (show Str.ofString "bars" ∈ ownL by decide)) ?_ rfl
  · have hk3 : k < 3 := List.mem_range.mp hk
    have hpk : 0 ≤ [p0, p1, p2].getD k 0 ∧ [p0, p1, p2].getD k 0 ≤ 8 := by
      have : k = 0 ∨ k = 1 ∨ k = 2 := by lia
      rcases this with rfl | rfl | rfl
      · exact ⟨pa0, pa1⟩
      · exact ⟨pb0, pb1⟩
      · exact ⟨pc0, pc1⟩
    have hqk : 0 ≤ [q0, q1, q2].getD k 0 ∧ [q0, q1, q2].getD k 0 ≤ 8 := by
      have : k = 0 ∨ k = 1 ∨ k = 2 := by lia
      rcases this with rfl | rfl | rfl
      · exact ⟨qa0, qa1⟩
      · exact ⟨qb0, qb1⟩
      · exact ⟨qc0, qc1⟩
    refine Ev.binop (Ev.binop (Ev.name rfl rfl rfl) (Ev.name rfl rfl rfl) (Op.mul (mulL (by lia) (by lia)))) (Ev.binop (Ev.binop (Ev.name rfl rfl rfl) (Ev.subTup (sv := .int ([p0, p1, p2].getD k 0)) (Ev.name rfl rfl rfl) (Ev.name rfl rfl rfl) (by lia) (by lia) ?_ (sub_plain rfl)) (Op.mul (mulR (by lia) (by lia)))) (Ev.binop (Ev.name rfl rfl rfl) (Ev.subTup (sv := .int ([q0, q1, q2].getD k 0)) (Ev.name rfl rfl rfl) (Ev.name rfl rfl rfl) (by lia) (by lia) ?_ (sub_plain rfl)) (Op.mul (mulR (by lia) (by lia)))) Op.add) (Op.mul (mulL (by lia) (by lia)))
    · rw [Int.toNat_natCast]
      have : k = 0 ∨ k = 1 ∨ k = 2 := by lia
      rcases this with rfl | rfl | rfl <;> rfl
    · rw [Int.toNat_natCast]
      have : k = 0 ∨ k = 1 ∨ k = 2 := by lia
      rcases this with rfl | rfl | rfl <;> rfl
  have h64 : Ex fl64 67108864 := Ex.chk (by decide +kernel)
  have d0 : Ex (div f0 fl64) (32 * L0) := Ex.div e0 h64 (by decide) (by lia) (by lia)
  have d1 : Ex (div f1 fl64) (32 * L1) := Ex.div e1 h64 (by decide) (by lia) (by lia)
  have d2 : Ex (div f2 fl64) (32 * L2) := Ex.div e2 h64 (by decide) (by lia) (by lia)
  obtain ⟨hz, hue, depth, top, place, hrgb, ⟨sg, m, e, hd, ht⟩, ⟨sg', m', e', hd', ht'⟩, hpl⟩ := rgb_is d0 d1 d2 b0.1 b0.2 b1.1 b1.2 b2.1 b2.2
  have B := max3_bounds L0 L1 L2
  have tb := told_back hpl
  have spB : 0 ≤ (max3 L0 L1 L2 - min3 L0 L1 L2) * 1048576 ∧ (max3 L0 L1 L2 - min3 L0 L1 L2) * 1048576 ≤ 34359738368 := by lia
  generalize hSp : (max3 L0 L1 L2 - min3 L0 L1 L2) * 1048576 = sp at *
  have hok := rgb_ok w d _ _ _ hz
  rw [hrgb] at hok
  refine Runs.unpack3 (a := .flt hue) (b := .flt depth) (d := .flt top) (Ev.callF (a := 63) (o := ob63 w.params) (Ev.glob rfl rfl rfl (by kernel_rfl) rfl) (Evs.co rfl (Ev.binop (Ev.subLst (Ev.name rfl rfl rfl) Ev.int (by decide) (by decide) rfl (sub_plain rfl)) Ev.flt (Op.divF (by decide +kernel))) (Evs.co rfl (Ev.binop (Ev.subLst (Ev.name rfl rfl rfl) Ev.int (by decide) (by decide) rfl (sub_plain rfl)) Ev.flt (Op.divF (by decide +kernel))) (Evs.co rfl (Ev.binop (Ev.subLst (Ev.name rfl rfl rfl) Ev.int (by decide) (by decide) rfl (sub_plain rfl)) Ev.flt (Op.divF (by decide +kernel))) Evs.nil))) hr (by kernel_rfl) rfl hok (fun _ => plain_any rfl)) hr.handled rfl (.inl rfl) (.inl rfl) (.inl rfl) ?_ rfl rfl
  refine Runs.set (sv := .int sp) (Ev.callT (t := "int") (Ev.tyin rfl rfl rfl rfl (by kernel_rfl) (by kernel_rfl) rfl) (Evs.co rfl (Ev.binop (Ev.binop (Ev.binop Ev.flt (Ev.name rfl rfl rfl) Op.mulF) (Ev.name rfl rfl rfl) Op.mulF) Ev.flt Op.addF) Evs.nil) (ht ▸ Op.intF hd) (fun _ => plain_any rfl)) rfl (.inr (show Str.ofString "spread" ∈ ownL by decide)) ?_ (swaps_plain rfl)
  refine Runs.set (sv := .int place) (Ev.callT (t := "int") (Ev.tyin rfl rfl rfl rfl (by kernel_rfl) (by kernel_rfl) rfl) (Evs.co rfl (Ev.binop (Ev.binop (Ev.binop Ev.flt (Ev.name rfl rfl rfl) Op.mulF) (Ev.name rfl rfl rfl) (Op.mulFI (noInf_fin (Ex.int (by lia)).1))) Ev.flt Op.addF) Evs.nil) (ht' ▸ Op.intF hd') (fun _ => plain_any rfl)) rfl (.inr (show Str.ofString "place" ∈ ownL by decide)) ?_ (swaps_plain rfl)
  refine Runs.setComp (ρ' := [(Str.ofString "place", .int place), (Str.ofString "spread", .int sp)]) (xs := List.range 3) (p := fun _ => true) (f := fun k => .int (wayI sp place (k : Int)))
      ⟨Source.range (n := 3) (Ev.tyin rfl rfl rfl rfl (by kernel_rfl) (by kernel_rfl) rfl) Ev.int (by decide) hr.handled (fun _ => plain_any rfl) (fun _ => starEach_cons rfl), by decide, by decide, rfl, by decide, by decide, ⟨rfl, rfl, .inl rfl, rfl, rfl, .inl rfl, trivial⟩, rfl, fun _ _ => rfl, fold_plain rfl⟩ (fun cl C k hk => TestsOk.nil) (fun cl C k hk _ => ?_) rfl (.inl rfl) ?_ rfl
  · have hk3 : k < 3 := List.mem_range.mp hk
    exact Ev.callB (id := "abs") (Ev.bltin rfl rfl rfl rfl (by kernel_rfl) (by kernel_rfl) rfl) (Evs.co rfl (Ev.binop (Ev.binop (Ev.binop (Ev.binop (Ev.name rfl rfl rfl) (Ev.binop (Ev.binop Ev.int (Ev.name rfl rfl rfl) (Op.mul (mulL (by decide) (by decide)))) (Ev.name rfl rfl rfl) (Op.mul (mulR (by lia) (by lia)))) Op.sub) (Ev.binop Ev.int (Ev.name rfl rfl rfl) (Op.mul (mulL (by decide) (by decide)))) Op.add) (Ev.callB (id := "max") (Ev.bltin rfl rfl rfl rfl (by kernel_rfl) (by kernel_rfl) rfl) (Evs.co rfl (Ev.binop Ev.int (Ev.name rfl rfl rfl) (Op.mul (mulL (by decide) (by decide)))) (Evs.co rfl Ev.int Evs.nil)) (Op.max2 hr.handled) (fun _ => plain_any rfl)) (Op.fmod (by split <;> lia))) (Ev.binop Ev.int (Ev.name rfl rfl rfl) (Op.mul (mulL (by decide) (by decide)))) Op.sub) Evs.nil) Op.absI (fun _ => plain_any rfl)
  refine Runs.setComp (ρ' := [(Str.ofString "spread", .int sp)]) (xs := List.range 3) (p := fun _ => true) (f := fun k => .int (toldI sp (wayI sp place (k : Int))))
      ⟨Source.map (g := fun (k : Nat) => SV.int (wayI sp place (k : Int))) (b := fun v => [(Str.ofString "way", v)]) (Source.list (Ev.name rfl rfl rfl) hr.handled), by decide, by decide, rfl, by decide, by decide, ⟨rfl, rfl, .inl rfl, trivial⟩, rfl, fun _ _ => rfl, fold_plain rfl⟩ (fun cl C k hk => TestsOk.nil) (fun cl C k hk _ => ?_) rfl (.inl rfl) ?_ rfl
  · exact Ev.callB (id := "max") (Ev.bltin rfl rfl rfl rfl (by kernel_rfl) (by kernel_rfl) rfl) (Evs.co rfl Ev.int (Evs.co rfl (Ev.callB (id := "min") (Ev.bltin rfl rfl rfl rfl (by kernel_rfl) (by kernel_rfl) rfl) (Evs.co rfl (Ev.name rfl rfl rfl) (Evs.co rfl (Ev.binop (Ev.binop Ev.int (Ev.name rfl rfl rfl) (Op.mul (mulL (by decide) (by decide)))) (Ev.name rfl rfl rfl) Op.sub) Evs.nil)) (Op.min2 hr.handled) (fun _ => plain_any rfl)) Evs.nil)) (Op.max2 hr.handled) (fun _ => plain_any rfl)
  obtain ⟨u, u0, u1, u2⟩ := hb
  have mb : min3 (barV 0) (barV 1) (barV 2) = min3 L0 L1 L2 - u := by
    show min3 ((share : Int) * value * (x * p0 + y * q0)) ((share : Int) * value * (x * p1 + y * q1)) ((share : Int) * value * (x * p2 + y * q2)) = _
    have u0 : (share : Int) * value * (x * p0 + y * q0) + u = L0 := u0
    have u1 : (share : Int) * value * (x * p1 + y * q1) + u = L1 := u1
    have u2 : (share : Int) * value * (x * p2 + y * q2) + u = L2 := u2
    generalize (share : Int) * value * (x * p0 + y * q0) = v0 at *
    generalize (share : Int) * value * (x * p1 + y * q1) = v1 at *
    generalize (share : Int) * value * (x * p2 + y * q2) = v2 at *
    unfold min3
    (repeat' split) <;> lia
  have fin : decide ((List.range 3).map (fun k => toldI sp (wayI sp place ((k : Nat) : Int))) = (List.range 3).map fun k => 1048576 * (barV k - min3 (barV 0) (barV 1) (barV 2))) = true := by
    refine decide_eq_true ?_
    have v0 : barV 0 = L0 - u := by
      have z : (share : Int) * value * (x * p0 + y * q0) + u = L0 := u0
      exact (by lia : (share : Int) * value * (x * p0 + y * q0) = L0 - u)
    have v1 : barV 1 = L1 - u := by
      have z : (share : Int) * value * (x * p1 + y * q1) + u = L1 := u1
      exact (by lia : (share : Int) * value * (x * p1 + y * q1) = L1 - u)
    have v2 : barV 2 = L2 - u := by
      have z : (share : Int) * value * (x * p2 + y * q2) + u = L2 := u2
      exact (by lia : (share : Int) * value * (x * p2 + y * q2) = L2 - u)
    rw [show List.range 3 = [0, 1, 2] from rfl, List.map_cons, List.map_cons, List.map_cons, List.map_nil, List.map_cons, List.map_cons, List.map_cons, List.map_nil, mb, v0, v1, v2]
    have t0 := tb.1
    have t1 := tb.2.1
    have t2 := tb.2.2
    rw [show ((0 : Nat) : Int) = 0 from rfl, show ((1 : Nat) : Int) = 1 from rfl, show ((2 : Nat) : Int) = 2 from rfl, t0, t1, t2]
    congr 1
    · lia
    · congr 1
      · lia
      · congr 1; lia
  have eqH : ((H : Int) == (start : Int) + 8 * side * t) = true := beq_iff_eq.mpr hH
  have z1 : Op (cW w A Lc) (fun vs => compareOp .Eq (vs.getD 0 .none) (vs.getD 1 .none)) [.int (H : Int), .int ((start : Int) + 8 * side * t)] (.bool true) := by rw [← eqH]; exact Op.eq
  have z2 : Op (cW w A Lc) (fun vs => compareOp .Eq (vs.getD 0 .none) (vs.getD 1 .none)) [.lst (((List.range 3).map (fun k => toldI sp (wayI sp place ((k : Nat) : Int)))).map .int), .lst (((List.range 3).map fun k => 1048576 * (barV k - min3 (barV 0) (barV 1) (barV 2))).map .int)] (.bool true) := by rw [← fin]; exact Op.eqInts hr
  rw [List.map_map, List.map_map] at z2
  refine Runs.ret (Ev.and2 (Ev.compare (Ev.name rfl rfl rfl) (Ev.binop (Ev.name rfl rfl rfl) (Ev.binop (Ev.binop Ev.int (Ev.name rfl rfl rfl) (Op.mul (mulL (by decide) (by decide)))) (Ev.name rfl rfl rfl) (Op.mul (mulL (by lia) (by lia)))) Op.add) z1 rfl) (Ev.compare (Ev.name rfl rfl rfl) (Ev.comp0 (ρ' := [(Str.ofString "bars", .lst [.int (barV 0), .int (barV 1), .int (barV 2)])])
    ⟨Source.map (g := fun (k : Nat) => SV.int (barV k)) (b := fun v => [(Str.ofString "bar", v)]) (Source.list (Ev.name rfl rfl rfl) hr.handled), by decide, by decide, rfl, by decide, by decide, ⟨rfl, rfl, .inl rfl, trivial⟩, rfl, fun _ _ => rfl, fold_plain rfl⟩ (fun cl C k hk => ?_)) z2 rfl))
  exact Ev.binop Ev.int (Ev.binop (Ev.name rfl rfl rfl) (Ev.callB (id := "min") (Ev.bltin rfl rfl rfl rfl (by kernel_rfl) (by kernel_rfl) rfl) (Evs.co rfl (Ev.name rfl rfl rfl) Evs.nil) (Op.min3I hr.handled) (fun _ => plain_any rfl)) Op.sub) (Op.mul (mulL (by decide) (by decide)))
end Mine
end
section
open PySem PySem.W PyProof.Rows
namespace Mine
noncomputable def colS (side share value r : Int) : Int → List Nat → Nat → Int
  | _, [], _ => 0
  | k, c :: l, i => if c = 104 then colI value share ((lampT k r).getD i 0) + colS side share value r k l i else colS side share value r (k + side) l i
noncomputable def path : List Nat → Int × Int
  | [] => (0, 0)
  | c :: l => if c = 104 then (1 + (path l).1, (path l).2) else rotI (path l)
theorem path_cons (c : Nat) (l : List Nat) : path (c :: l) = if c = 104 then (1 + (path l).1, (path l).2) else rotI (path l) := rfl
theorem colS_cons (side share value r k : Int) (c : Nat) (l : List Nat) (i : Nat) : colS side share value r k (c :: l) i = if c = 104 then colI value share ((lampT k r).getD i 0) + colS side share value r k l i else colS side share value r (k + side) l i := rfl
theorem hex_turn {side : Int} (hs : side = 1 ∨ side = 5) (k r : Int) : ∃ z : Int, ∀ i : Nat, i < 3 → (lampT (k + side + side) r).getD i 0 = (lampT (k + side) r).getD i 0 - (lampT k r).getD i 0 + z := by
  have go : ∀ a b e : Nat, ∀ z : Int, k.fmod 6 = a → (k + side).fmod 6 = b → (k + side + side).fmod 6 = e →
      (∀ i : Nat, i < 3 → (([[8, r, 0], [8 - r, 8, 0], [0, 8, r], [0, 8 - r, 8], [r, 0, 8], [8, 0, 8 - r]] : List (List Int)).getD e []).getD i 0 = (([[8, r, 0], [8 - r, 8, 0], [0, 8, r], [0, 8 - r, 8], [r, 0, 8], [8, 0, 8 - r]] : List (List Int)).getD b []).getD i 0 - (([[8, r, 0], [8 - r, 8, 0], [0, 8, r], [0, 8 - r, 8], [r, 0, 8], [8, 0, 8 - r]] : List (List Int)).getD a []).getD i 0 + z) →
      ∃ z : Int, ∀ i : Nat, i < 3 → (lampT (k + side + side) r).getD i 0 = (lampT (k + side) r).getD i 0 - (lampT k r).getD i 0 + z := fun a b e z h1 h2 h3 h => ⟨z, fun i hi => by
    unfold lampT
    rw [h1, h2, h3, Int.toNat_natCast, Int.toNat_natCast, Int.toNat_natCast]
    exact h i hi⟩
  have f : ∀ x : Int, x.fmod 6 = x % 6 := fun x => Int.fmod_eq_emod_of_nonneg _ (by decide)
  have s6 := six_of k
  rw [f] at s6
  have fin : ∀ {P : Nat → Prop}, P 0 → P 1 → P 2 → ∀ i, i < 3 → P i := fun {P} h0 h1 h2 i hi => by
    have : i = 0 ∨ i = 1 ∨ i = 2 := by lia
    rcases this with rfl | rfl | rfl <;> assumption
  rcases hs with rfl | rfl
  · rcases s6 with e | e | e | e | e | e
    · exact go 0 1 2 (r) (by rw [f]; lia) (by rw [f]; lia) (by rw [f]; lia) (fin (show (0 : Int) = 8 - r - 8 + r by lia) (show (8 : Int) = 8 - r + r by lia) (show r = 0 - 0 + r by lia))
    · exact go 1 2 3 (8 - r) (by rw [f]; lia) (by rw [f]; lia) (by rw [f]; lia) (fin (show (0 : Int) = 0 - (8 - r) + (8 - r) by lia) (show 8 - r = 8 - 8 + (8 - r) by lia) (show (8 : Int) = r - 0 + (8 - r) by lia))
    · exact go 2 3 4 r (by rw [f]; lia) (by rw [f]; lia) (by rw [f]; lia) (fin (show r = 0 - 0 + r by lia) (show (0 : Int) = 8 - r - 8 + r by lia) (show (8 : Int) = 8 - r + r by lia))
    · exact go 3 4 5 (8 - r) (by rw [f]; lia) (by rw [f]; lia) (by rw [f]; lia) (fin (show (8 : Int) = r - 0 + (8 - r) by lia) (show (0 : Int) = 0 - (8 - r) + (8 - r) by lia) (show 8 - r = 8 - 8 + (8 - r) by lia))
    · exact go 4 5 0 r (by rw [f]; lia) (by rw [f]; lia) (by rw [f]; lia) (fin (show (8 : Int) = 8 - r + r by lia) (show r = 0 - 0 + r by lia) (show (0 : Int) = 8 - r - 8 + r by lia))
    · exact go 5 0 1 (8 - r) (by rw [f]; lia) (by rw [f]; lia) (by rw [f]; lia) (fin (show 8 - r = 8 - 8 + (8 - r) by lia) (show (8 : Int) = r - 0 + (8 - r) by lia) (show (0 : Int) = 0 - (8 - r) + (8 - r) by lia))
  · rcases s6 with e | e | e | e | e | e
    · exact go 0 5 4 r (by rw [f]; lia) (by rw [f]; lia) (by rw [f]; lia) (fin (show r = 8 - 8 + r by lia) (show (0 : Int) = 0 - r + r by lia) (show (8 : Int) = 8 - r - 0 + r by lia))
    · exact go 1 0 5 (8 - r) (by rw [f]; lia) (by rw [f]; lia) (by rw [f]; lia) (fin (show (8 : Int) = 8 - (8 - r) + (8 - r) by lia) (show (0 : Int) = r - 8 + (8 - r) by lia) (show 8 - r = 0 - 0 + (8 - r) by lia))
    · exact go 2 1 0 r (by rw [f]; lia) (by rw [f]; lia) (by rw [f]; lia) (fin (show (8 : Int) = 8 - r - 0 + r by lia) (show r = 8 - 8 + r by lia) (show (0 : Int) = 0 - r + r by lia))
    · exact go 3 2 1 (8 - r) (by rw [f]; lia) (by rw [f]; lia) (by rw [f]; lia) (fin (show 8 - r = 0 - 0 + (8 - r) by lia) (show (8 : Int) = 8 - (8 - r) + (8 - r) by lia) (show (0 : Int) = r - 8 + (8 - r) by lia))
    · exact go 4 3 2 r (by rw [f]; lia) (by rw [f]; lia) (by rw [f]; lia) (fin (show (0 : Int) = 0 - r + r by lia) (show (8 : Int) = 8 - r - 0 + r by lia) (show r = 8 - 8 + r by lia))
    · exact go 5 4 3 (8 - r) (by rw [f]; lia) (by rw [f]; lia) (by rw [f]; lia) (fin (show (0 : Int) = r - 8 + (8 - r) by lia) (show 8 - r = 0 - 0 + (8 - r) by lia) (show (8 : Int) = 8 - (8 - r) + (8 - r) by lia))
theorem col_path {side share value r : Int} (hs : side = 1 ∨ side = 5) : ∀ (l : List Nat) (k : Int), ∃ t : Int, ∀ i : Nat, i < 3 → share * value * ((path l).1 * (lampT k r).getD i 0 + (path l).2 * (lampT (k + side) r).getD i 0) + t = colS side share value r k l i
  | [], k => ⟨0, fun i hi => by show share * value * (0 * _ + 0 * _) + 0 = 0; simp⟩
  | c :: l, k => by
    by_cases q : c = 104
    · obtain ⟨t, h⟩ := col_path hs l k
      refine ⟨t + value * (64 - 8 * share), fun i hi => ?_⟩
      have := h i hi
      rw [path_cons, colS_cons, if_pos q, if_pos q, ← this]
      unfold colI
      generalize (lampT k r).getD i 0 = P
      generalize (lampT (k + side) r).getD i 0 = Q
      generalize (path l).1 = a
      generalize (path l).2 = b
      show share * value * ((1 + a) * P + b * Q) + _ = _
      clear this h hi hs
      grind
    · obtain ⟨t, h⟩ := col_path hs l (k + side)
      obtain ⟨z, hz⟩ := hex_turn hs k r
      refine ⟨t + share * value * (path l).2 * z, fun i hi => ?_⟩
      have := h i hi
      rw [hz i hi] at this
      rw [path_cons, colS_cons, if_neg q, if_neg q, ← this]
      unfold rotI
      clear this h hz hi hs
      generalize (lampT k r).getD i 0 = P
      generalize (lampT (k + side) r).getD i 0 = Q
      generalize (path l).1 = a
      generalize (path l).2 = b
      show share * value * (-b * P + (a + b) * Q) + _ = _
      grind
end Mine
end
section
open PySem PySem.W PyProof.Rows
namespace Mine
theorem pair_ext {p q : Int × Int} (h1 : p.1 = q.1) (h2 : p.2 = q.2) : p = q := by cases p; cases q; cases h1; cases h2; rfl
noncomputable def padd (p q : Int × Int) : Int × Int := (p.1 + q.1, p.2 + q.2)
theorem rotI_add (p q : Int × Int) : rotI (padd p q) = padd (rotI p) (rotI q) := pair_ext (by show -(p.2 + q.2) = -p.2 + -q.2; lia) (by show p.1 + q.1 + (p.2 + q.2) = p.1 + p.2 + (q.1 + q.2); lia)
theorem rotN_succ (n : Nat) (p : Int × Int) : rotN (n + 1) p = rotI (rotN n p) := rfl
theorem rotN_add : ∀ (n : Nat) (p q : Int × Int), rotN n (padd p q) = padd (rotN n p) (rotN n q)
  | 0, _, _ => rfl
  | n + 1, p, q => by rw [rotN_succ, rotN_add n, rotI_add]; rfl
theorem rotN_rotN : ∀ (m n : Nat) (p : Int × Int), rotN m (rotN n p) = rotN (m + n) p
  | 0, n, p => by rw [Nat.zero_add]; rfl
  | m + 1, n, p => by rw [rotN_succ, rotN_rotN m n, show m + 1 + n = (m + n) + 1 by lia]; rfl
theorem rotN_six (p : Int × Int) : rotN 6 p = p := pair_ext (by show -(_ + _) = _; simp only [rotN, rotI]; lia) (by simp only [rotN, rotI]; lia)
theorem rotN_mod (n : Nat) (p : Int × Int) : rotN (n % 6) p = rotN n p := by
  have : ∀ k : Nat, rotN (6 * k) p = p := fun k => by
    induction k with
    | zero => rfl
    | succ k ih => rw [show 6 * (k + 1) = 6 + 6 * k by lia, ← rotN_rotN, ih, rotN_six]
  have e : n = n % 6 + 6 * (n / 6) := by lia
  conv => rhs; rw [e, ← rotN_rotN, this]
theorem path_app : ∀ a b : List Nat, path (a ++ b) = padd (path a) (rotN (pc a) (path b))
  | [], b => pair_ext (by show _ = 0 + (path b).1; simp) (by show _ = 0 + (path b).2; simp)
  | c :: a, b => by
    rw [List.cons_append, path_cons, path_cons, pc_cons, path_app a b]
    by_cases q : c = 104
    · rw [if_pos q, if_pos q, if_pos q, Nat.zero_add]
      exact pair_ext (by show 1 + (_ + _) = 1 + _ + _; lia) rfl
    · rw [if_neg q, if_neg q, if_neg q, rotI_add, Nat.add_comm, rotN_succ]
theorem growL_app (a b : List Nat) : growL (a ++ b) = growL a ++ growL b := by unfold growL; rw [List.flatMap_append]
theorem grownL_app (a b : List Nat) : ∀ r, grownL (a ++ b) r = grownL a r ++ grownL b r
  | 0 => rfl
  | r + 1 => by show growL (grownL (a ++ b) r) = growL _ ++ growL _; rw [grownL_app a b r, growL_app]
theorem grown_nil : ∀ r, grownL [] r = []
  | 0 => rfl
  | r + 1 => by show growL (grownL [] r) = []; rw [grown_nil r]; rfl
noncomputable def leadB (r c : Nat) : Bool := path (grownL [c] r) == leadC r c && pc (grownL [c] r) == turnC r c
theorem lead_all : ∀ r, r < 6 → leadB r 104 = true ∧ leadB r 112 = true := by decide +kernel
theorem lead_is {r c : Nat} (hr : r ≤ 5) (hc : c = 104 ∨ c = 112) : path (grownL [c] r) = leadC r c ∧ pc (grownL [c] r) = turnC r c := by
  have h := lead_all r (by lia)
  have h : leadB r c = true := by
    rcases hc with rfl | rfl
    · exact h.1
    · exact h.2
  unfold leadB at h
  rw [Bool.and_eq_true] at h
  exact ⟨eq_of_beq h.1, eq_of_beq h.2⟩
theorem tur_fold {r : Nat} (hr : r ≤ 5) : ∀ (l : List Nat), (∀ x ∈ l, x = 104 ∨ x = 112) → ∀ s : Tur, l.foldl (turStep r) s = ⟨s.x + (rotN s.t (path (grownL l r))).1, s.y + (rotN s.t (path (grownL l r))).2, s.t + pc (grownL l r)⟩
  | [], _, s => by
    rw [grown_nil]
    have z : ∀ n, rotN n (path []) = (0, 0) := fun n => by
      induction n with
      | zero => rfl
      | succ n ih => rw [rotN_succ, ih]; rfl
    rw [z]
    show s = ⟨s.x + 0, s.y + 0, s.t + 0⟩
    cases s; simp
  | c :: l, h, s => by
    obtain ⟨e1, e2⟩ := lead_is hr (h c List.mem_cons_self)
    rw [List.foldl_cons, tur_fold hr l (fun x hx => h x (List.mem_cons_of_mem _ hx)), show c :: l = [c] ++ l from rfl, grownL_app, path_app, pc_app, e1, e2, rotN_add, rotN_rotN]
    unfold turStep padd
    simp only [rotN_mod]
    congr 1
    · lia
    · lia
    · lia
theorem tur_is {r : Nat} (hr : r ≤ 5) {l : List Nat} (hl : ∀ x ∈ l, x = 104 ∨ x = 112) : turAt r l = ⟨(path (grownL l r)).1, (path (grownL l r)).2, pc (grownL l r)⟩ := by
  unfold turAt
  rw [tur_fold hr l hl]
  show Tur.mk (0 + _) (0 + _) (0 + _) = _
  rw [Int.zero_add, Int.zero_add, Nat.zero_add]
  rfl
theorem colI_b {value share lamp : Int} (v0 : 0 ≤ value) (v1 : value ≤ 8) (s0 : 0 ≤ share) (s1 : share ≤ 8) (l0 : 0 ≤ lamp) (l1 : lamp ≤ 8) : 0 ≤ colI value share lamp ∧ colI value share lamp ≤ 512 := by
  have a := mulB s0 s1 (show 0 ≤ 8 - lamp by lia) (show 8 - lamp ≤ 8 by lia)
  have b := mulB v0 v1 (show 0 ≤ 64 - share * (8 - lamp) by lia) (show 64 - share * (8 - lamp) ≤ 64 by lia)
  exact ⟨b.1, by unfold colI; lia⟩
theorem lit_ex {side share value : Nat} (hs : share ≤ 8) (hv : value ≤ 8) : ∀ (l : List Nat) (H : Nat) (f0 f1 f2 : UInt64) (A0 A1 A2 B : Int), Ex f0 (A0 * 2048) → Ex f1 (A1 * 2048) → Ex f2 (A2 * 2048) → H + 8 * side * pc l < 1100 → (0 ≤ A0 ∧ A0 ≤ B) → (0 ≤ A1 ∧ A1 ≤ B) → (0 ≤ A2 ∧ A2 ≤ B) → B + 512 * (l.length : Int) ≤ 32768 →
    ∃ g0 g1 g2 L0 L1 L2, l.foldl (litStep side share value) (H, [f0, f1, f2]) = (H + 8 * side * pc l, [g0, g1, g2]) ∧ Ex g0 (L0 * 2048) ∧ Ex g1 (L1 * 2048) ∧ Ex g2 (L2 * 2048) ∧ (0 ≤ L0 ∧ L0 ≤ 32768) ∧ (0 ≤ L1 ∧ L1 ≤ 32768) ∧ (0 ≤ L2 ∧ L2 ≤ 32768) ∧
      L0 = A0 + colS side share value ((H % 8 : Nat) : Int) ((H / 8 : Nat) : Int) l 0 ∧ L1 = A1 + colS side share value ((H % 8 : Nat) : Int) ((H / 8 : Nat) : Int) l 1 ∧ L2 = A2 + colS side share value ((H % 8 : Nat) : Int) ((H / 8 : Nat) : Int) l 2
  | [], H, f0, f1, f2, A0, A1, A2, B, e0, e1, e2, hH, b0, b1, b2, hB => by
    refine ⟨f0, f1, f2, A0, A1, A2, ?_, e0, e1, e2, ?_, ?_, ?_, ?_, ?_, ?_⟩
    · show _ = (H + 8 * side * 0, _); rw [Nat.mul_zero]; rfl
    all_goals simp only [List.length_nil] at hB
    · lia
    · lia
    · lia
    · show _ = A0 + 0; lia
    · show _ = A1 + 0; lia
    · show _ = A2 + 0; lia
  | c :: l, H, f0, f1, f2, A0, A1, A2, B, e0, e1, e2, hH, b0, b1, b2, hB => by
    rw [List.length_cons] at hB
    rw [pc_cons] at hH
    rw [List.foldl_cons, pc_cons]
    by_cases q : c = 104
    · rw [if_pos q, Nat.zero_add] at hH
      rw [if_pos q, Nat.zero_add]
      obtain ⟨sg, m, e, a, b, dd, l0, l1, l2, _, _, hl, hlam, x0, x1, x2⟩ := hsv_cols (H := H) (by lia) hs hv
      obtain ⟨p0, p1, p2⟩ := lampT_b (by lia) (by lia) hlam
      have w0 := colI_b (value := value) (share := share) (by lia) (by lia) (by lia) (by lia) p0.1 p0.2
      have w1 := colI_b (value := value) (share := share) (by lia) (by lia) (by lia) (by lia) p1.1 p1.2
      have w2 := colI_b (value := value) (share := share) (by lia) (by lia) (by lia) (by lia) p2.1 p2.2
      have s0 := e0.add x0 (by lia)
      have s1 := e1.add x1 (by lia)
      have s2 := e2.add x2 (by lia)
      rw [← Int.add_mul] at s0 s1 s2
      have st : litStep side share value (H, [f0, f1, f2]) c = (H, [Float64.add f0 a, Float64.add f1 b, Float64.add f2 dd]) := by
        unfold litStep; rw [if_pos q, hl]; rfl
      rw [st]
      obtain ⟨g0, g1, g2, L0, L1, L2, k1, k2, k3, k4, k5, k6, k7, k8, k9, k10⟩ := lit_ex (side := side) hs hv l H _ _ _ _ _ _ (B + 512) s0 s1 s2 hH (by lia) (by lia) (by lia) (by lia)
      refine ⟨g0, g1, g2, L0, L1, L2, k1, k2, k3, k4, k5, k6, k7, ?_, ?_, ?_⟩ <;> rw [colS_cons, if_pos q, hlam]
      · rw [k8]; show _ = A0 + (colI value share l0 + _); lia
      · rw [k9]; show _ = A1 + (colI value share l1 + _); lia
      · rw [k10]; show _ = A2 + (colI value share l2 + _); lia
    · rw [if_neg q, Nat.mul_add, Nat.mul_one] at hH
      rw [if_neg q, Nat.mul_add, Nat.mul_one]
      have st : litStep side share value (H, [f0, f1, f2]) c = (H + 8 * side, [f0, f1, f2]) := by unfold litStep; rw [if_neg q]
      rw [st]
      obtain ⟨g0, g1, g2, L0, L1, L2, k1, k2, k3, k4, k5, k6, k7, k8, k9, k10⟩ := lit_ex (side := side) hs hv l (H + 8 * side) _ _ _ _ _ _ B e0 e1 e2 (by lia) b0 b1 b2 (by lia)
      have m1 : (H + 8 * side) % 8 = H % 8 := by lia
      have m2 : (((H + 8 * side) / 8 : Nat) : Int) = ((H / 8 : Nat) : Int) + side := by lia
      rw [m1, m2] at k8 k9 k10
      refine ⟨g0, g1, g2, L0, L1, L2, ?_, k2, k3, k4, k5, k6, k7, ?_, ?_, ?_⟩
      · rw [k1, Nat.add_assoc]
      · rw [colS_cons, if_neg q]; exact k8
      · rw [colS_cons, if_neg q]; exact k9
      · rw [colS_cons, if_neg q]; exact k10
end Mine
end
section
open PySem PySem.W PyProof.Rows
namespace Mine
theorem turnC_le (r c : Nat) : turnC r c ≤ 2 ^ (r - 1) := by
  unfold turnC hpI
  by_cases h : r = 0
  · subst h; rw [if_pos rfl]; split <;> decide
  · rw [if_neg h]; exact Nat.le_refl _
theorem pc_grown {r : Nat} (hr : r ≤ 5) : ∀ l : List Nat, (∀ x ∈ l, x = 104 ∨ x = 112) → pc (grownL l r) ≤ l.length * 2 ^ (r - 1)
  | [], _ => by rw [grown_nil]; exact Nat.zero_le _
  | c :: l, h => by
    rw [show c :: l = [c] ++ l from rfl, grownL_app, pc_app, (lead_is hr (h c List.mem_cons_self)).2, List.length_append, Nat.add_mul]
    have a := turnC_le r c
    have b := pc_grown hr l fun x hx => h x (List.mem_cons_of_mem _ hx)
    rw [show ([c] : List Nat).length * 2 ^ (r - 1) = 2 ^ (r - 1) by simp]
    lia
theorem siz_table (h0 : Int) : (siz h0 : Int) ≤ sizeT.getD (rnd h0) 1 := by
  have h := sizeT_pos (rnd_lt h0)
  have m := fmod_lt (a := h0.fdiv 6) (b := sizeT.getD (rnd h0) 1) (by lia)
  rw [← siz_int]
  unfold sizI
  lia
theorem grown_small (h0 : Int) : pc (grownL (letL h0) (rnd h0)) ≤ 24 ∧ (grownL (letL h0) (rnd h0)).length ≤ 64 := by
  have hr : rnd h0 < 6 := rnd_lt h0
  have a := pc_grown (r := rnd h0) (by lia) (letL h0) (letL_is h0)
  have b := grownL_len (letL h0) (rnd h0)
  rw [letL_len] at a b
  have c := siz_table h0
  generalize rnd h0 = r at *
  generalize siz h0 = n at *
  have six : r = 0 ∨ r = 1 ∨ r = 2 ∨ r = 3 ∨ r = 4 ∨ r = 5 := by lia
  rcases six with rfl | rfl | rfl | rfl | rfl | rfl
  · have c : (n : Int) ≤ 6 := c
    simp only [Nat.reducePow, Nat.reduceSub] at a b; lia
  · have c : (n : Int) ≤ 6 := c
    simp only [Nat.reducePow, Nat.reduceSub] at a b; lia
  · have c : (n : Int) ≤ 6 := c
    simp only [Nat.reducePow, Nat.reduceSub] at a b; lia
  · have c : (n : Int) ≤ 5 := c
    simp only [Nat.reducePow, Nat.reduceSub] at a b; lia
  · have c : (n : Int) ≤ 3 := c
    simp only [Nat.reducePow, Nat.reduceSub] at a b; lia
  · have c : (n : Int) ≤ 1 := c
    simp only [Nat.reducePow, Nat.reduceSub] at a b; lia
theorem back_ok {w : World} {A : Around} {Lc : Addr} {d : Nat} (hr : Room (cW w A Lc).A (d + 1)) {S : Side} {h0 h1 h2 : Int} :
    Runs (cW w A Lc) S (R0 (grownL (letL h0) (rnd h0)) (letL h0) (rnd h0) h0 h1 h2) (lawB.drop 15) (Ret (.bool true)) := by
  have hg := grown_small h0
  have hr5 : rnd h0 ≤ 5 := by have := rnd_lt h0; lia
  have s1 := side_is h1
  have s2 := start_lt h1
  have s3 := share_le h1
  have s4 := value_le h1
  refine sides_ok hr ?_
  refine lights_ok (g := grownL (letL h0) (rnd h0)) (l := letL h0) (r := rnd h0) (side := sideN h1) (start := startN h1) (share := shareN h1) (value := valueN h1) hr (by lia) s2 s3 s4.2 hg.1 ?_
  refine turtle_ok (g := grownL (letL h0) (rnd h0)) (l := letL h0) (r := rnd h0) (side := sideN h1) (start := startN h1) (share := shareN h1) (value := valueN h1) hr hr5 (letL_is h0) ?_
  rw [tur_is hr5 (letL_is h0)]
  generalize grownL (letL h0) (rnd h0) = g at *
  generalize sideN h1 = side at *
  generalize startN h1 = start at *
  generalize shareN h1 = share at *
  generalize valueN h1 = value at *
  have z0 : Ex (0 : UInt64) (0 * 2048) := Ex.chk (by decide +kernel)
  have hH : start + 8 * side * pc g < 1100 := by
    have : 8 * side * pc g ≤ 40 * 24 := Nat.mul_le_mul (by lia) hg.1
    lia
  obtain ⟨g0, g1, g2, L0, L1, L2, k1, k2, k3, k4, k5, k6, k7, k8, k9, k10⟩ := lit_ex (side := side) s3 s4.2 g start 0 0 0 0 0 0 0 z0 z0 z0 hH (by lia) (by lia) (by lia) (by lia)
  unfold litAt
  rw [k1]
  have d1 : ((start : Nat) : Int).fdiv 8 = ((start / 8 : Nat) : Int) := by rw [Int.fdiv_eq_ediv_of_nonneg _ (by decide)]; lia
  have d2 : ((start : Nat) : Int).fmod 8 = ((start % 8 : Nat) : Int) := by rw [Int.fmod_eq_emod_of_nonneg _ (by decide)]; lia
  obtain ⟨p0, p1, p2, hp⟩ := lampT3 ((start : Int).fdiv 8) ((start : Int).fmod 8)
  obtain ⟨q0, q1, q2, hq⟩ := lampT3 ((start : Int).fdiv 8 + side) ((start : Int).fmod 8)
  obtain ⟨t, ht⟩ := col_path (side := side) (share := share) (value := value) (r := ((start % 8 : Nat) : Int)) (by lia) g ((start / 8 : Nat) : Int)
  refine tail_ok hr (by lia) s2 s3 s4.2 k2 k3 k4 k5 k6 k7 hp hq (by show ((start + 8 * side * pc g : Nat) : Int) = start + 8 * side * (pc g : Nat); rw [Int.natCast_add, Int.natCast_mul, Int.natCast_mul]; rfl) ⟨t, ?_, ?_, ?_⟩
  · have := ht 0 (by decide)
    rw [← d1, ← d2, hp, hq] at this
    rw [k8, ← d1, ← d2, Int.zero_add]
    exact this
  · have := ht 1 (by decide)
    rw [← d1, ← d2, hp, hq] at this
    rw [k9, ← d1, ← d2, Int.zero_add]
    exact this
  · have := ht 2 (by decide)
    rw [← d1, ← d2, hp, hq] at this
    rw [k10, ← d1, ← d2, Int.zero_add]
    exact this
theorem law_ok {w : World} {A : Around} {Lc : Addr} {d : Nat} (hr : Room (cW w A Lc).A (d + 4)) {ns : List Int} (hn : ns.length ≤ 63) :
    Runs (cW w A Lc) S136 [(Str.ofString "script", .lst (ns.map .int))] lawB (Tab136 (Ret (.bool true))) := by
  refine heaps_ok (d := d + 3) hr hn ?_
  exact front_ok (d := d) hr fun L => back_ok (d := d + 3) hr
end Mine
end
section
open PySem PySem.W PyProof.Rows PySem.W.BT
namespace Mine
noncomputable section
noncomputable def q9 : Program := view PG [20]
noncomputable def loose9 : List Str := [Str.ofString "b1_set", Str.ofString "b3_exceptions", Str.ofString "_netrclex", Str.ofString "rgb_to_hsv", Str.ofString "hsv_to_rgb", Str.ofString "in_table_b1", Str.ofString "map_table_b3", Str.ofString "_law_lexer", Str.ofString "_law_written", Str.ofString "_law_prepared", Str.ofString "_law_unseen", Str.ofString "_law_letter", Str.ofString "_law_word", Str.ofString "_law_image", Str.ofString "_law_leads", Str.ofString "_law_lamps"]
noncomputable abbrev Xt9 : Shared → Bool := fun s => xlAt q9 [] s && recOk [] s
noncomputable def KHas : List Addr := [136, 0, 1, 2, 3, 4, 5, 6, 7, 9, 10, 11, 13, 14, 15, 16, 17, 18, 20, 21, 22, 24, 25, 27, 28, 29, 31, 32, 34, 35, 36, 38, 39, 41, 42, 43, 45, 46, 48, 49, 50, 51, 52, 53, 54, 55, 56, 57, 59, 60, 62, 63, 64, 66, 67, 69, 70, 71, 72, 73, 74, 75, 76, 77, 78, 79, 80, 81, 82, 84, 85, 87, 88, 89, 90, 91, 92, 93, 94, 95, 96, 97, 98, 99, 100, 101, 102, 103, 104, 105, 106, 107, 108, 109, 110, 111, 112, 113, 114, 115, 116, 117, 118, 119, 120, 121, 122, 123, 124, 125, 126, 127, 128, 130, 131, 133, 134, 135, 137, 138, 140, 141, 142, 145, 146, 147, 150, 151, 152, 154, 155, 157, 158, 159, 161, 162, 164, 165, 166, 169, 170, 171, 173, 174, 176, 177, 178, 180, 181, 183, 184, 185, 187, 188, 190, 191, 192, 195, 196]
noncomputable def KH (P : Params) : Frag := (136, ob136 P) :: KF P
theorem KH_as (P : Params) : KHas = (KH P).map (·.1) := by kernel_rfl
noncomputable abbrev HK : Hook := kHook KH KHas KH_as
noncomputable def N8 : Nat := 30000
theorem tw_seen : @openSeen = @PySem.W.Fast.tw4187177175401517315 := PySem.W.Fast.te4187177175401517315
theorem sizeT9 (w : World) : ((boot_heap w.params).isNs mainGlobals && (Array.mk [] : Array GenState).size == 0, (boot_heap w.params).objs.size, (boot_heap w.params).nsMap mainGlobals "__annotations__") = (true, 11, some (.ref 6)) := by kernel_rfl
theorem look1 (w : World) : (fun os : OsState => (staticsOk (importedModules PG.main.body) (boot_heap w.params) (finH w.params) && namesBound PG (finH w.params) && gensDone ⟨finH w.params, Array.mk [], {}, 2388, os⟩ && laidKept (boot_heap w.params) (finH w.params))) = fun _ => true := by kernel_rfl
theorem look2 (w : World) : (fun os : OsState => (openSeen q9 loose9 (importedModules PG.main.body) Xt9 true ⟨finH w.params, Array.mk [], {}, 2388, os⟩)) = fun _ => openGood q9 loose9 := by
  rw [tw_seen]; kernel_rfl
theorem look3 (w : World) : (fun os : OsState => HK.obs ⟨finH w.params, Array.mk [], {}, 2388, os⟩) = fun _ => HK.val w := by kernel_rfl
theorem openT : ∀ w : World, (fencedOpening treeTable PG w N8).map (fun s => (s.heap, s.gens, s.drawn, s.toks)) = some (boot_heap w.params, Array.mk [], boot_drawn, boot_toks) :=
  boot_open (p := PG) (N := N8) (by kernel_rfl) (by kernel_rfl) (fun s => by rfl)
theorem headT : LeftO PG q9 loose9 Xt9 HK.obs HK.val N8 :=
  LeftO.of_pieces (m₀ := 11) (ann := some (.ref 6)) (M := 14341) (H₀ := boot_heap) (H₁ := finH) (gs₀ := Array.mk []) (gs₁ := Array.mk []) (d₀ := boot_drawn) (d₁ := {}) (k₀ := boot_toks) (k₁ := 2388)
    openT sizeT9 run_top (by kernel_rfl) fun w => funext fun os => looks_pair (congrFun (look1 w) os) (looks_pair (congrFun (look2 w) os) (congrFun (look3 w) os))
end
end Mine
end
section
open PySem PySem.W PyProof.Rows PySem.W.BT
namespace Mine
theorem KF136 (P : Params) : (KF P).lookup 136 = none := by kernel_rfl
theorem KH_in {P : Params} {h : Heap} (KX : (KH P).In h) : (KF P).In h ∧ h.get? 136 = some (ob136 P) := by
  refine ⟨fun a o e => KX a o ?_, KX 136 _ rfl⟩
  show List.lookup a ((136, ob136 P) :: KF P) = some o
  rw [List.lookup_cons]
  cases q : a == 136 with
  | true =>
    have := eq_of_beq q
    subst this
    have e : (KF P).lookup 136 = some o := e
    rw [KF136] at e; cases e
  | false => exact e
theorem look140 (P : Params) : (KF P).lookup 140 = some (ob140 P) := by kernel_rfl
theorem room_caller : Room callerA 5 := ⟨by decide, by decide, rfl⟩
theorem call_law {w : World} {s₁ : Shared} {ns : List Int} {D : Addr} {vs : List Value} {n : Nat} {Q : Value → Shared → Prop} {E : Value → Shared → Prop} (KX : (KH w.params).In s₁.heap) (hD : s₁.heap.get? D = some { cls := .type "list", data := .seq vs.toArray n }) (hI : IntsAre vs ns) (hn : ns.length ≤ 63)
    (hQ : ∀ s', OldK s₁.heap s'.heap → s'.os = s₁.os → s'.gens = s₁.gens → Q (.bool true) s') : wpAny (model PG w) callerA (PySem.call (.ref 196) [.ref D]) Q E s₁ := by
  obtain ⟨KI, k136⟩ := KH_in KX
  let F : PM := fun a => if a = 136 then none else s₁.heap.get? a
  have F136 : F 136 = none := if_pos rfl
  have Fne : ∀ {a : Addr}, a ≠ 136 → F a = s₁.heap.get? a := fun h => if_neg h
  have hsub : Sub F s₁.heap.get? := fun a o e => by
    by_cases q : a = 136
    · subst q; rw [F136] at e; cases e
    · rw [Fne q] at e; exact e
  have hbase : ∀ a o, (KF w.params).lookup a = some o → F a = some o := fun a o e => by
    have : a ≠ 136 := by rintro rfl; rw [KF136] at e; cases e
    rw [Fne this]; exact KI a o e
  have hDne : D ≠ 136 := by
    rintro rfl
    rw [k136] at hD
    have h := congrArg (fun o => o.map Obj.cls) hD
    have h : some Value.none = some (Value.type "list") := h
    cases h
  have hv : VRs F [.lst (ns.map .int)] [.ref D] := VRs.one (by unfold VR; exact ⟨D, vs, n, rfl, by rw [Fne hDne]; exact hD, VRs.ofInts hI⟩)
  refine enterC (fd := fdL) (names := [Str.ofString "script"]) (own := ownL) (o := ob196 w.params) (body := lawB) (d := 4) room_caller hsub hbase hv (by kernel_rfl) rfl rfl rfl (by kernel_rfl) (by kernel_rfl) (by kernel_rfl) (bind1 (fun _ => rfl) F _ hv) (by decide +kernel) (by decide +kernel) (by decide +kernel) rfl rfl rfl (fun Lc s₂ E' hroom hf e₀ hrel => ?_)
  have t₂ : s₂.heap.get? 136 = some (tabObj #[]) := e₀.keep _ _ k136
  refine (law_ok (w := w) (A := callerA) (Lc := Lc) (d := 0) hroom hn).run F s₂ _ E' hf ⟨F136, t₂⟩ (fun a ha hr => ?_) fun fl F' s' x hfl => ?_
  · have e : a = 136 := ha
    subst e
    have := hrel _ hr
    rw [k136] at this; cases this
  · obtain ⟨⟨v, rfl, hv⟩, ps, hps⟩ := hfl
    unfold VR at hv
    subst hv
    have kept : ∀ b o, b ≠ 136 → s₁.heap.get? b = some o → s'.heap.get? b = some o := fun b o hb e => by
      refine x.keep b o (fun q => ?_) (e₀.keep b o e)
      rcases q with q | q
      · have := hrel b q.rel
        rw [e] at this; cases this
      · exact hb q
    refine hQ s' ⟨fun b o e => ?_, fun b o e => ?_⟩ ?_ ?_
    · by_cases hb : b = 136
      · subst hb
        rw [k136] at e
        cases e
        refine .inr (.inl ⟨⟨140, ob140 w.params, _, KI _ _ (look140 _), rfl, rfl, rfl⟩, rfl, #[], ps, rfl, ?_⟩)
        rw [hps, Array.empty_append]
        rfl
      · exact .inl (kept b o hb e)
    · by_cases hb : b = 136
      · subst hb; exact ⟨_, hps⟩
      · exact ⟨o, kept b o hb e⟩
    · obtain ⟨h1, t1, r1⟩ := x.rest
      obtain ⟨h2, t2, r2⟩ := e₀.rest
      rw [r1, r2]
    · obtain ⟨h1, t1, r1⟩ := x.rest
      obtain ⟨h2, t2, r2⟩ := e₀.rest
      rw [r1, r2]
theorem law_at (P : Params) : nsIn (KF P) mainGlobals (Str.ofString "law") = some (some (.ref 196)) := by kernel_rfl
theorem globals_str (P : Params) : strNsIn (KF P) mainGlobals = true := by kernel_rfl
end Mine
end
section
open PySem PySem.W PyProof.Rows PySem.W.BT
namespace Mine
theorem law_addr {P : Params} {h : Heap} {mg : Str → Option Value} {a : Addr} (KX : (KH P).In h) (hns : h.Ns mainGlobals mg) (hm : mg (Str.ofString "law") = some (.ref a)) : a = 196 := by
  obtain ⟨m, hm2, hx⟩ := ns_of_strNs (KH_in KX).1 (globals_str P)
  have e1 := hx _ _ (law_at P)
  have e2 := Heap.Ns.agree hns hm2 (Str.ofString "law")
  rw [e1, hm] at e2
  injection e2 with e2
  injection e2
noncomputable def dLaw : DefRec := match defOf q9 (Str.ofString "law") with | some (d, _) => d | none => ⟨Str.ofString "law", dParams (stAt 20), [], dScope (stAt 20), default⟩
theorem dLaw_def : defOf q9 PySem.Challenge.rw_rw0106_01.name = some (dLaw, []) := by kernel_rfl
theorem dLaw_the : PySem.Challenge.rw_rw0106_01.prog.theDef PySem.Challenge.rw_rw0106_01.name = some (dLaw.params, dLaw.body, dLaw.scope) := by kernel_rfl
theorem dLaw_kw : kwWritten? dLaw.params.kwonlyargs dLaw.params.kw_defaults = some [] := by kernel_rfl
theorem dLaw_name : dLaw.name = Str.ofString "law" := by kernel_rfl
noncomputable abbrev RW9 := PySem.Challenge.rw_rw0106_01
theorem sa1 : sreFenced RW9.row.prog.main = true := by kernel_rfl
theorem sa2 : ((moduleNames RW9.row.prog.main.body).isEmpty || lookedIntoSs (moduleNames RW9.row.prog.main.body) RW9.row.prog.main.body) = true := by kernel_rfl
theorem sa3 : namesResolve RW9.row.prog = true := by kernel_rfl
theorem sa4 : (RW9.row.prog.boundNames.all fun n => !worldNames.contains n) = true := by kernel_rfl
theorem sa5 : noRoadLSs { strict := !(importedModules RW9.row.prog.main.body).all cThrough.contains, foot := none, bare := (["vars", "dir", "locals"] : List Str).filter (readsOut RW9.row.prog RW9.row.prog.main.body) } RW9.row.prog.main.body = true := by kernel_rfl
theorem sd0 : looksOpen RW9.row.prog = true := by
  unfold looksOpen
  repeat' with_reducible refine look_both ?_ ?_
  all_goals first | with_reducible exact sa1 | with_reducible exact sa2 | with_reducible exact sa3 | with_reducible exact sa4 | with_reducible exact sa5 | kernel_rfl
theorem sd12 : RW9.row.partSaid = true := by
  unfold OpenRow.partSaid
  repeat' with_reducible refine look_both ?_ ?_
  all_goals first | with_reducible exact sd0 | kernel_rfl
theorem sd1 : RW9.row.wellSaid = true := by
  unfold OpenRow.wellSaid
  repeat' with_reducible refine look_both ?_ ?_
  all_goals first | with_reducible exact sd12 | kernel_rfl
theorem sd2 : RW9.footing.all footLine = true := by kernel_rfl
theorem sd3 : noClassBlock RW9.prog RW9.footing = true := by kernel_rfl
theorem sd4 : noRoadLSs { strict := true, foot := some RW9.bound', writes := RW9.writes, may := RW9.may } RW9.footing = true := by kernel_rfl
theorem sd5 : defStands RW9.about RW9.above = true := by kernel_rfl
theorem sd6 : RW9.namesIt = true := by kernel_rfl
theorem sd7 : (RW9.bound'.all fun n => !builtinNamed n || RW9.about == [n] || !RW9.reads n) = true := by kernel_rfl
theorem sd8 : (RW9.own.eraseDups.length == RW9.own.length) = true := by kernel_rfl
theorem sd9 : (RW9.own.all fun n => !builtinNamed n) = true := by kernel_rfl
theorem sd10 : (namesMeet RW9.prog RW9.above fun x n => !RW9.own.contains n) = true := by kernel_rfl
theorem sd11 : (namesMeet RW9.prog RW9.footing fun sc n => sc.kind == ScopeKind.module || List.lookup n sc.names != some NameKind.globalExplicit) = true := by kernel_rfl
theorem law_said : OpenLaw.wellSaid PySem.Challenge.rw_rw0106_01 = true := by
  unfold OpenLaw.wellSaid
  repeat' with_reducible refine look_both ?_ ?_
  all_goals first | with_reducible exact sd1 | with_reducible exact sd2 | with_reducible exact sd3 | with_reducible exact sd4 | with_reducible exact sd5 | with_reducible exact sd6 | with_reducible exact sd7 | with_reducible exact sd8 | with_reducible exact sd9 | with_reducible exact sd10 | with_reducible exact sd11 | kernel_rfl
end Mine
set_option maxHeartbeats 8000000 in
theorem PySem.Challenge.cw_rw0106_01_holds : PySem.Challenge.rw_rw0106_01.Holds := by
  w_on
  refine holds_law Mine.law_said fun said => ?_
  refine PySem.W.holds_open (d := Mine.dLaw) (kwd := []) (q := Mine.q9) (loose := Mine.loose9) (Xt := Mine.Xt9) (XP := XL Mine.q9 []) (Yf := Mine.HK.obs) (Ya := Mine.HK.val) (YP := Mine.HK.says) (N := Mine.N8) Mine.headT Mine.HK.of Mine.HK.keeps (fun s e => xl_of s (Bool.and_eq_true_iff.mp e).1) XL.keeps Mine.dLaw_def Mine.dLaw_the Mine.dLaw_kw (fun s e => recFacts_of (Bool.and_eq_true_iff.mp e).2) (by rfl) (by assumption) (by decide +kernel) ⟨rfl, rfl, rfl, rfl, rfl, by decide +kernel⟩ ?hw ?hc
  case hw => w_witness2
  case hc =>
    intro w s₀ s₁ mg mb G Y a o pm cd doc dV kV ho hd hcd hD hmg hg args vals as hpre hlay hrd hwl hlo
    have KX := kIn_of Y
    have hmg' : mg (PySem.Str.ofString "law") = some (.ref a) := by rw [← Mine.dLaw_name]; exact hmg
    have hns := (Ground.T G).g
    clear hd ho hD hcd hmg
    wrow_args hpre hlay hrd hwl hlo
    rename_i ns hs hlay0 hL1 hr1 hl2 as2 as3 D vs as1 hL ra w1 r0 hI hr hlen hT
    have ha : a = 196 := Mine.law_addr KX hns hmg'
    subst ha
    have w1' : Well w.params s₁.heap (.ref D) (.list (ofPys (ns.map PyData.int))) := by simpa only [ofPy] using w1
    cases w1' with
    | list hobj hall =>
      rename_i vs'
      obtain ⟨oo, ho, hc, n, hd⟩ := hL
      rw [hobj] at ho
      cases ho
      injection hd with hd1 hd2
      rw [hd1] at hobj
      refine Mine.call_law KX hobj hI (by lia) fun s' hK hos hgens => ⟨.inl ⟨_, _, [], rfl, fun _ => rfl, ReadsW.bool true, ?_, fun _ => ⟨List.nodup_nil, fun _ hm => (nomatch hm)⟩⟩, hK, hos, .of_eq (hgens.trans hg)⟩
      first | rfl | wrow_post
end
