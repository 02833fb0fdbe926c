import PyProof.Rows.All
import Wide.All
import OpenK.AllK
import Wide.FinOn
import PySem.Challenge.RW_iw0011_01
open PySem PySem.W PyProof.Rows PySem.Challenge
set_option Elab.async false
set_option maxRecDepth 100000
set_option maxHeartbeats 4000000
set_option pp.deepTerms false
set_option pp.proofs.withType false
set_option pp.maxSteps 3000
set_option linter.all false
set_option compiler.extract_closed false
namespace Mine
local macro_rules | `(tactic| walk_at $s:str) => `(tactic| k_extra $s)
section
section
open BT
noncomputable def stAt (x : List Nat) : Option Stmt := match x with
  | [i] => pw_iw0011_01.main.body[i]?
  | [i, j] => match pw_iw0011_01.main.body[i]? with
    | some (.ClassDef _ _ _ b _ _ _ _ _ _ _) => b[j]?
    | _ => none
  | _ => none
noncomputable def fPar (x : List Nat) : Arguments := match stAt x with
  | some (.FunctionDef _ a _ _ _ _ _ _ _ _) => a
  | _ => ⟨[], [], none, [], [], none, []⟩
noncomputable def fBod (x : List Nat) : List Stmt := match stAt x with
  | some (.FunctionDef _ _ b _ _ _ _ _ _ _) => b
  | _ => []
noncomputable def fSco (x : List Nat) : Scope := match stAt x with
  | some (.FunctionDef _ _ _ _ _ _ s _ _ _) => s
  | _ => ⟨.module, [], false, false, []⟩
/-- an object of a def, with the def's own parts written out by unification -/
@[reducible] noncomputable def mkO (o : Arguments → List Stmt → Scope → Obj) (x : List Nat) (y : {y : Obj // y = o (fPar x) (fBod x) (fSco x)}) : Obj := y.1
noncomputable def a11 : Obj := ⟨.type "tuple", none, .seq #[] 0, #[]⟩
noncomputable def a12 : Obj := ⟨.none, none, .fields #[], #[]⟩
noncomputable def a13 : Obj := ⟨.type "code", none, .fields #[.str "<module>" 182, .str "<module>" 183, .str "/claim/cut.py" 184, .int 1 0, .int 0 0, .int 0 0, .int 0 0, .int 0 0, .ref 11, .bool false, .int 181 0, .ref 12, .none, .none, .none, .none, .int 185 0, .int 1 0, .str "/claim/cut.py" 186], #[]⟩
noncomputable def a14 : Obj := ⟨.type "frame", none, .plain, #[some (.ref 13), some (.ref 3), some (.ref 3), none, some (.str "__main__" 164), none, some (.ref 0)]⟩
noncomputable def b3 (P : Params) : Obj := ⟨.type "dict", none, .dict #[⟨PyData.keyHash P "__name__", .str "__name__" 165, .str "passlib.utils.binary" 257⟩, ⟨PyData.keyHash P "__doc__", .str "__doc__" 166, .none⟩, ⟨PyData.keyHash P "__package__", .str "__package__" 167, .none⟩, ⟨PyData.keyHash P "__loader__", .str "__loader__" 168, .builtin "__main__.__loader__#opaque"⟩, ⟨PyData.keyHash P "__spec__", .str "__spec__" 169, .none⟩, ⟨PyData.keyHash P "__annotations__", .str "__annotations__" 170, .ref 6⟩, ⟨PyData.keyHash P "__builtins__", .str "__builtins__" 171, .ref 4⟩, ⟨PyData.keyHash P "__file__", .str "__file__" 173, .str "/claim/cut.py" 172⟩, ⟨PyData.keyHash P "__cached__", .str "__cached__" 174, .none⟩, ⟨PyData.keyHash P "_wall", .str "_wall" 193, .ref 21⟩, ⟨PyData.keyHash P "PasswordValueError", .str "PasswordValueError" 213, .ref 31⟩, ⟨PyData.keyHash P "_get_name", .str "_get_name" 220, .ref 41⟩, ⟨PyData.keyHash P "ExpectedTypeError", .str "ExpectedTypeError" 229, .ref 48⟩, ⟨PyData.keyHash P "ExpectedStringError", .str "ExpectedStringError" 237, .ref 55⟩, ⟨PyData.keyHash P "NullPasswordError", .str "NullPasswordError" 245, .ref 63⟩, ⟨PyData.keyHash P "repeat_string", .str "repeat_string" 256, .ref 70⟩, ⟨PyData.keyHash P "HASH64_CHARS", .str "HASH64_CHARS" 260, .str "./0123456789ABCDEFGHIJKLMNOPQRSTUVWXYZabcdefghijklmnopqrstuvwxyz" 259⟩, ⟨PyData.keyHash P "Base64Engine", .str "Base64Engine" 555, .ref 297⟩] 18, #[]⟩
noncomputable def b12 : Obj := ⟨.none, none, .fields #[.int 1 0, .int 0 0, .ref 20, .int 5 0, .int 0 0, .ref 27, .int 7 0, .int 0 0, .ref 40, .int 9 0, .int 0 0, .ref 47, .int 11 0, .int 0 0, .ref 54, .int 13 0, .int 0 0, .ref 62, .int 17 0, .int 0 0, .ref 69, .int 22 0, .int 0 0, .ref 76], #[]⟩
noncomputable def b15 : Obj := ⟨.type "tuple", none, .seq #[] 0, #[]⟩
noncomputable def b16 : Obj := ⟨.none, none, .fields #[], #[]⟩
noncomputable def b17 : Obj := ⟨.type "tuple", none, .seq #[.str "k" 190] 0, #[]⟩
noncomputable def b18 : Obj := ⟨.type "tuple", none, .seq #[] 0, #[]⟩
noncomputable def b19 : Obj := ⟨.none, none, .func ⟨"_wall", "_wall", fPar [0], .stmts (fBod [0]), fSco [0], 0, [], .none, .none, .none, .none, none, .none, .none, 0⟩, #[]⟩
noncomputable def b20 : Obj := ⟨.type "code", none, .fields #[.str "_wall" 187, .str "_wall" 188, .str "/claim/cut.py" 189, .int 1 0, .int 1 0, .int 0 0, .int 0 0, .int 3 0, .ref 15, .bool true, .int 181 0, .ref 16, .none, .ref 17, .ref 18, .ref 19, .int 191 0, .int 1 0, .str "/claim/cut.py" 192], #[]⟩
noncomputable def b21 : Obj := ⟨.type "function", none, .func ⟨"_wall", "_wall", fPar [0], .stmts (fBod [0]), fSco [0], 3, [], .none, .none, .none, .str "__main__" 164, none, .ref 20, .none, 0⟩, #[]⟩
noncomputable def b22 : Obj := ⟨.type "tuple", none, .seq #[.type "ValueError"] 0, #[]⟩
noncomputable def b23 : Obj := ⟨.type "builtin_function_or_method", none, .fields #[.builtin "type.__prepare__", .type "type"], #[]⟩
noncomputable def b24 (P : Params) : Obj := ⟨.type "dict", none, .dict #[⟨PyData.keyHash P "__module__", .str "__module__" 203, .str "passlib.exc" 194⟩, ⟨PyData.keyHash P "__qualname__", .str "__qualname__" 205, .str "PasswordValueError" 204⟩, ⟨PyData.keyHash P "__firstlineno__", .str "__firstlineno__" 207, .int 5 206⟩, ⟨PyData.keyHash P "__static_attributes__", .str "__static_attributes__" 208, .ref 29⟩] 4, #[]⟩
noncomputable def b25 : Obj := ⟨.type "tuple", none, .seq #[] 0, #[]⟩
noncomputable def b26 : Obj := ⟨.none, none, .fields #[], #[]⟩
noncomputable def b27 : Obj := ⟨.type "code", none, .fields #[.str "PasswordValueError" 198, .str "PasswordValueError" 199, .str "/claim/cut.py" 200, .int 5 0, .int 0 0, .int 0 0, .int 0 0, .int 0 0, .ref 25, .bool false, .int 181 0, .ref 26, .none, .none, .none, .none, .int 201 0, .int 5 0, .str "/claim/cut.py" 202], #[]⟩
noncomputable def b28 : Obj := ⟨.type "frame", none, .plain, #[some (.ref 27), some (.ref 3), some (.ref 24), none, some (.str "passlib.exc" 194), none, some (.ref 0)]⟩
noncomputable def b29 : Obj := ⟨.type "tuple", none, .seq #[] 0, #[]⟩
noncomputable def b30 (P : Params) : Obj := ⟨.type "dict", none, .dict #[⟨PyData.keyHash P "__module__", .str "__module__" 203, .str "passlib.exc" 194⟩, ⟨PyData.keyHash P "__firstlineno__", .str "__firstlineno__" 207, .int 5 206⟩, ⟨PyData.keyHash P "__static_attributes__", .str "__static_attributes__" 208, .ref 29⟩, ⟨PyData.keyHash P "__weakref__", .str "__weakref__" 210, .ref 32⟩, ⟨PyData.keyHash P "__doc__", .str "__doc__" 211, .none⟩] 3, #[]⟩
noncomputable def b31 : Obj := ⟨.type "type", none, .cls ⟨"PasswordValueError", [.type "ValueError"], [.ref 31, .type "ValueError", .type "Exception", .type "BaseException", .type "object"], 30, "PasswordValueError", true, [], [], false, none, false⟩, #[some (.ref 22), none, some (.str "PasswordValueError" 196), some (.str "PasswordValueError" 204), some (.builtin "ValueError.__new__"), some (.bool true)]⟩
noncomputable def b32 : Obj := ⟨.type "getset_descriptor", none, .fields #[.str "__weakref__" 209, .ref 31, .builtin "ExceptionGroup.__weakref__", .none], #[]⟩
noncomputable def b33 : Obj := ⟨.type "super", none, .fields #[.ref 31, .ref 31, .ref 31], #[]⟩
noncomputable def b34 : Obj := ⟨.type "builtin_function_or_method", none, .fields #[.builtin "object.__init_subclass__", .ref 31], #[]⟩
noncomputable def b35 : Obj := ⟨.type "tuple", none, .seq #[] 0, #[]⟩
noncomputable def b36 : Obj := ⟨.none, none, .fields #[], #[]⟩
noncomputable def b37 : Obj := ⟨.type "tuple", none, .seq #[.str "handler" 217] 0, #[]⟩
noncomputable def b38 : Obj := ⟨.type "tuple", none, .seq #[] 0, #[]⟩
noncomputable def b39 : Obj := ⟨.none, none, .func ⟨"_get_name", "_get_name", fPar [3], .stmts (fBod [3]), fSco [3], 0, [], .none, .none, .none, .none, none, .none, .none, 0⟩, #[]⟩
noncomputable def b40 : Obj := ⟨.type "code", none, .fields #[.str "_get_name" 214, .str "_get_name" 215, .str "/claim/cut.py" 216, .int 7 0, .int 1 0, .int 0 0, .int 0 0, .int 3 0, .ref 35, .bool true, .int 181 0, .ref 36, .none, .ref 37, .ref 38, .ref 39, .int 218 0, .int 7 0, .str "/claim/cut.py" 219], #[]⟩
noncomputable def b41 : Obj := mkO (fun a b s => ⟨.type "function", none, .func ⟨"_get_name", "_get_name", a, .stmts b, s, 3, [], .none, .none, .none, .str "passlib.exc" 194, none, .ref 40, .none, 0⟩, #[]⟩) [3] ⟨⟨_, _, .func ⟨_, _, ⟨_, _, _, _, _, _, _⟩, .stmts (_ :: _), ⟨_, _, _, _, _⟩, _, _, _, _, _, _, _, _, _, _⟩, _⟩, rfl⟩
noncomputable def b42 : Obj := ⟨.type "tuple", none, .seq #[] 0, #[]⟩
noncomputable def b43 : Obj := ⟨.none, none, .fields #[], #[]⟩
noncomputable def b44 : Obj := ⟨.type "tuple", none, .seq #[.str "value" 224, .str "expected" 225, .str "param" 226] 0, #[]⟩
noncomputable def b45 : Obj := ⟨.type "tuple", none, .seq #[] 0, #[]⟩
noncomputable def b46 : Obj := ⟨.none, none, .func ⟨"ExpectedTypeError", "ExpectedTypeError", fPar [4], .stmts (fBod [4]), fSco [4], 0, [], .none, .none, .none, .none, none, .none, .none, 0⟩, #[]⟩
noncomputable def b47 : Obj := ⟨.type "code", none, .fields #[.str "ExpectedTypeError" 221, .str "ExpectedTypeError" 222, .str "/claim/cut.py" 223, .int 9 0, .int 3 0, .int 0 0, .int 0 0, .int 3 0, .ref 42, .bool true, .int 181 0, .ref 43, .none, .ref 44, .ref 45, .ref 46, .int 227 0, .int 9 0, .str "/claim/cut.py" 228], #[]⟩
noncomputable def b48 : Obj := ⟨.type "function", none, .func ⟨"ExpectedTypeError", "ExpectedTypeError", fPar [4], .stmts (fBod [4]), fSco [4], 3, [], .none, .none, .none, .str "passlib.exc" 194, none, .ref 47, .none, 0⟩, #[]⟩
noncomputable def b49 : Obj := ⟨.type "tuple", none, .seq #[] 0, #[]⟩
noncomputable def b50 : Obj := ⟨.none, none, .fields #[], #[]⟩
noncomputable def b51 : Obj := ⟨.type "tuple", none, .seq #[.str "value" 233, .str "param" 234] 0, #[]⟩
noncomputable def b52 : Obj := ⟨.type "tuple", none, .seq #[] 0, #[]⟩
noncomputable def b53 : Obj := ⟨.none, none, .func ⟨"ExpectedStringError", "ExpectedStringError", fPar [5], .stmts (fBod [5]), fSco [5], 0, [], .none, .none, .none, .none, none, .none, .none, 0⟩, #[]⟩
noncomputable def b54 : Obj := ⟨.type "code", none, .fields #[.str "ExpectedStringError" 230, .str "ExpectedStringError" 231, .str "/claim/cut.py" 232, .int 11 0, .int 2 0, .int 0 0, .int 0 0, .int 3 0, .ref 49, .bool true, .int 181 0, .ref 50, .none, .ref 51, .ref 52, .ref 53, .int 235 0, .int 11 0, .str "/claim/cut.py" 236], #[]⟩
noncomputable def b55 : Obj := ⟨.type "function", none, .func ⟨"ExpectedStringError", "ExpectedStringError", fPar [5], .stmts (fBod [5]), fSco [5], 3, [], .none, .none, .none, .str "passlib.exc" 194, none, .ref 54, .none, 0⟩, #[]⟩
noncomputable def b56 : Obj := ⟨.type "tuple", none, .seq #[.none] 0, #[]⟩
noncomputable def b57 : Obj := ⟨.type "tuple", none, .seq #[] 0, #[]⟩
noncomputable def b58 : Obj := ⟨.none, none, .fields #[], #[]⟩
noncomputable def b59 : Obj := ⟨.type "tuple", none, .seq #[.str "handler" 241, .str "name" 242] 0, #[]⟩
noncomputable def b60 : Obj := ⟨.type "tuple", none, .seq #[] 0, #[]⟩
noncomputable def b61 : Obj := ⟨.none, none, .func ⟨"NullPasswordError", "NullPasswordError", fPar [6], .stmts (fBod [6]), fSco [6], 0, [], .none, .none, .none, .none, none, .none, .none, 0⟩, #[]⟩
noncomputable def b62 : Obj := ⟨.type "code", none, .fields #[.str "NullPasswordError" 238, .str "NullPasswordError" 239, .str "/claim/cut.py" 240, .int 13 0, .int 1 0, .int 0 0, .int 0 0, .int 3 0, .ref 57, .bool true, .int 181 0, .ref 58, .none, .ref 59, .ref 60, .ref 61, .int 243 0, .int 13 0, .str "/claim/cut.py" 244], #[]⟩
noncomputable def b63 : Obj := mkO (fun a b s => ⟨.type "function", none, .func ⟨"NullPasswordError", "NullPasswordError", a, .stmts b, s, 3, [], .ref 56, .none, .none, .str "passlib.exc" 194, none, .ref 62, .none, 0⟩, #[]⟩) [6] ⟨⟨_, _, .func ⟨_, _, ⟨_, _, _, _, _, _, _⟩, .stmts (_ :: _), ⟨_, _, _, _, _⟩, _, _, _, _, _, _, _, _, _, _⟩, _⟩, rfl⟩
noncomputable def b64 : Obj := ⟨.type "tuple", none, .seq #[] 0, #[]⟩
noncomputable def b65 : Obj := ⟨.none, none, .fields #[], #[]⟩
noncomputable def b66 : Obj := ⟨.type "tuple", none, .seq #[.str "source" 251, .str "size" 252, .str "mult" 253] 0, #[]⟩
noncomputable def b67 : Obj := ⟨.type "tuple", none, .seq #[] 0, #[]⟩
noncomputable def b68 : Obj := ⟨.none, none, .func ⟨"repeat_string", "repeat_string", fPar [8], .stmts (fBod [8]), fSco [8], 0, [], .none, .none, .none, .none, none, .none, .none, 0⟩, #[]⟩
noncomputable def b69 : Obj := ⟨.type "code", none, .fields #[.str "repeat_string" 248, .str "repeat_string" 249, .str "/claim/cut.py" 250, .int 17 0, .int 2 0, .int 0 0, .int 0 0, .int 3 0, .ref 64, .bool true, .int 181 0, .ref 65, .none, .ref 66, .ref 67, .ref 68, .int 254 0, .int 17 0, .str "/claim/cut.py" 255], #[]⟩
noncomputable def b70 : Obj := mkO (fun a b s => ⟨.type "function", none, .func ⟨"repeat_string", "repeat_string", a, .stmts b, s, 3, [], .none, .none, .none, .str "passlib.utils" 246, none, .ref 69, .none, 0⟩, #[]⟩) [8] ⟨⟨_, _, .func ⟨_, _, ⟨_, _, _, _, _, _, _⟩, .stmts (_ :: _), ⟨_, _, _, _, _⟩, _, _, _, _, _, _, _, _, _, _⟩, _⟩, rfl⟩
noncomputable def b71 : Obj := ⟨.type "tuple", none, .seq #[.type "object"] 0, #[]⟩
noncomputable def b72 : Obj := ⟨.type "builtin_function_or_method", none, .fields #[.builtin "type.__prepare__", .type "type"], #[]⟩
noncomputable def b73 (P : Params) : Obj := ⟨.type "dict", none, .dict (List.toArray (⟨PyData.keyHash P "__module__", .str "__module__" 268, .str "passlib.utils.binary" 257⟩ :: ⟨PyData.keyHash P "__qualname__", .str "__qualname__" 270, .str "Base64Engine" 269⟩ :: ⟨PyData.keyHash P "__firstlineno__", .str "__firstlineno__" 272, .int 22 271⟩ :: ⟨PyData.keyHash P "bytemap", .str "bytemap" 273, .none⟩ :: ⟨PyData.keyHash P "big", .str "big" 274, .none⟩ :: ⟨PyData.keyHash P "_lookup", .str "_lookup" 275, .none⟩ :: ⟨PyData.keyHash P "__init__", .str "__init__" 285, .ref 85⟩ :: ⟨PyData.keyHash P "_encode64", .str "_encode64" 293, .ref 92⟩ :: ⟨PyData.keyHash P "_decode64", .str "_decode64" 301, .ref 99⟩ :: ⟨PyData.keyHash P "_encode_bytes", .str "_encode_bytes" 311, .ref 106⟩ :: ⟨PyData.keyHash P "_decode_bytes", .str "_decode_bytes" 321, .ref 113⟩ :: ⟨PyData.keyHash P "charmap", .str "charmap" 329, .ref 121⟩ :: ⟨PyData.keyHash P "encode_bytes", .str "encode_bytes" 335, .ref 126⟩ :: ⟨PyData.keyHash P "_encode_bytes_little", .str "_encode_bytes_little" 349, .ref 133⟩ :: ⟨PyData.keyHash P "_encode_bytes_big", .str "_encode_bytes_big" 363, .ref 140⟩ :: ⟨PyData.keyHash P "decode_bytes", .str "decode_bytes" 371, .ref 147⟩ :: ⟨PyData.keyHash P "_decode_bytes_little", .str "_decode_bytes_little" 381, .ref 154⟩ :: ⟨PyData.keyHash P "_decode_bytes_big", .str "_decode_bytes_big" 391, .ref 161⟩ :: ⟨PyData.keyHash P "_make_padset", .str "_make_padset" 399, .ref 168⟩ :: ⟨PyData.keyHash P "_padinfo2", .str "_padinfo2" 407, .ref 176⟩ :: ⟨PyData.keyHash P "_padinfo3", .str "_padinfo3" 415, .ref 184⟩ :: ⟨PyData.keyHash P "check_repair_unused", .str "check_repair_unused" 423, .ref 191⟩ :: ⟨PyData.keyHash P "repair_unused", .str "repair_unused" 431, .ref 198⟩ :: ⟨PyData.keyHash P "encode_transposed_bytes", .str "encode_transposed_bytes" 437, .ref 203⟩ :: ⟨PyData.keyHash P "decode_transposed_bytes", .str "decode_transposed_bytes" 446, .ref 210⟩ :: ⟨PyData.keyHash P "_decode_int", .str "_decode_int" 455, .ref 217⟩ :: ⟨PyData.keyHash P "decode_int6", .str "decode_int6" 463, .ref 224⟩ :: ⟨PyData.keyHash P "decode_int12", .str "decode_int12" 471, .ref 231⟩ :: ⟨PyData.keyHash P "decode_int24", .str "decode_int24" 479, .ref 238⟩ :: ⟨PyData.keyHash P "decode_int30", .str "decode_int30" 487, .ref 245⟩ :: ⟨PyData.keyHash P "decode_int64", .str "decode_int64" 495, .ref 252⟩ :: ⟨PyData.keyHash P "_encode_int", .str "_encode_int" 504, .ref 259⟩ :: ⟨PyData.keyHash P "encode_int6", .str "encode_int6" 512, .ref 266⟩ :: ⟨PyData.keyHash P "encode_int12", .str "encode_int12" 520, .ref 273⟩ :: ⟨PyData.keyHash P "encode_int24", .str "encode_int24" 528, .ref 280⟩ :: ⟨PyData.keyHash P "encode_int30", .str "encode_int30" 536, .ref 287⟩ :: ⟨PyData.keyHash P "encode_int64", .str "encode_int64" 544, .ref 294⟩ :: ⟨PyData.keyHash P "__static_attributes__", .str "__static_attributes__" 548, .ref 295⟩ :: [])) 38, #[]⟩
noncomputable def b74 : Obj := ⟨.type "tuple", none, .seq #[] 0, #[]⟩
noncomputable def b75 : Obj := ⟨.none, none, .fields (List.toArray (.int 27 0 :: .int 4 0 :: .ref 84 :: .int 41 0 :: .int 4 0 :: .ref 91 :: .int 44 0 :: .int 4 0 :: .ref 98 :: .int 47 0 :: .int 4 0 :: .ref 105 :: .int 52 0 :: .int 4 0 :: .ref 112 :: .int 56 0 :: .int 4 0 :: .ref 119 :: .int 59 0 :: .int 4 0 :: .ref 125 :: .int 71 0 :: .int 4 0 :: .ref 132 :: .int 94 0 :: .int 4 0 :: .ref 139 :: .int 117 0 :: .int 4 0 :: .ref 146 :: .int 120 0 :: .int 4 0 :: .ref 153 :: .int 123 0 :: .int 4 0 :: .ref 160 :: .int 126 0 :: .int 4 0 :: .ref 167 :: .int 130 0 :: .int 4 0 :: .ref 174 :: .int 134 0 :: .int 4 0 :: .ref 182 :: .int 137 0 :: .int 4 0 :: .ref 190 :: .int 140 0 :: .int 4 0 :: .ref 197 :: .int 143 0 :: .int 4 0 :: .ref 202 :: .int 149 0 :: .int 4 0 :: .ref 209 :: .int 152 0 :: .int 4 0 :: .ref 216 :: .int 155 0 :: .int 4 0 :: .ref 223 :: .int 158 0 :: .int 4 0 :: .ref 230 :: .int 161 0 :: .int 4 0 :: .ref 237 :: .int 164 0 :: .int 4 0 :: .ref 244 :: .int 167 0 :: .int 4 0 :: .ref 251 :: .int 170 0 :: .int 4 0 :: .ref 258 :: .int 173 0 :: .int 4 0 :: .ref 265 :: .int 176 0 :: .int 4 0 :: .ref 272 :: .int 179 0 :: .int 4 0 :: .ref 279 :: .int 182 0 :: .int 4 0 :: .ref 286 :: .int 185 0 :: .int 4 0 :: .ref 293 :: [])), #[]⟩
noncomputable def b76 : Obj := ⟨.type "code", none, .fields #[.str "Base64Engine" 263, .str "Base64Engine" 264, .str "/claim/cut.py" 265, .int 22 0, .int 0 0, .int 0 0, .int 0 0, .int 0 0, .ref 74, .bool false, .int 181 0, .ref 75, .none, .none, .none, .none, .int 266 0, .int 22 0, .str "/claim/cut.py" 267], #[]⟩
noncomputable def b77 : Obj := ⟨.type "frame", none, .plain, #[some (.ref 76), some (.ref 3), some (.ref 73), none, some (.str "passlib.utils.binary" 257), none, some (.ref 0)]⟩
noncomputable def b78 : Obj := ⟨.type "tuple", none, .seq #[.bool false] 0, #[]⟩
noncomputable def b79 : Obj := ⟨.type "tuple", none, .seq #[] 0, #[]⟩
noncomputable def b80 : Obj := ⟨.none, none, .fields #[], #[]⟩
noncomputable def b81 : Obj := ⟨.type "tuple", none, .seq #[.str "self" 279, .str "charmap" 280, .str "big" 281, .str "lookup" 282] 0, #[]⟩
noncomputable def b82 : Obj := ⟨.type "tuple", none, .seq #[] 0, #[]⟩
noncomputable def b83 : Obj := ⟨.none, none, .func ⟨"__init__", "Base64Engine.__init__", fPar [11, 3], .stmts (fBod [11, 3]), fSco [11, 3], 0, [], .none, .none, .none, .none, none, .none, .none, 0⟩, #[]⟩
noncomputable def b84 : Obj := ⟨.type "code", none, .fields #[.str "__init__" 276, .str "Base64Engine.__init__" 277, .str "/claim/cut.py" 278, .int 27 0, .int 3 0, .int 0 0, .int 0 0, .int 3 0, .ref 79, .bool true, .int 181 0, .ref 80, .none, .ref 81, .ref 82, .ref 83, .int 283 0, .int 27 0, .str "/claim/cut.py" 284], #[]⟩
noncomputable def b85 : Obj := ⟨.type "function", none, .func ⟨"__init__", "Base64Engine.__init__", fPar [11, 3], .stmts (fBod [11, 3]), fSco [11, 3], 3, [], .ref 78, .none, .none, .str "passlib.utils.binary" 257, none, .ref 84, .none, 0⟩, #[]⟩
noncomputable def b86 : Obj := ⟨.type "tuple", none, .seq #[] 0, #[]⟩
noncomputable def b87 : Obj := ⟨.none, none, .fields #[], #[]⟩
noncomputable def b88 : Obj := ⟨.type "tuple", none, .seq #[.str "self" 289, .str "value" 290] 0, #[]⟩
noncomputable def b89 : Obj := ⟨.type "tuple", none, .seq #[] 0, #[]⟩
noncomputable def b90 : Obj := ⟨.none, none, .func ⟨"_encode64", "Base64Engine._encode64", fPar [11, 4], .stmts (fBod [11, 4]), fSco [11, 4], 0, [], .none, .none, .none, .none, none, .none, .none, 0⟩, #[]⟩
noncomputable def b91 : Obj := ⟨.type "code", none, .fields #[.str "_encode64" 286, .str "Base64Engine._encode64" 287, .str "/claim/cut.py" 288, .int 41 0, .int 2 0, .int 0 0, .int 0 0, .int 3 0, .ref 86, .bool true, .int 181 0, .ref 87, .none, .ref 88, .ref 89, .ref 90, .int 291 0, .int 41 0, .str "/claim/cut.py" 292], #[]⟩
noncomputable def b92 : Obj := mkO (fun a b s => ⟨.type "function", none, .func ⟨"_encode64", "Base64Engine._encode64", a, .stmts b, s, 3, [], .none, .none, .none, .str "passlib.utils.binary" 257, none, .ref 91, .none, 0⟩, #[]⟩) [11, 4] ⟨⟨_, _, .func ⟨_, _, ⟨_, _, _, _, _, _, _⟩, .stmts (_ :: _), ⟨_, _, _, _, _⟩, _, _, _, _, _, _, _, _, _, _⟩, _⟩, rfl⟩
noncomputable def b93 : Obj := ⟨.type "tuple", none, .seq #[] 0, #[]⟩
noncomputable def b94 : Obj := ⟨.none, none, .fields #[], #[]⟩
noncomputable def b95 : Obj := ⟨.type "tuple", none, .seq #[.str "self" 297, .str "value" 298] 0, #[]⟩
noncomputable def b96 : Obj := ⟨.type "tuple", none, .seq #[] 0, #[]⟩
noncomputable def b97 : Obj := ⟨.none, none, .func ⟨"_decode64", "Base64Engine._decode64", fPar [11, 5], .stmts (fBod [11, 5]), fSco [11, 5], 0, [], .none, .none, .none, .none, none, .none, .none, 0⟩, #[]⟩
noncomputable def b98 : Obj := ⟨.type "code", none, .fields #[.str "_decode64" 294, .str "Base64Engine._decode64" 295, .str "/claim/cut.py" 296, .int 44 0, .int 2 0, .int 0 0, .int 0 0, .int 3 0, .ref 93, .bool true, .int 181 0, .ref 94, .none, .ref 95, .ref 96, .ref 97, .int 299 0, .int 44 0, .str "/claim/cut.py" 300], #[]⟩
noncomputable def b99 : Obj := ⟨.type "function", none, .func ⟨"_decode64", "Base64Engine._decode64", fPar [11, 5], .stmts (fBod [11, 5]), fSco [11, 5], 3, [], .none, .none, .none, .str "passlib.utils.binary" 257, none, .ref 98, .none, 0⟩, #[]⟩
noncomputable def b100 : Obj := ⟨.type "tuple", none, .seq #[] 0, #[]⟩
noncomputable def b101 : Obj := ⟨.none, none, .fields #[], #[]⟩
noncomputable def b102 : Obj := ⟨.type "tuple", none, .seq #[.str "self" 305, .str "next_value" 306, .str "chunks" 307, .str "tail" 308] 0, #[]⟩
noncomputable def b103 : Obj := ⟨.type "tuple", none, .seq #[] 0, #[]⟩
noncomputable def b104 : Obj := ⟨.none, none, .func ⟨"_encode_bytes", "Base64Engine._encode_bytes", fPar [11, 6], .stmts (fBod [11, 6]), fSco [11, 6], 0, [], .none, .none, .none, .none, none, .none, .none, 0⟩, #[]⟩
noncomputable def b105 : Obj := ⟨.type "code", none, .fields #[.str "_encode_bytes" 302, .str "Base64Engine._encode_bytes" 303, .str "/claim/cut.py" 304, .int 47 0, .int 4 0, .int 0 0, .int 0 0, .int 3 0, .ref 100, .bool true, .int 181 0, .ref 101, .none, .ref 102, .ref 103, .ref 104, .int 309 0, .int 47 0, .str "/claim/cut.py" 310], #[]⟩
noncomputable def b106 : Obj := mkO (fun a b s => ⟨.type "function", none, .func ⟨"_encode_bytes", "Base64Engine._encode_bytes", a, .stmts b, s, 3, [], .none, .none, .none, .str "passlib.utils.binary" 257, none, .ref 105, .none, 0⟩, #[]⟩) [11, 6] ⟨⟨_, _, .func ⟨_, _, ⟨_, _, _, _, _, _, _⟩, .stmts (_ :: _), ⟨_, _, _, _, _⟩, _, _, _, _, _, _, _, _, _, _⟩, _⟩, rfl⟩
noncomputable def b107 : Obj := ⟨.type "tuple", none, .seq #[] 0, #[]⟩
noncomputable def b108 : Obj := ⟨.none, none, .fields #[], #[]⟩
noncomputable def b109 : Obj := ⟨.type "tuple", none, .seq #[.str "self" 315, .str "next_value" 316, .str "chunks" 317, .str "tail" 318] 0, #[]⟩
noncomputable def b110 : Obj := ⟨.type "tuple", none, .seq #[] 0, #[]⟩
noncomputable def b111 : Obj := ⟨.none, none, .func ⟨"_decode_bytes", "Base64Engine._decode_bytes", fPar [11, 7], .stmts (fBod [11, 7]), fSco [11, 7], 0, [], .none, .none, .none, .none, none, .none, .none, 0⟩, #[]⟩
noncomputable def b112 : Obj := ⟨.type "code", none, .fields #[.str "_decode_bytes" 312, .str "Base64Engine._decode_bytes" 313, .str "/claim/cut.py" 314, .int 52 0, .int 4 0, .int 0 0, .int 0 0, .int 3 0, .ref 107, .bool true, .int 181 0, .ref 108, .none, .ref 109, .ref 110, .ref 111, .int 319 0, .int 52 0, .str "/claim/cut.py" 320], #[]⟩
noncomputable def b113 : Obj := ⟨.type "function", none, .func ⟨"_decode_bytes", "Base64Engine._decode_bytes", fPar [11, 7], .stmts (fBod [11, 7]), fSco [11, 7], 3, [], .none, .none, .none, .str "passlib.utils.binary" 257, none, .ref 112, .none, 0⟩, #[]⟩
noncomputable def b114 : Obj := ⟨.type "tuple", none, .seq #[] 0, #[]⟩
noncomputable def b115 : Obj := ⟨.none, none, .fields #[], #[]⟩
noncomputable def b116 : Obj := ⟨.type "tuple", none, .seq #[.str "self" 325] 0, #[]⟩
noncomputable def b117 : Obj := ⟨.type "tuple", none, .seq #[] 0, #[]⟩
noncomputable def b118 : Obj := ⟨.none, none, .func ⟨"charmap", "Base64Engine.charmap", fPar [11, 8], .stmts (fBod [11, 8]), fSco [11, 8], 0, [], .none, .none, .none, .none, none, .none, .none, 0⟩, #[]⟩
noncomputable def b119 : Obj := ⟨.type "code", none, .fields #[.str "charmap" 322, .str "Base64Engine.charmap" 323, .str "/claim/cut.py" 324, .int 55 0, .int 1 0, .int 0 0, .int 0 0, .int 3 0, .ref 114, .bool true, .int 181 0, .ref 115, .none, .ref 116, .ref 117, .ref 118, .int 326 0, .int 55 0, .str "/claim/cut.py" 327], #[]⟩
noncomputable def b120 : Obj := ⟨.type "function", none, .func ⟨"charmap", "Base64Engine.charmap", fPar [11, 8], .stmts (fBod [11, 8]), fSco [11, 8], 3, [], .none, .none, .none, .str "passlib.utils.binary" 257, none, .ref 119, .none, 0⟩, #[]⟩
noncomputable def b121 : Obj := ⟨.type "property", none, .fields #[.ref 120, .none, .none, .none, .str "charmap" 329, .bool false], #[]⟩
noncomputable def b122 : Obj := ⟨.type "tuple", none, .seq #[] 0, #[]⟩
noncomputable def b123 : Obj := ⟨.none, none, .fields #[], #[]⟩
noncomputable def b124 : Obj := ⟨.none, none, .func ⟨"encode_bytes", "Base64Engine.encode_bytes", fPar [11, 9], .stmts (fBod [11, 9]), fSco [11, 9], 0, [], .none, .none, .none, .none, none, .none, .none, 0⟩, #[]⟩
noncomputable def b125 : Obj := ⟨.type "code", none, .fields #[.str "encode_bytes" 330, .str "Base64Engine.encode_bytes" 331, .str "/claim/cut.py" 332, .int 59 0, .int 2 0, .int 0 0, .int 0 0, .int 3 0, .ref 122, .bool true, .int 181 0, .ref 123, .none, .none, .none, .ref 124, .int 333 0, .int 59 0, .str "/claim/cut.py" 334], #[]⟩
noncomputable def b126 : Obj := mkO (fun a b s => ⟨.type "function", none, .func ⟨"encode_bytes", "Base64Engine.encode_bytes", a, .stmts b, s, 3, [], .none, .none, .none, .str "passlib.utils.binary" 257, none, .ref 125, .none, 0⟩, #[]⟩) [11, 9] ⟨⟨_, _, .func ⟨_, _, ⟨_, _, _, _, _, _, _⟩, .stmts (_ :: _), ⟨_, _, _, _, _⟩, _, _, _, _, _, _, _, _, _, _⟩, _⟩, rfl⟩
noncomputable def b127 : Obj := ⟨.type "tuple", none, .seq #[] 0, #[]⟩
noncomputable def b128 : Obj := ⟨.none, none, .fields #[], #[]⟩
noncomputable def b129 : Obj := ⟨.type "tuple", none, .seq #[.str "self" 339, .str "next_value" 340, .str "chunks" 341, .str "tail" 342, .str "idx" 343, .str "v1" 344, .str "v2" 345, .str "v3" 346] 0, #[]⟩
noncomputable def b130 : Obj := ⟨.type "tuple", none, .seq #[] 0, #[]⟩
noncomputable def b131 : Obj := ⟨.none, none, .func ⟨"_encode_bytes_little", "Base64Engine._encode_bytes_little", fPar [11, 10], .stmts (fBod [11, 10]), fSco [11, 10], 0, [], .none, .none, .none, .none, none, .none, .none, 0⟩, #[]⟩
noncomputable def b132 : Obj := ⟨.type "code", none, .fields #[.str "_encode_bytes_little" 336, .str "Base64Engine._encode_bytes_little" 337, .str "/claim/cut.py" 338, .int 71 0, .int 4 0, .int 0 0, .int 0 0, .int 35 0, .ref 127, .bool true, .int 181 0, .ref 128, .none, .ref 129, .ref 130, .ref 131, .int 347 0, .int 71 0, .str "/claim/cut.py" 348], #[]⟩
noncomputable def b133 : Obj := mkO (fun a b s => ⟨.type "function", none, .func ⟨"_encode_bytes_little", "Base64Engine._encode_bytes_little", a, .stmts b, s, 3, [], .none, .none, .none, .str "passlib.utils.binary" 257, none, .ref 132, .none, 0⟩, #[]⟩) [11, 10] ⟨⟨_, _, .func ⟨_, _, ⟨_, _, _, _, _, _, _⟩, .stmts (_ :: _), ⟨_, _, _, _, _⟩, _, _, _, _, _, _, _, _, _, _⟩, _⟩, rfl⟩
noncomputable def b134 : Obj := ⟨.type "tuple", none, .seq #[] 0, #[]⟩
noncomputable def b135 : Obj := ⟨.none, none, .fields #[], #[]⟩
noncomputable def b136 : Obj := ⟨.type "tuple", none, .seq #[.str "self" 353, .str "next_value" 354, .str "chunks" 355, .str "tail" 356, .str "idx" 357, .str "v1" 358, .str "v2" 359, .str "v3" 360] 0, #[]⟩
noncomputable def b137 : Obj := ⟨.type "tuple", none, .seq #[] 0, #[]⟩
noncomputable def b138 : Obj := ⟨.none, none, .func ⟨"_encode_bytes_big", "Base64Engine._encode_bytes_big", fPar [11, 11], .stmts (fBod [11, 11]), fSco [11, 11], 0, [], .none, .none, .none, .none, none, .none, .none, 0⟩, #[]⟩
noncomputable def b139 : Obj := ⟨.type "code", none, .fields #[.str "_encode_bytes_big" 350, .str "Base64Engine._encode_bytes_big" 351, .str "/claim/cut.py" 352, .int 94 0, .int 4 0, .int 0 0, .int 0 0, .int 35 0, .ref 134, .bool true, .int 181 0, .ref 135, .none, .ref 136, .ref 137, .ref 138, .int 361 0, .int 94 0, .str "/claim/cut.py" 362], #[]⟩
noncomputable def b140 : Obj := ⟨.type "function", none, .func ⟨"_encode_bytes_big", "Base64Engine._encode_bytes_big", fPar [11, 11], .stmts (fBod [11, 11]), fSco [11, 11], 3, [], .none, .none, .none, .str "passlib.utils.binary" 257, none, .ref 139, .none, 0⟩, #[]⟩
noncomputable def b141 : Obj := ⟨.type "tuple", none, .seq #[] 0, #[]⟩
noncomputable def b142 : Obj := ⟨.none, none, .fields #[], #[]⟩
noncomputable def b143 : Obj := ⟨.type "tuple", none, .seq #[.str "self" 367, .str "source" 368] 0, #[]⟩
noncomputable def b144 : Obj := ⟨.type "tuple", none, .seq #[] 0, #[]⟩
noncomputable def b145 : Obj := ⟨.none, none, .func ⟨"decode_bytes", "Base64Engine.decode_bytes", fPar [11, 12], .stmts (fBod [11, 12]), fSco [11, 12], 0, [], .none, .none, .none, .none, none, .none, .none, 0⟩, #[]⟩
noncomputable def b146 : Obj := ⟨.type "code", none, .fields #[.str "decode_bytes" 364, .str "Base64Engine.decode_bytes" 365, .str "/claim/cut.py" 366, .int 117 0, .int 2 0, .int 0 0, .int 0 0, .int 3 0, .ref 141, .bool true, .int 181 0, .ref 142, .none, .ref 143, .ref 144, .ref 145, .int 369 0, .int 117 0, .str "/claim/cut.py" 370], #[]⟩
noncomputable def b147 : Obj := ⟨.type "function", none, .func ⟨"decode_bytes", "Base64Engine.decode_bytes", fPar [11, 12], .stmts (fBod [11, 12]), fSco [11, 12], 3, [], .none, .none, .none, .str "passlib.utils.binary" 257, none, .ref 146, .none, 0⟩, #[]⟩
noncomputable def b148 : Obj := ⟨.type "tuple", none, .seq #[] 0, #[]⟩
noncomputable def b149 : Obj := ⟨.none, none, .fields #[], #[]⟩
noncomputable def b150 : Obj := ⟨.type "tuple", none, .seq #[.str "self" 375, .str "next_value" 376, .str "chunks" 377, .str "tail" 378] 0, #[]⟩
noncomputable def b151 : Obj := ⟨.type "tuple", none, .seq #[] 0, #[]⟩
noncomputable def b152 : Obj := ⟨.none, none, .func ⟨"_decode_bytes_little", "Base64Engine._decode_bytes_little", fPar [11, 13], .stmts (fBod [11, 13]), fSco [11, 13], 0, [], .none, .none, .none, .none, none, .none, .none, 0⟩, #[]⟩
noncomputable def b153 : Obj := ⟨.type "code", none, .fields #[.str "_decode_bytes_little" 372, .str "Base64Engine._decode_bytes_little" 373, .str "/claim/cut.py" 374, .int 120 0, .int 4 0, .int 0 0, .int 0 0, .int 3 0, .ref 148, .bool true, .int 181 0, .ref 149, .none, .ref 150, .ref 151, .ref 152, .int 379 0, .int 120 0, .str "/claim/cut.py" 380], #[]⟩
noncomputable def b154 : Obj := ⟨.type "function", none, .func ⟨"_decode_bytes_little", "Base64Engine._decode_bytes_little", fPar [11, 13], .stmts (fBod [11, 13]), fSco [11, 13], 3, [], .none, .none, .none, .str "passlib.utils.binary" 257, none, .ref 153, .none, 0⟩, #[]⟩
noncomputable def b155 : Obj := ⟨.type "tuple", none, .seq #[] 0, #[]⟩
noncomputable def b156 : Obj := ⟨.none, none, .fields #[], #[]⟩
noncomputable def b157 : Obj := ⟨.type "tuple", none, .seq #[.str "self" 385, .str "next_value" 386, .str "chunks" 387, .str "tail" 388] 0, #[]⟩
noncomputable def b158 : Obj := ⟨.type "tuple", none, .seq #[] 0, #[]⟩
noncomputable def b159 : Obj := ⟨.none, none, .func ⟨"_decode_bytes_big", "Base64Engine._decode_bytes_big", fPar [11, 14], .stmts (fBod [11, 14]), fSco [11, 14], 0, [], .none, .none, .none, .none, none, .none, .none, 0⟩, #[]⟩
noncomputable def b160 : Obj := ⟨.type "code", none, .fields #[.str "_decode_bytes_big" 382, .str "Base64Engine._decode_bytes_big" 383, .str "/claim/cut.py" 384, .int 123 0, .int 4 0, .int 0 0, .int 0 0, .int 3 0, .ref 155, .bool true, .int 181 0, .ref 156, .none, .ref 157, .ref 158, .ref 159, .int 389 0, .int 123 0, .str "/claim/cut.py" 390], #[]⟩
noncomputable def b161 : Obj := ⟨.type "function", none, .func ⟨"_decode_bytes_big", "Base64Engine._decode_bytes_big", fPar [11, 14], .stmts (fBod [11, 14]), fSco [11, 14], 3, [], .none, .none, .none, .str "passlib.utils.binary" 257, none, .ref 160, .none, 0⟩, #[]⟩
noncomputable def b162 : Obj := ⟨.type "tuple", none, .seq #[] 0, #[]⟩
noncomputable def b163 : Obj := ⟨.none, none, .fields #[], #[]⟩
noncomputable def b164 : Obj := ⟨.type "tuple", none, .seq #[.str "self" 395, .str "bits" 396] 0, #[]⟩
noncomputable def b165 : Obj := ⟨.type "tuple", none, .seq #[] 0, #[]⟩
noncomputable def b166 : Obj := ⟨.none, none, .func ⟨"_make_padset", "Base64Engine._make_padset", fPar [11, 15], .stmts (fBod [11, 15]), fSco [11, 15], 0, [], .none, .none, .none, .none, none, .none, .none, 0⟩, #[]⟩
noncomputable def b167 : Obj := ⟨.type "code", none, .fields #[.str "_make_padset" 392, .str "Base64Engine._make_padset" 393, .str "/claim/cut.py" 394, .int 126 0, .int 2 0, .int 0 0, .int 0 0, .int 3 0, .ref 162, .bool true, .int 181 0, .ref 163, .none, .ref 164, .ref 165, .ref 166, .int 397 0, .int 126 0, .str "/claim/cut.py" 398], #[]⟩
noncomputable def b168 : Obj := ⟨.type "function", none, .func ⟨"_make_padset", "Base64Engine._make_padset", fPar [11, 15], .stmts (fBod [11, 15]), fSco [11, 15], 3, [], .none, .none, .none, .str "passlib.utils.binary" 257, none, .ref 167, .none, 0⟩, #[]⟩
noncomputable def b169 : Obj := ⟨.type "tuple", none, .seq #[] 0, #[]⟩
noncomputable def b170 : Obj := ⟨.none, none, .fields #[], #[]⟩
noncomputable def b171 : Obj := ⟨.type "tuple", none, .seq #[.str "self" 403] 0, #[]⟩
noncomputable def b172 : Obj := ⟨.type "tuple", none, .seq #[] 0, #[]⟩
noncomputable def b173 : Obj := ⟨.none, none, .func ⟨"_padinfo2", "Base64Engine._padinfo2", fPar [11, 16], .stmts (fBod [11, 16]), fSco [11, 16], 0, [], .none, .none, .none, .none, none, .none, .none, 0⟩, #[]⟩
noncomputable def b174 : Obj := ⟨.type "code", none, .fields #[.str "_padinfo2" 400, .str "Base64Engine._padinfo2" 401, .str "/claim/cut.py" 402, .int 129 0, .int 1 0, .int 0 0, .int 0 0, .int 3 0, .ref 169, .bool true, .int 181 0, .ref 170, .none, .ref 171, .ref 172, .ref 173, .int 404 0, .int 129 0, .str "/claim/cut.py" 405], #[]⟩
noncomputable def b175 : Obj := ⟨.type "function", none, .func ⟨"_padinfo2", "Base64Engine._padinfo2", fPar [11, 16], .stmts (fBod [11, 16]), fSco [11, 16], 3, [], .none, .none, .none, .str "passlib.utils.binary" 257, none, .ref 174, .none, 0⟩, #[]⟩
noncomputable def b176 : Obj := ⟨.type "property", none, .fields #[.ref 175, .none, .none, .none, .str "_padinfo2" 407, .bool false], #[]⟩
noncomputable def b177 : Obj := ⟨.type "tuple", none, .seq #[] 0, #[]⟩
noncomputable def b178 : Obj := ⟨.none, none, .fields #[], #[]⟩
noncomputable def b179 : Obj := ⟨.type "tuple", none, .seq #[.str "self" 411] 0, #[]⟩
noncomputable def b180 : Obj := ⟨.type "tuple", none, .seq #[] 0, #[]⟩
noncomputable def b181 : Obj := ⟨.none, none, .func ⟨"_padinfo3", "Base64Engine._padinfo3", fPar [11, 17], .stmts (fBod [11, 17]), fSco [11, 17], 0, [], .none, .none, .none, .none, none, .none, .none, 0⟩, #[]⟩
noncomputable def b182 : Obj := ⟨.type "code", none, .fields #[.str "_padinfo3" 408, .str "Base64Engine._padinfo3" 409, .str "/claim/cut.py" 410, .int 133 0, .int 1 0, .int 0 0, .int 0 0, .int 3 0, .ref 177, .bool true, .int 181 0, .ref 178, .none, .ref 179, .ref 180, .ref 181, .int 412 0, .int 133 0, .str "/claim/cut.py" 413], #[]⟩
noncomputable def b183 : Obj := ⟨.type "function", none, .func ⟨"_padinfo3", "Base64Engine._padinfo3", fPar [11, 17], .stmts (fBod [11, 17]), fSco [11, 17], 3, [], .none, .none, .none, .str "passlib.utils.binary" 257, none, .ref 182, .none, 0⟩, #[]⟩
noncomputable def b184 : Obj := ⟨.type "property", none, .fields #[.ref 183, .none, .none, .none, .str "_padinfo3" 415, .bool false], #[]⟩
noncomputable def b185 : Obj := ⟨.type "tuple", none, .seq #[] 0, #[]⟩
noncomputable def b186 : Obj := ⟨.none, none, .fields #[], #[]⟩
noncomputable def b187 : Obj := ⟨.type "tuple", none, .seq #[.str "self" 419, .str "source" 420] 0, #[]⟩
noncomputable def b188 : Obj := ⟨.type "tuple", none, .seq #[] 0, #[]⟩
noncomputable def b189 : Obj := ⟨.none, none, .func ⟨"check_repair_unused", "Base64Engine.check_repair_unused", fPar [11, 18], .stmts (fBod [11, 18]), fSco [11, 18], 0, [], .none, .none, .none, .none, none, .none, .none, 0⟩, #[]⟩
noncomputable def b190 : Obj := ⟨.type "code", none, .fields #[.str "check_repair_unused" 416, .str "Base64Engine.check_repair_unused" 417, .str "/claim/cut.py" 418, .int 137 0, .int 2 0, .int 0 0, .int 0 0, .int 3 0, .ref 185, .bool true, .int 181 0, .ref 186, .none, .ref 187, .ref 188, .ref 189, .int 421 0, .int 137 0, .str "/claim/cut.py" 422], #[]⟩
noncomputable def b191 : Obj := ⟨.type "function", none, .func ⟨"check_repair_unused", "Base64Engine.check_repair_unused", fPar [11, 18], .stmts (fBod [11, 18]), fSco [11, 18], 3, [], .none, .none, .none, .str "passlib.utils.binary" 257, none, .ref 190, .none, 0⟩, #[]⟩
noncomputable def b192 : Obj := ⟨.type "tuple", none, .seq #[] 0, #[]⟩
noncomputable def b193 : Obj := ⟨.none, none, .fields #[], #[]⟩
noncomputable def b194 : Obj := ⟨.type "tuple", none, .seq #[.str "self" 427, .str "source" 428] 0, #[]⟩
noncomputable def b195 : Obj := ⟨.type "tuple", none, .seq #[] 0, #[]⟩
noncomputable def b196 : Obj := ⟨.none, none, .func ⟨"repair_unused", "Base64Engine.repair_unused", fPar [11, 19], .stmts (fBod [11, 19]), fSco [11, 19], 0, [], .none, .none, .none, .none, none, .none, .none, 0⟩, #[]⟩
noncomputable def b197 : Obj := ⟨.type "code", none, .fields #[.str "repair_unused" 424, .str "Base64Engine.repair_unused" 425, .str "/claim/cut.py" 426, .int 140 0, .int 2 0, .int 0 0, .int 0 0, .int 3 0, .ref 192, .bool true, .int 181 0, .ref 193, .none, .ref 194, .ref 195, .ref 196, .int 429 0, .int 140 0, .str "/claim/cut.py" 430], #[]⟩
noncomputable def b198 : Obj := ⟨.type "function", none, .func ⟨"repair_unused", "Base64Engine.repair_unused", fPar [11, 19], .stmts (fBod [11, 19]), fSco [11, 19], 3, [], .none, .none, .none, .str "passlib.utils.binary" 257, none, .ref 197, .none, 0⟩, #[]⟩
noncomputable def b199 : Obj := ⟨.type "tuple", none, .seq #[] 0, #[]⟩
noncomputable def b200 : Obj := ⟨.none, none, .fields #[], #[]⟩
noncomputable def b201 : Obj := ⟨.none, none, .func ⟨"encode_transposed_bytes", "Base64Engine.encode_transposed_bytes", fPar [11, 20], .stmts (fBod [11, 20]), fSco [11, 20], 0, [], .none, .none, .none, .none, none, .none, .none, 0⟩, #[]⟩
noncomputable def b202 : Obj := ⟨.type "code", none, .fields #[.str "encode_transposed_bytes" 432, .str "Base64Engine.encode_transposed_bytes" 433, .str "/claim/cut.py" 434, .int 143 0, .int 3 0, .int 0 0, .int 0 0, .int 3 0, .ref 199, .bool true, .int 181 0, .ref 200, .none, .none, .none, .ref 201, .int 435 0, .int 143 0, .str "/claim/cut.py" 436], #[]⟩
noncomputable def b203 : Obj := mkO (fun a b s => ⟨.type "function", none, .func ⟨"encode_transposed_bytes", "Base64Engine.encode_transposed_bytes", a, .stmts b, s, 3, [], .none, .none, .none, .str "passlib.utils.binary" 257, none, .ref 202, .none, 0⟩, #[]⟩) [11, 20] ⟨⟨_, _, .func ⟨_, _, ⟨_, _, _, _, _, _, _⟩, .stmts (_ :: _), ⟨_, _, _, _, _⟩, _, _, _, _, _, _, _, _, _, _⟩, _⟩, rfl⟩
noncomputable def b204 : Obj := ⟨.type "tuple", none, .seq #[] 0, #[]⟩
noncomputable def b205 : Obj := ⟨.none, none, .fields #[], #[]⟩
noncomputable def b206 : Obj := ⟨.type "tuple", none, .seq #[.str "self" 441, .str "source" 442, .str "offsets" 443] 0, #[]⟩
noncomputable def b207 : Obj := ⟨.type "tuple", none, .seq #[] 0, #[]⟩
noncomputable def b208 : Obj := ⟨.none, none, .func ⟨"decode_transposed_bytes", "Base64Engine.decode_transposed_bytes", fPar [11, 21], .stmts (fBod [11, 21]), fSco [11, 21], 0, [], .none, .none, .none, .none, none, .none, .none, 0⟩, #[]⟩
noncomputable def b209 : Obj := ⟨.type "code", none, .fields #[.str "decode_transposed_bytes" 438, .str "Base64Engine.decode_transposed_bytes" 439, .str "/claim/cut.py" 440, .int 149 0, .int 3 0, .int 0 0, .int 0 0, .int 3 0, .ref 204, .bool true, .int 181 0, .ref 205, .none, .ref 206, .ref 207, .ref 208, .int 444 0, .int 149 0, .str "/claim/cut.py" 445], #[]⟩
noncomputable def b210 : Obj := ⟨.type "function", none, .func ⟨"decode_transposed_bytes", "Base64Engine.decode_transposed_bytes", fPar [11, 21], .stmts (fBod [11, 21]), fSco [11, 21], 3, [], .none, .none, .none, .str "passlib.utils.binary" 257, none, .ref 209, .none, 0⟩, #[]⟩
noncomputable def b211 : Obj := ⟨.type "tuple", none, .seq #[] 0, #[]⟩
noncomputable def b212 : Obj := ⟨.none, none, .fields #[], #[]⟩
noncomputable def b213 : Obj := ⟨.type "tuple", none, .seq #[.str "self" 450, .str "source" 451, .str "bits" 452] 0, #[]⟩
noncomputable def b214 : Obj := ⟨.type "tuple", none, .seq #[] 0, #[]⟩
noncomputable def b215 : Obj := ⟨.none, none, .func ⟨"_decode_int", "Base64Engine._decode_int", fPar [11, 22], .stmts (fBod [11, 22]), fSco [11, 22], 0, [], .none, .none, .none, .none, none, .none, .none, 0⟩, #[]⟩
noncomputable def b216 : Obj := ⟨.type "code", none, .fields #[.str "_decode_int" 447, .str "Base64Engine._decode_int" 448, .str "/claim/cut.py" 449, .int 152 0, .int 3 0, .int 0 0, .int 0 0, .int 3 0, .ref 211, .bool true, .int 181 0, .ref 212, .none, .ref 213, .ref 214, .ref 215, .int 453 0, .int 152 0, .str "/claim/cut.py" 454], #[]⟩
noncomputable def b217 : Obj := ⟨.type "function", none, .func ⟨"_decode_int", "Base64Engine._decode_int", fPar [11, 22], .stmts (fBod [11, 22]), fSco [11, 22], 3, [], .none, .none, .none, .str "passlib.utils.binary" 257, none, .ref 216, .none, 0⟩, #[]⟩
noncomputable def b218 : Obj := ⟨.type "tuple", none, .seq #[] 0, #[]⟩
noncomputable def b219 : Obj := ⟨.none, none, .fields #[], #[]⟩
noncomputable def b220 : Obj := ⟨.type "tuple", none, .seq #[.str "self" 459, .str "source" 460] 0, #[]⟩
noncomputable def b221 : Obj := ⟨.type "tuple", none, .seq #[] 0, #[]⟩
noncomputable def b222 : Obj := ⟨.none, none, .func ⟨"decode_int6", "Base64Engine.decode_int6", fPar [11, 23], .stmts (fBod [11, 23]), fSco [11, 23], 0, [], .none, .none, .none, .none, none, .none, .none, 0⟩, #[]⟩
noncomputable def b223 : Obj := ⟨.type "code", none, .fields #[.str "decode_int6" 456, .str "Base64Engine.decode_int6" 457, .str "/claim/cut.py" 458, .int 155 0, .int 2 0, .int 0 0, .int 0 0, .int 3 0, .ref 218, .bool true, .int 181 0, .ref 219, .none, .ref 220, .ref 221, .ref 222, .int 461 0, .int 155 0, .str "/claim/cut.py" 462], #[]⟩
noncomputable def b224 : Obj := ⟨.type "function", none, .func ⟨"decode_int6", "Base64Engine.decode_int6", fPar [11, 23], .stmts (fBod [11, 23]), fSco [11, 23], 3, [], .none, .none, .none, .str "passlib.utils.binary" 257, none, .ref 223, .none, 0⟩, #[]⟩
noncomputable def b225 : Obj := ⟨.type "tuple", none, .seq #[] 0, #[]⟩
noncomputable def b226 : Obj := ⟨.none, none, .fields #[], #[]⟩
noncomputable def b227 : Obj := ⟨.type "tuple", none, .seq #[.str "self" 467, .str "source" 468] 0, #[]⟩
noncomputable def b228 : Obj := ⟨.type "tuple", none, .seq #[] 0, #[]⟩
noncomputable def b229 : Obj := ⟨.none, none, .func ⟨"decode_int12", "Base64Engine.decode_int12", fPar [11, 24], .stmts (fBod [11, 24]), fSco [11, 24], 0, [], .none, .none, .none, .none, none, .none, .none, 0⟩, #[]⟩
noncomputable def b230 : Obj := ⟨.type "code", none, .fields #[.str "decode_int12" 464, .str "Base64Engine.decode_int12" 465, .str "/claim/cut.py" 466, .int 158 0, .int 2 0, .int 0 0, .int 0 0, .int 3 0, .ref 225, .bool true, .int 181 0, .ref 226, .none, .ref 227, .ref 228, .ref 229, .int 469 0, .int 158 0, .str "/claim/cut.py" 470], #[]⟩
noncomputable def b231 : Obj := ⟨.type "function", none, .func ⟨"decode_int12", "Base64Engine.decode_int12", fPar [11, 24], .stmts (fBod [11, 24]), fSco [11, 24], 3, [], .none, .none, .none, .str "passlib.utils.binary" 257, none, .ref 230, .none, 0⟩, #[]⟩
noncomputable def b232 : Obj := ⟨.type "tuple", none, .seq #[] 0, #[]⟩
noncomputable def b233 : Obj := ⟨.none, none, .fields #[], #[]⟩
noncomputable def b234 : Obj := ⟨.type "tuple", none, .seq #[.str "self" 475, .str "source" 476] 0, #[]⟩
noncomputable def b235 : Obj := ⟨.type "tuple", none, .seq #[] 0, #[]⟩
noncomputable def b236 : Obj := ⟨.none, none, .func ⟨"decode_int24", "Base64Engine.decode_int24", fPar [11, 25], .stmts (fBod [11, 25]), fSco [11, 25], 0, [], .none, .none, .none, .none, none, .none, .none, 0⟩, #[]⟩
noncomputable def b237 : Obj := ⟨.type "code", none, .fields #[.str "decode_int24" 472, .str "Base64Engine.decode_int24" 473, .str "/claim/cut.py" 474, .int 161 0, .int 2 0, .int 0 0, .int 0 0, .int 3 0, .ref 232, .bool true, .int 181 0, .ref 233, .none, .ref 234, .ref 235, .ref 236, .int 477 0, .int 161 0, .str "/claim/cut.py" 478], #[]⟩
noncomputable def b238 : Obj := ⟨.type "function", none, .func ⟨"decode_int24", "Base64Engine.decode_int24", fPar [11, 25], .stmts (fBod [11, 25]), fSco [11, 25], 3, [], .none, .none, .none, .str "passlib.utils.binary" 257, none, .ref 237, .none, 0⟩, #[]⟩
noncomputable def b239 : Obj := ⟨.type "tuple", none, .seq #[] 0, #[]⟩
noncomputable def b240 : Obj := ⟨.none, none, .fields #[], #[]⟩
noncomputable def b241 : Obj := ⟨.type "tuple", none, .seq #[.str "self" 483, .str "source" 484] 0, #[]⟩
noncomputable def b242 : Obj := ⟨.type "tuple", none, .seq #[] 0, #[]⟩
noncomputable def b243 : Obj := ⟨.none, none, .func ⟨"decode_int30", "Base64Engine.decode_int30", fPar [11, 26], .stmts (fBod [11, 26]), fSco [11, 26], 0, [], .none, .none, .none, .none, none, .none, .none, 0⟩, #[]⟩
noncomputable def b244 : Obj := ⟨.type "code", none, .fields #[.str "decode_int30" 480, .str "Base64Engine.decode_int30" 481, .str "/claim/cut.py" 482, .int 164 0, .int 2 0, .int 0 0, .int 0 0, .int 3 0, .ref 239, .bool true, .int 181 0, .ref 240, .none, .ref 241, .ref 242, .ref 243, .int 485 0, .int 164 0, .str "/claim/cut.py" 486], #[]⟩
noncomputable def b245 : Obj := ⟨.type "function", none, .func ⟨"decode_int30", "Base64Engine.decode_int30", fPar [11, 26], .stmts (fBod [11, 26]), fSco [11, 26], 3, [], .none, .none, .none, .str "passlib.utils.binary" 257, none, .ref 244, .none, 0⟩, #[]⟩
noncomputable def b246 : Obj := ⟨.type "tuple", none, .seq #[] 0, #[]⟩
noncomputable def b247 : Obj := ⟨.none, none, .fields #[], #[]⟩
noncomputable def b248 : Obj := ⟨.type "tuple", none, .seq #[.str "self" 491, .str "source" 492] 0, #[]⟩
noncomputable def b249 : Obj := ⟨.type "tuple", none, .seq #[] 0, #[]⟩
noncomputable def b250 : Obj := ⟨.none, none, .func ⟨"decode_int64", "Base64Engine.decode_int64", fPar [11, 27], .stmts (fBod [11, 27]), fSco [11, 27], 0, [], .none, .none, .none, .none, none, .none, .none, 0⟩, #[]⟩
noncomputable def b251 : Obj := ⟨.type "code", none, .fields #[.str "decode_int64" 488, .str "Base64Engine.decode_int64" 489, .str "/claim/cut.py" 490, .int 167 0, .int 2 0, .int 0 0, .int 0 0, .int 3 0, .ref 246, .bool true, .int 181 0, .ref 247, .none, .ref 248, .ref 249, .ref 250, .int 493 0, .int 167 0, .str "/claim/cut.py" 494], #[]⟩
noncomputable def b252 : Obj := ⟨.type "function", none, .func ⟨"decode_int64", "Base64Engine.decode_int64", fPar [11, 27], .stmts (fBod [11, 27]), fSco [11, 27], 3, [], .none, .none, .none, .str "passlib.utils.binary" 257, none, .ref 251, .none, 0⟩, #[]⟩
noncomputable def b253 : Obj := ⟨.type "tuple", none, .seq #[] 0, #[]⟩
noncomputable def b254 : Obj := ⟨.none, none, .fields #[], #[]⟩
noncomputable def b255 : Obj := ⟨.type "tuple", none, .seq #[.str "self" 499, .str "value" 500, .str "bits" 501] 0, #[]⟩
noncomputable def b256 : Obj := ⟨.type "tuple", none, .seq #[] 0, #[]⟩
noncomputable def b257 : Obj := ⟨.none, none, .func ⟨"_encode_int", "Base64Engine._encode_int", fPar [11, 28], .stmts (fBod [11, 28]), fSco [11, 28], 0, [], .none, .none, .none, .none, none, .none, .none, 0⟩, #[]⟩
noncomputable def b258 : Obj := ⟨.type "code", none, .fields #[.str "_encode_int" 496, .str "Base64Engine._encode_int" 497, .str "/claim/cut.py" 498, .int 170 0, .int 3 0, .int 0 0, .int 0 0, .int 3 0, .ref 253, .bool true, .int 181 0, .ref 254, .none, .ref 255, .ref 256, .ref 257, .int 502 0, .int 170 0, .str "/claim/cut.py" 503], #[]⟩
noncomputable def b259 : Obj := ⟨.type "function", none, .func ⟨"_encode_int", "Base64Engine._encode_int", fPar [11, 28], .stmts (fBod [11, 28]), fSco [11, 28], 3, [], .none, .none, .none, .str "passlib.utils.binary" 257, none, .ref 258, .none, 0⟩, #[]⟩
noncomputable def b260 : Obj := ⟨.type "tuple", none, .seq #[] 0, #[]⟩
noncomputable def b261 : Obj := ⟨.none, none, .fields #[], #[]⟩
noncomputable def b262 : Obj := ⟨.type "tuple", none, .seq #[.str "self" 508, .str "value" 509] 0, #[]⟩
noncomputable def b263 : Obj := ⟨.type "tuple", none, .seq #[] 0, #[]⟩
noncomputable def b264 : Obj := ⟨.none, none, .func ⟨"encode_int6", "Base64Engine.encode_int6", fPar [11, 29], .stmts (fBod [11, 29]), fSco [11, 29], 0, [], .none, .none, .none, .none, none, .none, .none, 0⟩, #[]⟩
noncomputable def b265 : Obj := ⟨.type "code", none, .fields #[.str "encode_int6" 505, .str "Base64Engine.encode_int6" 506, .str "/claim/cut.py" 507, .int 173 0, .int 2 0, .int 0 0, .int 0 0, .int 3 0, .ref 260, .bool true, .int 181 0, .ref 261, .none, .ref 262, .ref 263, .ref 264, .int 510 0, .int 173 0, .str "/claim/cut.py" 511], #[]⟩
noncomputable def b266 : Obj := ⟨.type "function", none, .func ⟨"encode_int6", "Base64Engine.encode_int6", fPar [11, 29], .stmts (fBod [11, 29]), fSco [11, 29], 3, [], .none, .none, .none, .str "passlib.utils.binary" 257, none, .ref 265, .none, 0⟩, #[]⟩
noncomputable def b267 : Obj := ⟨.type "tuple", none, .seq #[] 0, #[]⟩
noncomputable def b268 : Obj := ⟨.none, none, .fields #[], #[]⟩
noncomputable def b269 : Obj := ⟨.type "tuple", none, .seq #[.str "self" 516, .str "value" 517] 0, #[]⟩
noncomputable def b270 : Obj := ⟨.type "tuple", none, .seq #[] 0, #[]⟩
noncomputable def b271 : Obj := ⟨.none, none, .func ⟨"encode_int12", "Base64Engine.encode_int12", fPar [11, 30], .stmts (fBod [11, 30]), fSco [11, 30], 0, [], .none, .none, .none, .none, none, .none, .none, 0⟩, #[]⟩
noncomputable def b272 : Obj := ⟨.type "code", none, .fields #[.str "encode_int12" 513, .str "Base64Engine.encode_int12" 514, .str "/claim/cut.py" 515, .int 176 0, .int 2 0, .int 0 0, .int 0 0, .int 3 0, .ref 267, .bool true, .int 181 0, .ref 268, .none, .ref 269, .ref 270, .ref 271, .int 518 0, .int 176 0, .str "/claim/cut.py" 519], #[]⟩
noncomputable def b273 : Obj := ⟨.type "function", none, .func ⟨"encode_int12", "Base64Engine.encode_int12", fPar [11, 30], .stmts (fBod [11, 30]), fSco [11, 30], 3, [], .none, .none, .none, .str "passlib.utils.binary" 257, none, .ref 272, .none, 0⟩, #[]⟩
noncomputable def b274 : Obj := ⟨.type "tuple", none, .seq #[] 0, #[]⟩
noncomputable def b275 : Obj := ⟨.none, none, .fields #[], #[]⟩
noncomputable def b276 : Obj := ⟨.type "tuple", none, .seq #[.str "self" 524, .str "value" 525] 0, #[]⟩
noncomputable def b277 : Obj := ⟨.type "tuple", none, .seq #[] 0, #[]⟩
noncomputable def b278 : Obj := ⟨.none, none, .func ⟨"encode_int24", "Base64Engine.encode_int24", fPar [11, 31], .stmts (fBod [11, 31]), fSco [11, 31], 0, [], .none, .none, .none, .none, none, .none, .none, 0⟩, #[]⟩
noncomputable def b279 : Obj := ⟨.type "code", none, .fields #[.str "encode_int24" 521, .str "Base64Engine.encode_int24" 522, .str "/claim/cut.py" 523, .int 179 0, .int 2 0, .int 0 0, .int 0 0, .int 3 0, .ref 274, .bool true, .int 181 0, .ref 275, .none, .ref 276, .ref 277, .ref 278, .int 526 0, .int 179 0, .str "/claim/cut.py" 527], #[]⟩
noncomputable def b280 : Obj := ⟨.type "function", none, .func ⟨"encode_int24", "Base64Engine.encode_int24", fPar [11, 31], .stmts (fBod [11, 31]), fSco [11, 31], 3, [], .none, .none, .none, .str "passlib.utils.binary" 257, none, .ref 279, .none, 0⟩, #[]⟩
noncomputable def b281 : Obj := ⟨.type "tuple", none, .seq #[] 0, #[]⟩
noncomputable def b282 : Obj := ⟨.none, none, .fields #[], #[]⟩
noncomputable def b283 : Obj := ⟨.type "tuple", none, .seq #[.str "self" 532, .str "value" 533] 0, #[]⟩
noncomputable def b284 : Obj := ⟨.type "tuple", none, .seq #[] 0, #[]⟩
noncomputable def b285 : Obj := ⟨.none, none, .func ⟨"encode_int30", "Base64Engine.encode_int30", fPar [11, 32], .stmts (fBod [11, 32]), fSco [11, 32], 0, [], .none, .none, .none, .none, none, .none, .none, 0⟩, #[]⟩
noncomputable def b286 : Obj := ⟨.type "code", none, .fields #[.str "encode_int30" 529, .str "Base64Engine.encode_int30" 530, .str "/claim/cut.py" 531, .int 182 0, .int 2 0, .int 0 0, .int 0 0, .int 3 0, .ref 281, .bool true, .int 181 0, .ref 282, .none, .ref 283, .ref 284, .ref 285, .int 534 0, .int 182 0, .str "/claim/cut.py" 535], #[]⟩
noncomputable def b287 : Obj := ⟨.type "function", none, .func ⟨"encode_int30", "Base64Engine.encode_int30", fPar [11, 32], .stmts (fBod [11, 32]), fSco [11, 32], 3, [], .none, .none, .none, .str "passlib.utils.binary" 257, none, .ref 286, .none, 0⟩, #[]⟩
noncomputable def b288 : Obj := ⟨.type "tuple", none, .seq #[] 0, #[]⟩
noncomputable def b289 : Obj := ⟨.none, none, .fields #[], #[]⟩
noncomputable def b290 : Obj := ⟨.type "tuple", none, .seq #[.str "self" 540, .str "value" 541] 0, #[]⟩
noncomputable def b291 : Obj := ⟨.type "tuple", none, .seq #[] 0, #[]⟩
noncomputable def b292 : Obj := ⟨.none, none, .func ⟨"encode_int64", "Base64Engine.encode_int64", fPar [11, 33], .stmts (fBod [11, 33]), fSco [11, 33], 0, [], .none, .none, .none, .none, none, .none, .none, 0⟩, #[]⟩
noncomputable def b293 : Obj := ⟨.type "code", none, .fields #[.str "encode_int64" 537, .str "Base64Engine.encode_int64" 538, .str "/claim/cut.py" 539, .int 185 0, .int 2 0, .int 0 0, .int 0 0, .int 3 0, .ref 288, .bool true, .int 181 0, .ref 289, .none, .ref 290, .ref 291, .ref 292, .int 542 0, .int 185 0, .str "/claim/cut.py" 543], #[]⟩
noncomputable def b294 : Obj := ⟨.type "function", none, .func ⟨"encode_int64", "Base64Engine.encode_int64", fPar [11, 33], .stmts (fBod [11, 33]), fSco [11, 33], 3, [], .none, .none, .none, .str "passlib.utils.binary" 257, none, .ref 293, .none, 0⟩, #[]⟩
noncomputable def b295 : Obj := ⟨.type "tuple", none, .seq #[.str "_lookup" 545, .str "big" 546, .str "bytemap" 547] 0, #[]⟩
noncomputable def b296 (P : Params) : Obj := ⟨.type "dict", none, .dict (List.toArray (⟨PyData.keyHash P "__module__", .str "__module__" 268, .str "passlib.utils.binary" 257⟩ :: ⟨PyData.keyHash P "__firstlineno__", .str "__firstlineno__" 272, .int 22 271⟩ :: ⟨PyData.keyHash P "bytemap", .str "bytemap" 273, .none⟩ :: ⟨PyData.keyHash P "big", .str "big" 274, .none⟩ :: ⟨PyData.keyHash P "_lookup", .str "_lookup" 275, .none⟩ :: ⟨PyData.keyHash P "__init__", .str "__init__" 285, .ref 85⟩ :: ⟨PyData.keyHash P "_encode64", .str "_encode64" 293, .ref 92⟩ :: ⟨PyData.keyHash P "_decode64", .str "_decode64" 301, .ref 99⟩ :: ⟨PyData.keyHash P "_encode_bytes", .str "_encode_bytes" 311, .ref 106⟩ :: ⟨PyData.keyHash P "_decode_bytes", .str "_decode_bytes" 321, .ref 113⟩ :: ⟨PyData.keyHash P "charmap", .str "charmap" 329, .ref 121⟩ :: ⟨PyData.keyHash P "encode_bytes", .str "encode_bytes" 335, .ref 126⟩ :: ⟨PyData.keyHash P "_encode_bytes_little", .str "_encode_bytes_little" 349, .ref 133⟩ :: ⟨PyData.keyHash P "_encode_bytes_big", .str "_encode_bytes_big" 363, .ref 140⟩ :: ⟨PyData.keyHash P "decode_bytes", .str "decode_bytes" 371, .ref 147⟩ :: ⟨PyData.keyHash P "_decode_bytes_little", .str "_decode_bytes_little" 381, .ref 154⟩ :: ⟨PyData.keyHash P "_decode_bytes_big", .str "_decode_bytes_big" 391, .ref 161⟩ :: ⟨PyData.keyHash P "_make_padset", .str "_make_padset" 399, .ref 168⟩ :: ⟨PyData.keyHash P "_padinfo2", .str "_padinfo2" 407, .ref 176⟩ :: ⟨PyData.keyHash P "_padinfo3", .str "_padinfo3" 415, .ref 184⟩ :: ⟨PyData.keyHash P "check_repair_unused", .str "check_repair_unused" 423, .ref 191⟩ :: ⟨PyData.keyHash P "repair_unused", .str "repair_unused" 431, .ref 198⟩ :: ⟨PyData.keyHash P "encode_transposed_bytes", .str "encode_transposed_bytes" 437, .ref 203⟩ :: ⟨PyData.keyHash P "decode_transposed_bytes", .str "decode_transposed_bytes" 446, .ref 210⟩ :: ⟨PyData.keyHash P "_decode_int", .str "_decode_int" 455, .ref 217⟩ :: ⟨PyData.keyHash P "decode_int6", .str "decode_int6" 463, .ref 224⟩ :: ⟨PyData.keyHash P "decode_int12", .str "decode_int12" 471, .ref 231⟩ :: ⟨PyData.keyHash P "decode_int24", .str "decode_int24" 479, .ref 238⟩ :: ⟨PyData.keyHash P "decode_int30", .str "decode_int30" 487, .ref 245⟩ :: ⟨PyData.keyHash P "decode_int64", .str "decode_int64" 495, .ref 252⟩ :: ⟨PyData.keyHash P "_encode_int", .str "_encode_int" 504, .ref 259⟩ :: ⟨PyData.keyHash P "encode_int6", .str "encode_int6" 512, .ref 266⟩ :: ⟨PyData.keyHash P "encode_int12", .str "encode_int12" 520, .ref 273⟩ :: ⟨PyData.keyHash P "encode_int24", .str "encode_int24" 528, .ref 280⟩ :: ⟨PyData.keyHash P "encode_int30", .str "encode_int30" 536, .ref 287⟩ :: ⟨PyData.keyHash P "encode_int64", .str "encode_int64" 544, .ref 294⟩ :: ⟨PyData.keyHash P "__static_attributes__", .str "__static_attributes__" 548, .ref 295⟩ :: ⟨PyData.keyHash P "__dict__", .str "__dict__" 550, .ref 298⟩ :: ⟨PyData.keyHash P "__weakref__", .str "__weakref__" 552, .ref 299⟩ :: ⟨PyData.keyHash P "__doc__", .str "__doc__" 553, .none⟩ :: [])) 4, #[]⟩
noncomputable def b297 : Obj := ⟨.type "type", none, .cls ⟨"Base64Engine", [.type "object"], [.ref 297, .type "object"], 296, "Base64Engine", true, [], [], false, none, false⟩, #[some (.ref 71), none, some (.str "Base64Engine" 261), some (.str "Base64Engine" 269), some (.builtin "object.__new__"), some (.bool true)]⟩
noncomputable def b298 : Obj := ⟨.type "getset_descriptor", none, .fields #[.str "__dict__" 549, .ref 297, .builtin "function.__dict__", .builtin "function.__dict__#set"], #[]⟩
noncomputable def b299 : Obj := ⟨.type "getset_descriptor", none, .fields #[.str "__weakref__" 551, .ref 297, .builtin "ExceptionGroup.__weakref__", .none], #[]⟩
noncomputable def b300 : Obj := ⟨.type "super", none, .fields #[.ref 297, .ref 297, .ref 297], #[]⟩
noncomputable def b301 : Obj := ⟨.type "builtin_function_or_method", none, .fields #[.builtin "object.__init_subclass__", .ref 297], #[]⟩
noncomputable def c3 (P : Params) : Obj := ⟨.type "dict", none, .dict #[⟨PyData.keyHash P "__name__", .str "__name__" 165, .str "passlib.utils.binary" 257⟩, ⟨PyData.keyHash P "__doc__", .str "__doc__" 166, .none⟩, ⟨PyData.keyHash P "__package__", .str "__package__" 167, .none⟩, ⟨PyData.keyHash P "__loader__", .str "__loader__" 168, .builtin "__main__.__loader__#opaque"⟩, ⟨PyData.keyHash P "__spec__", .str "__spec__" 169, .none⟩, ⟨PyData.keyHash P "__annotations__", .str "__annotations__" 170, .ref 6⟩, ⟨PyData.keyHash P "__builtins__", .str "__builtins__" 171, .ref 4⟩, ⟨PyData.keyHash P "__file__", .str "__file__" 173, .str "/claim/cut.py" 172⟩, ⟨PyData.keyHash P "__cached__", .str "__cached__" 174, .none⟩, ⟨PyData.keyHash P "_wall", .str "_wall" 193, .ref 21⟩, ⟨PyData.keyHash P "PasswordValueError", .str "PasswordValueError" 213, .ref 31⟩, ⟨PyData.keyHash P "_get_name", .str "_get_name" 220, .ref 41⟩, ⟨PyData.keyHash P "ExpectedTypeError", .str "ExpectedTypeError" 229, .ref 48⟩, ⟨PyData.keyHash P "ExpectedStringError", .str "ExpectedStringError" 237, .ref 55⟩, ⟨PyData.keyHash P "NullPasswordError", .str "NullPasswordError" 245, .ref 63⟩, ⟨PyData.keyHash P "repeat_string", .str "repeat_string" 256, .ref 70⟩, ⟨PyData.keyHash P "HASH64_CHARS", .str "HASH64_CHARS" 260, .str "./0123456789ABCDEFGHIJKLMNOPQRSTUVWXYZabcdefghijklmnopqrstuvwxyz" 259⟩, ⟨PyData.keyHash P "Base64Engine", .str "Base64Engine" 555, .ref 297⟩, ⟨PyData.keyHash P "h64", .str "h64" 1034, .ref 303⟩] 19, #[]⟩
noncomputable def c80 : Obj := ⟨.none, none, .fields #[.int 37 0, .int 22 0, .ref 313], #[]⟩
noncomputable def c302 (P : Params) : Obj := ⟨.type "dict", none, .dict #[⟨PyData.keyHash P "bytemap", .str "bytemap" 697, .bytes (List.toArray (46 :: 47 :: 48 :: 49 :: 50 :: 51 :: 52 :: 53 :: 54 :: 55 :: 56 :: 57 :: 65 :: 66 :: 67 :: 68 :: 69 :: 70 :: 71 :: 72 :: 73 :: 74 :: 75 :: 76 :: 77 :: 78 :: 79 :: 80 :: 81 :: 82 :: 83 :: 84 :: 85 :: 86 :: 87 :: 88 :: 89 :: 90 :: 97 :: 98 :: 99 :: 100 :: 101 :: 102 :: 103 :: 104 :: 105 :: 106 :: 107 :: 108 :: 109 :: 110 :: 111 :: 112 :: 113 :: 114 :: 115 :: 116 :: 117 :: 118 :: 119 :: 120 :: 121 :: 122 :: [])) 560⟩, ⟨PyData.keyHash P "_lookup", .str "_lookup" 1031, .ref 316⟩, ⟨PyData.keyHash P "big", .str "big" 1033, .bool false⟩] 3, #[]⟩
noncomputable def c303 : Obj := ⟨.ref 297, some 302, .plain, #[]⟩
noncomputable def c304 (P : Params) : Obj := ⟨.type "frame", none, .dict #[⟨PyData.keyHash P "self", .str "self" 556, .ref 303⟩, ⟨PyData.keyHash P "charmap", .str "charmap" 557, .bytes (List.toArray (46 :: 47 :: 48 :: 49 :: 50 :: 51 :: 52 :: 53 :: 54 :: 55 :: 56 :: 57 :: 65 :: 66 :: 67 :: 68 :: 69 :: 70 :: 71 :: 72 :: 73 :: 74 :: 75 :: 76 :: 77 :: 78 :: 79 :: 80 :: 81 :: 82 :: 83 :: 84 :: 85 :: 86 :: 87 :: 88 :: 89 :: 90 :: 97 :: 98 :: 99 :: 100 :: 101 :: 102 :: 103 :: 104 :: 105 :: 106 :: 107 :: 108 :: 109 :: 110 :: 111 :: 112 :: 113 :: 114 :: 115 :: 116 :: 117 :: 118 :: 119 :: 120 :: 121 :: 122 :: [])) 560⟩, ⟨PyData.keyHash P "big", .str "big" 558, .bool false⟩, ⟨PyData.keyHash P "lookup", .str "lookup" 1029, .ref 316⟩] 4, #[]⟩
noncomputable def c305 (P : Params) : Obj := ⟨.type "set", none, .set (List.toArray ((46, .int 46 565) :: (47, .int 47 567) :: (48, .int 48 569) :: (49, .int 49 571) :: (50, .int 50 573) :: (51, .int 51 575) :: (52, .int 52 577) :: (53, .int 53 579) :: (54, .int 54 581) :: (55, .int 55 583) :: (56, .int 56 585) :: (57, .int 57 587) :: (65, .int 65 589) :: (66, .int 66 591) :: (67, .int 67 593) :: (68, .int 68 595) :: (69, .int 69 597) :: (70, .int 70 599) :: (71, .int 71 601) :: (72, .int 72 603) :: (73, .int 73 605) :: (74, .int 74 607) :: (75, .int 75 609) :: (76, .int 76 611) :: (77, .int 77 613) :: (78, .int 78 615) :: (79, .int 79 617) :: (80, .int 80 619) :: (81, .int 81 621) :: (82, .int 82 623) :: (83, .int 83 625) :: (84, .int 84 627) :: (85, .int 85 629) :: (86, .int 86 631) :: (87, .int 87 633) :: (88, .int 88 635) :: (89, .int 89 637) :: (90, .int 90 639) :: (97, .int 97 641) :: (98, .int 98 643) :: (99, .int 99 645) :: (100, .int 100 647) :: (101, .int 101 649) :: (102, .int 102 651) :: (103, .int 103 653) :: (104, .int 104 655) :: (105, .int 105 657) :: (106, .int 106 659) :: (107, .int 107 661) :: (108, .int 108 663) :: (109, .int 109 665) :: (110, .int 110 667) :: (111, .int 111 669) :: (112, .int 112 671) :: (113, .int 113 673) :: (114, .int 114 675) :: (115, .int 115 677) :: (116, .int 116 679) :: (117, .int 117 681) :: (118, .int 118 683) :: (119, .int 119 685) :: (120, .int 120 687) :: (121, .int 121 689) :: (122, .int 122 691) :: [])) 66 ⟨127, List.toArray (46 :: 47 :: 48 :: 49 :: 50 :: 51 :: 52 :: 53 :: 54 :: 55 :: 56 :: 57 :: 65 :: 66 :: 67 :: 68 :: 69 :: 70 :: 71 :: 72 :: 73 :: 74 :: 75 :: 76 :: 77 :: 78 :: 79 :: 80 :: 81 :: 82 :: 83 :: 84 :: 85 :: 86 :: 87 :: 88 :: 89 :: 90 :: 97 :: 98 :: 99 :: 100 :: 101 :: 102 :: 103 :: 104 :: 105 :: 106 :: 107 :: 108 :: 109 :: 110 :: 111 :: 112 :: 113 :: 114 :: 115 :: 116 :: 117 :: 118 :: 119 :: 120 :: 121 :: 122 :: []), #[], 0, Bool.not (Params.followText P "set-order"), 2, true⟩, #[]⟩
noncomputable def c306 : Obj := ⟨.type "bytes_iterator", none, .fields #[.none, .int 64 0], #[]⟩
noncomputable def c307 : Obj := ⟨.type "tuple", none, .seq #[] 0, #[]⟩
noncomputable def c308 : Obj := ⟨.type "StopIteration", none, .fields #[.ref 307, .none, .none, .none, .bool false, .none], #[]⟩
noncomputable def c309 : Obj := ⟨.type "bytes_iterator", none, .fields #[.none, .int 64 0], #[]⟩
noncomputable def c310 : Obj := ⟨.type "enumerate", none, .fields #[.none, .bool false, .ref 309, .int 64 0, .none, .int 122 1024], #[]⟩
noncomputable def c311 : Obj := ⟨.type "tuple", none, .seq #[] 0, #[]⟩
noncomputable def c312 : Obj := ⟨.none, none, .fields #[], #[]⟩
noncomputable def c313 : Obj := ⟨.type "code", none, .fields #[.str "<genexpr>" 698, .str "Base64Engine.__init__.<locals>.<genexpr>" 699, .str "/claim/cut.py" 700, .int 37 0, .int 1 0, .int 0 0, .int 0 0, .int 51 0, .ref 311, .bool true, .int 181 0, .ref 312, .none, .none, .none, .none, .int 701 0, .int 37 0, .str "/claim/cut.py" 702], #[]⟩
noncomputable def c314 (P : Params) : Obj := ⟨.type "frame", none, .dict #[⟨PyData.keyHash P ".0", .str ".0" 703, .ref 310⟩, ⟨PyData.keyHash P "idx", .str "idx" 711, .int 63 1025⟩, ⟨PyData.keyHash P "value", .str "value" 712, .int 122 1024⟩] 3, #[]⟩
noncomputable def c315 : Obj := ⟨.type "generator", none, .fields #[.int 0 0, .str "<genexpr>" 704, .str "Base64Engine.__init__.<locals>.<genexpr>" 705], #[]⟩
noncomputable def c316 : Obj := ⟨.type "dict", none, .dict (List.toArray (⟨46, .int 46 709, .int 0 710⟩ :: ⟨47, .int 47 714, .int 1 715⟩ :: ⟨48, .int 48 719, .int 2 720⟩ :: ⟨49, .int 49 724, .int 3 725⟩ :: ⟨50, .int 50 729, .int 4 730⟩ :: ⟨51, .int 51 734, .int 5 735⟩ :: ⟨52, .int 52 739, .int 6 740⟩ :: ⟨53, .int 53 744, .int 7 745⟩ :: ⟨54, .int 54 749, .int 8 750⟩ :: ⟨55, .int 55 754, .int 9 755⟩ :: ⟨56, .int 56 759, .int 10 760⟩ :: ⟨57, .int 57 764, .int 11 765⟩ :: ⟨65, .int 65 769, .int 12 770⟩ :: ⟨66, .int 66 774, .int 13 775⟩ :: ⟨67, .int 67 779, .int 14 780⟩ :: ⟨68, .int 68 784, .int 15 785⟩ :: ⟨69, .int 69 789, .int 16 790⟩ :: ⟨70, .int 70 794, .int 17 795⟩ :: ⟨71, .int 71 799, .int 18 800⟩ :: ⟨72, .int 72 804, .int 19 805⟩ :: ⟨73, .int 73 809, .int 20 810⟩ :: ⟨74, .int 74 814, .int 21 815⟩ :: ⟨75, .int 75 819, .int 22 820⟩ :: ⟨76, .int 76 824, .int 23 825⟩ :: ⟨77, .int 77 829, .int 24 830⟩ :: ⟨78, .int 78 834, .int 25 835⟩ :: ⟨79, .int 79 839, .int 26 840⟩ :: ⟨80, .int 80 844, .int 27 845⟩ :: ⟨81, .int 81 849, .int 28 850⟩ :: ⟨82, .int 82 854, .int 29 855⟩ :: ⟨83, .int 83 859, .int 30 860⟩ :: ⟨84, .int 84 864, .int 31 865⟩ :: ⟨85, .int 85 869, .int 32 870⟩ :: ⟨86, .int 86 874, .int 33 875⟩ :: ⟨87, .int 87 879, .int 34 880⟩ :: ⟨88, .int 88 884, .int 35 885⟩ :: ⟨89, .int 89 889, .int 36 890⟩ :: ⟨90, .int 90 894, .int 37 895⟩ :: ⟨97, .int 97 899, .int 38 900⟩ :: ⟨98, .int 98 904, .int 39 905⟩ :: ⟨99, .int 99 909, .int 40 910⟩ :: ⟨100, .int 100 914, .int 41 915⟩ :: ⟨101, .int 101 919, .int 42 920⟩ :: ⟨102, .int 102 924, .int 43 925⟩ :: ⟨103, .int 103 929, .int 44 930⟩ :: ⟨104, .int 104 934, .int 45 935⟩ :: ⟨105, .int 105 939, .int 46 940⟩ :: ⟨106, .int 106 944, .int 47 945⟩ :: ⟨107, .int 107 949, .int 48 950⟩ :: ⟨108, .int 108 954, .int 49 955⟩ :: ⟨109, .int 109 959, .int 50 960⟩ :: ⟨110, .int 110 964, .int 51 965⟩ :: ⟨111, .int 111 969, .int 52 970⟩ :: ⟨112, .int 112 974, .int 53 975⟩ :: ⟨113, .int 113 979, .int 54 980⟩ :: ⟨114, .int 114 984, .int 55 985⟩ :: ⟨115, .int 115 989, .int 56 990⟩ :: ⟨116, .int 116 994, .int 57 995⟩ :: ⟨117, .int 117 999, .int 58 1000⟩ :: ⟨118, .int 118 1004, .int 59 1005⟩ :: ⟨119, .int 119 1009, .int 60 1010⟩ :: ⟨120, .int 120 1014, .int 61 1015⟩ :: ⟨121, .int 121 1019, .int 62 1020⟩ :: ⟨122, .int 122 1024, .int 63 1025⟩ :: [])) 64, #[]⟩
noncomputable def c317 : Obj := ⟨.type "tuple", none, .seq #[.str "'generator' object has no attribute 'keys'" 707] 0, #[]⟩
noncomputable def c318 : Obj := ⟨.type "AttributeError", none, .fields #[.ref 317, .none, .none, .none, .bool false, .none, .str "keys" 708, .ref 315], #[]⟩
noncomputable def c319 : Obj := ⟨.type "tuple", none, .seq #[.int 0 710, .int 46 709] 0, #[]⟩
noncomputable def c320 : Obj := ⟨.type "tuple_iterator", none, .fields #[.none, .int 2 0], #[]⟩
noncomputable def c321 : Obj := ⟨.type "tuple", none, .seq #[] 0, #[]⟩
noncomputable def c322 : Obj := ⟨.type "StopIteration", none, .fields #[.ref 321, .none, .none, .none, .bool false, .none], #[]⟩
noncomputable def c323 : Obj := ⟨.type "tuple", none, .seq #[.int 46 709, .int 0 710] 0, #[]⟩
noncomputable def c324 : Obj := ⟨.type "tuple", none, .seq #[.int 1 715, .int 47 714] 0, #[]⟩
noncomputable def c325 : Obj := ⟨.type "tuple_iterator", none, .fields #[.none, .int 2 0], #[]⟩
noncomputable def c326 : Obj := ⟨.type "tuple", none, .seq #[] 0, #[]⟩
noncomputable def c327 : Obj := ⟨.type "StopIteration", none, .fields #[.ref 326, .none, .none, .none, .bool false, .none], #[]⟩
noncomputable def c328 : Obj := ⟨.type "tuple", none, .seq #[.int 47 714, .int 1 715] 0, #[]⟩
noncomputable def c329 : Obj := ⟨.type "tuple", none, .seq #[.int 2 720, .int 48 719] 0, #[]⟩
noncomputable def c330 : Obj := ⟨.type "tuple_iterator", none, .fields #[.none, .int 2 0], #[]⟩
noncomputable def c331 : Obj := ⟨.type "tuple", none, .seq #[] 0, #[]⟩
noncomputable def c332 : Obj := ⟨.type "StopIteration", none, .fields #[.ref 331, .none, .none, .none, .bool false, .none], #[]⟩
noncomputable def c333 : Obj := ⟨.type "tuple", none, .seq #[.int 48 719, .int 2 720] 0, #[]⟩
noncomputable def c334 : Obj := ⟨.type "tuple", none, .seq #[.int 3 725, .int 49 724] 0, #[]⟩
noncomputable def c335 : Obj := ⟨.type "tuple_iterator", none, .fields #[.none, .int 2 0], #[]⟩
noncomputable def c336 : Obj := ⟨.type "tuple", none, .seq #[] 0, #[]⟩
noncomputable def c337 : Obj := ⟨.type "StopIteration", none, .fields #[.ref 336, .none, .none, .none, .bool false, .none], #[]⟩
noncomputable def c338 : Obj := ⟨.type "tuple", none, .seq #[.int 49 724, .int 3 725] 0, #[]⟩
noncomputable def c339 : Obj := ⟨.type "tuple", none, .seq #[.int 4 730, .int 50 729] 0, #[]⟩
noncomputable def c340 : Obj := ⟨.type "tuple_iterator", none, .fields #[.none, .int 2 0], #[]⟩
noncomputable def c341 : Obj := ⟨.type "tuple", none, .seq #[] 0, #[]⟩
noncomputable def c342 : Obj := ⟨.type "StopIteration", none, .fields #[.ref 341, .none, .none, .none, .bool false, .none], #[]⟩
noncomputable def c343 : Obj := ⟨.type "tuple", none, .seq #[.int 50 729, .int 4 730] 0, #[]⟩
noncomputable def c344 : Obj := ⟨.type "tuple", none, .seq #[.int 5 735, .int 51 734] 0, #[]⟩
noncomputable def c345 : Obj := ⟨.type "tuple_iterator", none, .fields #[.none, .int 2 0], #[]⟩
noncomputable def c346 : Obj := ⟨.type "tuple", none, .seq #[] 0, #[]⟩
noncomputable def c347 : Obj := ⟨.type "StopIteration", none, .fields #[.ref 346, .none, .none, .none, .bool false, .none], #[]⟩
noncomputable def c348 : Obj := ⟨.type "tuple", none, .seq #[.int 51 734, .int 5 735] 0, #[]⟩
noncomputable def c349 : Obj := ⟨.type "tuple", none, .seq #[.int 6 740, .int 52 739] 0, #[]⟩
noncomputable def c350 : Obj := ⟨.type "tuple_iterator", none, .fields #[.none, .int 2 0], #[]⟩
noncomputable def c351 : Obj := ⟨.type "tuple", none, .seq #[] 0, #[]⟩
noncomputable def c352 : Obj := ⟨.type "StopIteration", none, .fields #[.ref 351, .none, .none, .none, .bool false, .none], #[]⟩
noncomputable def c353 : Obj := ⟨.type "tuple", none, .seq #[.int 52 739, .int 6 740] 0, #[]⟩
noncomputable def c354 : Obj := ⟨.type "tuple", none, .seq #[.int 7 745, .int 53 744] 0, #[]⟩
noncomputable def c355 : Obj := ⟨.type "tuple_iterator", none, .fields #[.none, .int 2 0], #[]⟩
noncomputable def c356 : Obj := ⟨.type "tuple", none, .seq #[] 0, #[]⟩
noncomputable def c357 : Obj := ⟨.type "StopIteration", none, .fields #[.ref 356, .none, .none, .none, .bool false, .none], #[]⟩
noncomputable def c358 : Obj := ⟨.type "tuple", none, .seq #[.int 53 744, .int 7 745] 0, #[]⟩
noncomputable def c359 : Obj := ⟨.type "tuple", none, .seq #[.int 8 750, .int 54 749] 0, #[]⟩
noncomputable def c360 : Obj := ⟨.type "tuple_iterator", none, .fields #[.none, .int 2 0], #[]⟩
noncomputable def c361 : Obj := ⟨.type "tuple", none, .seq #[] 0, #[]⟩
noncomputable def c362 : Obj := ⟨.type "StopIteration", none, .fields #[.ref 361, .none, .none, .none, .bool false, .none], #[]⟩
noncomputable def c363 : Obj := ⟨.type "tuple", none, .seq #[.int 54 749, .int 8 750] 0, #[]⟩
noncomputable def c364 : Obj := ⟨.type "tuple", none, .seq #[.int 9 755, .int 55 754] 0, #[]⟩
noncomputable def c365 : Obj := ⟨.type "tuple_iterator", none, .fields #[.none, .int 2 0], #[]⟩
noncomputable def c366 : Obj := ⟨.type "tuple", none, .seq #[] 0, #[]⟩
noncomputable def c367 : Obj := ⟨.type "StopIteration", none, .fields #[.ref 366, .none, .none, .none, .bool false, .none], #[]⟩
noncomputable def c368 : Obj := ⟨.type "tuple", none, .seq #[.int 55 754, .int 9 755] 0, #[]⟩
noncomputable def c369 : Obj := ⟨.type "tuple", none, .seq #[.int 10 760, .int 56 759] 0, #[]⟩
noncomputable def c370 : Obj := ⟨.type "tuple_iterator", none, .fields #[.none, .int 2 0], #[]⟩
noncomputable def c371 : Obj := ⟨.type "tuple", none, .seq #[] 0, #[]⟩
noncomputable def c372 : Obj := ⟨.type "StopIteration", none, .fields #[.ref 371, .none, .none, .none, .bool false, .none], #[]⟩
noncomputable def c373 : Obj := ⟨.type "tuple", none, .seq #[.int 56 759, .int 10 760] 0, #[]⟩
noncomputable def c374 : Obj := ⟨.type "tuple", none, .seq #[.int 11 765, .int 57 764] 0, #[]⟩
noncomputable def c375 : Obj := ⟨.type "tuple_iterator", none, .fields #[.none, .int 2 0], #[]⟩
noncomputable def c376 : Obj := ⟨.type "tuple", none, .seq #[] 0, #[]⟩
noncomputable def c377 : Obj := ⟨.type "StopIteration", none, .fields #[.ref 376, .none, .none, .none, .bool false, .none], #[]⟩
noncomputable def c378 : Obj := ⟨.type "tuple", none, .seq #[.int 57 764, .int 11 765] 0, #[]⟩
noncomputable def c379 : Obj := ⟨.type "tuple", none, .seq #[.int 12 770, .int 65 769] 0, #[]⟩
noncomputable def c380 : Obj := ⟨.type "tuple_iterator", none, .fields #[.none, .int 2 0], #[]⟩
noncomputable def c381 : Obj := ⟨.type "tuple", none, .seq #[] 0, #[]⟩
noncomputable def c382 : Obj := ⟨.type "StopIteration", none, .fields #[.ref 381, .none, .none, .none, .bool false, .none], #[]⟩
noncomputable def c383 : Obj := ⟨.type "tuple", none, .seq #[.int 65 769, .int 12 770] 0, #[]⟩
noncomputable def c384 : Obj := ⟨.type "tuple", none, .seq #[.int 13 775, .int 66 774] 0, #[]⟩
noncomputable def c385 : Obj := ⟨.type "tuple_iterator", none, .fields #[.none, .int 2 0], #[]⟩
noncomputable def c386 : Obj := ⟨.type "tuple", none, .seq #[] 0, #[]⟩
noncomputable def c387 : Obj := ⟨.type "StopIteration", none, .fields #[.ref 386, .none, .none, .none, .bool false, .none], #[]⟩
noncomputable def c388 : Obj := ⟨.type "tuple", none, .seq #[.int 66 774, .int 13 775] 0, #[]⟩
noncomputable def c389 : Obj := ⟨.type "tuple", none, .seq #[.int 14 780, .int 67 779] 0, #[]⟩
noncomputable def c390 : Obj := ⟨.type "tuple_iterator", none, .fields #[.none, .int 2 0], #[]⟩
noncomputable def c391 : Obj := ⟨.type "tuple", none, .seq #[] 0, #[]⟩
noncomputable def c392 : Obj := ⟨.type "StopIteration", none, .fields #[.ref 391, .none, .none, .none, .bool false, .none], #[]⟩
noncomputable def c393 : Obj := ⟨.type "tuple", none, .seq #[.int 67 779, .int 14 780] 0, #[]⟩
noncomputable def c394 : Obj := ⟨.type "tuple", none, .seq #[.int 15 785, .int 68 784] 0, #[]⟩
noncomputable def c395 : Obj := ⟨.type "tuple_iterator", none, .fields #[.none, .int 2 0], #[]⟩
noncomputable def c396 : Obj := ⟨.type "tuple", none, .seq #[] 0, #[]⟩
noncomputable def c397 : Obj := ⟨.type "StopIteration", none, .fields #[.ref 396, .none, .none, .none, .bool false, .none], #[]⟩
noncomputable def c398 : Obj := ⟨.type "tuple", none, .seq #[.int 68 784, .int 15 785] 0, #[]⟩
noncomputable def c399 : Obj := ⟨.type "tuple", none, .seq #[.int 16 790, .int 69 789] 0, #[]⟩
noncomputable def c400 : Obj := ⟨.type "tuple_iterator", none, .fields #[.none, .int 2 0], #[]⟩
noncomputable def c401 : Obj := ⟨.type "tuple", none, .seq #[] 0, #[]⟩
noncomputable def c402 : Obj := ⟨.type "StopIteration", none, .fields #[.ref 401, .none, .none, .none, .bool false, .none], #[]⟩
noncomputable def c403 : Obj := ⟨.type "tuple", none, .seq #[.int 69 789, .int 16 790] 0, #[]⟩
noncomputable def c404 : Obj := ⟨.type "tuple", none, .seq #[.int 17 795, .int 70 794] 0, #[]⟩
noncomputable def c405 : Obj := ⟨.type "tuple_iterator", none, .fields #[.none, .int 2 0], #[]⟩
noncomputable def c406 : Obj := ⟨.type "tuple", none, .seq #[] 0, #[]⟩
noncomputable def c407 : Obj := ⟨.type "StopIteration", none, .fields #[.ref 406, .none, .none, .none, .bool false, .none], #[]⟩
noncomputable def c408 : Obj := ⟨.type "tuple", none, .seq #[.int 70 794, .int 17 795] 0, #[]⟩
noncomputable def c409 : Obj := ⟨.type "tuple", none, .seq #[.int 18 800, .int 71 799] 0, #[]⟩
noncomputable def c410 : Obj := ⟨.type "tuple_iterator", none, .fields #[.none, .int 2 0], #[]⟩
noncomputable def c411 : Obj := ⟨.type "tuple", none, .seq #[] 0, #[]⟩
noncomputable def c412 : Obj := ⟨.type "StopIteration", none, .fields #[.ref 411, .none, .none, .none, .bool false, .none], #[]⟩
noncomputable def c413 : Obj := ⟨.type "tuple", none, .seq #[.int 71 799, .int 18 800] 0, #[]⟩
noncomputable def c414 : Obj := ⟨.type "tuple", none, .seq #[.int 19 805, .int 72 804] 0, #[]⟩
noncomputable def c415 : Obj := ⟨.type "tuple_iterator", none, .fields #[.none, .int 2 0], #[]⟩
noncomputable def c416 : Obj := ⟨.type "tuple", none, .seq #[] 0, #[]⟩
noncomputable def c417 : Obj := ⟨.type "StopIteration", none, .fields #[.ref 416, .none, .none, .none, .bool false, .none], #[]⟩
noncomputable def c418 : Obj := ⟨.type "tuple", none, .seq #[.int 72 804, .int 19 805] 0, #[]⟩
noncomputable def c419 : Obj := ⟨.type "tuple", none, .seq #[.int 20 810, .int 73 809] 0, #[]⟩
noncomputable def c420 : Obj := ⟨.type "tuple_iterator", none, .fields #[.none, .int 2 0], #[]⟩
noncomputable def c421 : Obj := ⟨.type "tuple", none, .seq #[] 0, #[]⟩
noncomputable def c422 : Obj := ⟨.type "StopIteration", none, .fields #[.ref 421, .none, .none, .none, .bool false, .none], #[]⟩
noncomputable def c423 : Obj := ⟨.type "tuple", none, .seq #[.int 73 809, .int 20 810] 0, #[]⟩
noncomputable def c424 : Obj := ⟨.type "tuple", none, .seq #[.int 21 815, .int 74 814] 0, #[]⟩
noncomputable def c425 : Obj := ⟨.type "tuple_iterator", none, .fields #[.none, .int 2 0], #[]⟩
noncomputable def c426 : Obj := ⟨.type "tuple", none, .seq #[] 0, #[]⟩
noncomputable def c427 : Obj := ⟨.type "StopIteration", none, .fields #[.ref 426, .none, .none, .none, .bool false, .none], #[]⟩
noncomputable def c428 : Obj := ⟨.type "tuple", none, .seq #[.int 74 814, .int 21 815] 0, #[]⟩
noncomputable def c429 : Obj := ⟨.type "tuple", none, .seq #[.int 22 820, .int 75 819] 0, #[]⟩
noncomputable def c430 : Obj := ⟨.type "tuple_iterator", none, .fields #[.none, .int 2 0], #[]⟩
noncomputable def c431 : Obj := ⟨.type "tuple", none, .seq #[] 0, #[]⟩
noncomputable def c432 : Obj := ⟨.type "StopIteration", none, .fields #[.ref 431, .none, .none, .none, .bool false, .none], #[]⟩
noncomputable def c433 : Obj := ⟨.type "tuple", none, .seq #[.int 75 819, .int 22 820] 0, #[]⟩
noncomputable def c434 : Obj := ⟨.type "tuple", none, .seq #[.int 23 825, .int 76 824] 0, #[]⟩
noncomputable def c435 : Obj := ⟨.type "tuple_iterator", none, .fields #[.none, .int 2 0], #[]⟩
noncomputable def c436 : Obj := ⟨.type "tuple", none, .seq #[] 0, #[]⟩
noncomputable def c437 : Obj := ⟨.type "StopIteration", none, .fields #[.ref 436, .none, .none, .none, .bool false, .none], #[]⟩
noncomputable def c438 : Obj := ⟨.type "tuple", none, .seq #[.int 76 824, .int 23 825] 0, #[]⟩
noncomputable def c439 : Obj := ⟨.type "tuple", none, .seq #[.int 24 830, .int 77 829] 0, #[]⟩
noncomputable def c440 : Obj := ⟨.type "tuple_iterator", none, .fields #[.none, .int 2 0], #[]⟩
noncomputable def c441 : Obj := ⟨.type "tuple", none, .seq #[] 0, #[]⟩
noncomputable def c442 : Obj := ⟨.type "StopIteration", none, .fields #[.ref 441, .none, .none, .none, .bool false, .none], #[]⟩
noncomputable def c443 : Obj := ⟨.type "tuple", none, .seq #[.int 77 829, .int 24 830] 0, #[]⟩
noncomputable def c444 : Obj := ⟨.type "tuple", none, .seq #[.int 25 835, .int 78 834] 0, #[]⟩
noncomputable def c445 : Obj := ⟨.type "tuple_iterator", none, .fields #[.none, .int 2 0], #[]⟩
noncomputable def c446 : Obj := ⟨.type "tuple", none, .seq #[] 0, #[]⟩
noncomputable def c447 : Obj := ⟨.type "StopIteration", none, .fields #[.ref 446, .none, .none, .none, .bool false, .none], #[]⟩
noncomputable def c448 : Obj := ⟨.type "tuple", none, .seq #[.int 78 834, .int 25 835] 0, #[]⟩
noncomputable def c449 : Obj := ⟨.type "tuple", none, .seq #[.int 26 840, .int 79 839] 0, #[]⟩
noncomputable def c450 : Obj := ⟨.type "tuple_iterator", none, .fields #[.none, .int 2 0], #[]⟩
noncomputable def c451 : Obj := ⟨.type "tuple", none, .seq #[] 0, #[]⟩
noncomputable def c452 : Obj := ⟨.type "StopIteration", none, .fields #[.ref 451, .none, .none, .none, .bool false, .none], #[]⟩
noncomputable def c453 : Obj := ⟨.type "tuple", none, .seq #[.int 79 839, .int 26 840] 0, #[]⟩
noncomputable def c454 : Obj := ⟨.type "tuple", none, .seq #[.int 27 845, .int 80 844] 0, #[]⟩
noncomputable def c455 : Obj := ⟨.type "tuple_iterator", none, .fields #[.none, .int 2 0], #[]⟩
noncomputable def c456 : Obj := ⟨.type "tuple", none, .seq #[] 0, #[]⟩
noncomputable def c457 : Obj := ⟨.type "StopIteration", none, .fields #[.ref 456, .none, .none, .none, .bool false, .none], #[]⟩
noncomputable def c458 : Obj := ⟨.type "tuple", none, .seq #[.int 80 844, .int 27 845] 0, #[]⟩
noncomputable def c459 : Obj := ⟨.type "tuple", none, .seq #[.int 28 850, .int 81 849] 0, #[]⟩
noncomputable def c460 : Obj := ⟨.type "tuple_iterator", none, .fields #[.none, .int 2 0], #[]⟩
noncomputable def c461 : Obj := ⟨.type "tuple", none, .seq #[] 0, #[]⟩
noncomputable def c462 : Obj := ⟨.type "StopIteration", none, .fields #[.ref 461, .none, .none, .none, .bool false, .none], #[]⟩
noncomputable def c463 : Obj := ⟨.type "tuple", none, .seq #[.int 81 849, .int 28 850] 0, #[]⟩
noncomputable def c464 : Obj := ⟨.type "tuple", none, .seq #[.int 29 855, .int 82 854] 0, #[]⟩
noncomputable def c465 : Obj := ⟨.type "tuple_iterator", none, .fields #[.none, .int 2 0], #[]⟩
noncomputable def c466 : Obj := ⟨.type "tuple", none, .seq #[] 0, #[]⟩
noncomputable def c467 : Obj := ⟨.type "StopIteration", none, .fields #[.ref 466, .none, .none, .none, .bool false, .none], #[]⟩
noncomputable def c468 : Obj := ⟨.type "tuple", none, .seq #[.int 82 854, .int 29 855] 0, #[]⟩
noncomputable def c469 : Obj := ⟨.type "tuple", none, .seq #[.int 30 860, .int 83 859] 0, #[]⟩
noncomputable def c470 : Obj := ⟨.type "tuple_iterator", none, .fields #[.none, .int 2 0], #[]⟩
noncomputable def c471 : Obj := ⟨.type "tuple", none, .seq #[] 0, #[]⟩
noncomputable def c472 : Obj := ⟨.type "StopIteration", none, .fields #[.ref 471, .none, .none, .none, .bool false, .none], #[]⟩
noncomputable def c473 : Obj := ⟨.type "tuple", none, .seq #[.int 83 859, .int 30 860] 0, #[]⟩
noncomputable def c474 : Obj := ⟨.type "tuple", none, .seq #[.int 31 865, .int 84 864] 0, #[]⟩
noncomputable def c475 : Obj := ⟨.type "tuple_iterator", none, .fields #[.none, .int 2 0], #[]⟩
noncomputable def c476 : Obj := ⟨.type "tuple", none, .seq #[] 0, #[]⟩
noncomputable def c477 : Obj := ⟨.type "StopIteration", none, .fields #[.ref 476, .none, .none, .none, .bool false, .none], #[]⟩
noncomputable def c478 : Obj := ⟨.type "tuple", none, .seq #[.int 84 864, .int 31 865] 0, #[]⟩
noncomputable def c479 : Obj := ⟨.type "tuple", none, .seq #[.int 32 870, .int 85 869] 0, #[]⟩
noncomputable def c480 : Obj := ⟨.type "tuple_iterator", none, .fields #[.none, .int 2 0], #[]⟩
noncomputable def c481 : Obj := ⟨.type "tuple", none, .seq #[] 0, #[]⟩
noncomputable def c482 : Obj := ⟨.type "StopIteration", none, .fields #[.ref 481, .none, .none, .none, .bool false, .none], #[]⟩
noncomputable def c483 : Obj := ⟨.type "tuple", none, .seq #[.int 85 869, .int 32 870] 0, #[]⟩
noncomputable def c484 : Obj := ⟨.type "tuple", none, .seq #[.int 33 875, .int 86 874] 0, #[]⟩
noncomputable def c485 : Obj := ⟨.type "tuple_iterator", none, .fields #[.none, .int 2 0], #[]⟩
noncomputable def c486 : Obj := ⟨.type "tuple", none, .seq #[] 0, #[]⟩
noncomputable def c487 : Obj := ⟨.type "StopIteration", none, .fields #[.ref 486, .none, .none, .none, .bool false, .none], #[]⟩
noncomputable def c488 : Obj := ⟨.type "tuple", none, .seq #[.int 86 874, .int 33 875] 0, #[]⟩
noncomputable def c489 : Obj := ⟨.type "tuple", none, .seq #[.int 34 880, .int 87 879] 0, #[]⟩
noncomputable def c490 : Obj := ⟨.type "tuple_iterator", none, .fields #[.none, .int 2 0], #[]⟩
noncomputable def c491 : Obj := ⟨.type "tuple", none, .seq #[] 0, #[]⟩
noncomputable def c492 : Obj := ⟨.type "StopIteration", none, .fields #[.ref 491, .none, .none, .none, .bool false, .none], #[]⟩
noncomputable def c493 : Obj := ⟨.type "tuple", none, .seq #[.int 87 879, .int 34 880] 0, #[]⟩
noncomputable def c494 : Obj := ⟨.type "tuple", none, .seq #[.int 35 885, .int 88 884] 0, #[]⟩
noncomputable def c495 : Obj := ⟨.type "tuple_iterator", none, .fields #[.none, .int 2 0], #[]⟩
noncomputable def c496 : Obj := ⟨.type "tuple", none, .seq #[] 0, #[]⟩
noncomputable def c497 : Obj := ⟨.type "StopIteration", none, .fields #[.ref 496, .none, .none, .none, .bool false, .none], #[]⟩
noncomputable def c498 : Obj := ⟨.type "tuple", none, .seq #[.int 88 884, .int 35 885] 0, #[]⟩
noncomputable def c499 : Obj := ⟨.type "tuple", none, .seq #[.int 36 890, .int 89 889] 0, #[]⟩
noncomputable def c500 : Obj := ⟨.type "tuple_iterator", none, .fields #[.none, .int 2 0], #[]⟩
noncomputable def c501 : Obj := ⟨.type "tuple", none, .seq #[] 0, #[]⟩
noncomputable def c502 : Obj := ⟨.type "StopIteration", none, .fields #[.ref 501, .none, .none, .none, .bool false, .none], #[]⟩
noncomputable def c503 : Obj := ⟨.type "tuple", none, .seq #[.int 89 889, .int 36 890] 0, #[]⟩
noncomputable def c504 : Obj := ⟨.type "tuple", none, .seq #[.int 37 895, .int 90 894] 0, #[]⟩
noncomputable def c505 : Obj := ⟨.type "tuple_iterator", none, .fields #[.none, .int 2 0], #[]⟩
noncomputable def c506 : Obj := ⟨.type "tuple", none, .seq #[] 0, #[]⟩
noncomputable def c507 : Obj := ⟨.type "StopIteration", none, .fields #[.ref 506, .none, .none, .none, .bool false, .none], #[]⟩
noncomputable def c508 : Obj := ⟨.type "tuple", none, .seq #[.int 90 894, .int 37 895] 0, #[]⟩
noncomputable def c509 : Obj := ⟨.type "tuple", none, .seq #[.int 38 900, .int 97 899] 0, #[]⟩
noncomputable def c510 : Obj := ⟨.type "tuple_iterator", none, .fields #[.none, .int 2 0], #[]⟩
noncomputable def c511 : Obj := ⟨.type "tuple", none, .seq #[] 0, #[]⟩
noncomputable def c512 : Obj := ⟨.type "StopIteration", none, .fields #[.ref 511, .none, .none, .none, .bool false, .none], #[]⟩
noncomputable def c513 : Obj := ⟨.type "tuple", none, .seq #[.int 97 899, .int 38 900] 0, #[]⟩
noncomputable def c514 : Obj := ⟨.type "tuple", none, .seq #[.int 39 905, .int 98 904] 0, #[]⟩
noncomputable def c515 : Obj := ⟨.type "tuple_iterator", none, .fields #[.none, .int 2 0], #[]⟩
noncomputable def c516 : Obj := ⟨.type "tuple", none, .seq #[] 0, #[]⟩
noncomputable def c517 : Obj := ⟨.type "StopIteration", none, .fields #[.ref 516, .none, .none, .none, .bool false, .none], #[]⟩
noncomputable def c518 : Obj := ⟨.type "tuple", none, .seq #[.int 98 904, .int 39 905] 0, #[]⟩
noncomputable def c519 : Obj := ⟨.type "tuple", none, .seq #[.int 40 910, .int 99 909] 0, #[]⟩
noncomputable def c520 : Obj := ⟨.type "tuple_iterator", none, .fields #[.none, .int 2 0], #[]⟩
noncomputable def c521 : Obj := ⟨.type "tuple", none, .seq #[] 0, #[]⟩
noncomputable def c522 : Obj := ⟨.type "StopIteration", none, .fields #[.ref 521, .none, .none, .none, .bool false, .none], #[]⟩
noncomputable def c523 : Obj := ⟨.type "tuple", none, .seq #[.int 99 909, .int 40 910] 0, #[]⟩
noncomputable def c524 : Obj := ⟨.type "tuple", none, .seq #[.int 41 915, .int 100 914] 0, #[]⟩
noncomputable def c525 : Obj := ⟨.type "tuple_iterator", none, .fields #[.none, .int 2 0], #[]⟩
noncomputable def c526 : Obj := ⟨.type "tuple", none, .seq #[] 0, #[]⟩
noncomputable def c527 : Obj := ⟨.type "StopIteration", none, .fields #[.ref 526, .none, .none, .none, .bool false, .none], #[]⟩
noncomputable def c528 : Obj := ⟨.type "tuple", none, .seq #[.int 100 914, .int 41 915] 0, #[]⟩
noncomputable def c529 : Obj := ⟨.type "tuple", none, .seq #[.int 42 920, .int 101 919] 0, #[]⟩
noncomputable def c530 : Obj := ⟨.type "tuple_iterator", none, .fields #[.none, .int 2 0], #[]⟩
noncomputable def c531 : Obj := ⟨.type "tuple", none, .seq #[] 0, #[]⟩
noncomputable def c532 : Obj := ⟨.type "StopIteration", none, .fields #[.ref 531, .none, .none, .none, .bool false, .none], #[]⟩
noncomputable def c533 : Obj := ⟨.type "tuple", none, .seq #[.int 101 919, .int 42 920] 0, #[]⟩
noncomputable def c534 : Obj := ⟨.type "tuple", none, .seq #[.int 43 925, .int 102 924] 0, #[]⟩
noncomputable def c535 : Obj := ⟨.type "tuple_iterator", none, .fields #[.none, .int 2 0], #[]⟩
noncomputable def c536 : Obj := ⟨.type "tuple", none, .seq #[] 0, #[]⟩
noncomputable def c537 : Obj := ⟨.type "StopIteration", none, .fields #[.ref 536, .none, .none, .none, .bool false, .none], #[]⟩
noncomputable def c538 : Obj := ⟨.type "tuple", none, .seq #[.int 102 924, .int 43 925] 0, #[]⟩
noncomputable def c539 : Obj := ⟨.type "tuple", none, .seq #[.int 44 930, .int 103 929] 0, #[]⟩
noncomputable def c540 : Obj := ⟨.type "tuple_iterator", none, .fields #[.none, .int 2 0], #[]⟩
noncomputable def c541 : Obj := ⟨.type "tuple", none, .seq #[] 0, #[]⟩
noncomputable def c542 : Obj := ⟨.type "StopIteration", none, .fields #[.ref 541, .none, .none, .none, .bool false, .none], #[]⟩
noncomputable def c543 : Obj := ⟨.type "tuple", none, .seq #[.int 103 929, .int 44 930] 0, #[]⟩
noncomputable def c544 : Obj := ⟨.type "tuple", none, .seq #[.int 45 935, .int 104 934] 0, #[]⟩
noncomputable def c545 : Obj := ⟨.type "tuple_iterator", none, .fields #[.none, .int 2 0], #[]⟩
noncomputable def c546 : Obj := ⟨.type "tuple", none, .seq #[] 0, #[]⟩
noncomputable def c547 : Obj := ⟨.type "StopIteration", none, .fields #[.ref 546, .none, .none, .none, .bool false, .none], #[]⟩
noncomputable def c548 : Obj := ⟨.type "tuple", none, .seq #[.int 104 934, .int 45 935] 0, #[]⟩
noncomputable def c549 : Obj := ⟨.type "tuple", none, .seq #[.int 46 940, .int 105 939] 0, #[]⟩
noncomputable def c550 : Obj := ⟨.type "tuple_iterator", none, .fields #[.none, .int 2 0], #[]⟩
noncomputable def c551 : Obj := ⟨.type "tuple", none, .seq #[] 0, #[]⟩
noncomputable def c552 : Obj := ⟨.type "StopIteration", none, .fields #[.ref 551, .none, .none, .none, .bool false, .none], #[]⟩
noncomputable def c553 : Obj := ⟨.type "tuple", none, .seq #[.int 105 939, .int 46 940] 0, #[]⟩
noncomputable def c554 : Obj := ⟨.type "tuple", none, .seq #[.int 47 945, .int 106 944] 0, #[]⟩
noncomputable def c555 : Obj := ⟨.type "tuple_iterator", none, .fields #[.none, .int 2 0], #[]⟩
noncomputable def c556 : Obj := ⟨.type "tuple", none, .seq #[] 0, #[]⟩
noncomputable def c557 : Obj := ⟨.type "StopIteration", none, .fields #[.ref 556, .none, .none, .none, .bool false, .none], #[]⟩
noncomputable def c558 : Obj := ⟨.type "tuple", none, .seq #[.int 106 944, .int 47 945] 0, #[]⟩
noncomputable def c559 : Obj := ⟨.type "tuple", none, .seq #[.int 48 950, .int 107 949] 0, #[]⟩
noncomputable def c560 : Obj := ⟨.type "tuple_iterator", none, .fields #[.none, .int 2 0], #[]⟩
noncomputable def c561 : Obj := ⟨.type "tuple", none, .seq #[] 0, #[]⟩
noncomputable def c562 : Obj := ⟨.type "StopIteration", none, .fields #[.ref 561, .none, .none, .none, .bool false, .none], #[]⟩
noncomputable def c563 : Obj := ⟨.type "tuple", none, .seq #[.int 107 949, .int 48 950] 0, #[]⟩
noncomputable def c564 : Obj := ⟨.type "tuple", none, .seq #[.int 49 955, .int 108 954] 0, #[]⟩
noncomputable def c565 : Obj := ⟨.type "tuple_iterator", none, .fields #[.none, .int 2 0], #[]⟩
noncomputable def c566 : Obj := ⟨.type "tuple", none, .seq #[] 0, #[]⟩
noncomputable def c567 : Obj := ⟨.type "StopIteration", none, .fields #[.ref 566, .none, .none, .none, .bool false, .none], #[]⟩
noncomputable def c568 : Obj := ⟨.type "tuple", none, .seq #[.int 108 954, .int 49 955] 0, #[]⟩
noncomputable def c569 : Obj := ⟨.type "tuple", none, .seq #[.int 50 960, .int 109 959] 0, #[]⟩
noncomputable def c570 : Obj := ⟨.type "tuple_iterator", none, .fields #[.none, .int 2 0], #[]⟩
noncomputable def c571 : Obj := ⟨.type "tuple", none, .seq #[] 0, #[]⟩
noncomputable def c572 : Obj := ⟨.type "StopIteration", none, .fields #[.ref 571, .none, .none, .none, .bool false, .none], #[]⟩
noncomputable def c573 : Obj := ⟨.type "tuple", none, .seq #[.int 109 959, .int 50 960] 0, #[]⟩
noncomputable def c574 : Obj := ⟨.type "tuple", none, .seq #[.int 51 965, .int 110 964] 0, #[]⟩
noncomputable def c575 : Obj := ⟨.type "tuple_iterator", none, .fields #[.none, .int 2 0], #[]⟩
noncomputable def c576 : Obj := ⟨.type "tuple", none, .seq #[] 0, #[]⟩
noncomputable def c577 : Obj := ⟨.type "StopIteration", none, .fields #[.ref 576, .none, .none, .none, .bool false, .none], #[]⟩
noncomputable def c578 : Obj := ⟨.type "tuple", none, .seq #[.int 110 964, .int 51 965] 0, #[]⟩
noncomputable def c579 : Obj := ⟨.type "tuple", none, .seq #[.int 52 970, .int 111 969] 0, #[]⟩
noncomputable def c580 : Obj := ⟨.type "tuple_iterator", none, .fields #[.none, .int 2 0], #[]⟩
noncomputable def c581 : Obj := ⟨.type "tuple", none, .seq #[] 0, #[]⟩
noncomputable def c582 : Obj := ⟨.type "StopIteration", none, .fields #[.ref 581, .none, .none, .none, .bool false, .none], #[]⟩
noncomputable def c583 : Obj := ⟨.type "tuple", none, .seq #[.int 111 969, .int 52 970] 0, #[]⟩
noncomputable def c584 : Obj := ⟨.type "tuple", none, .seq #[.int 53 975, .int 112 974] 0, #[]⟩
noncomputable def c585 : Obj := ⟨.type "tuple_iterator", none, .fields #[.none, .int 2 0], #[]⟩
noncomputable def c586 : Obj := ⟨.type "tuple", none, .seq #[] 0, #[]⟩
noncomputable def c587 : Obj := ⟨.type "StopIteration", none, .fields #[.ref 586, .none, .none, .none, .bool false, .none], #[]⟩
noncomputable def c588 : Obj := ⟨.type "tuple", none, .seq #[.int 112 974, .int 53 975] 0, #[]⟩
noncomputable def c589 : Obj := ⟨.type "tuple", none, .seq #[.int 54 980, .int 113 979] 0, #[]⟩
noncomputable def c590 : Obj := ⟨.type "tuple_iterator", none, .fields #[.none, .int 2 0], #[]⟩
noncomputable def c591 : Obj := ⟨.type "tuple", none, .seq #[] 0, #[]⟩
noncomputable def c592 : Obj := ⟨.type "StopIteration", none, .fields #[.ref 591, .none, .none, .none, .bool false, .none], #[]⟩
noncomputable def c593 : Obj := ⟨.type "tuple", none, .seq #[.int 113 979, .int 54 980] 0, #[]⟩
noncomputable def c594 : Obj := ⟨.type "tuple", none, .seq #[.int 55 985, .int 114 984] 0, #[]⟩
noncomputable def c595 : Obj := ⟨.type "tuple_iterator", none, .fields #[.none, .int 2 0], #[]⟩
noncomputable def c596 : Obj := ⟨.type "tuple", none, .seq #[] 0, #[]⟩
noncomputable def c597 : Obj := ⟨.type "StopIteration", none, .fields #[.ref 596, .none, .none, .none, .bool false, .none], #[]⟩
noncomputable def c598 : Obj := ⟨.type "tuple", none, .seq #[.int 114 984, .int 55 985] 0, #[]⟩
noncomputable def c599 : Obj := ⟨.type "tuple", none, .seq #[.int 56 990, .int 115 989] 0, #[]⟩
noncomputable def c600 : Obj := ⟨.type "tuple_iterator", none, .fields #[.none, .int 2 0], #[]⟩
noncomputable def c601 : Obj := ⟨.type "tuple", none, .seq #[] 0, #[]⟩
noncomputable def c602 : Obj := ⟨.type "StopIteration", none, .fields #[.ref 601, .none, .none, .none, .bool false, .none], #[]⟩
noncomputable def c603 : Obj := ⟨.type "tuple", none, .seq #[.int 115 989, .int 56 990] 0, #[]⟩
noncomputable def c604 : Obj := ⟨.type "tuple", none, .seq #[.int 57 995, .int 116 994] 0, #[]⟩
noncomputable def c605 : Obj := ⟨.type "tuple_iterator", none, .fields #[.none, .int 2 0], #[]⟩
noncomputable def c606 : Obj := ⟨.type "tuple", none, .seq #[] 0, #[]⟩
noncomputable def c607 : Obj := ⟨.type "StopIteration", none, .fields #[.ref 606, .none, .none, .none, .bool false, .none], #[]⟩
noncomputable def c608 : Obj := ⟨.type "tuple", none, .seq #[.int 116 994, .int 57 995] 0, #[]⟩
noncomputable def c609 : Obj := ⟨.type "tuple", none, .seq #[.int 58 1000, .int 117 999] 0, #[]⟩
noncomputable def c610 : Obj := ⟨.type "tuple_iterator", none, .fields #[.none, .int 2 0], #[]⟩
noncomputable def c611 : Obj := ⟨.type "tuple", none, .seq #[] 0, #[]⟩
noncomputable def c612 : Obj := ⟨.type "StopIteration", none, .fields #[.ref 611, .none, .none, .none, .bool false, .none], #[]⟩
noncomputable def c613 : Obj := ⟨.type "tuple", none, .seq #[.int 117 999, .int 58 1000] 0, #[]⟩
noncomputable def c614 : Obj := ⟨.type "tuple", none, .seq #[.int 59 1005, .int 118 1004] 0, #[]⟩
noncomputable def c615 : Obj := ⟨.type "tuple_iterator", none, .fields #[.none, .int 2 0], #[]⟩
noncomputable def c616 : Obj := ⟨.type "tuple", none, .seq #[] 0, #[]⟩
noncomputable def c617 : Obj := ⟨.type "StopIteration", none, .fields #[.ref 616, .none, .none, .none, .bool false, .none], #[]⟩
noncomputable def c618 : Obj := ⟨.type "tuple", none, .seq #[.int 118 1004, .int 59 1005] 0, #[]⟩
noncomputable def c619 : Obj := ⟨.type "tuple", none, .seq #[.int 60 1010, .int 119 1009] 0, #[]⟩
noncomputable def c620 : Obj := ⟨.type "tuple_iterator", none, .fields #[.none, .int 2 0], #[]⟩
noncomputable def c621 : Obj := ⟨.type "tuple", none, .seq #[] 0, #[]⟩
noncomputable def c622 : Obj := ⟨.type "StopIteration", none, .fields #[.ref 621, .none, .none, .none, .bool false, .none], #[]⟩
noncomputable def c623 : Obj := ⟨.type "tuple", none, .seq #[.int 119 1009, .int 60 1010] 0, #[]⟩
noncomputable def c624 : Obj := ⟨.type "tuple", none, .seq #[.int 61 1015, .int 120 1014] 0, #[]⟩
noncomputable def c625 : Obj := ⟨.type "tuple_iterator", none, .fields #[.none, .int 2 0], #[]⟩
noncomputable def c626 : Obj := ⟨.type "tuple", none, .seq #[] 0, #[]⟩
noncomputable def c627 : Obj := ⟨.type "StopIteration", none, .fields #[.ref 626, .none, .none, .none, .bool false, .none], #[]⟩
noncomputable def c628 : Obj := ⟨.type "tuple", none, .seq #[.int 120 1014, .int 61 1015] 0, #[]⟩
noncomputable def c629 : Obj := ⟨.type "tuple", none, .seq #[.int 62 1020, .int 121 1019] 0, #[]⟩
noncomputable def c630 : Obj := ⟨.type "tuple_iterator", none, .fields #[.none, .int 2 0], #[]⟩
noncomputable def c631 : Obj := ⟨.type "tuple", none, .seq #[] 0, #[]⟩
noncomputable def c632 : Obj := ⟨.type "StopIteration", none, .fields #[.ref 631, .none, .none, .none, .bool false, .none], #[]⟩
noncomputable def c633 : Obj := ⟨.type "tuple", none, .seq #[.int 121 1019, .int 62 1020] 0, #[]⟩
noncomputable def c634 : Obj := ⟨.type "tuple", none, .seq #[.int 63 1025, .int 122 1024] 0, #[]⟩
noncomputable def c635 : Obj := ⟨.type "tuple_iterator", none, .fields #[.none, .int 2 0], #[]⟩
noncomputable def c636 : Obj := ⟨.type "tuple", none, .seq #[] 0, #[]⟩
noncomputable def c637 : Obj := ⟨.type "StopIteration", none, .fields #[.ref 636, .none, .none, .none, .bool false, .none], #[]⟩
noncomputable def c638 : Obj := ⟨.type "tuple", none, .seq #[.int 122 1024, .int 63 1025] 0, #[]⟩
noncomputable def c639 : Obj := ⟨.type "tuple", none, .seq #[] 0, #[]⟩
noncomputable def c640 : Obj := ⟨.type "StopIteration", none, .fields #[.ref 639, .none, .none, .none, .bool false, .none], #[]⟩
noncomputable def c641 : Obj := ⟨.type "tuple", none, .seq #[] 0, #[]⟩
noncomputable def c642 : Obj := ⟨.type "StopIteration", none, .fields #[.ref 641, .none, .none, .none, .bool false, .none], #[]⟩
noncomputable def d3 (P : Params) : Obj := ⟨.type "dict", none, .dict (List.toArray (⟨PyData.keyHash P "__name__", .str "__name__" 165, .str "law_iw0011_01" 1187⟩ :: ⟨PyData.keyHash P "__doc__", .str "__doc__" 166, .none⟩ :: ⟨PyData.keyHash P "__package__", .str "__package__" 167, .none⟩ :: ⟨PyData.keyHash P "__loader__", .str "__loader__" 168, .builtin "__main__.__loader__#opaque"⟩ :: ⟨PyData.keyHash P "__spec__", .str "__spec__" 169, .none⟩ :: ⟨PyData.keyHash P "__annotations__", .str "__annotations__" 170, .ref 6⟩ :: ⟨PyData.keyHash P "__builtins__", .str "__builtins__" 171, .ref 4⟩ :: ⟨PyData.keyHash P "__file__", .str "__file__" 173, .str "/claim/cut.py" 172⟩ :: ⟨PyData.keyHash P "__cached__", .str "__cached__" 174, .none⟩ :: ⟨PyData.keyHash P "_wall", .str "_wall" 193, .ref 21⟩ :: ⟨PyData.keyHash P "PasswordValueError", .str "PasswordValueError" 213, .ref 31⟩ :: ⟨PyData.keyHash P "_get_name", .str "_get_name" 220, .ref 41⟩ :: ⟨PyData.keyHash P "ExpectedTypeError", .str "ExpectedTypeError" 229, .ref 48⟩ :: ⟨PyData.keyHash P "ExpectedStringError", .str "ExpectedStringError" 237, .ref 55⟩ :: ⟨PyData.keyHash P "NullPasswordError", .str "NullPasswordError" 245, .ref 63⟩ :: ⟨PyData.keyHash P "repeat_string", .str "repeat_string" 256, .ref 70⟩ :: ⟨PyData.keyHash P "HASH64_CHARS", .str "HASH64_CHARS" 260, .str "./0123456789ABCDEFGHIJKLMNOPQRSTUVWXYZabcdefghijklmnopqrstuvwxyz" 259⟩ :: ⟨PyData.keyHash P "Base64Engine", .str "Base64Engine" 555, .ref 297⟩ :: ⟨PyData.keyHash P "h64", .str "h64" 1034, .ref 303⟩ :: ⟨PyData.keyHash P "_BNULL", .str "_BNULL" 1038, .bytes #[0] 1037⟩ :: ⟨PyData.keyHash P "_c_digest_offsets", .str "_c_digest_offsets" 1081, .ref 664⟩ :: ⟨PyData.keyHash P "_256_transpose_map", .str "_256_transpose_map" 1114, .ref 665⟩ :: ⟨PyData.keyHash P "_512_transpose_map", .str "_512_transpose_map" 1179, .ref 666⟩ :: ⟨PyData.keyHash P "_raw_sha2_crypt", .str "_raw_sha2_crypt" 1186, .ref 672⟩ :: ⟨PyData.keyHash P "_law_letters", .str "_law_letters" 1190, .str "./0123456789ABCDEFGHIJKLMNOPQRSTUVWXYZabcdefghijklmnopqrstuvwxyz" 1189⟩ :: ⟨PyData.keyHash P "_law_odd", .str "_law_odd" 1196, .ref 679⟩ :: ⟨PyData.keyHash P "_law_hash", .str "_law_hash" 1206, .ref 686⟩ :: ⟨PyData.keyHash P "_law_row", .str "_law_row" 1212, .ref 691⟩ :: ⟨PyData.keyHash P "_law_signs", .str "_law_signs" 1227, .ref 698⟩ :: ⟨PyData.keyHash P "_law_due", .str "_law_due" 1233, .ref 703⟩ :: ⟨PyData.keyHash P "_law_stop", .str "_law_stop" 1240, .ref 710⟩ :: ⟨PyData.keyHash P "_law_other", .str "_law_other" 1247, .ref 717⟩ :: ⟨PyData.keyHash P "_law_wrong", .str "_law_wrong" 1258, .ref 724⟩ :: ⟨PyData.keyHash P "_law_answer", .str "_law_answer" 1268, .ref 731⟩ :: ⟨PyData.keyHash P "law", .str "law" 1274, .ref 736⟩ :: [])) 35, #[]⟩
noncomputable def d12 : Obj := ⟨.none, none, .fields (List.toArray (.int 1 0 :: .int 0 0 :: .ref 20 :: .int 5 0 :: .int 0 0 :: .ref 27 :: .int 7 0 :: .int 0 0 :: .ref 40 :: .int 9 0 :: .int 0 0 :: .ref 47 :: .int 11 0 :: .int 0 0 :: .ref 54 :: .int 13 0 :: .int 0 0 :: .ref 62 :: .int 17 0 :: .int 0 0 :: .ref 69 :: .int 22 0 :: .int 0 0 :: .ref 76 :: .int 193 0 :: .int 0 0 :: .ref 671 :: .int 254 0 :: .int 0 0 :: .ref 678 :: .int 256 0 :: .int 0 0 :: .ref 685 :: .int 259 0 :: .int 0 0 :: .ref 690 :: .int 261 0 :: .int 0 0 :: .ref 697 :: .int 279 0 :: .int 0 0 :: .ref 702 :: .int 296 0 :: .int 0 0 :: .ref 709 :: .int 298 0 :: .int 0 0 :: .ref 716 :: .int 306 0 :: .int 0 0 :: .ref 723 :: .int 331 0 :: .int 0 0 :: .ref 730 :: .int 341 0 :: .int 0 0 :: .ref 735 :: [])), #[]⟩
noncomputable def d643 : Obj := ⟨.type "tuple", none, .seq #[.int 0 1039, .int 3 1040] 0, #[]⟩
noncomputable def d644 : Obj := ⟨.type "tuple", none, .seq #[.int 5 1041, .int 1 1042] 0, #[]⟩
noncomputable def d645 : Obj := ⟨.type "tuple", none, .seq #[.int 5 1043, .int 3 1044] 0, #[]⟩
noncomputable def d646 : Obj := ⟨.type "tuple", none, .seq #[.int 1 1045, .int 2 1046] 0, #[]⟩
noncomputable def d647 : Obj := ⟨.type "tuple", none, .seq #[.int 5 1047, .int 1 1048] 0, #[]⟩
noncomputable def d648 : Obj := ⟨.type "tuple", none, .seq #[.int 5 1049, .int 3 1050] 0, #[]⟩
noncomputable def d649 : Obj := ⟨.type "tuple", none, .seq #[.int 1 1051, .int 3 1052] 0, #[]⟩
noncomputable def d650 : Obj := ⟨.type "tuple", none, .seq #[.int 4 1053, .int 1 1054] 0, #[]⟩
noncomputable def d651 : Obj := ⟨.type "tuple", none, .seq #[.int 5 1055, .int 3 1056] 0, #[]⟩
noncomputable def d652 : Obj := ⟨.type "tuple", none, .seq #[.int 1 1057, .int 3 1058] 0, #[]⟩
noncomputable def d653 : Obj := ⟨.type "tuple", none, .seq #[.int 5 1059, .int 0 1060] 0, #[]⟩
noncomputable def d654 : Obj := ⟨.type "tuple", none, .seq #[.int 5 1061, .int 3 1062] 0, #[]⟩
noncomputable def d655 : Obj := ⟨.type "tuple", none, .seq #[.int 1 1063, .int 3 1064] 0, #[]⟩
noncomputable def d656 : Obj := ⟨.type "tuple", none, .seq #[.int 5 1065, .int 1 1066] 0, #[]⟩
noncomputable def d657 : Obj := ⟨.type "tuple", none, .seq #[.int 4 1067, .int 3 1068] 0, #[]⟩
noncomputable def d658 : Obj := ⟨.type "tuple", none, .seq #[.int 1 1069, .int 3 1070] 0, #[]⟩
noncomputable def d659 : Obj := ⟨.type "tuple", none, .seq #[.int 5 1071, .int 1 1072] 0, #[]⟩
noncomputable def d660 : Obj := ⟨.type "tuple", none, .seq #[.int 5 1073, .int 2 1074] 0, #[]⟩
noncomputable def d661 : Obj := ⟨.type "tuple", none, .seq #[.int 1 1075, .int 3 1076] 0, #[]⟩
noncomputable def d662 : Obj := ⟨.type "tuple", none, .seq #[.int 5 1077, .int 1 1078] 0, #[]⟩
noncomputable def d663 : Obj := ⟨.type "tuple", none, .seq #[.int 5 1079, .int 3 1080] 0, #[]⟩
noncomputable def d664 : Obj := ⟨.type "tuple", none, .seq #[.ref 643, .ref 644, .ref 645, .ref 646, .ref 647, .ref 648, .ref 649, .ref 650, .ref 651, .ref 652, .ref 653, .ref 654, .ref 655, .ref 656, .ref 657, .ref 658, .ref 659, .ref 660, .ref 661, .ref 662, .ref 663] 0, #[]⟩
noncomputable def d665 : Obj := ⟨.type "tuple", none, .seq (List.toArray (.int 20 1082 :: .int 10 1083 :: .int 0 1084 :: .int 11 1085 :: .int 1 1086 :: .int 21 1087 :: .int 2 1088 :: .int 22 1089 :: .int 12 1090 :: .int 23 1091 :: .int 13 1092 :: .int 3 1093 :: .int 14 1094 :: .int 4 1095 :: .int 24 1096 :: .int 5 1097 :: .int 25 1098 :: .int 15 1099 :: .int 26 1100 :: .int 16 1101 :: .int 6 1102 :: .int 17 1103 :: .int 7 1104 :: .int 27 1105 :: .int 8 1106 :: .int 28 1107 :: .int 18 1108 :: .int 29 1109 :: .int 19 1110 :: .int 9 1111 :: .int 30 1112 :: .int 31 1113 :: [])) 0, #[]⟩
noncomputable def d666 : Obj := ⟨.type "tuple", none, .seq (List.toArray (.int 42 1115 :: .int 21 1116 :: .int 0 1117 :: .int 1 1118 :: .int 43 1119 :: .int 22 1120 :: .int 23 1121 :: .int 2 1122 :: .int 44 1123 :: .int 45 1124 :: .int 24 1125 :: .int 3 1126 :: .int 4 1127 :: .int 46 1128 :: .int 25 1129 :: .int 26 1130 :: .int 5 1131 :: .int 47 1132 :: .int 48 1133 :: .int 27 1134 :: .int 6 1135 :: .int 7 1136 :: .int 49 1137 :: .int 28 1138 :: .int 29 1139 :: .int 8 1140 :: .int 50 1141 :: .int 51 1142 :: .int 30 1143 :: .int 9 1144 :: .int 10 1145 :: .int 52 1146 :: .int 31 1147 :: .int 32 1148 :: .int 11 1149 :: .int 53 1150 :: .int 54 1151 :: .int 33 1152 :: .int 12 1153 :: .int 13 1154 :: .int 55 1155 :: .int 34 1156 :: .int 35 1157 :: .int 14 1158 :: .int 56 1159 :: .int 57 1160 :: .int 36 1161 :: .int 15 1162 :: .int 16 1163 :: .int 58 1164 :: .int 37 1165 :: .int 38 1166 :: .int 17 1167 :: .int 59 1168 :: .int 60 1169 :: .int 39 1170 :: .int 18 1171 :: .int 19 1172 :: .int 61 1173 :: .int 40 1174 :: .int 41 1175 :: .int 20 1176 :: .int 62 1177 :: .int 63 1178 :: [])) 0, #[]⟩
noncomputable def d667 : Obj := ⟨.type "tuple", none, .seq #[.bool false, .int 1000 1180] 0, #[]⟩
noncomputable def d668 : Obj := ⟨.type "tuple", none, .seq #[] 0, #[]⟩
noncomputable def d669 : Obj := ⟨.none, none, .fields #[], #[]⟩
noncomputable def d670 : Obj := ⟨.none, none, .func ⟨"_raw_sha2_crypt", "_raw_sha2_crypt", fPar [18], .stmts (fBod [18]), fSco [18], 0, [], .none, .none, .none, .none, none, .none, .none, 0⟩, #[]⟩
noncomputable def d671 : Obj := ⟨.type "code", none, .fields #[.str "_raw_sha2_crypt" 1181, .str "_raw_sha2_crypt" 1182, .str "/claim/cut.py" 1183, .int 193 0, .int 6 0, .int 0 0, .int 0 0, .int 3 0, .ref 668, .bool true, .int 181 0, .ref 669, .none, .none, .none, .ref 670, .int 1184 0, .int 193 0, .str "/claim/cut.py" 1185], #[]⟩
noncomputable def d672 : Obj := mkO (fun a b s => ⟨.type "function", none, .func ⟨"_raw_sha2_crypt", "_raw_sha2_crypt", a, .stmts b, s, 3, [], .ref 667, .none, .none, .str "passlib.handlers.sha2_crypt" 1035, none, .ref 671, .none, 0⟩, #[]⟩) [18] ⟨⟨_, _, .func ⟨_, _, ⟨_, _, _, _, _, _, _⟩, .stmts (_ :: _), ⟨_, _, _, _, _⟩, _, _, _, _, _, _, _, _, _, _⟩, _⟩, rfl⟩
noncomputable def d673 : Obj := ⟨.type "tuple", none, .seq #[] 0, #[]⟩
noncomputable def d674 : Obj := ⟨.none, none, .fields #[], #[]⟩
noncomputable def d675 : Obj := ⟨.type "tuple", none, .seq #[] 0, #[]⟩
noncomputable def d676 : Obj := ⟨.type "tuple", none, .seq #[] 0, #[]⟩
noncomputable def d677 : Obj := ⟨.none, none, .func ⟨"_law_odd", "_law_odd", fPar [21], .stmts (fBod [21]), fSco [21], 0, [], .none, .none, .none, .none, none, .none, .none, 0⟩, #[]⟩
noncomputable def d678 : Obj := ⟨.type "code", none, .fields #[.str "_law_odd" 1191, .str "_law_odd" 1192, .str "/claim/cut.py" 1193, .int 254 0, .int 0 0, .int 0 0, .int 0 0, .int 3 0, .ref 673, .bool true, .int 181 0, .ref 674, .none, .ref 675, .ref 676, .ref 677, .int 1194 0, .int 254 0, .str "/claim/cut.py" 1195], #[]⟩
noncomputable def d679 : Obj := mkO (fun a b s => ⟨.type "function", none, .func ⟨"_law_odd", "_law_odd", a, .stmts b, s, 3, [], .none, .none, .none, .str "law_iw0011_01" 1187, none, .ref 678, .none, 0⟩, #[]⟩) [21] ⟨⟨_, _, .func ⟨_, _, ⟨_, _, _, _, _, _, _⟩, .stmts (_ :: _), ⟨_, _, _, _, _⟩, _, _, _, _, _, _, _, _, _, _⟩, _⟩, rfl⟩
noncomputable def d680 : Obj := ⟨.type "tuple", none, .seq #[] 0, #[]⟩
noncomputable def d681 : Obj := ⟨.none, none, .fields #[], #[]⟩
noncomputable def d682 : Obj := ⟨.type "tuple", none, .seq #[.str "octets" 1200, .str "kind" 1201, .str "size" 1202, .str "number" 1203] 0, #[]⟩
noncomputable def d683 : Obj := ⟨.type "tuple", none, .seq #[] 0, #[]⟩
noncomputable def d684 : Obj := ⟨.none, none, .func ⟨"_law_hash", "_law_hash", fPar [22], .stmts (fBod [22]), fSco [22], 0, [], .none, .none, .none, .none, none, .none, .none, 0⟩, #[]⟩
noncomputable def d685 : Obj := ⟨.type "code", none, .fields #[.str "_law_hash" 1197, .str "_law_hash" 1198, .str "/claim/cut.py" 1199, .int 256 0, .int 3 0, .int 0 0, .int 0 0, .int 3 0, .ref 680, .bool true, .int 181 0, .ref 681, .none, .ref 682, .ref 683, .ref 684, .int 1204 0, .int 256 0, .str "/claim/cut.py" 1205], #[]⟩
noncomputable def d686 : Obj := mkO (fun a b s => ⟨.type "function", none, .func ⟨"_law_hash", "_law_hash", a, .stmts b, s, 3, [], .none, .none, .none, .str "law_iw0011_01" 1187, none, .ref 685, .none, 0⟩, #[]⟩) [22] ⟨⟨_, _, .func ⟨_, _, ⟨_, _, _, _, _, _, _⟩, .stmts (_ :: _), ⟨_, _, _, _, _⟩, _, _, _, _, _, _, _, _, _, _⟩, _⟩, rfl⟩
noncomputable def d687 : Obj := ⟨.type "tuple", none, .seq #[] 0, #[]⟩
noncomputable def d688 : Obj := ⟨.none, none, .fields #[], #[]⟩
noncomputable def d689 : Obj := ⟨.none, none, .func ⟨"_law_row", "_law_row", fPar [23], .stmts (fBod [23]), fSco [23], 0, [], .none, .none, .none, .none, none, .none, .none, 0⟩, #[]⟩
noncomputable def d690 : Obj := ⟨.type "code", none, .fields #[.str "_law_row" 1207, .str "_law_row" 1208, .str "/claim/cut.py" 1209, .int 259 0, .int 2 0, .int 0 0, .int 0 0, .int 3 0, .ref 687, .bool true, .int 181 0, .ref 688, .none, .none, .none, .ref 689, .int 1210 0, .int 259 0, .str "/claim/cut.py" 1211], #[]⟩
noncomputable def d691 : Obj := mkO (fun a b s => ⟨.type "function", none, .func ⟨"_law_row", "_law_row", a, .stmts b, s, 3, [], .none, .none, .none, .str "law_iw0011_01" 1187, none, .ref 690, .none, 0⟩, #[]⟩) [23] ⟨⟨_, _, .func ⟨_, _, ⟨_, _, _, _, _, _, _⟩, .stmts (_ :: _), ⟨_, _, _, _, _⟩, _, _, _, _, _, _, _, _, _, _⟩, _⟩, rfl⟩
noncomputable def d692 : Obj := ⟨.type "tuple", none, .seq #[] 0, #[]⟩
noncomputable def d693 : Obj := ⟨.none, none, .fields #[], #[]⟩
noncomputable def d694 : Obj := ⟨.type "tuple", none, .seq #[.str "octets" 1216, .str "found" 1217, .str "count" 1218, .str "high" 1219, .str "middle" 1220, .str "low" 1221, .str "k" 1222, .str "number" 1223, .str "j" 1224] 0, #[]⟩
noncomputable def d695 : Obj := ⟨.type "tuple", none, .seq #[] 0, #[]⟩
noncomputable def d696 : Obj := ⟨.none, none, .func ⟨"_law_signs", "_law_signs", fPar [24], .stmts (fBod [24]), fSco [24], 0, [], .none, .none, .none, .none, none, .none, .none, 0⟩, #[]⟩
noncomputable def d697 : Obj := ⟨.type "code", none, .fields #[.str "_law_signs" 1213, .str "_law_signs" 1214, .str "/claim/cut.py" 1215, .int 261 0, .int 1 0, .int 0 0, .int 0 0, .int 3 0, .ref 692, .bool true, .int 181 0, .ref 693, .none, .ref 694, .ref 695, .ref 696, .int 1225 0, .int 261 0, .str "/claim/cut.py" 1226], #[]⟩
noncomputable def d698 : Obj := mkO (fun a b s => ⟨.type "function", none, .func ⟨"_law_signs", "_law_signs", a, .stmts b, s, 3, [], .none, .none, .none, .str "law_iw0011_01" 1187, none, .ref 697, .none, 0⟩, #[]⟩) [24] ⟨⟨_, _, .func ⟨_, _, ⟨_, _, _, _, _, _, _⟩, .stmts (_ :: _), ⟨_, _, _, _, _⟩, _, _, _, _, _, _, _, _, _, _⟩, _⟩, rfl⟩
noncomputable def d699 : Obj := ⟨.type "tuple", none, .seq #[] 0, #[]⟩
noncomputable def d700 : Obj := ⟨.none, none, .fields #[], #[]⟩
noncomputable def d701 : Obj := ⟨.none, none, .func ⟨"_law_due", "_law_due", fPar [25], .stmts (fBod [25]), fSco [25], 0, [], .none, .none, .none, .none, none, .none, .none, 0⟩, #[]⟩
noncomputable def d702 : Obj := ⟨.type "code", none, .fields #[.str "_law_due" 1228, .str "_law_due" 1229, .str "/claim/cut.py" 1230, .int 279 0, .int 5 0, .int 0 0, .int 0 0, .int 3 0, .ref 699, .bool true, .int 181 0, .ref 700, .none, .none, .none, .ref 701, .int 1231 0, .int 279 0, .str "/claim/cut.py" 1232], #[]⟩
noncomputable def d703 : Obj := mkO (fun a b s => ⟨.type "function", none, .func ⟨"_law_due", "_law_due", a, .stmts b, s, 3, [], .none, .none, .none, .str "law_iw0011_01" 1187, none, .ref 702, .none, 0⟩, #[]⟩) [25] ⟨⟨_, _, .func ⟨_, _, ⟨_, _, _, _, _, _, _⟩, .stmts (_ :: _), ⟨_, _, _, _, _⟩, _, _, _, _, _, _, _, _, _, _⟩, _⟩, rfl⟩
noncomputable def d704 : Obj := ⟨.type "tuple", none, .seq #[] 0, #[]⟩
noncomputable def d705 : Obj := ⟨.none, none, .fields #[], #[]⟩
noncomputable def d706 : Obj := ⟨.type "tuple", none, .seq #[.str "octets" 1237] 0, #[]⟩
noncomputable def d707 : Obj := ⟨.type "tuple", none, .seq #[] 0, #[]⟩
noncomputable def d708 : Obj := ⟨.none, none, .func ⟨"_law_stop", "_law_stop", fPar [26], .stmts (fBod [26]), fSco [26], 0, [], .none, .none, .none, .none, none, .none, .none, 0⟩, #[]⟩
noncomputable def d709 : Obj := ⟨.type "code", none, .fields #[.str "_law_stop" 1234, .str "_law_stop" 1235, .str "/claim/cut.py" 1236, .int 296 0, .int 1 0, .int 0 0, .int 0 0, .int 3 0, .ref 704, .bool true, .int 181 0, .ref 705, .none, .ref 706, .ref 707, .ref 708, .int 1238 0, .int 296 0, .str "/claim/cut.py" 1239], #[]⟩
noncomputable def d710 : Obj := mkO (fun a b s => ⟨.type "function", none, .func ⟨"_law_stop", "_law_stop", a, .stmts b, s, 3, [], .none, .none, .none, .str "law_iw0011_01" 1187, none, .ref 709, .none, 0⟩, #[]⟩) [26] ⟨⟨_, _, .func ⟨_, _, ⟨_, _, _, _, _, _, _⟩, .stmts (_ :: _), ⟨_, _, _, _, _⟩, _, _, _, _, _, _, _, _, _, _⟩, _⟩, rfl⟩
noncomputable def d711 : Obj := ⟨.type "tuple", none, .seq #[] 0, #[]⟩
noncomputable def d712 : Obj := ⟨.none, none, .fields #[], #[]⟩
noncomputable def d713 : Obj := ⟨.type "tuple", none, .seq #[.str "far" 1244] 0, #[]⟩
noncomputable def d714 : Obj := ⟨.type "tuple", none, .seq #[] 0, #[]⟩
noncomputable def d715 : Obj := ⟨.none, none, .func ⟨"_law_other", "_law_other", fPar [27], .stmts (fBod [27]), fSco [27], 0, [], .none, .none, .none, .none, none, .none, .none, 0⟩, #[]⟩
noncomputable def d716 : Obj := ⟨.type "code", none, .fields #[.str "_law_other" 1241, .str "_law_other" 1242, .str "/claim/cut.py" 1243, .int 298 0, .int 1 0, .int 0 0, .int 0 0, .int 3 0, .ref 711, .bool true, .int 181 0, .ref 712, .none, .ref 713, .ref 714, .ref 715, .int 1245 0, .int 298 0, .str "/claim/cut.py" 1246], #[]⟩
noncomputable def d717 : Obj := mkO (fun a b s => ⟨.type "function", none, .func ⟨"_law_other", "_law_other", a, .stmts b, s, 3, [], .none, .none, .none, .str "law_iw0011_01" 1187, none, .ref 716, .none, 0⟩, #[]⟩) [27] ⟨⟨_, _, .func ⟨_, _, ⟨_, _, _, _, _, _, _⟩, .stmts (_ :: _), ⟨_, _, _, _, _⟩, _, _, _, _, _, _, _, _, _, _⟩, _⟩, rfl⟩
noncomputable def d718 : Obj := ⟨.type "tuple", none, .seq #[] 0, #[]⟩
noncomputable def d719 : Obj := ⟨.none, none, .fields #[], #[]⟩
noncomputable def d720 : Obj := ⟨.type "tuple", none, .seq #[.str "kind" 1251, .str "secret" 1252, .str "salt" 1253, .str "far" 1254, .str "place" 1255] 0, #[]⟩
noncomputable def d721 : Obj := ⟨.type "tuple", none, .seq #[] 0, #[]⟩
noncomputable def d722 : Obj := ⟨.none, none, .func ⟨"_law_wrong", "_law_wrong", fPar [28], .stmts (fBod [28]), fSco [28], 0, [], .none, .none, .none, .none, none, .none, .none, 0⟩, #[]⟩
noncomputable def d723 : Obj := ⟨.type "code", none, .fields #[.str "_law_wrong" 1248, .str "_law_wrong" 1249, .str "/claim/cut.py" 1250, .int 306 0, .int 4 0, .int 0 0, .int 0 0, .int 3 0, .ref 718, .bool true, .int 181 0, .ref 719, .none, .ref 720, .ref 721, .ref 722, .int 1256 0, .int 306 0, .str "/claim/cut.py" 1257], #[]⟩
noncomputable def d724 : Obj := mkO (fun a b s => ⟨.type "function", none, .func ⟨"_law_wrong", "_law_wrong", a, .stmts b, s, 3, [], .none, .none, .none, .str "law_iw0011_01" 1187, none, .ref 723, .none, 0⟩, #[]⟩) [28] ⟨⟨_, _, .func ⟨_, _, ⟨_, _, _, _, _, _, _⟩, .stmts (_ :: _), ⟨_, _, _, _, _⟩, _, _, _, _, _, _, _, _, _, _⟩, _⟩, rfl⟩
noncomputable def d725 : Obj := ⟨.type "tuple", none, .seq #[] 0, #[]⟩
noncomputable def d726 : Obj := ⟨.none, none, .fields #[], #[]⟩
noncomputable def d727 : Obj := ⟨.type "tuple", none, .seq #[.str "kind" 1262, .str "secret" 1263, .str "salt" 1264, .str "far" 1265] 0, #[]⟩
noncomputable def d728 : Obj := ⟨.type "tuple", none, .seq #[] 0, #[]⟩
noncomputable def d729 : Obj := ⟨.none, none, .func ⟨"_law_answer", "_law_answer", fPar [29], .stmts (fBod [29]), fSco [29], 0, [], .none, .none, .none, .none, none, .none, .none, 0⟩, #[]⟩
noncomputable def d730 : Obj := ⟨.type "code", none, .fields #[.str "_law_answer" 1259, .str "_law_answer" 1260, .str "/claim/cut.py" 1261, .int 331 0, .int 4 0, .int 0 0, .int 0 0, .int 3 0, .ref 725, .bool true, .int 181 0, .ref 726, .none, .ref 727, .ref 728, .ref 729, .int 1266 0, .int 331 0, .str "/claim/cut.py" 1267], #[]⟩
noncomputable def d731 : Obj := mkO (fun a b s => ⟨.type "function", none, .func ⟨"_law_answer", "_law_answer", a, .stmts b, s, 3, [], .none, .none, .none, .str "law_iw0011_01" 1187, none, .ref 730, .none, 0⟩, #[]⟩) [29] ⟨⟨_, _, .func ⟨_, _, ⟨_, _, _, _, _, _, _⟩, .stmts (_ :: _), ⟨_, _, _, _, _⟩, _, _, _, _, _, _, _, _, _, _⟩, _⟩, rfl⟩
noncomputable def d732 : Obj := ⟨.type "tuple", none, .seq #[] 0, #[]⟩
noncomputable def d733 : Obj := ⟨.none, none, .fields #[], #[]⟩
noncomputable def d734 : Obj := ⟨.none, none, .func ⟨"law", "law", fPar [30], .stmts (fBod [30]), fSco [30], 0, [], .none, .none, .none, .none, none, .none, .none, 0⟩, #[]⟩
noncomputable def d735 : Obj := ⟨.type "code", none, .fields #[.str "law" 1269, .str "law" 1270, .str "/claim/cut.py" 1271, .int 341 0, .int 1 0, .int 0 0, .int 0 0, .int 3 0, .ref 732, .bool true, .int 181 0, .ref 733, .none, .none, .none, .ref 734, .int 1272 0, .int 341 0, .str "/claim/cut.py" 1273], #[]⟩
noncomputable def d736 : Obj := mkO (fun a b s => ⟨.type "function", none, .func ⟨"law", "law", a, .stmts b, s, 3, [], .none, .none, .none, .str "law_iw0011_01" 1187, none, .ref 735, .none, 0⟩, #[]⟩) [30] ⟨⟨_, _, .func ⟨_, _, ⟨_, _, _, _, _, _, _⟩, .stmts (_ :: _), ⟨_, _, _, _, _⟩, _, _, _, _, _, _, _, _, _, _⟩, _⟩, rfl⟩
/-- the written part of the heap -/
noncomputable def KF (P : Params) : Frag := (nat_lit 2, (boot_o_2 P)) :: (nat_lit 3, (d3 P)) :: (nat_lit 15, b15) :: (nat_lit 17, b17) :: (nat_lit 18, b18) :: (nat_lit 20, b20) :: (nat_lit 21, b21) :: (nat_lit 22, b22) :: (nat_lit 29, b29) :: (nat_lit 30, (b30 P)) :: (nat_lit 31, b31) :: (nat_lit 32, b32) :: (nat_lit 35, b35) :: (nat_lit 37, b37) :: (nat_lit 38, b38) :: (nat_lit 40, b40) :: (nat_lit 41, b41) :: (nat_lit 42, b42) :: (nat_lit 44, b44) :: (nat_lit 45, b45) :: (nat_lit 47, b47) :: (nat_lit 48, b48) :: (nat_lit 49, b49) :: (nat_lit 51, b51) :: (nat_lit 52, b52) :: (nat_lit 54, b54) :: (nat_lit 55, b55) :: (nat_lit 56, b56) :: (nat_lit 57, b57) :: (nat_lit 59, b59) :: (nat_lit 60, b60) :: (nat_lit 62, b62) :: (nat_lit 63, b63) :: (nat_lit 64, b64) :: (nat_lit 66, b66) :: (nat_lit 67, b67) :: (nat_lit 69, b69) :: (nat_lit 70, b70) :: (nat_lit 71, b71) :: (nat_lit 78, b78) :: (nat_lit 79, b79) :: (nat_lit 81, b81) :: (nat_lit 82, b82) :: (nat_lit 84, b84) :: (nat_lit 85, b85) :: (nat_lit 86, b86) :: (nat_lit 88, b88) :: (nat_lit 89, b89) :: (nat_lit 91, b91) :: (nat_lit 92, b92) :: (nat_lit 93, b93) :: (nat_lit 95, b95) :: (nat_lit 96, b96) :: (nat_lit 98, b98) :: (nat_lit 99, b99) :: (nat_lit 100, b100) :: (nat_lit 102, b102) :: (nat_lit 103, b103) :: (nat_lit 105, b105) :: (nat_lit 106, b106) :: (nat_lit 107, b107) :: (nat_lit 109, b109) :: (nat_lit 110, b110) :: (nat_lit 112, b112) :: (nat_lit 113, b113) :: (nat_lit 114, b114) :: (nat_lit 116, b116) :: (nat_lit 117, b117) :: (nat_lit 119, b119) :: (nat_lit 120, b120) :: (nat_lit 121, b121) :: (nat_lit 122, b122) :: (nat_lit 125, b125) :: (nat_lit 126, b126) :: (nat_lit 127, b127) :: (nat_lit 129, b129) :: (nat_lit 130, b130) :: (nat_lit 132, b132) :: (nat_lit 133, b133) :: (nat_lit 134, b134) :: (nat_lit 136, b136) :: (nat_lit 137, b137) :: (nat_lit 139, b139) :: (nat_lit 140, b140) :: (nat_lit 141, b141) :: (nat_lit 143, b143) :: (nat_lit 144, b144) :: (nat_lit 146, b146) :: (nat_lit 147, b147) :: (nat_lit 148, b148) :: (nat_lit 150, b150) :: (nat_lit 151, b151) :: (nat_lit 153, b153) :: (nat_lit 154, b154) :: (nat_lit 155, b155) :: (nat_lit 157, b157) :: (nat_lit 158, b158) :: (nat_lit 160, b160) :: (nat_lit 161, b161) :: (nat_lit 162, b162) :: (nat_lit 164, b164) :: (nat_lit 165, b165) :: (nat_lit 167, b167) :: (nat_lit 168, b168) :: (nat_lit 169, b169) :: (nat_lit 171, b171) :: (nat_lit 172, b172) :: (nat_lit 174, b174) :: (nat_lit 175, b175) :: (nat_lit 176, b176) :: (nat_lit 177, b177) :: (nat_lit 179, b179) :: (nat_lit 180, b180) :: (nat_lit 182, b182) :: (nat_lit 183, b183) :: (nat_lit 184, b184) :: (nat_lit 185, b185) :: (nat_lit 187, b187) :: (nat_lit 188, b188) :: (nat_lit 190, b190) :: (nat_lit 191, b191) :: (nat_lit 192, b192) :: (nat_lit 194, b194) :: (nat_lit 195, b195) :: (nat_lit 197, b197) :: (nat_lit 198, b198) :: (nat_lit 199, b199) :: (nat_lit 202, b202) :: (nat_lit 203, b203) :: (nat_lit 204, b204) :: (nat_lit 206, b206) :: (nat_lit 207, b207) :: (nat_lit 209, b209) :: (nat_lit 210, b210) :: (nat_lit 211, b211) :: (nat_lit 213, b213) :: (nat_lit 214, b214) :: (nat_lit 216, b216) :: (nat_lit 217, b217) :: (nat_lit 218, b218) :: (nat_lit 220, b220) :: (nat_lit 221, b221) :: (nat_lit 223, b223) :: (nat_lit 224, b224) :: (nat_lit 225, b225) :: (nat_lit 227, b227) :: (nat_lit 228, b228) :: (nat_lit 230, b230) :: (nat_lit 231, b231) :: (nat_lit 232, b232) :: (nat_lit 234, b234) :: (nat_lit 235, b235) :: (nat_lit 237, b237) :: (nat_lit 238, b238) :: (nat_lit 239, b239) :: (nat_lit 241, b241) :: (nat_lit 242, b242) :: (nat_lit 244, b244) :: (nat_lit 245, b245) :: (nat_lit 246, b246) :: (nat_lit 248, b248) :: (nat_lit 249, b249) :: (nat_lit 251, b251) :: (nat_lit 252, b252) :: (nat_lit 253, b253) :: (nat_lit 255, b255) :: (nat_lit 256, b256) :: (nat_lit 258, b258) :: (nat_lit 259, b259) :: (nat_lit 260, b260) :: (nat_lit 262, b262) :: (nat_lit 263, b263) :: (nat_lit 265, b265) :: (nat_lit 266, b266) :: (nat_lit 267, b267) :: (nat_lit 269, b269) :: (nat_lit 270, b270) :: (nat_lit 272, b272) :: (nat_lit 273, b273) :: (nat_lit 274, b274) :: (nat_lit 276, b276) :: (nat_lit 277, b277) :: (nat_lit 279, b279) :: (nat_lit 280, b280) :: (nat_lit 281, b281) :: (nat_lit 283, b283) :: (nat_lit 284, b284) :: (nat_lit 286, b286) :: (nat_lit 287, b287) :: (nat_lit 288, b288) :: (nat_lit 290, b290) :: (nat_lit 291, b291) :: (nat_lit 293, b293) :: (nat_lit 294, b294) :: (nat_lit 295, b295) :: (nat_lit 296, (b296 P)) :: (nat_lit 297, b297) :: (nat_lit 298, b298) :: (nat_lit 299, b299) :: (nat_lit 302, (c302 P)) :: (nat_lit 303, c303) :: (nat_lit 311, c311) :: (nat_lit 313, c313) :: (nat_lit 316, c316) :: (nat_lit 643, d643) :: (nat_lit 644, d644) :: (nat_lit 645, d645) :: (nat_lit 646, d646) :: (nat_lit 647, d647) :: (nat_lit 648, d648) :: (nat_lit 649, d649) :: (nat_lit 650, d650) :: (nat_lit 651, d651) :: (nat_lit 652, d652) :: (nat_lit 653, d653) :: (nat_lit 654, d654) :: (nat_lit 655, d655) :: (nat_lit 656, d656) :: (nat_lit 657, d657) :: (nat_lit 658, d658) :: (nat_lit 659, d659) :: (nat_lit 660, d660) :: (nat_lit 661, d661) :: (nat_lit 662, d662) :: (nat_lit 663, d663) :: (nat_lit 664, d664) :: (nat_lit 665, d665) :: (nat_lit 666, d666) :: (nat_lit 667, d667) :: (nat_lit 668, d668) :: (nat_lit 671, d671) :: (nat_lit 672, d672) :: (nat_lit 673, d673) :: (nat_lit 675, d675) :: (nat_lit 676, d676) :: (nat_lit 678, d678) :: (nat_lit 679, d679) :: (nat_lit 680, d680) :: (nat_lit 682, d682) :: (nat_lit 683, d683) :: (nat_lit 685, d685) :: (nat_lit 686, d686) :: (nat_lit 687, d687) :: (nat_lit 690, d690) :: (nat_lit 691, d691) :: (nat_lit 692, d692) :: (nat_lit 694, d694) :: (nat_lit 695, d695) :: (nat_lit 697, d697) :: (nat_lit 698, d698) :: (nat_lit 699, d699) :: (nat_lit 702, d702) :: (nat_lit 703, d703) :: (nat_lit 704, d704) :: (nat_lit 706, d706) :: (nat_lit 707, d707) :: (nat_lit 709, d709) :: (nat_lit 710, d710) :: (nat_lit 711, d711) :: (nat_lit 713, d713) :: (nat_lit 714, d714) :: (nat_lit 716, d716) :: (nat_lit 717, d717) :: (nat_lit 718, d718) :: (nat_lit 720, d720) :: (nat_lit 721, d721) :: (nat_lit 723, d723) :: (nat_lit 724, d724) :: (nat_lit 725, d725) :: (nat_lit 727, d727) :: (nat_lit 728, d728) :: (nat_lit 730, d730) :: (nat_lit 731, d731) :: (nat_lit 732, d732) :: (nat_lit 735, d735) :: (nat_lit 736, d736) :: []
noncomputable def treea (P : Params) : BT := node (boot_o_0 P) (node (boot_o_1 P) (node (boot_o_3 P) (node (boot_o_7 P) nil nil) (node a11 nil nil)) (node (boot_o_5 P) (node (boot_o_9 P) nil nil) (node a13 nil nil))) (node (boot_o_2 P) (node (boot_o_4 P) (node (boot_o_8 P) nil nil) (node a12 nil nil)) (node (boot_o_6 P) (node (boot_o_10 P) nil nil) (node a14 nil nil)))
noncomputable def treeb (P : Params) : BT := node (boot_o_0 P) (node (boot_o_1 P) (node (b3 P) (node (boot_o_7 P) (node b15 (node b31 (node b63 (node b127 (node b255 nil nil) nil) (node b191 nil nil)) (node b95 (node b159 (node b287 nil nil) nil) (node b223 nil nil))) (node b47 (node b79 (node b143 (node b271 nil nil) nil) (node b207 nil nil)) (node b111 (node b175 nil nil) (node b239 nil nil)))) (node b23 (node b39 (node b71 (node b135 (node b263 nil nil) nil) (node b199 nil nil)) (node b103 (node b167 (node b295 nil nil) nil) (node b231 nil nil))) (node b55 (node b87 (node b151 (node b279 nil nil) nil) (node b215 nil nil)) (node b119 (node b183 nil nil) (node b247 nil nil))))) (node a11 (node b19 (node b35 (node b67 (node b131 (node b259 nil nil) nil) (node b195 nil nil)) (node b99 (node b163 (node b291 nil nil) nil) (node b227 nil nil))) (node b51 (node b83 (node b147 (node b275 nil nil) nil) (node b211 nil nil)) (node b115 (node b179 nil nil) (node b243 nil nil)))) (node b27 (node b43 (node b75 (node b139 (node b267 nil nil) nil) (node b203 nil nil)) (node b107 (node b171 (node b299 nil nil) nil) (node b235 nil nil))) (node b59 (node b91 (node b155 (node b283 nil nil) nil) (node b219 nil nil)) (node b123 (node b187 nil nil) (node b251 nil nil)))))) (node (boot_o_5 P) (node (boot_o_9 P) (node b17 (node b33 (node b65 (node b129 (node b257 nil nil) nil) (node b193 nil nil)) (node b97 (node b161 (node b289 nil nil) nil) (node b225 nil nil))) (node b49 (node b81 (node b145 (node b273 nil nil) nil) (node b209 nil nil)) (node b113 (node b177 nil nil) (node b241 nil nil)))) (node b25 (node b41 (node (b73 P) (node b137 (node b265 nil nil) nil) (node b201 nil nil)) (node b105 (node b169 (node b297 nil nil) nil) (node b233 nil nil))) (node b57 (node b89 (node b153 (node b281 nil nil) nil) (node b217 nil nil)) (node b121 (node b185 nil nil) (node b249 nil nil))))) (node a13 (node b21 (node b37 (node b69 (node b133 (node b261 nil nil) nil) (node b197 nil nil)) (node b101 (node b165 (node b293 nil nil) nil) (node b229 nil nil))) (node b53 (node b85 (node b149 (node b277 nil nil) nil) (node b213 nil nil)) (node b117 (node b181 nil nil) (node b245 nil nil)))) (node b29 (node b45 (node b77 (node b141 (node b269 nil nil) nil) (node b205 nil nil)) (node b109 (node b173 (node b301 nil nil) nil) (node b237 nil nil))) (node b61 (node b93 (node b157 (node b285 nil nil) nil) (node b221 nil nil)) (node b125 (node b189 nil nil) (node b253 nil nil))))))) (node (boot_o_2 P) (node (boot_o_4 P) (node (boot_o_8 P) (node b16 (node b32 (node b64 (node b128 (node b256 nil nil) nil) (node b192 nil nil)) (node b96 (node b160 (node b288 nil nil) nil) (node b224 nil nil))) (node b48 (node b80 (node b144 (node b272 nil nil) nil) (node b208 nil nil)) (node b112 (node b176 nil nil) (node b240 nil nil)))) (node (b24 P) (node b40 (node b72 (node b136 (node b264 nil nil) nil) (node b200 nil nil)) (node b104 (node b168 (node (b296 P) nil nil) nil) (node b232 nil nil))) (node b56 (node b88 (node b152 (node b280 nil nil) nil) (node b216 nil nil)) (node b120 (node b184 nil nil) (node b248 nil nil))))) (node b12 (node b20 (node b36 (node b68 (node b132 (node b260 nil nil) nil) (node b196 nil nil)) (node b100 (node b164 (node b292 nil nil) nil) (node b228 nil nil))) (node b52 (node b84 (node b148 (node b276 nil nil) nil) (node b212 nil nil)) (node b116 (node b180 nil nil) (node b244 nil nil)))) (node b28 (node b44 (node b76 (node b140 (node b268 nil nil) nil) (node b204 nil nil)) (node b108 (node b172 (node b300 nil nil) nil) (node b236 nil nil))) (node b60 (node b92 (node b156 (node b284 nil nil) nil) (node b220 nil nil)) (node b124 (node b188 nil nil) (node b252 nil nil)))))) (node (boot_o_6 P) (node (boot_o_10 P) (node b18 (node b34 (node b66 (node b130 (node b258 nil nil) nil) (node b194 nil nil)) (node b98 (node b162 (node b290 nil nil) nil) (node b226 nil nil))) (node b50 (node b82 (node b146 (node b274 nil nil) nil) (node b210 nil nil)) (node b114 (node b178 nil nil) (node b242 nil nil)))) (node b26 (node b42 (node b74 (node b138 (node b266 nil nil) nil) (node b202 nil nil)) (node b106 (node b170 (node b298 nil nil) nil) (node b234 nil nil))) (node b58 (node b90 (node b154 (node b282 nil nil) nil) (node b218 nil nil)) (node b122 (node b186 nil nil) (node b250 nil nil))))) (node a14 (node b22 (node b38 (node b70 (node b134 (node b262 nil nil) nil) (node b198 nil nil)) (node b102 (node b166 (node b294 nil nil) nil) (node b230 nil nil))) (node b54 (node b86 (node b150 (node b278 nil nil) nil) (node b214 nil nil)) (node b118 (node b182 nil nil) (node b246 nil nil)))) (node (b30 P) (node b46 (node b78 (node b142 (node b270 nil nil) nil) (node b206 nil nil)) (node b110 (node b174 nil nil) (node b238 nil nil))) (node b62 (node b94 (node b158 (node b286 nil nil) nil) (node b222 nil nil)) (node b126 (node b190 nil nil) (node b254 nil nil)))))))
noncomputable def treec (P : Params) : BT := node (boot_o_0 P) (node (boot_o_1 P) (node (c3 P) (node (boot_o_7 P) (node b15 (node b31 (node b63 (node b127 (node b255 (node c511 nil nil) nil) (node c383 (node c639 nil nil) nil)) (node b191 (node c319 (node c575 nil nil) nil) (node c447 nil nil))) (node b95 (node b159 (node b287 (node c543 nil nil) nil) (node c415 nil nil)) (node b223 (node c351 (node c607 nil nil) nil) (node c479 nil nil)))) (node b47 (node b79 (node b143 (node b271 (node c527 nil nil) nil) (node c399 nil nil)) (node b207 (node c335 (node c591 nil nil) nil) (node c463 nil nil))) (node b111 (node b175 (node c303 (node c559 nil nil) nil) (node c431 nil nil)) (node b239 (node c367 (node c623 nil nil) nil) (node c495 nil nil))))) (node b23 (node b39 (node b71 (node b135 (node b263 (node c519 nil nil) nil) (node c391 nil nil)) (node b199 (node c327 (node c583 nil nil) nil) (node c455 nil nil))) (node b103 (node b167 (node b295 (node c551 nil nil) nil) (node c423 nil nil)) (node b231 (node c359 (node c615 nil nil) nil) (node c487 nil nil)))) (node b55 (node b87 (node b151 (node b279 (node c535 nil nil) nil) (node c407 nil nil)) (node b215 (node c343 (node c599 nil nil) nil) (node c471 nil nil))) (node b119 (node b183 (node c311 (node c567 nil nil) nil) (node c439 nil nil)) (node b247 (node c375 (node c631 nil nil) nil) (node c503 nil nil)))))) (node a11 (node b19 (node b35 (node b67 (node b131 (node b259 (node c515 nil nil) nil) (node c387 nil nil)) (node b195 (node c323 (node c579 nil nil) nil) (node c451 nil nil))) (node b99 (node b163 (node b291 (node c547 nil nil) nil) (node c419 nil nil)) (node b227 (node c355 (node c611 nil nil) nil) (node c483 nil nil)))) (node b51 (node b83 (node b147 (node b275 (node c531 nil nil) nil) (node c403 nil nil)) (node b211 (node c339 (node c595 nil nil) nil) (node c467 nil nil))) (node b115 (node b179 (node c307 (node c563 nil nil) nil) (node c435 nil nil)) (node b243 (node c371 (node c627 nil nil) nil) (node c499 nil nil))))) (node b27 (node b43 (node b75 (node b139 (node b267 (node c523 nil nil) nil) (node c395 nil nil)) (node b203 (node c331 (node c587 nil nil) nil) (node c459 nil nil))) (node b107 (node b171 (node b299 (node c555 nil nil) nil) (node c427 nil nil)) (node b235 (node c363 (node c619 nil nil) nil) (node c491 nil nil)))) (node b59 (node b91 (node b155 (node b283 (node c539 nil nil) nil) (node c411 nil nil)) (node b219 (node c347 (node c603 nil nil) nil) (node c475 nil nil))) (node b123 (node b187 (node c315 (node c571 nil nil) nil) (node c443 nil nil)) (node b251 (node c379 (node c635 nil nil) nil) (node c507 nil nil))))))) (node (boot_o_5 P) (node (boot_o_9 P) (node b17 (node b33 (node b65 (node b129 (node b257 (node c513 nil nil) nil) (node c385 (node c641 nil nil) nil)) (node b193 (node c321 (node c577 nil nil) nil) (node c449 nil nil))) (node b97 (node b161 (node b289 (node c545 nil nil) nil) (node c417 nil nil)) (node b225 (node c353 (node c609 nil nil) nil) (node c481 nil nil)))) (node b49 (node b81 (node b145 (node b273 (node c529 nil nil) nil) (node c401 nil nil)) (node b209 (node c337 (node c593 nil nil) nil) (node c465 nil nil))) (node b113 (node b177 (node (c305 P) (node c561 nil nil) nil) (node c433 nil nil)) (node b241 (node c369 (node c625 nil nil) nil) (node c497 nil nil))))) (node b25 (node b41 (node (b73 P) (node b137 (node b265 (node c521 nil nil) nil) (node c393 nil nil)) (node b201 (node c329 (node c585 nil nil) nil) (node c457 nil nil))) (node b105 (node b169 (node b297 (node c553 nil nil) nil) (node c425 nil nil)) (node b233 (node c361 (node c617 nil nil) nil) (node c489 nil nil)))) (node b57 (node b89 (node b153 (node b281 (node c537 nil nil) nil) (node c409 nil nil)) (node b217 (node c345 (node c601 nil nil) nil) (node c473 nil nil))) (node b121 (node b185 (node c313 (node c569 nil nil) nil) (node c441 nil nil)) (node b249 (node c377 (node c633 nil nil) nil) (node c505 nil nil)))))) (node a13 (node b21 (node b37 (node b69 (node b133 (node b261 (node c517 nil nil) nil) (node c389 nil nil)) (node b197 (node c325 (node c581 nil nil) nil) (node c453 nil nil))) (node b101 (node b165 (node b293 (node c549 nil nil) nil) (node c421 nil nil)) (node b229 (node c357 (node c613 nil nil) nil) (node c485 nil nil)))) (node b53 (node b85 (node b149 (node b277 (node c533 nil nil) nil) (node c405 nil nil)) (node b213 (node c341 (node c597 nil nil) nil) (node c469 nil nil))) (node b117 (node b181 (node c309 (node c565 nil nil) nil) (node c437 nil nil)) (node b245 (node c373 (node c629 nil nil) nil) (node c501 nil nil))))) (node b29 (node b45 (node b77 (node b141 (node b269 (node c525 nil nil) nil) (node c397 nil nil)) (node b205 (node c333 (node c589 nil nil) nil) (node c461 nil nil))) (node b109 (node b173 (node b301 (node c557 nil nil) nil) (node c429 nil nil)) (node b237 (node c365 (node c621 nil nil) nil) (node c493 nil nil)))) (node b61 (node b93 (node b157 (node b285 (node c541 nil nil) nil) (node c413 nil nil)) (node b221 (node c349 (node c605 nil nil) nil) (node c477 nil nil))) (node b125 (node b189 (node c317 (node c573 nil nil) nil) (node c445 nil nil)) (node b253 (node c381 (node c637 nil nil) nil) (node c509 nil nil)))))))) (node (boot_o_2 P) (node (boot_o_4 P) (node (boot_o_8 P) (node b16 (node b32 (node b64 (node b128 (node b256 (node c512 nil nil) nil) (node c384 (node c640 nil nil) nil)) (node b192 (node c320 (node c576 nil nil) nil) (node c448 nil nil))) (node b96 (node b160 (node b288 (node c544 nil nil) nil) (node c416 nil nil)) (node b224 (node c352 (node c608 nil nil) nil) (node c480 nil nil)))) (node b48 (node c80 (node b144 (node b272 (node c528 nil nil) nil) (node c400 nil nil)) (node b208 (node c336 (node c592 nil nil) nil) (node c464 nil nil))) (node b112 (node b176 (node (c304 P) (node c560 nil nil) nil) (node c432 nil nil)) (node b240 (node c368 (node c624 nil nil) nil) (node c496 nil nil))))) (node (b24 P) (node b40 (node b72 (node b136 (node b264 (node c520 nil nil) nil) (node c392 nil nil)) (node b200 (node c328 (node c584 nil nil) nil) (node c456 nil nil))) (node b104 (node b168 (node (b296 P) (node c552 nil nil) nil) (node c424 nil nil)) (node b232 (node c360 (node c616 nil nil) nil) (node c488 nil nil)))) (node b56 (node b88 (node b152 (node b280 (node c536 nil nil) nil) (node c408 nil nil)) (node b216 (node c344 (node c600 nil nil) nil) (node c472 nil nil))) (node b120 (node b184 (node c312 (node c568 nil nil) nil) (node c440 nil nil)) (node b248 (node c376 (node c632 nil nil) nil) (node c504 nil nil)))))) (node b12 (node b20 (node b36 (node b68 (node b132 (node b260 (node c516 nil nil) nil) (node c388 nil nil)) (node b196 (node c324 (node c580 nil nil) nil) (node c452 nil nil))) (node b100 (node b164 (node b292 (node c548 nil nil) nil) (node c420 nil nil)) (node b228 (node c356 (node c612 nil nil) nil) (node c484 nil nil)))) (node b52 (node b84 (node b148 (node b276 (node c532 nil nil) nil) (node c404 nil nil)) (node b212 (node c340 (node c596 nil nil) nil) (node c468 nil nil))) (node b116 (node b180 (node c308 (node c564 nil nil) nil) (node c436 nil nil)) (node b244 (node c372 (node c628 nil nil) nil) (node c500 nil nil))))) (node b28 (node b44 (node b76 (node b140 (node b268 (node c524 nil nil) nil) (node c396 nil nil)) (node b204 (node c332 (node c588 nil nil) nil) (node c460 nil nil))) (node b108 (node b172 (node b300 (node c556 nil nil) nil) (node c428 nil nil)) (node b236 (node c364 (node c620 nil nil) nil) (node c492 nil nil)))) (node b60 (node b92 (node b156 (node b284 (node c540 nil nil) nil) (node c412 nil nil)) (node b220 (node c348 (node c604 nil nil) nil) (node c476 nil nil))) (node b124 (node b188 (node c316 (node c572 nil nil) nil) (node c444 nil nil)) (node b252 (node c380 (node c636 nil nil) nil) (node c508 nil nil))))))) (node (boot_o_6 P) (node (boot_o_10 P) (node b18 (node b34 (node b66 (node b130 (node b258 (node c514 nil nil) nil) (node c386 (node c642 nil nil) nil)) (node b194 (node c322 (node c578 nil nil) nil) (node c450 nil nil))) (node b98 (node b162 (node b290 (node c546 nil nil) nil) (node c418 nil nil)) (node b226 (node c354 (node c610 nil nil) nil) (node c482 nil nil)))) (node b50 (node b82 (node b146 (node b274 (node c530 nil nil) nil) (node c402 nil nil)) (node b210 (node c338 (node c594 nil nil) nil) (node c466 nil nil))) (node b114 (node b178 (node c306 (node c562 nil nil) nil) (node c434 nil nil)) (node b242 (node c370 (node c626 nil nil) nil) (node c498 nil nil))))) (node b26 (node b42 (node b74 (node b138 (node b266 (node c522 nil nil) nil) (node c394 nil nil)) (node b202 (node c330 (node c586 nil nil) nil) (node c458 nil nil))) (node b106 (node b170 (node b298 (node c554 nil nil) nil) (node c426 nil nil)) (node b234 (node c362 (node c618 nil nil) nil) (node c490 nil nil)))) (node b58 (node b90 (node b154 (node b282 (node c538 nil nil) nil) (node c410 nil nil)) (node b218 (node c346 (node c602 nil nil) nil) (node c474 nil nil))) (node b122 (node b186 (node (c314 P) (node c570 nil nil) nil) (node c442 nil nil)) (node b250 (node c378 (node c634 nil nil) nil) (node c506 nil nil)))))) (node a14 (node b22 (node b38 (node b70 (node b134 (node b262 (node c518 nil nil) nil) (node c390 nil nil)) (node b198 (node c326 (node c582 nil nil) nil) (node c454 nil nil))) (node b102 (node b166 (node b294 (node c550 nil nil) nil) (node c422 nil nil)) (node b230 (node c358 (node c614 nil nil) nil) (node c486 nil nil)))) (node b54 (node b86 (node b150 (node b278 (node c534 nil nil) nil) (node c406 nil nil)) (node b214 (node c342 (node c598 nil nil) nil) (node c470 nil nil))) (node b118 (node b182 (node c310 (node c566 nil nil) nil) (node c438 nil nil)) (node b246 (node c374 (node c630 nil nil) nil) (node c502 nil nil))))) (node (b30 P) (node b46 (node b78 (node b142 (node b270 (node c526 nil nil) nil) (node c398 nil nil)) (node b206 (node c334 (node c590 nil nil) nil) (node c462 nil nil))) (node b110 (node b174 (node (c302 P) (node c558 nil nil) nil) (node c430 nil nil)) (node b238 (node c366 (node c622 nil nil) nil) (node c494 nil nil)))) (node b62 (node b94 (node b158 (node b286 (node c542 nil nil) nil) (node c414 nil nil)) (node b222 (node c350 (node c606 nil nil) nil) (node c478 nil nil))) (node b126 (node b190 (node c318 (node c574 nil nil) nil) (node c446 nil nil)) (node b254 (node c382 (node c638 nil nil) nil) (node c510 nil nil))))))))
noncomputable def treed (P : Params) : BT := node (boot_o_0 P) (node (boot_o_1 P) (node (d3 P) (node (boot_o_7 P) (node b15 (node b31 (node b63 (node b127 (node b255 (node c511 nil nil) nil) (node c383 (node c639 nil nil) nil)) (node b191 (node c319 (node c575 nil nil) nil) (node c447 (node d703 nil nil) nil))) (node b95 (node b159 (node b287 (node c543 nil nil) nil) (node c415 (node d671 nil nil) nil)) (node b223 (node c351 (node c607 nil nil) nil) (node c479 (node d735 nil nil) nil)))) (node b47 (node b79 (node b143 (node b271 (node c527 nil nil) nil) (node c399 (node d655 nil nil) nil)) (node b207 (node c335 (node c591 nil nil) nil) (node c463 (node d719 nil nil) nil))) (node b111 (node b175 (node c303 (node c559 nil nil) nil) (node c431 (node d687 nil nil) nil)) (node b239 (node c367 (node c623 nil nil) nil) (node c495 nil nil))))) (node b23 (node b39 (node b71 (node b135 (node b263 (node c519 nil nil) nil) (node c391 (node d647 nil nil) nil)) (node b199 (node c327 (node c583 nil nil) nil) (node c455 (node d711 nil nil) nil))) (node b103 (node b167 (node b295 (node c551 nil nil) nil) (node c423 (node d679 nil nil) nil)) (node b231 (node c359 (node c615 nil nil) nil) (node c487 nil nil)))) (node b55 (node b87 (node b151 (node b279 (node c535 nil nil) nil) (node c407 (node d663 nil nil) nil)) (node b215 (node c343 (node c599 nil nil) nil) (node c471 (node d727 nil nil) nil))) (node b119 (node b183 (node c311 (node c567 nil nil) nil) (node c439 (node d695 nil nil) nil)) (node b247 (node c375 (node c631 nil nil) nil) (node c503 nil nil)))))) (node a11 (node b19 (node b35 (node b67 (node b131 (node b259 (node c515 nil nil) nil) (node c387 (node d643 nil nil) nil)) (node b195 (node c323 (node c579 nil nil) nil) (node c451 (node d707 nil nil) nil))) (node b99 (node b163 (node b291 (node c547 nil nil) nil) (node c419 (node d675 nil nil) nil)) (node b227 (node c355 (node c611 nil nil) nil) (node c483 nil nil)))) (node b51 (node b83 (node b147 (node b275 (node c531 nil nil) nil) (node c403 (node d659 nil nil) nil)) (node b211 (node c339 (node c595 nil nil) nil) (node c467 (node d723 nil nil) nil))) (node b115 (node b179 (node c307 (node c563 nil nil) nil) (node c435 (node d691 nil nil) nil)) (node b243 (node c371 (node c627 nil nil) nil) (node c499 nil nil))))) (node b27 (node b43 (node b75 (node b139 (node b267 (node c523 nil nil) nil) (node c395 (node d651 nil nil) nil)) (node b203 (node c331 (node c587 nil nil) nil) (node c459 (node d715 nil nil) nil))) (node b107 (node b171 (node b299 (node c555 nil nil) nil) (node c427 (node d683 nil nil) nil)) (node b235 (node c363 (node c619 nil nil) nil) (node c491 nil nil)))) (node b59 (node b91 (node b155 (node b283 (node c539 nil nil) nil) (node c411 (node d667 nil nil) nil)) (node b219 (node c347 (node c603 nil nil) nil) (node c475 (node d731 nil nil) nil))) (node b123 (node b187 (node c315 (node c571 nil nil) nil) (node c443 (node d699 nil nil) nil)) (node b251 (node c379 (node c635 nil nil) nil) (node c507 nil nil))))))) (node (boot_o_5 P) (node (boot_o_9 P) (node b17 (node b33 (node b65 (node b129 (node b257 (node c513 nil nil) nil) (node c385 (node c641 nil nil) nil)) (node b193 (node c321 (node c577 nil nil) nil) (node c449 (node d705 nil nil) nil))) (node b97 (node b161 (node b289 (node c545 nil nil) nil) (node c417 (node d673 nil nil) nil)) (node b225 (node c353 (node c609 nil nil) nil) (node c481 nil nil)))) (node b49 (node b81 (node b145 (node b273 (node c529 nil nil) nil) (node c401 (node d657 nil nil) nil)) (node b209 (node c337 (node c593 nil nil) nil) (node c465 (node d721 nil nil) nil))) (node b113 (node b177 (node (c305 P) (node c561 nil nil) nil) (node c433 (node d689 nil nil) nil)) (node b241 (node c369 (node c625 nil nil) nil) (node c497 nil nil))))) (node b25 (node b41 (node (b73 P) (node b137 (node b265 (node c521 nil nil) nil) (node c393 (node d649 nil nil) nil)) (node b201 (node c329 (node c585 nil nil) nil) (node c457 (node d713 nil nil) nil))) (node b105 (node b169 (node b297 (node c553 nil nil) nil) (node c425 (node d681 nil nil) nil)) (node b233 (node c361 (node c617 nil nil) nil) (node c489 nil nil)))) (node b57 (node b89 (node b153 (node b281 (node c537 nil nil) nil) (node c409 (node d665 nil nil) nil)) (node b217 (node c345 (node c601 nil nil) nil) (node c473 (node d729 nil nil) nil))) (node b121 (node b185 (node c313 (node c569 nil nil) nil) (node c441 (node d697 nil nil) nil)) (node b249 (node c377 (node c633 nil nil) nil) (node c505 nil nil)))))) (node a13 (node b21 (node b37 (node b69 (node b133 (node b261 (node c517 nil nil) nil) (node c389 (node d645 nil nil) nil)) (node b197 (node c325 (node c581 nil nil) nil) (node c453 (node d709 nil nil) nil))) (node b101 (node b165 (node b293 (node c549 nil nil) nil) (node c421 (node d677 nil nil) nil)) (node b229 (node c357 (node c613 nil nil) nil) (node c485 nil nil)))) (node b53 (node b85 (node b149 (node b277 (node c533 nil nil) nil) (node c405 (node d661 nil nil) nil)) (node b213 (node c341 (node c597 nil nil) nil) (node c469 (node d725 nil nil) nil))) (node b117 (node b181 (node c309 (node c565 nil nil) nil) (node c437 (node d693 nil nil) nil)) (node b245 (node c373 (node c629 nil nil) nil) (node c501 nil nil))))) (node b29 (node b45 (node b77 (node b141 (node b269 (node c525 nil nil) nil) (node c397 (node d653 nil nil) nil)) (node b205 (node c333 (node c589 nil nil) nil) (node c461 (node d717 nil nil) nil))) (node b109 (node b173 (node b301 (node c557 nil nil) nil) (node c429 (node d685 nil nil) nil)) (node b237 (node c365 (node c621 nil nil) nil) (node c493 nil nil)))) (node b61 (node b93 (node b157 (node b285 (node c541 nil nil) nil) (node c413 (node d669 nil nil) nil)) (node b221 (node c349 (node c605 nil nil) nil) (node c477 (node d733 nil nil) nil))) (node b125 (node b189 (node c317 (node c573 nil nil) nil) (node c445 (node d701 nil nil) nil)) (node b253 (node c381 (node c637 nil nil) nil) (node c509 nil nil)))))))) (node (boot_o_2 P) (node (boot_o_4 P) (node (boot_o_8 P) (node b16 (node b32 (node b64 (node b128 (node b256 (node c512 nil nil) nil) (node c384 (node c640 nil nil) nil)) (node b192 (node c320 (node c576 nil nil) nil) (node c448 (node d704 nil nil) nil))) (node b96 (node b160 (node b288 (node c544 nil nil) nil) (node c416 (node d672 nil nil) nil)) (node b224 (node c352 (node c608 nil nil) nil) (node c480 (node d736 nil nil) nil)))) (node b48 (node c80 (node b144 (node b272 (node c528 nil nil) nil) (node c400 (node d656 nil nil) nil)) (node b208 (node c336 (node c592 nil nil) nil) (node c464 (node d720 nil nil) nil))) (node b112 (node b176 (node (c304 P) (node c560 nil nil) nil) (node c432 (node d688 nil nil) nil)) (node b240 (node c368 (node c624 nil nil) nil) (node c496 nil nil))))) (node (b24 P) (node b40 (node b72 (node b136 (node b264 (node c520 nil nil) nil) (node c392 (node d648 nil nil) nil)) (node b200 (node c328 (node c584 nil nil) nil) (node c456 (node d712 nil nil) nil))) (node b104 (node b168 (node (b296 P) (node c552 nil nil) nil) (node c424 (node d680 nil nil) nil)) (node b232 (node c360 (node c616 nil nil) nil) (node c488 nil nil)))) (node b56 (node b88 (node b152 (node b280 (node c536 nil nil) nil) (node c408 (node d664 nil nil) nil)) (node b216 (node c344 (node c600 nil nil) nil) (node c472 (node d728 nil nil) nil))) (node b120 (node b184 (node c312 (node c568 nil nil) nil) (node c440 (node d696 nil nil) nil)) (node b248 (node c376 (node c632 nil nil) nil) (node c504 nil nil)))))) (node d12 (node b20 (node b36 (node b68 (node b132 (node b260 (node c516 nil nil) nil) (node c388 (node d644 nil nil) nil)) (node b196 (node c324 (node c580 nil nil) nil) (node c452 (node d708 nil nil) nil))) (node b100 (node b164 (node b292 (node c548 nil nil) nil) (node c420 (node d676 nil nil) nil)) (node b228 (node c356 (node c612 nil nil) nil) (node c484 nil nil)))) (node b52 (node b84 (node b148 (node b276 (node c532 nil nil) nil) (node c404 (node d660 nil nil) nil)) (node b212 (node c340 (node c596 nil nil) nil) (node c468 (node d724 nil nil) nil))) (node b116 (node b180 (node c308 (node c564 nil nil) nil) (node c436 (node d692 nil nil) nil)) (node b244 (node c372 (node c628 nil nil) nil) (node c500 nil nil))))) (node b28 (node b44 (node b76 (node b140 (node b268 (node c524 nil nil) nil) (node c396 (node d652 nil nil) nil)) (node b204 (node c332 (node c588 nil nil) nil) (node c460 (node d716 nil nil) nil))) (node b108 (node b172 (node b300 (node c556 nil nil) nil) (node c428 (node d684 nil nil) nil)) (node b236 (node c364 (node c620 nil nil) nil) (node c492 nil nil)))) (node b60 (node b92 (node b156 (node b284 (node c540 nil nil) nil) (node c412 (node d668 nil nil) nil)) (node b220 (node c348 (node c604 nil nil) nil) (node c476 (node d732 nil nil) nil))) (node b124 (node b188 (node c316 (node c572 nil nil) nil) (node c444 (node d700 nil nil) nil)) (node b252 (node c380 (node c636 nil nil) nil) (node c508 nil nil))))))) (node (boot_o_6 P) (node (boot_o_10 P) (node b18 (node b34 (node b66 (node b130 (node b258 (node c514 nil nil) nil) (node c386 (node c642 nil nil) nil)) (node b194 (node c322 (node c578 nil nil) nil) (node c450 (node d706 nil nil) nil))) (node b98 (node b162 (node b290 (node c546 nil nil) nil) (node c418 (node d674 nil nil) nil)) (node b226 (node c354 (node c610 nil nil) nil) (node c482 nil nil)))) (node b50 (node b82 (node b146 (node b274 (node c530 nil nil) nil) (node c402 (node d658 nil nil) nil)) (node b210 (node c338 (node c594 nil nil) nil) (node c466 (node d722 nil nil) nil))) (node b114 (node b178 (node c306 (node c562 nil nil) nil) (node c434 (node d690 nil nil) nil)) (node b242 (node c370 (node c626 nil nil) nil) (node c498 nil nil))))) (node b26 (node b42 (node b74 (node b138 (node b266 (node c522 nil nil) nil) (node c394 (node d650 nil nil) nil)) (node b202 (node c330 (node c586 nil nil) nil) (node c458 (node d714 nil nil) nil))) (node b106 (node b170 (node b298 (node c554 nil nil) nil) (node c426 (node d682 nil nil) nil)) (node b234 (node c362 (node c618 nil nil) nil) (node c490 nil nil)))) (node b58 (node b90 (node b154 (node b282 (node c538 nil nil) nil) (node c410 (node d666 nil nil) nil)) (node b218 (node c346 (node c602 nil nil) nil) (node c474 (node d730 nil nil) nil))) (node b122 (node b186 (node (c314 P) (node c570 nil nil) nil) (node c442 (node d698 nil nil) nil)) (node b250 (node c378 (node c634 nil nil) nil) (node c506 nil nil)))))) (node a14 (node b22 (node b38 (node b70 (node b134 (node b262 (node c518 nil nil) nil) (node c390 (node d646 nil nil) nil)) (node b198 (node c326 (node c582 nil nil) nil) (node c454 (node d710 nil nil) nil))) (node b102 (node b166 (node b294 (node c550 nil nil) nil) (node c422 (node d678 nil nil) nil)) (node b230 (node c358 (node c614 nil nil) nil) (node c486 nil nil)))) (node b54 (node b86 (node b150 (node b278 (node c534 nil nil) nil) (node c406 (node d662 nil nil) nil)) (node b214 (node c342 (node c598 nil nil) nil) (node c470 (node d726 nil nil) nil))) (node b118 (node b182 (node c310 (node c566 nil nil) nil) (node c438 (node d694 nil nil) nil)) (node b246 (node c374 (node c630 nil nil) nil) (node c502 nil nil))))) (node (b30 P) (node b46 (node b78 (node b142 (node b270 (node c526 nil nil) nil) (node c398 (node d654 nil nil) nil)) (node b206 (node c334 (node c590 nil nil) nil) (node c462 (node d718 nil nil) nil))) (node b110 (node b174 (node (c302 P) (node c558 nil nil) nil) (node c430 (node d686 nil nil) nil)) (node b238 (node c366 (node c622 nil nil) nil) (node c494 nil nil)))) (node b62 (node b94 (node b158 (node b286 (node c542 nil nil) nil) (node c414 (node d670 nil nil) nil)) (node b222 (node c350 (node c606 nil nil) nil) (node c478 (node d734 nil nil) nil))) (node b126 (node b190 (node c318 (node c574 nil nil) nil) (node c446 (node d702 nil nil) nil)) (node b254 (node c382 (node c638 nil nil) nil) (node c510 nil nil))))))))
end
end
section
section
open BT
noncomputable def i302 : Obj := ⟨.type "dict", none, .dict #[] 0, #[]⟩
noncomputable def i304 (P : Params) : Obj := ⟨.type "frame", none, .dict #[⟨PyData.keyHash P "self", .str "self" 556, .ref 303⟩, ⟨PyData.keyHash P "charmap", .str "charmap" 557, .bytes (List.toArray (46 :: 47 :: 48 :: 49 :: 50 :: 51 :: 52 :: 53 :: 54 :: 55 :: 56 :: 57 :: 65 :: 66 :: 67 :: 68 :: 69 :: 70 :: 71 :: 72 :: 73 :: 74 :: 75 :: 76 :: 77 :: 78 :: 79 :: 80 :: 81 :: 82 :: 83 :: 84 :: 85 :: 86 :: 87 :: 88 :: 89 :: 90 :: 97 :: 98 :: 99 :: 100 :: 101 :: 102 :: 103 :: 104 :: 105 :: 106 :: 107 :: 108 :: 109 :: 110 :: 111 :: 112 :: 113 :: 114 :: 115 :: 116 :: 117 :: 118 :: 119 :: 120 :: 121 :: 122 :: [])) 560⟩, ⟨PyData.keyHash P "big", .str "big" 558, .bool false⟩] 3, #[]⟩
noncomputable def i306 : Obj := ⟨.type "bytes_iterator", none, .fields #[.bytes (List.toArray (46 :: 47 :: 48 :: 49 :: 50 :: 51 :: 52 :: 53 :: 54 :: 55 :: 56 :: 57 :: 65 :: 66 :: 67 :: 68 :: 69 :: 70 :: 71 :: 72 :: 73 :: 74 :: 75 :: 76 :: 77 :: 78 :: 79 :: 80 :: 81 :: 82 :: 83 :: 84 :: 85 :: 86 :: 87 :: 88 :: 89 :: 90 :: 97 :: 98 :: 99 :: 100 :: 101 :: 102 :: 103 :: 104 :: 105 :: 106 :: 107 :: 108 :: 109 :: 110 :: 111 :: 112 :: 113 :: 114 :: 115 :: 116 :: 117 :: 118 :: 119 :: 120 :: 121 :: 122 :: [])) 560, .int 64 0], #[]⟩
noncomputable def j302 (P : Params) : Obj := ⟨.type "dict", none, .dict #[⟨PyData.keyHash P "bytemap", .str "bytemap" 697, .bytes (List.toArray (46 :: 47 :: 48 :: 49 :: 50 :: 51 :: 52 :: 53 :: 54 :: 55 :: 56 :: 57 :: 65 :: 66 :: 67 :: 68 :: 69 :: 70 :: 71 :: 72 :: 73 :: 74 :: 75 :: 76 :: 77 :: 78 :: 79 :: 80 :: 81 :: 82 :: 83 :: 84 :: 85 :: 86 :: 87 :: 88 :: 89 :: 90 :: 97 :: 98 :: 99 :: 100 :: 101 :: 102 :: 103 :: 104 :: 105 :: 106 :: 107 :: 108 :: 109 :: 110 :: 111 :: 112 :: 113 :: 114 :: 115 :: 116 :: 117 :: 118 :: 119 :: 120 :: 121 :: 122 :: [])) 560⟩] 1, #[]⟩
noncomputable def j309 : Obj := ⟨.type "bytes_iterator", none, .fields #[.bytes (List.toArray (46 :: 47 :: 48 :: 49 :: 50 :: 51 :: 52 :: 53 :: 54 :: 55 :: 56 :: 57 :: 65 :: 66 :: 67 :: 68 :: 69 :: 70 :: 71 :: 72 :: 73 :: 74 :: 75 :: 76 :: 77 :: 78 :: 79 :: 80 :: 81 :: 82 :: 83 :: 84 :: 85 :: 86 :: 87 :: 88 :: 89 :: 90 :: 97 :: 98 :: 99 :: 100 :: 101 :: 102 :: 103 :: 104 :: 105 :: 106 :: 107 :: 108 :: 109 :: 110 :: 111 :: 112 :: 113 :: 114 :: 115 :: 116 :: 117 :: 118 :: 119 :: 120 :: 121 :: 122 :: [])) 560, .int 0 0], #[]⟩
noncomputable def j310 : Obj := ⟨.type "enumerate", none, .fields #[.none, .bool false, .ref 309, .int 0 0, .none, .none], #[]⟩
noncomputable def j314 (P : Params) : Obj := ⟨.type "frame", none, .dict #[⟨PyData.keyHash P ".0", .str ".0" 703, .ref 310⟩] 1, #[]⟩
noncomputable def j316 : Obj := ⟨.type "dict", none, .dict #[] 0, #[]⟩
noncomputable def treei (P : Params) : BT := ((((((treeb P).ins 302 i302).ins 303 c303).ins 304 (i304 P)).ins 305 (c305 P)).ins 306 i306)
noncomputable def treej (P : Params) : BT := ((((((((((((((((treei P).set 80 fun _ => c80).set 302 fun _ => (j302 P)).set 306 fun _ => c306).ins 307 c307).ins 308 c308).ins 309 j309).ins 310 j310).ins 311 c311).ins 312 c312).ins 313 c313).ins 314 (j314 P)).ins 315 c315).ins 316 j316).ins 317 c317).ins 318 c318)
end
end
section
abbrev pwL : Program := pw_iw0011_01
noncomputable def lifeL : Life := Life.mk [] [] [] 0 [] [] Bool.false (List.toArray []) [] 0 Bool.false Bool.false Bool.false 0 [2000, 10, 10] Bool.false 0 Bool.true [] [] 0 Bool.false
def envL : Env := { scope := pwL.main.scope, locals := mainNs, globals := mainNs, cells := [], code := .ref 13, frame := some 14 }
abbrev codL : Code := .body (behindTheImports pwL) envL
abbrev annL : Option Value := some (.ref 6)
abbrev frmL : List Frame := [topFrame ⟨0, 0, 0, 0⟩]
def sts1 : List Stmt := (behindTheImports pwL).take 12
def sts2 : List Stmt := ((behindTheImports pwL).drop 12).take 1
def sts3 : List Stmt := (behindTheImports pwL).drop 13
noncomputable def SA (w : World) (os : OsState) : SharedT := SharedT.mk (treea w.params) 15 lifeL (Array.mk []) (Drawn.mk 0 0 0 0) 187 os
noncomputable def S11 (w : World) (os : OsState) : SharedT := SharedT.mk (treeb w.params) 302 lifeL (Array.mk []) (Drawn.mk 0 0 0 0) 556 os
noncomputable def S12 (w : World) (os : OsState) : SharedT := SharedT.mk (treec w.params) 643 lifeL (Array.mk [GenState.finished]) (Drawn.mk 0 0 0 0) 1035 os
noncomputable def S30 (w : World) (os : OsState) : SharedT := SharedT.mk (treed w.params) 737 lifeL (Array.mk [GenState.finished]) (Drawn.mk 0 0 0 0) 1275 os
section
variable {p : Program} {w : World} {n₀ b n : Nat} {ann : Option Value} {s : SharedT} {t : Thread} {s' : Shared}
theorem seg_tw {r : Option (Flow × SharedT × Code × Pos)} (h : PySem.W.Fast.tw10110043849684766642 PySem.W.Fast.tw14364793385576792824 p w n₀ ann b n s t = r) : segRunT treeTable p w n₀ ann b n s t = r := by
  rw [PySem.W.Fast.te10110043849684766642, PySem.W.Fast.te14364793385576792824]; exact h
theorem topGo_tw {r : Option (Shared × Thread)} (h : PySem.W.Fast.tw15667345088766844465 PySem.W.Fast.tw14364793385576792824 p w n₀ ann n s' t = r) : topGo treeTable p w n₀ ann n s' t = r := by
  rw [PySem.W.Fast.te15667345088766844465, PySem.W.Fast.te14364793385576792824]; exact h
theorem topRun_tw {r : Option Shared} (h : PySem.W.Fast.tw14082659384304107361 PySem.W.Fast.tw14364793385576792824 p w n₀ ann n s' t = r) : topRun treeTable p w n₀ ann n s' t = r := by
  rw [PySem.W.Fast.te14082659384304107361, PySem.W.Fast.te14364793385576792824]; exact h
theorem den_tw {c : Code} : denote treeTable c = PySem.W.Fast.tw11892475500146522536 PySem.W.Fast.tw14364793385576792824 c := by
  rw [PySem.W.Fast.te11892475500146522536, PySem.W.Fast.te14364793385576792824]
end
theorem preL (w : World) (os : OsState) : topGo treeTable pwL w 11 annL 12 ⟨boot_heap w.params, Array.mk [], boot_drawn, boot_toks, os⟩ (topStub pwL) = some ((SA w os).abs, ⟨denote treeTable codL, codL, ⟨0, 0, 0, 0⟩, frmL⟩) := topGo_tw (by rw [den_tw]; kernel_rfl)
theorem blkL (w : World) (os : OsState) : segRun treeTable pwL w 11 annL 1 1 (SA w os).abs (blockOf (behindTheImports pwL) envL codL ⟨0, 0, 0, 0⟩ frmL) = some (.next, (SA w os).abs, codL, ⟨0, 0, 0, 0⟩) := by kernel_rfl
theorem run1 (w : World) (os : OsState) : segRunT treeTable pwL w 11 annL 1 2000 (SA w os) (piecesOf sts1 envL codL ⟨0, 0, 0, 0⟩ frmL) = some (.next, S11 w os, codL, ⟨22, 0, 186, 17⟩) := seg_tw (by kernel_rfl)
theorem run3 (w : World) (os : OsState) : segRunT treeTable pwL w 11 annL 1 1000 (S12 w os) (piecesOf sts3 envL codL ⟨187, 0, 187, 3⟩ frmL) = some (.next, S30 w os, codL, ⟨341, 0, 358, 101⟩) := seg_tw (by kernel_rfl)
theorem finL (w : World) (os : OsState) : topRun treeTable pwL w 11 annL 2 (S30 w os).abs ⟨doneF .next, codL, ⟨341, 0, 358, 101⟩, frmL⟩ = some (S30 w os).abs := topRun_tw (by kernel_rfl)
end
section
def qv : Program := view pw_iw0011_01 [30]
def looseV : List Str := pw_iw0011_01.boundNames.filter fun n => n != Str.ofString "law"
/-- the addresses of the written part -/
noncomputable def asK : List Addr := (KF { strHash := fun _ => 0, shareClass := fun _ => 0, mergeTok := id, idOf := fun _ => 0, idOfShared := fun _ _ => 0, followText := fun _ => true, idOfImm := fun _ => 0 }).map (·.1)
noncomputable def hkK : Hook := kmHook KF asK (fun _ => by kernel_rfl) [123, 669, 733]
noncomputable def heapZ (P : Params) : Heap := absHeap (treed P) 737 lifeL
noncomputable abbrev endZ (w : World) (os : OsState) : Shared := ⟨heapZ w.params, Array.mk [GenState.finished], Drawn.mk 0 0 0 0, 1275, os⟩
theorem openL : ∀ w : World, (fencedOpening treeTable pwL w 25160).map (fun s => (s.heap, s.gens, s.drawn, s.toks)) = some (boot_heap w.params, Array.mk [], boot_drawn, boot_toks) :=
  boot_open (by kernel_rfl) (by kernel_rfl) (fun s => by kernel_rfl)
theorem sizeL : ∀ w : World, ((boot_heap w.params).isNs mainGlobals && (Array.mk [] : Array GenState).size == 0, (boot_heap w.params).objs.size, (boot_heap w.params).nsMap mainGlobals "__annotations__") = (true, 11, annL) := fun w => by kernel_rfl
theorem look1 (w : World) (os : OsState) : (staticsOk (importedModules pwL.main.body) (boot_heap w.params) (heapZ w.params) && namesBound pwL (heapZ w.params) && gensDone (endZ w os) && laidKept (boot_heap w.params) (heapZ w.params)) = true := by kernel_rfl
theorem look3 (w : World) (os : OsState) : hkK.obs (endZ w os) = hkK.val w := by kernel_rfl
theorem look2 (w : World) (os : OsState) : openSeen qv looseV (importedModules pwL.main.body) (fun _ => true) false (endZ w os) = openGood qv looseV := by
  rw [PySem.W.Fast.te4187177175401517315]; kernel_rfl
end
section
section
variable {p : Program} {w : World} {n₀ b n : Nat} {ann : Option Value} {s : SharedT} {t : Thread}
theorem go_tw {r : Option (SharedT × Thread)} (h : PySem.W.Fast.tw10295753902157049106 PySem.W.Fast.tw14364793385576792824 p w n₀ ann b n s t = r) : segGoT treeTable p w n₀ ann b n s t = r := by
  rw [PySem.W.Fast.te10295753902157049106, PySem.W.Fast.te14364793385576792824]; exact h
theorem segRun_mono {tb : String → Option Builtin} (k : Nat) : ∀ (n : Nat) (s : Shared) (t : Thread) (r : Flow × Shared × Code × Pos), segRun tb p w n₀ ann b n s t = some r → segRun tb p w n₀ ann b (n + k) s t = some r
  | 0, _, _, _, h => by simp [segRun] at h
  | n + 1, s, t, r, h => by
    rw [show n + 1 + k = n + k + 1 by omega]
    unfold segRun at h ⊢
    split at h <;> rename_i he
    · exact h
    · split at h <;> rename_i hk
      · cases h
      · split at h <;> rename_i hs
        · exact segRun_mono k n _ _ _ h
        · cases h
end
noncomputable abbrev goF (w : World) (n : Nat) (s : SharedT) (t : Thread) : Option (SharedT × Thread) := PySem.W.Fast.tw10295753902157049106 PySem.W.Fast.tw14364793385576792824 pwL w 11 annL 1 n s t
def sndT (r : Option (SharedT × Thread)) : Thread := match r with
  | some (_, t) => t
  | none => ⟨doneF .next, .builtin "claim.caller" {}, ⟨0, 0, 0, 0⟩, []⟩
noncomputable def SI (w : World) (os : OsState) : SharedT := SharedT.mk (treei w.params) 307 lifeL (Array.mk []) (Drawn.mk 0 0 0 0) 693 os
noncomputable def SJ (w : World) (os : OsState) : SharedT := SharedT.mk (treej w.params) 319 lifeL (Array.mk [GenState.running]) (Drawn.mk 0 0 0 0) 709 os
noncomputable abbrev pcsL : Thread := piecesOf sts2 envL codL ⟨22, 0, 186, 17⟩ frmL
abbrev wB (w : World) (b : Bool) : World := w.withFollow "special-get-raises" b
abbrev wC (w : World) (c : Bool) : World := w.withFollow "comprehension-iter-twice" c
noncomputable def denT (t : Thread) : Thread := ⟨PySem.W.Fast.tw11892475500146522536 PySem.W.Fast.tw14364793385576792824 t.code, t.code, t.pos, t.stack⟩
/-- the thread ahead of each turn of the set's loop -/
noncomputable def thrS (w : World) (os : OsState) : Thread := denT (sndT (goF w 181 (S11 w os) pcsL))
/-- the thread in the generator's loop -/
noncomputable def thrJ (w : World) (os : OsState) : Thread := sndT (goF (wC w true) 194 (SI (wC w true) os) (thrS (wC w true) os))
theorem gS0 (w : World) (os : OsState) : goF (wB w false) 1445 (S11 (wB w false) os) pcsL = some (SI (wB w false) os, thrS (wB w false) os) := by kernel_rfl
theorem gS1 (w : World) (os : OsState) : goF (wB w true) 1445 (S11 (wB w true) os) pcsL = some (SI (wB w true) os, thrS (wB w true) os) := by kernel_rfl
theorem gC00 (w : World) (os : OsState) : goF (wC (wB w false) false) 204 (SI (wC (wB w false) false) os) (thrS (wC (wB w false) false) os) = some (SJ (wC (wB w false) false) os, thrJ (wB w false) os) := by kernel_rfl
theorem gC01 (w : World) (os : OsState) : goF (wC (wB w false) true) 194 (SI (wC (wB w false) true) os) (thrS (wC (wB w false) true) os) = some (SJ (wC (wB w false) true) os, thrJ (wB w false) os) := by kernel_rfl
theorem gC10 (w : World) (os : OsState) : goF (wC (wB w true) false) 204 (SI (wC (wB w true) false) os) (thrS (wC (wB w true) false) os) = some (SJ (wC (wB w true) false) os, thrJ (wB w true) os) := by kernel_rfl
theorem gC11 (w : World) (os : OsState) : goF (wC (wB w true) true) 194 (SI (wC (wB w true) true) os) (thrS (wC (wB w true) true) os) = some (SJ (wC (wB w true) true) os, thrJ (wB w true) os) := by kernel_rfl
theorem gD0 (w : World) (os : OsState) : segRunT treeTable pwL (wB w false) 11 annL 1 9000 (SJ (wB w false) os) (thrJ (wB w false) os) = some (.next, S12 (wB w false) os, codL, ⟨187, 0, 187, 3⟩) := seg_tw (by kernel_rfl)
theorem gD1 (w : World) (os : OsState) : segRunT treeTable pwL (wB w true) 11 annL 1 9000 (SJ (wB w true) os) (thrJ (wB w true) os) = some (.next, S12 (wB w true) os, codL, ⟨187, 0, 187, 3⟩) := seg_tw (by kernel_rfl)
theorem run2 (w : World) (os : OsState) : segRun treeTable pwL w 11 annL 1 10649 (S11 w os).abs pcsL = some (.next, (S12 w os).abs, codL, ⟨187, 0, 187, 3⟩) := by
  have e1 : wB w (w.params.followText "special-get-raises") = w := World.withFollow_self w _
  have e2 : wC w (w.params.followText "comprehension-iter-twice") = w := World.withFollow_self w _
  have a1 : ∀ b, goF (wB w b) 1445 (S11 (wB w b) os) pcsL = some (SI (wB w b) os, thrS (wB w b) os) := fun b => by
    cases b
    · exact gS0 w os
    · exact gS1 w os
  have a2 : ∀ b c, goF (wC (wB w b) c) (if c then 194 else 204) (SI (wC (wB w b) c) os) (thrS (wC (wB w b) c) os) = some (SJ (wC (wB w b) c) os, thrJ (wB w b) os) := fun b c => by
    cases b <;> cases c
    · exact gC00 w os
    · exact gC01 w os
    · exact gC10 w os
    · exact gC11 w os
  have a3 : ∀ b, segRunT treeTable pwL (wB w b) 11 annL 1 9000 (SJ (wB w b) os) (thrJ (wB w b) os) = some (.next, S12 (wB w b) os, codL, ⟨187, 0, 187, 3⟩) := fun b => by
    cases b
    · exact gD0 w os
    · exact gD1 w os
  have b1 := a1 (w.params.followText "special-get-raises")
  have b2 := a2 (w.params.followText "special-get-raises") (w.params.followText "comprehension-iter-twice")
  have b3 := a3 (w.params.followText "special-get-raises")
  clear a1 a2 a3
  rw [e1] at b1 b2 b3
  rw [e2] at b2
  have r1 := segGo_of (go_tw b1)
  have r2 := segGo_of (go_tw b2)
  have r3 := segRun_of b3
  cases hc : w.params.followText "comprehension-iter-twice" with
  | false =>
    rw [hc] at r2
    exact seg_go (n := 1445) (N := 9204) r1 (seg_go (n := 204) (N := 9000) r2 r3)
  | true =>
    rw [hc] at r2
    exact seg_go (n := 1445) (N := 9204) r1 (seg_go (n := 194) (N := 9010) r2 (segRun_mono 10 9000 _ _ _ r3))
end
section
theorem bodyL : behindTheImports pwL = sts1 ++ (sts2 ++ (sts3 ++ [])) := by
  show _ = (behindTheImports pwL).take 12 ++ (((behindTheImports pwL).drop 12).take 1 ++ ((behindTheImports pwL).drop 13 ++ []))
  generalize behindTheImports pwL = l
  rw [List.append_nil, show l.drop 13 = (l.drop 12).drop 1 by rw [List.drop_drop], List.take_append_drop, List.take_append_drop]
theorem runL (w : World) (os : OsState) : topRun treeTable pwL w 11 annL 13664 ⟨boot_heap w.params, Array.mk [], boot_drawn, boot_toks, os⟩ (topStub pwL) = some ⟨heapZ w.params, Array.mk [GenState.finished], Drawn.mk 0 0 0 0, 1275, os⟩ := by
  refine go_top (n := 12) (N := 13652) (preL w os) ?_
  refine piece_block (n := 1) (N := 13651) (blkL w os) ?_
  rw [bodyL]
  refine piece_app (n := 2000) (N := 11651) (segRun_of (run1 w os)) ?_
  refine piece_app (n := 10649) (N := 1002) (run2 w os) ?_
  refine piece_app (n := 1000) (N := 2) (segRun_of (run3 w os)) ?_
  exact piece_nil (finL w os)
theorem leftL : LeftO pwL qv looseV (fun _ => true) hkK.obs hkK.val 25160 false :=
  LeftO.of_pieces (M := 13664) (H₀ := boot_heap) (H₁ := heapZ) openL sizeL runL (by decide) (fun w => by
    funext os
    exact looks_pair (look1 w os) (looks_pair (look2 w os) (look3 w os)))
end
section
open PySem.Builtin.Int (intBits)
theorem value_nonneg : ∀ (l : List Int) (a : Int), 0 ≤ a → (∀ k ∈ l, 0 ≤ k ∧ k < 256) → 0 ≤ l.foldl (fun a k => a * 256 + k) a
  | [], a, h, _ => h
  | k :: r, a, h, hk => by
    rw [List.foldl_cons]
    have := hk k (.head _)
    exact value_nonneg r _ (by omega) fun x hx => hk x (.tail _ hx)
section
variable {prog : Program} {w : World} {M : Model} {A : Around} {E : Value → Shared → Prop} {s : Shared} {h₀ : Heap} {L : Addr} {m : Str → Option Value} {news : List (Addr × Obj)}
theorem grownL {n : Nat} {k : Nat} {Q : Value → Shared → Prop} (hn : n < 256 ^ k) (hk : k ≤ 100000) (h : Q (.int (n : Int) s.toks) { s with toks := s.toks + 1 }) : wpAny M A (mkIntGrown (n : Int)) Q E s := by
  unfold mkIntGrown
  have hl : ¬ ((n : Int).natAbs.log2 ≥ bitsLine) := by
    rw [Int.natAbs_natCast]
    have hb : bitsLine = 134217728 := by first | rfl | decide
    by_cases hz : n = 0
    · subst hz
      rw [hb]
      decide
    · have e2 : (2 : Nat) ^ 8 = 256 := by decide
      have h0 : n < 2 ^ (8 * k) := by rw [Nat.pow_mul, e2]; exact hn
      have h1 := (Nat.log2_lt hz).mpr h0
      omega
  rw [if_neg hl]
  exact wpAny_mkInt h
theorem tree_bigL {b : Array UInt8} {t u : Tok} {P : Fin → Shared → Prop} (hl : b.size ≤ 100000) (h : P (.done (.ret (.int (KFB.value (KBw.bInts b)) s.toks))) { s with toks := s.toks + 1 }) :
    wpAny M A (Builtin.«int.from_bytes» ⟨[.type "int", .bytes b t, .str (PySem.Str.ofString "big") u], []⟩) P E s := by
  have hv : ((b.toList.foldl (fun (acc : Nat) (b : UInt8) => acc * 256 + b.toNat) 0 : Nat) : Int) = KFB.value (KBw.bInts b) := KFB.fold_cast b.toList 0
  have hn : b.toList.foldl (fun (acc : Nat) (b : UInt8) => acc * 256 + b.toNat) 0 < 256 ^ b.size := by
    have h1 := KFB.fold_lt b.toList 0
    rw [Nat.zero_add, Nat.one_mul, Array.length_toList] at h1
    exact h1
  unfold Builtin.«int.from_bytes»
  refine wpAny_bind (wpAny_of_eq (a := true) KFB.type_int ?_)
  refine KFB.if_not rfl ?_
  refine wpAny_bind (wpAny_of_eq (a := true) F.conv_sub_int ?_)
  refine KFB.if_not rfl ?_
  refine wpAny_bind (wpAny_of_eq (a := [some (.bytes b t), some (.str (PySem.Str.ofString "big") u), none]) (by kernel_rfl) ?_)
  refine wpAny_bind (wpAny_of_eq (a := PySem.Str.ofString "big") (by kernel_rfl) ?_)
  refine wpAny_bind (wpAny_of_eq (a := false) rfl ?_)
  refine wpAny_bind (wpAny_of_eq (a := false) (by kernel_rfl) ?_)
  refine wpAny_bind (wpAny_of_eq (a := b) rfl ?_)
  show wpAny _ _ (mkIntGrown (b.toList.foldl (fun (acc : Int) (b : UInt8) => acc * 256 + (b.toNat : Int)) ((0 : Nat) : Int)) >>= fun v => _) _ _ _
  rw [KFB.foldI_eq]
  refine wpAny_bind (grownL hn hl ?_)
  rw [hv]
  refine KFB.if_so (by decide +kernel) ?_
  exact wpAny_bind (wpAny_pure (wpAny_pure h))
theorem call_bigL {x : Addr} {b : Array UInt8} {t u : Tok} {ks : List Int} {Q : Value → Shared → Prop} (N : News h₀ L s.heap news) (hm : (x, KFB.bound) ∈ news) (hb : KBw.bInts b = ks) (hl : ks.length ≤ 100000)
    (h : ∀ t' k, Q (.int (KFB.value ks) t') { s with toks := k }) : wpAny (model prog w) A (call (.ref x) [.bytes b t, .str (PySem.Str.ofString "big") u]) Q E s := by
  subst hb
  exact KFB.call_of (KFB.at_of N hm) (fun z => tree_bigL (by rw [← KBw.ints_length]; exact hl) z) (h _ _)
theorem to_bigL {x : Int} {k : Nat} {t u v : Tok} {Q : Value → Shared → Prop} (hk : k ≤ 64) (h0 : 0 ≤ x) (h1 : x < 256 ^ k) (h : ∀ (b : Array UInt8) t' k', KBw.bInts b = (KTBy.little k x).reverse → (KTBy.little k x).reverse.length = k → Q (.bytes b t') { s with toks := k' }) :
    wpAny (model prog w) A (call (.builtin "int.to_bytes") [.int x t, .int (k : Int) u, .str (PySem.Str.ofString "big") v]) Q E s := by
  have hl : (KTBy.little k x).reverse.length = k := by rw [List.length_reverse, KTBy.little_length]
  refine wpAny_call_entry KTBy.slot (typeIs_int s x t) KTBy.entry ?_ (KTBy.args _ _ _)
  have hb := KTBy.bits_le (k := k) rfl h0 h1
  show wpAny _ _ (Builtin.Int.intOfSelf (.int x t) >>= fun y => _) _ _ s
  refine wpAny_bind (wpAny_of_eq (a := x) rfl ?_)
  show wpAny _ _ (Builtin.Int.intBindNamed "to_bytes" ["length", "byteorder", "signed"] 0 2 [.int (k : Int) u, .str (PySem.Str.ofString "big") v] [] >>= fun l => _) _ _ s
  refine wpAny_bind (wpAny_of_eq (a := [some (.int (k : Int) u), some (.str (PySem.Str.ofString "big") v), none]) (by kernel_rfl) ?_)
  show wpAny _ _ (Builtin.Int.intIndex "int.to_bytes" (.int (k : Int) u) >>= fun n => _) _ _ s
  refine wpAny_bind (wpAny_of_eq (a := (k : Int)) rfl ?_)
  refine KTBy.if_not (by show (decide ((k : Int) < -(2 ^ 63 : Int)) || decide ((k : Int) ≥ 2 ^ 63)) = false; rw [decide_eq_false (show ¬ ((k : Int) < -(2 ^ 63 : Int)) by omega), decide_eq_false (show ¬ ((k : Int) ≥ 2 ^ 63) by omega)]; rfl) ?_
  refine wpAny_bind (wpAny_of_eq (a := PySem.Str.ofString "big") (by kernel_rfl) ?_)
  refine wpAny_bind (wpAny_of_eq (a := false) rfl ?_)
  refine wpAny_bind (wpAny_of_eq (a := false) (by kernel_rfl) ?_)
  refine wpAny_ite_false (decide_eq_false (show ¬ ((k : Int) < 0) by omega)) ?_
  refine wpAny_ite_false (decide_eq_false (show ¬ ((k : Int) > 2 ^ 63 - 1 - 33) by omega)) ?_
  refine wpAny_ite_false (decide_eq_false (show ¬ ((k : Int) > (sizeLine : Int)) by rw [sizeLine_eq]; omega)) ?_
  refine KTBy.if_not (by show (decide (x < 0) && !false) = false; rw [decide_eq_false (show ¬ x < 0 by omega)]; rfl) ?_
  refine KTBy.if_not (by show (_ && decide ((intBits x : Int) > 8 * (k : Int))) = false; rw [decide_eq_false (show ¬ ((intBits x : Int) > 8 * (k : Int)) by omega), Bool.and_false]) ?_
  refine wpAny_bind (wpAny_mkBytes (wpAny_pure ⟨_, rfl, h _ _ _ ?_ hl⟩) (by show (List.reverse (KTBy.low x (Int.toNat (k : Int)))).length ≤ sizeLine; rw [List.length_reverse, KTBy.low_length, Int.toNat_natCast, sizeLine_eq]; omega))
  show (List.map (fun c : UInt8 => ((c.toNat : Nat) : Int)) (List.reverse (KTBy.low x (Int.toNat (k : Int))))) = (KTBy.little k x).reverse
  rw [Int.toNat_natCast, List.map_reverse, KTBy.low_ints h0 h1, ← KTBy.little_eq]
end
theorem mulOk_of {a b : Int} {j k : Nat} (ha : intBits a ≤ j) (hb : intBits b ≤ k) (h : j + k ≤ 134217728) : IntMulOk a b := by
  unfold IntMulOk
  have : Builtin.Int.intTooBig (intBits a + intBits b) = false := by
    unfold Builtin.Int.intTooBig
    refine decide_eq_false ?_
    have hb' : bitsLine = 134217728 := by first | rfl | decide
    rw [hb']
    omega
  rw [this, Bool.and_false]
  exact Bool.false_ne_true
theorem value_cast (b : Array UInt8) : ∃ n : Nat, KFB.value (KBw.bInts b) = (n : Int) ∧ n < 256 ^ b.size := by
  refine ⟨_, (KFB.fold_cast b.toList 0).symm, ?_⟩
  have h1 := KFB.fold_lt b.toList 0
  rw [Nat.zero_add, Nat.one_mul, Array.length_toList] at h1
  exact h1
theorem value_bits (b : Array UInt8) {ks : List Int} (hb : KBw.bInts b = ks) : intBits (KFB.value ks) ≤ 8 * ks.length := by
  subst hb
  obtain ⟨n, e, h⟩ := value_cast b
  rw [e]
  refine intBits_le_iff.mpr ?_
  have e2 : (2 : Nat) ^ 8 = 256 := by decide
  rw [Nat.pow_mul, e2, KBw.ints_length]
  exact h
theorem value_pos (b : Array UInt8) {ks : List Int} (hb : KBw.bInts b = ks) : 0 ≤ KFB.value ks := by
  subst hb
  obtain ⟨n, e, h⟩ := value_cast b
  rw [e]; omega
/-- the three odd numbers of the law's hashes -/
def odds : List Int := [71563446777022297856526126342750658392501306254664949883333486863006233104021, 4773980362247784071161623098874410743163180091984342855267, 97206616130828737543861310187857753877470148303805253470682226031856143877859]
theorem odds_bits (k : Nat) : intBits (odds.getD k 0) ≤ 300 := by
  match k with
  | 0 => decide +kernel
  | 1 => decide +kernel
  | 2 => decide +kernel
  | (n + 3) => (show intBits 0 ≤ 300; decide +kernel)
/-- the law's hash, on lists of octets -/
@[irreducible] def hashI (kind : Int) (n : Nat) (ks : List Int) : List Int :=
  (KTBy.little n ((KFB.value (1 :: ks) * odds.getD kind.toNat 0).fmod (2 ^ (8 * n) - 189))).reverse
theorem hashI_length (kind : Int) (n : Nat) (ks : List Int) : (hashI kind n ks).length = n := by
  unfold hashI
  rw [List.length_reverse, KTBy.little_length]
/-- what comes after, out of sight while a statement is walked -/
def CutQ {α : Type} (Q : α → Shared → Prop) : α → Shared → Prop := Q
theorem cutQ {α : Type} {prog : Program} {w : World} {A : Around} {c : Sem α} {Q : α → Shared → Prop} {E : Value → Shared → Prop} {s : Shared} (h : ∀ Q' : α → Shared → Prop, (∀ f s', Q f s' → CutQ Q' f s') → wpAny (model prog w) A c (CutQ Q') E s) : wpAny (model prog w) A c Q E s := h Q fun _ _ q => q
end
section
local macro_rules | `(tactic| omega) => `(tactic| lia)
section
open Builtin
section
variable {prog : Program} {w : World} {A : Around} {E : Value → Shared → Prop} {s : Shared}
theorem gives_mulSame {b : Array UInt8} {n : Int} {t u : Tok} (hf : Bytes.fitsIndex n = true) (e1 : b.size * n.toNat = b.size) (hs : b.size ≤ 16777216) : Gives («bytes.__mul__» ⟨[.bytes b t, .int n u], []⟩) (.val (.bytes b t)) := by
  refine .of_wp fun M A E s Q hq => ?_
  show wpAny M A (Bytes.repeatArgs .bytes "__mul__" ⟨[.bytes b t, .int n u], []⟩ >>= fun r => _) _ E s
  refine wpAny_bind (wpAny_of_eq (BMul.args_eq hf) ?_)
  refine wpAny_bind (wpAny_of_eq (a := b) rfl ?_)
  show wpAny M A (if b.size * n.toNat ≥ 2 ^ 63 then _ else _) _ E s
  rw [if_neg (by rw [e1]; omega)]
  refine bm_if_true (by rw [e1]; exact beq_self_eq_true _) ?_
  refine wpAny_bind (wpAny_typeOf (typeIs_bytes s b t) ?_)
  exact wpAny_bind (wpAny_rule (wpAny_pure ⟨_, rfl, hq⟩))
theorem flat_one {α : Type} {n : Nat} {l : List α} (h : l.length * n = l.length) : (List.replicate n l).flatten = l := by
  cases l with
  | nil => simp
  | cons a r =>
    have hp : 0 < (a :: r).length := by simp
    have e : n = 1 := by
      have := Nat.eq_of_mul_eq_mul_left hp (h.trans (Nat.mul_one _).symm)
      exact this
    subst e; simp
theorem bInts_repeated {b : List UInt8} (n : Nat) : KBw.bInts ((List.replicate n b).flatten).toArray = (List.replicate n (KBw.bInts b.toArray)).flatten := by
  show ((List.replicate n b).flatten).map _ = (List.replicate n (b.map _)).flatten
  rw [List.map_flatten, List.map_replicate]
theorem bmul_K {b : Array UInt8} {ks : List Int} {n : Int} {t u : Tok} {Q : Value → Shared → Prop} (hk : KBw.bInts b = ks) (h0 : 0 ≤ n) (hn : n ≤ 1048576) (hs : ks.length * n.toNat ≤ 16777216) (hs1 : ks.length ≤ 16777216)
    (h : ∀ r t' k, KBw.bInts r = (List.replicate n.toNat ks).flatten → Q (.bytes r t') { s with toks := k }) :
    wpAny (model prog w) A (binaryOp .Mult (.bytes b t) (.int n u)) Q E s := by
  subst hk
  rw [KBw.ints_length] at hs hs1
  have hf : Builtin.Bytes.fitsIndex n = true := by
    simp only [Builtin.Bytes.fitsIndex, Bool.and_eq_true, decide_eq_true_eq]
    omega
  by_cases h1 : b.size * n.toNat = b.size
  · refine wpAny_binaryOp_repeat (T := "bytes") (U := "int") (by decide) (fun s' => typeIs_bytes s' _ t) (fun s' => typeIs_int s' n u) BMul.noFill F.fills_int_mul F.slot_int_rmul BMul.repeats F.slot_int_index.lookup
      (call_gives F.slot_int_rmul (typeIs_int s n u) F.entry_int_rmul (F.args_int_rmul_2 _ _) (BMul.int_declines n u _ t)
        ⟨rfl, call_gives BMul.slot_mul (typeIs_bytes s _ t) BMul.entry_mul (BMul.args_mul _ _) (gives_mulSame hf h1 hs1) ?_⟩)
    refine h b t _ (flat_one ?_).symm
    rw [KBw.ints_length]; exact h1
  · have h63 : ¬ b.size * n.toNat ≥ 2 ^ 63 := by omega
    have hl : Builtin.Bytes.tooLong (b.size * n.toNat) = false := KBy.tooLong_not hs
    refine wpAny_binaryOp_repeat (T := "bytes") (U := "int") (by decide) (fun s' => typeIs_bytes s' _ t) (fun s' => typeIs_int s' n u) BMul.noFill F.fills_int_mul F.slot_int_rmul BMul.repeats F.slot_int_index.lookup
      (call_gives F.slot_int_rmul (typeIs_int s n u) F.entry_int_rmul (F.args_int_rmul_2 _ _) (BMul.int_declines n u _ t)
        ⟨rfl, call_gives BMul.slot_mul (typeIs_bytes s _ t) BMul.entry_mul (BMul.args_mul _ _) (BMul.gives_mul hf h63 (beq_false_of_ne h1) hl) ?_⟩)
    have hb : b.toList ≠ [] := fun e => h1 (by
      have : b.size = 0 := by rw [← Array.length_toList, e]; rfl
      rw [this, Nat.zero_mul])
    have er : Builtin.Bytes.repeated b n.toNat = ((List.replicate n.toNat b.toList).flatten).toArray := by
      have := BMul.repeated_list hb n.toNat
      rwa [Array.toArray_toList] at this
    rw [er]
    refine ⟨?_, h _ _ _ ?_⟩
    · rw [sizeLine_eq]
      have e4 : ((List.replicate n.toNat b.toList).flatten.toArray).size = n.toNat * b.size := by simp
      rw [e4, Nat.mul_comm]
      exact hs
    · rw [bInts_repeated, Array.toArray_toList]
end
end
section
section
variable {prog : Program} {w : World} {A : Around} {E : Value → Shared → Prop} {s : Shared} {a b : Int} {t u : Tok} {Q : Value → Shared → Prop} {h : Heap} {g : Array GenState} {d : Drawn} {tk : Nat} {o : OsState}
theorem eqT (h : a = b) (q : Q (.bool true) s) : wpAny (model prog w) A (compareOp .Eq (.int a t) (.int b u)) Q E s := eq_int (by rw [beq_iff_eq.mpr h]; exact q)
theorem eqF (h : a ≠ b) (q : Q (.bool false) s) : wpAny (model prog w) A (compareOp .Eq (.int a t) (.int b u)) Q E s := eq_int (by rw [beq_false_of_ne h]; exact q)
theorem ltT (h : a < b) (q : Q (.bool true) s) : wpAny (model prog w) A (compareOp .Lt (.int a t) (.int b u)) Q E s := lt_int (by rw [decide_eq_true h]; exact q)
theorem ltF (h : ¬ a < b) (q : Q (.bool false) s) : wpAny (model prog w) A (compareOp .Lt (.int a t) (.int b u)) Q E s := lt_int (by rw [decide_eq_false h]; exact q)
theorem leT (h : a ≤ b) (q : Q (.bool true) s) : wpAny (model prog w) A (compareOp .LtE (.int a t) (.int b u)) Q E s := le_int (by rw [decide_eq_true h]; exact q)
theorem leF (h : ¬ a ≤ b) (q : Q (.bool false) s) : wpAny (model prog w) A (compareOp .LtE (.int a t) (.int b u)) Q E s := le_int (by rw [decide_eq_false h]; exact q)
theorem addZ (q : ∀ t' k, Q (.int (a + b) t') ⟨h, g, d, k, o⟩) : wpAny (model prog w) A (binaryOp .Add (.int a t) (.int b u)) Q E ⟨h, g, d, tk, o⟩ := add_int (q _ _)
theorem subZ (q : ∀ t' k, Q (.int (a - b) t') ⟨h, g, d, k, o⟩) : wpAny (model prog w) A (binaryOp .Sub (.int a t) (.int b u)) Q E ⟨h, g, d, tk, o⟩ := sub_int (q _ _)
theorem mulZ (q : ∀ t' k, Q (.int (a * b) t') ⟨h, g, d, k, o⟩) (hm : IntMulOk a b := by mul_fits) : wpAny (model prog w) A (binaryOp .Mult (.int a t) (.int b u)) Q E ⟨h, g, d, tk, o⟩ := mul_int (q _ _) hm
theorem modZ (hb : b ≠ 0) (q : ∀ t' k, Q (.int (a.fmod b) t') ⟨h, g, d, k, o⟩) : wpAny (model prog w) A (binaryOp .Mod (.int a t) (.int b u)) Q E ⟨h, g, d, tk, o⟩ := mod_int' hb (q _ _)
theorem itemZ {value slice : PySem.Expr} {b : Array UInt8} {t : Tok} {ks : List Int} {i : Int} {ui : Tok} (hk : KBw.bInts b = ks) (hfit : ks.length ≤ 1099511627776) (h0 : 0 ≤ i) (h1 : i < (ks.length : Int))
    (q : ∀ t' k, 0 ≤ ks.getD i.toNat 0 → ks.getD i.toNat 0 < 256 → Q (.int (ks.getD i.toNat 0) t') ⟨h, g, d, k, o⟩)
    (hs : subscripted slice false (.bytes b t) (.int i ui) = operate [.bytes b t, .int i ui] (getItem (.bytes b t) (.int i ui)) := by with_unfolding_all rfl)
    (ht : ∀ r, letTemporaryGo value (.bytes b t) r = pure () := by intro _; with_unfolding_all rfl) : wpAny (model prog w) A (subscriptTail value slice (.bytes b t) (.int i ui)) Q E ⟨h, g, d, tk, o⟩ :=
  KBw.item_K hk hfit h0 h1 (fun t' k a b => q t' k a b) hs ht
theorem stritemZ {value slice : PySem.Expr} {x : Str} {t : Tok} {a b : Int} {u : Tok} (hb0 : 0 < b) (hb : b ≤ (x.length : Int)) (hx : (x.length : Int) < 9223372036854775808)
    (q : ∀ t' k, (Txt.item x (a.fmod b)).length = 1 → Q (.str (Txt.item x (a.fmod b)) t') ⟨h, g, d, k, o⟩)
    (hs : subscripted slice false (.str x t) (.int (a.fmod b) u) = operate [.str x t, .int (a.fmod b) u] (getItem (.str x t) (.int (a.fmod b) u)) := by with_unfolding_all rfl)
    (ht : ∀ r, letTemporaryGo value (.str x t) r = pure () := by intro _; with_unfolding_all rfl) : wpAny (model prog w) A (subscriptTail value slice (.str x t) (.int (a.fmod b) u)) Q E ⟨h, g, d, tk, o⟩ :=
  item_str_fmod hb0 hb hx (fun z => q _ _ (by omega)) hs ht
theorem iaddZ {x y : Str} {t u : Tok} (hsz : x.length + y.length ≤ sizeLine) (q : ∀ t' k, (x ++ y).length = x.length + y.length → Q (.str (x ++ y) t') ⟨h, g, d, k, o⟩) : wpAny (model prog w) A (inplaceOp .Add (.str x t) (.str y u)) Q E ⟨h, g, d, tk, o⟩ :=
  iadd_str (fun t' k => q t' k (Str.length_append x y)) hsz
end
end
section
section
variable {prog : Program} {w : World} {A A₀ : Around} {s : Shared} {K : Frag} {L : Addr} {h₀ base : Heap} {m mg mb : Str → Option Value} {p : Program} {loose : List Str} {mean : ExcName → Option Value}
  {env : Env} {outer : List Env} {R : Result → Shared → Prop} {name qual : Str} {params : Arguments} {body : List Stmt} {scope : Scope} {dV kV doc pm cdv ct oc : Value} {an od : Option Addr} {osl : Array (Option Value)} {f : Addr} {args : Args} {binds : List (Str × Value)}
/-- a def entered from a state that is wholly kept -/
theorem enterK (B : Below A₀ base outer h₀) (F : Fr h₀ L s.heap m) (X₀ : K.In h₀) (T : Top p loose mean mg mb h₀) (hA : A.frames = some (env :: outer)) (hf : env.frame = some L) (hke : env.scope.kind = .function)
    (ho : K.lookup f = some ⟨oc, od, .func (fnOf name qual params body scope dV kV doc pm an cdv ct), osl⟩) (hcd : codeIn K cdv qual = true) (hroom : A.depth < recursionLimit)
    (hbind : BindsTo s (fnOf name qual params body scope dV kV doc pm an cdv ct) args binds) (hloc : ∀ y ∈ binds, scope.names.lookup y.1 = some .local)
    (h : ∀ L' h₁, Fr s.heap L' h₁ (fun y => binds.reverse.lookup y) → News s.heap L' h₁ [] → Below A base (env :: outer) s.heap → K.In s.heap → Top p loose mean mg mb s.heap →
      wpAny (model prog w) (A.deeper (envOf qual scope L' f cdv)) (execs body (envOf qual scope L' f cdv))
        (fun fl s' => R (.ok (.ret (match fl with | .ret v => v | _ => .none))) s')
        (fun e s' => wpAny (model prog w) (A.deeper (envOf qual scope L' f cdv)) (leaving (envOf qual scope L' f cdv) e) (fun _ s'' => R (.error e) s'') (fun e' s'' => R (.error e') s'') s')
        { s with heap := h₁, toks := s.toks + binds.length })
    (hco : scope.isCoroutine = false) (hgen : scope.isGenerator = false) (hk : scope.kind = .function)
    (hcell : ∀ x ∈ scope.names, x.2 ≠ .cell) : codeAny (model prog w) A (.call (.ref f) args) R s := by
  obtain ⟨FG, BG, st, lv⟩ := groundX (R := R) B F (News.nil : News h₀ L s.heap []) hA hf hke
  refine codeAny_call_def (fd := fnX name qual params body scope [] dV kV doc pm an cdv ct) (body := body) (binds := binds) hroom ((X₀.keeps F.keep) _ _ ho) rfl (T.nolimit.keeps F.keep) (codeRec_of (X₀.keeps F.keep) hcd) rfl hbind hcell hloc (fun h₁ hns hk₁ => ?_) hco hgen hk
  exact h s.heap.objs.size h₁ ⟨hns, hk₁, Nat.le_refl _⟩ News.nil BG (X₀.keeps st) (T.keeps st)
theorem enterKC (B : Below A₀ base outer h₀) (F : Fr h₀ L s.heap m) (X₀ : K.In h₀) (T : Top p loose mean mg mb h₀) (hA : A.frames = some (env :: outer)) (hf : env.frame = some L) (hke : env.scope.kind = .function)
    (ho : K.lookup f = some ⟨oc, od, .func (fnOf name qual params body scope dV kV doc pm an cdv ct), osl⟩) (hcd : codeIn K cdv qual = true) (hroom : A.depth < recursionLimit)
    (hbind : BindsTo s (fnOf name qual params body scope dV kV doc pm an cdv ct) args binds) (hkind : (binds.all fun y => scope.names.lookup y.1 == some .local || scope.names.lookup y.1 == some .cell) = true)
    (hnd : ((cellsFrom 0 scope.names []).map (·.1)).Nodup)
    (h : ∀ L' h₁ tk cells, Fr s.heap L' h₁ (bindL (envOfC qual scope L' f cdv).kindOf binds fun _ => none) → News s.heap L' h₁ cells →
      CellsAre (bindC (envOfC qual scope L' f cdv).kindOf binds fun _ => none) (cellsFrom (L' + 1) scope.names []) cells → Below A base (env :: outer) s.heap → K.In s.heap → Top p loose mean mg mb s.heap →
      wpAny (model prog w) (A.deeper (envOfC qual scope L' f cdv)) (execs body (envOfC qual scope L' f cdv))
        (fun fl s' => R (.ok (.ret (match fl with | .ret v => v | _ => .none))) s')
        (fun e s' => wpAny (model prog w) (A.deeper (envOfC qual scope L' f cdv)) (leaving (envOfC qual scope L' f cdv) e) (fun _ s'' => R (.error e) s'') (fun e' s'' => R (.error e') s'') s')
        { s with heap := h₁, toks := tk })
    (hco : scope.isCoroutine = false) (hgen : scope.isGenerator = false) (hk : scope.kind = .function) : codeAny (model prog w) A (.call (.ref f) args) R s := by
  obtain ⟨FG, BG, st, lv⟩ := groundX (R := R) B F (News.nil : News h₀ L s.heap []) hA hf hke
  refine codeAny_call_function hroom ((X₀.keeps F.keep) _ _ ho) rfl hco hgen rfl (codeRec_of (X₀.keeps F.keep) hcd) (hbind _ _ _ _ ?_)
  refine wpAny_newFunctionEnv_cells hk (kindsX hkind _) fun env' he s' x => ?_
  subst he
  refine ⟨(T.nolimit.keeps F.keep).keeps x.toInCall.keep, codeAny_func ?_⟩
  obtain ⟨h₁, tk, rfl, _⟩ := x.done
  have hk₁ := x.toInCall.keep
  obtain ⟨cells, NC, Y⟩ := Cl.news (h₀ := s.heap) (Nat.le_refl _) fun n c hm => ⟨x.cell n c (lookup_of_mem_nodup (cellsFrom_names scope.names 0 (s.heap.objs.size + 1) [] [] rfl ▸ hnd) hm), x.above n c hm⟩
  exact h s.heap.objs.size h₁ tk cells ⟨x.toInCall.ns, hk₁, Nat.le_refl _⟩ (fun p hp => NC p hp) Y BG (X₀.keeps st) (T.keeps st)
end
theorem offL {d : Addr} : ∀ {l : List (Addr × Obj)}, AllLt d l → ∀ p ∈ l, p.1 ≠ d
  | [], _, _, hp => nomatch hp
  | _ :: _, h, p, hp => by
    cases hp with
    | head => exact Nat.ne_of_lt h.1
    | tail _ hp => exact offL h.2 p hp
end
section
theorem zw_Ch_1 : True := by
  k_with_none
  k_with "exec Assign" => (k_here; (fail_if_success (with_reducible show wpAny _ _ _ (CutQ _) _ _)); (refine cutQ fun cutQ0 cutH0 => ?_))
  k_with "exec AugAssign" => (k_here; (fail_if_success (with_reducible show wpAny _ _ _ (CutQ _) _ _)); (refine cutQ fun cutQ0 cutH0 => ?_))
  k_with "exec Expr" => (k_here; (fail_if_success (with_reducible show wpAny _ _ _ (CutQ _) _ _)); (refine cutQ fun cutQ0 cutH0 => ?_))
  k_with "CutQ" => ((with_reducible rename (∀ f s', _ → CutQ _ f s') => cutH1); (refine cutH1 _ _ ?_); clear cutH1; (try dsimp only))
  k_with "call ref" => (k_here; (with_reducible show wpAny _ _ (call (Value.ref _) _) _ _ _); (refine wpAny_call ?_); (try dsimp only [List.nil_append, List.cons_append]); k_dflt (refine' code_def (by k_asm) (by k_asm) (by k_asm) (by k_asm) (by k_asm) (by exact rfl) (by exact rfl) (by first | exact rfl | assumption) (by k_is) (by k_is) (by ktr_room) (by first | exact BindsTo.of_eq rfl | exact binds_K (by k_in) rfl (by k_is) rfl rfl rfl) (by exact locs rfl) ?_ (by exact rfl) (by exact rfl) (by exact rfl) (by decide); k_whole; intro g'ₘ560 L'ₘ560 h'ₘ560 FG'ₘ560 F'ₘ560 N'ₘ560 B'ₘ560 X'ₘ560 T'ₘ560; (try dsimp only); (try k_lift B'ₘ560); (try k_fold)))
  trivial
section
theorem zw_Ch_2 : True := by
  k_with "binaryOp Mod int int" => (k_here; (with_reducible refine mod_int' (by with_reducible assumption) ?_))
  k_with "call ref" => (k_here; (with_reducible show wpAny _ _ (call (Value.ref _) [Value.bytes _ _, Value.str _ _]) _ _ _); kfb_any; k_dflt (refine call_bigL (by k_asm) (by k_mem) (by kba_ints2) (by kfb_size) ?_); intro _ _)
  trivial
theorem c_hash : ∀ (w : World) (p : Program) (loose : List Str) (mean : ExcName → Option Value) (mg mb : Str → Option Value) (b : Array UInt8) (tb : CbTok) (ks : List Int) (k : Int) (tk : CbTok) (sz : Nat) (tsz : CbTok) (dp un : Nat) (gd : Option (List Code)) (cn : Str) (cs : Scope) (a : Addr) (ccd : Value) (cl : List (Str × Addr)) (outer : List Env) (A₀ : Around) (base h₀ : Heap) (L : Addr) (m : Str → Option Value) (s : Shared) (Q E : Value → Shared → Prop)
  (B : Below A₀ base outer h₀) (F : Fr h₀ L s.heap m) (X : (KF w.params).In h₀) (T : Top p loose mean mg mb h₀) (hcs : cs.kind = .function) (hdp : dp + 2 < recursionLimit) (hun : un + 12 < cLine)
  (hks : KBw.bInts b = ks) (hk0 : 0 ≤ k) (hk3 : k < 3) (hsz : sz = 32 ∨ sz = 64) (hlen : ks.length ≤ 20000)
  (hret : ∀ (h' : Heap) (tk' : Nat) (hk' : ∀ b o, s.heap.get? b = some o → h'.get? b = some o) (r : Array UInt8) (t : Tok), KBw.bInts r = hashI k sz ks → (hashI k sz ks).length = sz → Q (.bytes r t) { s with heap := h', toks := tk' }),
  wpAny (model rw_iw0011_01.row.prog w) (ktrTop dp un gd cn cs L a ccd cl outer) (call (.ref 686) [.bytes b tb, .int k tk, .int (sz : Int) tsz]) Q E s := by
  k_fill
  intro w p loose mean mg mb b tb ks k tk sz tsz dp un gd cn cs a ccd cl outer A₀ base h₀ L m s Q E B F X T hcs hdp hun hks hk0 hk3 hsz hlen hret
  refine wpAny_call ?_
  k_dflt (refine' enterK (binds := [(Str.ofString "octets", .bytes b tb), (Str.ofString "kind", .int k tk), (Str.ofString "size", .int (sz : Int) tsz)]) B F X T ?kA ?kF ?kK ?k6 ?k7 ?k8 ?k9 ?kB ?_ ?c2 ?c3 ?c4 ?c5; (case kA => exact rfl); (case kF => exact rfl); (case kK => assumption); (case k6 => k_is); (case k7 => k_is); (case k8 => ktr_room); (case k9 => first | exact BindsTo.of_eq rfl | exact binds_K (by k_in) rfl (by k_is) rfl rfl rfl); (case c5 => decide); (case kB => exact locs rfl); (case c2 => exact rfl); (case c3 => exact rfl); (case c4 => exact rfl); k_whole; clear B F X T; intro L' h' F' N' B' X' T'; (try dsimp only); (try k_lift B'); (try k_fold))
  w_strict k_steps
  have hv : KBw.bInts (#[1] ++ b) = List.map (fun c : UInt8 => ((c.toNat : Nat) : Int)) [1] ++ ks := KBw.ints_app rfl hks
  refine mul_int ?_ (mulOk_of (j := 160008) (k := 300) (Nat.le_trans (value_bits _ hv) (by simp only [List.length_append, List.length_map, List.length_cons, List.length_nil]; omega)) (odds_bits k.toNat) (by decide))
  have hP : ∃ P : Int, KFB.value (List.map (fun c : UInt8 => ((c.toNat : Nat) : Int)) [1] ++ ks) * odds.getD k.toNat 0 = P := ⟨_, rfl⟩
  obtain ⟨P, hP⟩ := hP
  have hP' : KFB.value (List.map (fun c : UInt8 => ((c.toNat : Nat) : Int)) [1] ++ ks) * [71563446777022297856526126342750658392501306254664949883333486863006233104021, 4773980362247784071161623098874410743163180091984342855267, 97206616130828737543861310187857753877470148303805253470682226031856143877859].getD k.toNat 0 = P := hP
  rw [hP']
  have e8 : (8 * (sz : Int)).toNat = 8 * sz := by omega
  have hne : (2 : Int) ^ (8 * (sz : Int)).toNat - 189 ≠ 0 := by rw [e8]; rcases hsz with h | h <;> subst h <;> decide
  have hlt : (2 : Int) ^ (8 * (sz : Int)).toNat - 189 ≤ 256 ^ sz := by rw [e8]; rcases hsz with h | h <;> subst h <;> decide
  have hps : 0 < (2 : Int) ^ (8 * (sz : Int)).toNat - 189 := by rw [e8]; rcases hsz with h | h <;> subst h <;> decide
  w_strict k_steps
  refine to_bigL (k := sz) (by omega) ?_ ?_ ?_
  · rw [Int.fmod_eq_emod_of_nonneg _ (Int.le_of_lt hps)]; exact Int.emod_nonneg _ hne
  · rw [Int.fmod_eq_emod_of_nonneg _ (Int.le_of_lt hps)]; exact Int.lt_of_lt_of_le (Int.emod_lt_of_pos _ hps) hlt
  intro r t' k' hr hrl
  dsimp only
  w_strict k_steps
  refine hret _ _ (Fr.keep (by k_asm)) r t' ?_ (hashI_length _ _ _)
  rw [hr]
  unfold hashI
  rw [← hP, e8]
  rfl
end
theorem zw_Ch_3 : True := by
  k_with_none
  k_with "exec Assign" => (k_here; (fail_if_success (with_reducible show wpAny _ _ _ (CutQ _) _ _)); (refine cutQ fun cutQ0 cutH0 => ?_))
  k_with "exec AugAssign" => (k_here; (fail_if_success (with_reducible show wpAny _ _ _ (CutQ _) _ _)); (refine cutQ fun cutQ0 cutH0 => ?_))
  k_with "exec Expr" => (k_here; (fail_if_success (with_reducible show wpAny _ _ _ (CutQ _) _ _)); (refine cutQ fun cutQ0 cutH0 => ?_))
  k_with "CutQ" => ((with_reducible rename (∀ f s', _ → CutQ _ f s') => cutH1); (refine cutH1 _ _ ?_); clear cutH1; (try dsimp only))
  k_with "call ref" => (k_here; (with_reducible show wpAny _ _ (call (Value.ref _) _) _ _ _); (refine wpAny_call ?_); (try dsimp only [List.nil_append, List.cons_append]); k_dflt (refine' code_def (by k_asm) (by k_asm) (by k_asm) (by k_asm) (by k_asm) (by exact rfl) (by exact rfl) (by first | exact rfl | assumption) (by k_is) (by k_is) (by ktr_room) (by first | exact BindsTo.of_eq rfl | exact binds_K (by k_in) rfl (by k_is) rfl rfl rfl) (by exact locs rfl) ?_ (by exact rfl) (by exact rfl) (by exact rfl) (by decide); k_whole; intro g'ₘ560 L'ₘ560 h'ₘ560 FG'ₘ560 F'ₘ560 N'ₘ560 B'ₘ560 X'ₘ560 T'ₘ560; (try dsimp only); (try k_lift B'ₘ560); (try k_fold)))
  trivial
end
end
section
theorem zw_Cr_1 : True := by
  k_with_none
  k_with "exec Assign" => (k_here; (fail_if_success (with_reducible show wpAny _ _ _ (CutQ _) _ _)); (refine cutQ fun cutQ0 cutH0 => ?_))
  k_with "exec AugAssign" => (k_here; (fail_if_success (with_reducible show wpAny _ _ _ (CutQ _) _ _)); (refine cutQ fun cutQ0 cutH0 => ?_))
  k_with "exec Expr" => (k_here; (fail_if_success (with_reducible show wpAny _ _ _ (CutQ _) _ _)); (refine cutQ fun cutQ0 cutH0 => ?_))
  k_with "CutQ" => ((with_reducible rename (∀ f s', _ → CutQ _ f s') => cutH1); (refine cutH1 _ _ ?_); clear cutH1; (try dsimp only))
  k_with "binaryOp Mult bytes int" => (k_here; (with_reducible show wpAny _ _ (binaryOp Operator.Mult (Value.bytes _ _) (Value.int _ _)) _ _ _); (refine bmul_K (by first | (with_reducible assumption) | kba_ints) (by first | omega | assumption) (by first | omega | assumption) (by first | assumption | omega) (by first | assumption | omega) ?_); intro _ _ _ bmHₘ806)
  trivial
/-- repeat_string on lists of octets -/
def repI (ks : List Int) (n : Nat) : List Int := ((List.replicate (1 + ((n : Int) - 1).fdiv ks.length).toNat ks).flatten).take n
theorem c_rep : ∀ (w : World) (p : Program) (loose : List Str) (mean : ExcName → Option Value) (mg mb : Str → Option Value) (b : Array UInt8) (tb : CbTok) (ks : List Int) (n : Nat) (tn : CbTok) (dp un : Nat) (gd : Option (List Code)) (cn : Str) (cs : Scope) (a : Addr) (ccd : Value) (cl : List (Str × Addr)) (outer : List Env) (A₀ : Around) (base h₀ : Heap) (L : Addr) (m : Str → Option Value) (s : Shared) (Q E : Value → Shared → Prop)
  (B : Below A₀ base outer h₀) (F : Fr h₀ L s.heap m) (X : (KF w.params).In h₀) (T : Top p loose mean mg mb h₀) (hcs : cs.kind = .function) (hdp : dp + 2 < recursionLimit) (hun : un + 12 < cLine)
  (hks : KBw.bInts b = ks) (hk0 : 0 < ks.length) (hlen : ks.length ≤ 64) (hn : n ≤ 200)
  (hret : ∀ (h' : Heap) (tk' : Nat) (hk' : ∀ b o, s.heap.get? b = some o → h'.get? b = some o) (r : Array UInt8) (t : Tok), KBw.bInts r = repI ks n → Q (.bytes r t) { s with heap := h', toks := tk' }),
  wpAny (model rw_iw0011_01.row.prog w) (ktrTop dp un gd cn cs L a ccd cl outer) (call (.ref 70) [.bytes b tb, .int (n : Int) tn]) Q E s := by
  k_fill
  intro w p loose mean mg mb b tb ks n tn dp un gd cn cs a ccd cl outer A₀ base h₀ L m s Q E B F X T hcs hdp hun hks hk0 hlen hn hret
  have hne : (ks.length : Int) ≠ 0 := by omega
  have hdiv : -1 ≤ ((n : Int) - 1).fdiv ks.length ∧ ((n : Int) - 1).fdiv ks.length ≤ 200 := by
    rw [Int.fdiv_eq_ediv_of_nonneg _ (by omega)]
    have h1 := Int.ediv_le_ediv (show (0 : Int) < ks.length by omega) (show (n : Int) - 1 ≤ 200 * ks.length by omega)
    have h2 := Int.ediv_le_ediv (show (0 : Int) < ks.length by omega) (show -1 * (ks.length : Int) ≤ (n : Int) - 1 by omega)
    rw [Int.mul_ediv_cancel _ hne] at h1 h2
    exact ⟨h2, h1⟩
  have hmul : ks.length * (1 + ((n : Int) - 1).fdiv ks.length).toNat ≤ 16777216 := by
    have h3 : (1 + ((n : Int) - 1).fdiv ks.length).toNat ≤ 201 := by omega
    have := Nat.mul_le_mul hlen h3
    omega
  have hfl : ((List.replicate (1 + ((n : Int) - 1).fdiv ks.length).toNat ks).flatten).length ≤ 16777216 := by
    rw [List.length_flatten, List.map_replicate, List.sum_replicate_nat, Nat.mul_comm]
    exact hmul
  refine wpAny_call ?_
  k_dflt (refine' enterK (binds := [(Str.ofString "source", .bytes b tb), (Str.ofString "size", .int (n : Int) tn)]) B F X T ?kA ?kF ?kK ?k6 ?k7 ?k8 ?k9 ?kB ?_ ?c2 ?c3 ?c4 ?c5; (case kA => exact rfl); (case kF => exact rfl); (case kK => assumption); (case k6 => k_is); (case k7 => k_is); (case k8 => ktr_room); (case k9 => first | exact BindsTo.of_eq rfl | exact binds_K (by k_in) rfl (by k_is) rfl rfl rfl); (case c5 => decide); (case kB => exact locs rfl); (case c2 => exact rfl); (case c3 => exact rfl); (case c4 => exact rfl); k_whole; clear B F X T; intro L' h' F' N' B' X' T'; (try dsimp only); (try k_lift B'); (try k_fold))
  w_strict k_steps
  (rename KBw.bInts (KBy.picked _ _ _) = _ => kc)
  refine hret _ _ (Fr.keep (by k_asm)) _ _ ?_
  rw [kc]
  unfold repI
  first | exact List.take_eq_take_min.symm | simp [← List.take_eq_take_min] | (rw [← List.take_eq_take_min])
end
section
local macro_rules | `(tactic| omega) => `(tactic| lia)
section
theorem zw_Cw_1 : True := by
  k_with_none
  k_with "exec Assign" => (k_here; (fail_if_success (with_reducible show wpAny _ _ _ (CutQ _) _ _)); (refine cutQ fun cutQ0 cutH0 => ?_))
  k_with "exec AugAssign" => (k_here; (fail_if_success (with_reducible show wpAny _ _ _ (CutQ _) _ _)); (refine cutQ fun cutQ0 cutH0 => ?_))
  k_with "exec Expr" => (k_here; (fail_if_success (with_reducible show wpAny _ _ _ (CutQ _) _ _)); (refine cutQ fun cutQ0 cutH0 => ?_))
  k_with "CutQ" => ((with_reducible rename (∀ f s', _ → CutQ _ f s') => cutH1); (refine cutH1 _ _ ?_); clear cutH1; (try dsimp only))
  trivial
/-- the row: octets said over and over, to a size -/
@[irreducible] def rowI (ks : List Int) (n : Nat) : List Int := (List.range n).map fun k => ks.getD (k % ks.length) 0
theorem c_row : ∀ (w : World) (p : Program) (loose : List Str) (mean : ExcName → Option Value) (mg mb : Str → Option Value) (b : Array UInt8) (tb : CbTok) (ks : List Int) (n : Nat) (tn : CbTok) (dp un : Nat) (gd : Option (List Code)) (cn : Str) (cs : Scope) (a : Addr) (ccd : Value) (cl : List (Str × Addr)) (outer : List Env) (A₀ : Around) (base h₀ : Heap) (L : Addr) (m : Str → Option Value) (s : Shared) (Q E : Value → Shared → Prop)
  (B : Below A₀ base outer h₀) (F : Fr h₀ L s.heap m) (X : (KF w.params).In h₀) (T : Top p loose mean mg mb h₀) (hcs : cs.kind = .function) (hdp : dp + 2 < recursionLimit) (hun : un + 12 < cLine)
  (hks : KBw.bInts b = ks) (hk0 : 0 < ks.length) (hlen : ks.length ≤ 64) (hn : n ≤ 200)
  (hret : ∀ (h' : Heap) (tk' : Nat) (hk' : ∀ b o, s.heap.get? b = some o → h'.get? b = some o) (r : Array UInt8) (t : Tok), KBw.bInts r = rowI ks n → (rowI ks n).length = n → Q (.bytes r t) { s with heap := h', toks := tk' }),
  wpAny (model rw_iw0011_01.row.prog w) (ktrTop dp un gd cn cs L a ccd cl outer) (call (.ref 691) [.bytes b tb, .int (n : Int) tn]) Q E s := by
  k_fill
  intro w p loose mean mg mb b tb ks n tn dp un gd cn cs a ccd cl outer A₀ base h₀ L m s Q E B F X T hcs hdp hun hks hk0 hlen hn hret
  refine wpAny_call ?_
  k_dflt (refine' enterKC (binds := [(Str.ofString "octets", .bytes b tb), (Str.ofString "size", .int (n : Int) tn)]) B F X T ?kA ?kF ?kK ?k6 ?k7 ?k8 ?k9 ?kB ?kD ?_ ?c2 ?c3 ?c4; (case kA => exact rfl); (case kF => exact rfl); (case kK => assumption); (case k6 => k_is); (case k7 => k_is); (case k8 => ktr_room); (case k9 => first | exact BindsTo.of_eq rfl | exact binds_K (by k_in) rfl (by k_is) rfl rfl rfl); (case kB => exact rfl); (case kD => decide +kernel); (case c2 => exact rfl); (case c3 => exact rfl); (case c4 => exact rfl); k_whole; clear B F X T; intro L' h' tk' cells' F' N' Y' B' X' T'; k_cells Y'; (try simp only [List.cons_append, List.nil_append] at N'); (try dsimp only); (try k_lift B'); (try k_fold))
  w_strict k_steps
  refine hret _ _ (Fr.keep (by k_asm)) _ _ ?_ (by simp [rowI])
  rw [KBa.ints_make (by assumption)]
  have hin : ∀ j : Nat, 0 ≤ ks.getD j 0 ∧ ks.getD j 0 < 256 := fun j => KBw.getD_in fun k hk => KBw.ints_in (hks ▸ hk)
  unfold rowI
  have er : rangeKs 0 ((n : Int) - 0).toNat = (List.range n).map fun i : Nat => (i : Int) := by
    have e : ((n : Int) - 0).toNat = n := by omega
    rw [e]; simp [rangeKs]
  rw [er, List.map_map]
  refine List.map_congr_left fun i hi => ?_
  show (if _ then _ else _) = _
  rw [if_pos (hin _)]
  congr 1
  rw [Int.fmod_eq_emod_of_nonneg _ (by omega), ← Int.natCast_emod]
  omega
end
section
open Builtin
def bOf : Value → Array UInt8
  | .bytes b _ => b
  | _ => #[]
def AllBytes (vs : List Value) : Prop := ∀ v ∈ vs, ∃ b t, v = Value.bytes b t
def catI (vs : List Value) : List Int := (vs.map fun v => KBw.bInts (bOf v)).flatten
theorem slot_join : Slot "bytes" "join" "bytes.join" :=
  .of (owner := "bytes") (n := "join") (by rw [typeLookup_type, builtinLookup_eq_fast]; kernel_rfl) (by decide +kernel) (by decide +kernel) (by decide +kernel)
    (by first | exact .inl (by decide +kernel) | exact .inr (by decide +kernel)) (by rw [isSubtype_type]; kernel_rfl)
theorem type_join : typeOf (.builtin "bytes.join") = pure (.type "method_descriptor") := by show builtinType _ = _; rw [builtinType_eq_fast]; kernel_rfl
theorem entry_join : entryFor table "bytes.join" = some Builtin.«bytes.join» := by first | exact entryFor_of_fast (by kernel_rfl) | exact entryFor_of_tree (by kernel_rfl)
theorem args_join (a b : Value) : argsOk "bytes.join" ⟨[a, b], []⟩ := by unfold argsOk; kernel_rfl
theorem noI_bytes_add : typeLookup (.type "bytes") (dunderI "add") = pure none := by rw [typeLookup_type, builtinLookup_eq_fast]; kernel_rfl
section
variable {prog : Program} {w : World} {M : Model} {A : Around} {E : Value → Shared → Prop} {s : Shared}
theorem iadd_bytes {b c : Array UInt8} {t u : Tok} {Q : Value → Shared → Prop} (hsz : b.size + c.size ≤ 16777216) (h : ∀ t' k, Q (.bytes (b ++ c) t') { s with toks := k }) : wpAny (model prog w) A (inplaceOp .Add (.bytes b t) (.bytes c u)) Q E s := by
  refine inplaceOp_concat (typeIs_bytes s b t) (typeIs_bytes s c u) noI_bytes_add KBy.noFill_bytes_add KBy.seq_bytes_add ?_
  refine call_gives FB.slot_bytes_add (typeIs_bytes s b t) FB.entry_bytes_add (FB.args_bytes_add_2 _ _) (KBy.gives_bytes_add (KBy.tooLong_not hsz)) ?_
  by_cases hb : b.isEmpty = true
  · rw [if_pos hb]
    have e : b = #[] := Array.isEmpty_iff.1 hb
    have h' := h u s.toks
    rw [e, Array.empty_append] at h'
    exact h'
  · rw [if_neg hb]
    by_cases hc : c.isEmpty = true
    · rw [if_pos hc]
      have e : c = #[] := Array.isEmpty_iff.1 hc
      have h' := h t s.toks
      rw [e, Array.append_empty] at h'
      exact h'
    · rw [if_neg hc]
      exact ⟨by rw [Array.size_append, sizeLine_eq]; exact hsz, h s.toks (s.toks + 1)⟩
theorem iaddB_K {b c : Array UInt8} {t u : Tok} {ks ls : List Int} {Q : Value → Shared → Prop} (hb : KBw.bInts b = ks) (hc : KBw.bInts c = ls) (hsz : ks.length + ls.length ≤ 16777216) (h : ∀ t' k, KBw.bInts (b ++ c) = ks ++ ls → Q (.bytes (b ++ c) t') { s with toks := k }) : wpAny (model prog w) A (inplaceOp .Add (.bytes b t) (.bytes c u)) Q E s :=
  iadd_bytes (by rw [← KBw.ints_length b, ← KBw.ints_length c, hb, hc]; exact hsz) fun t' k => h t' k (KBw.ints_app hb hc)
theorem take_eq {b : Array UInt8} {t : Tok} {id : String} : Bytes.takeBuffer? id (.bytes b t) 0 = pure (some (b, none)) := by
  unfold Bytes.takeBuffer?
  rw [KBy.special_eq KBy.look_buffer]
  show (Bytes.slotIsOwn (.bytes b t) "__buffer__" >>= fun r => _) = _
  rw [KBy.own_buffer]
  show (Bytes.buffer? id (.bytes b t) (0 == Bytes.fullReadOnly) >>= fun r => _) = _
  rw [show (0 == Bytes.fullReadOnly) = false by decide, KBy.buffer_eq]
  rfl
theorem joinLetGo_eq {keep : List Value} {Q : Unit → Shared → Prop} : ∀ (vs : List Value), Q () s → wpAny M A (Bytes.joinLetGo (vs.map fun v => (v, none)) keep) Q E s
  | [], h => wpAny_pure h
  | v :: r, h => by
    show wpAny M A (letGo (v :: []) _ >>= fun _ => Bytes.joinLetGo (r.map fun v => (v, none)) keep) Q E s
    exact wpAny_bind (wpAny_letGo (joinLetGo_eq r h))
theorem takeQ {b : Array UInt8} {t : Tok} {id : String} {Q : Option (Array UInt8 × Option Value) → Shared → Prop} (h : Q (some (b, none)) s) : wpAny M A (Bytes.takeBufferQuiet? id (.bytes b t) 0) Q E s := by
  unfold Bytes.takeBufferQuiet?
  rw [take_eq]
  refine wpAny_bind (wpAny_attempt (wpAny_pure ?_))
  exact wpAny_pure h
theorem heap_none : ∀ (vs : List Value), AllBytes vs → ((vs.map fun v => (v, (none : Option Value))).any fun x => x.1.onHeap) = false
  | [], _ => rfl
  | v :: r, h => by
    obtain ⟨b, t, rfl⟩ := h v (.head _)
    rw [List.map_cons, List.any_cons, heap_none r fun x hx => h x (.tail _ hx)]
    rfl
theorem foldl_sizes : ∀ (l : List (Array UInt8)) (a : Nat), l.foldl (fun x y => x + y.size) a = a + (l.map fun y => y.size).sum
  | [], a => by simp
  | x :: r, a => by rw [List.foldl_cons, foldl_sizes r, List.map_cons, List.sum_cons]; omega
theorem joined_nil : ∀ (l : List (Array UInt8)), Bytes.joined #[] l = (l.map Array.toList).flatten.toArray := by
  have h : ∀ (l : List (Array UInt8)) (j : Nat) (a : Array UInt8), (l.zipIdx j).foldl (fun out (x : Array UInt8 × Nat) => (if x.2 > 0 then out ++ #[] else out) ++ x.1) a = a ++ (l.map Array.toList).flatten.toArray := by
    intro l
    induction l with
    | nil => intro j a; simp
    | cons x r ih =>
      intro j a
      rw [List.zipIdx_cons, List.foldl_cons, ih]
      have : (if j > 0 then a ++ #[] else a) = a := by split <;> simp
      show (if j > 0 then a ++ #[] else a) ++ x ++ _ = _
      rw [this, List.map_cons, List.flatten_cons, Array.append_assoc]
      congr 1
      simp
  intro l
  have := h l 0 #[]
  rw [Array.empty_append] at this
  exact this
theorem catI_joined (vs : List Value) : KBw.bInts (Bytes.joined #[] (vs.map bOf)) = catI vs := by
  rw [joined_nil]
  show ((List.map Array.toList (List.map bOf vs)).flatten).map _ = _
  rw [List.map_flatten, List.map_map, List.map_map]
  rfl
abbrev jSt (vs : List Value) : Array (Array UInt8) × List (Value × Option Value) := ((vs.map bOf).toArray, vs.map fun v => (v, none))
theorem loopI {f : Nat → Array (Array UInt8) × List (Value × Option Value) → Sem (ForInStep (Array (Array UInt8) × List (Value × Option Value)))} {vs : List Value} {Q : Array (Array UInt8) × List (Value × Option Value) → Shared → Prop}
    (hf : ∀ i, i < vs.length → wpAny M A (f i (jSt (vs.take i))) (fun r s' => r = .yield (jSt (vs.take (i + 1))) ∧ s' = s) E s) (h : Q (jSt vs) s) : wpAny M A (forIn [:vs.toArray.size] (#[], []) f) Q E s := by
  rw [Std.Legacy.Range.forIn_eq_forIn_range']
  simp only [Std.Legacy.Range.size, Nat.sub_zero, Nat.add_sub_cancel, Nat.div_one]
  have hz : vs.toArray.size = vs.length := by simp
  rw [hz]
  refine wpAny_forIn_list f (fun rest st s' => s' = s ∧ ∃ i, i ≤ vs.length ∧ rest = List.range' i (vs.length - i) ∧ st = jSt (vs.take i)) _ ?_ ?_ _ _ ⟨rfl, 0, Nat.zero_le _, by simp, rfl⟩
  · rintro x rest st s' ⟨rfl, i, hi, hr, rfl⟩
    have hlt : i < vs.length := by
      rcases Nat.lt_or_ge i vs.length with h | h
      · exact h
      · rw [Nat.sub_eq_zero_of_le h] at hr; simp at hr
    obtain ⟨rfl, hrest⟩ : x = i ∧ rest = List.range' (i + 1) (vs.length - (i + 1)) := by
      have e : vs.length - i = (vs.length - (i + 1)) + 1 := by omega
      rw [e, List.range'_succ] at hr
      injection hr with h1 h2
      exact ⟨h1, h2⟩
    refine wpAny_mono (hf x hlt) (fun r s'' hr' => ?_) fun _ _ e => e
    obtain ⟨rfl, rfl⟩ := hr'
    exact ⟨rfl, x + 1, hlt, hrest, rfl⟩
  · rintro st s' ⟨rfl, i, hi, hr, rfl⟩
    have : i = vs.length := by
      rcases Nat.lt_or_ge i vs.length with h | h
      · have e : vs.length - i = (vs.length - (i + 1)) + 1 := by omega
        rw [e, List.range'_succ] at hr; cases hr
      · omega
    subst this
    rw [List.take_length]
    exact h
theorem jSt_next {vs : List Value} {i : Nat} {v : Value} (h : vs[i]? = some v) : jSt (vs.take (i + 1)) = (((vs.take i).map bOf).toArray.push (bOf v), (vs.take i).map (fun v => (v, none)) ++ [(v, none)]) := by
  have e : vs.take (i + 1) = vs.take i ++ [v] := by rw [List.take_add_one, h]; rfl
  unfold jSt
  rw [e, List.map_append, List.map_append]
  simp
theorem size_joined (vs : List Value) : (Bytes.joined #[] (vs.map bOf)).size = (vs.map fun v => (bOf v).size).sum := by
  rw [joined_nil]
  show ((List.map Array.toList (List.map bOf vs)).flatten).length = _
  rw [List.length_flatten, List.map_map, List.map_map]
  congr 1
theorem join_fin {vs : List Value} {P : Fin → Shared → Prop} (hsz : (vs.map fun v => (bOf v).size).sum ≤ 16777216) (h : ∀ r t' k, KBw.bInts r = catI vs → P (.done (.ret (.bytes r t'))) { s with toks := k })
    (K : Value → List Value) :
    wpAny M A (do
      let result ← Bytes.Kind.bytes.new (Bytes.joined #[] (jSt vs).1.toList)
      holding (K result) point
      Bytes.joinLetGo (jSt vs).2 [result]
      ret result) P E s := by
  refine wpAny_bind ?_
  show wpAny M A (mkBytes (Bytes.joined #[] (vs.map bOf))) _ E s
  refine wpAny_mkBytes ?_ (by rw [size_joined, sizeLine_eq]; exact hsz)
  refine wpAny_bind (wpAny_holding (wpAny_point ?_))
  refine wpAny_bind (joinLetGo_eq _ ?_)
  exact wpAny_pure (h _ _ _ (catI_joined vs))
theorem not_long {vs : List Value} (hsz : (vs.map fun v => (bOf v).size).sum ≤ 16777216) (z : Nat) (hz : z = 0) : Bytes.tooLong (Array.foldl (fun x1 x2 => x1 + x2.size) z (jSt vs).1) = false := by
  subst hz
  show Bytes.tooLong (Array.foldl (fun x1 (x2 : Array UInt8) => x1 + x2.size) 0 (vs.map bOf).toArray) = false
  rw [List.foldl_toArray, foldl_sizes, List.map_map, Nat.zero_add]
  exact KBy.tooLong_not hsz
theorem join_tree {l : Addr} {vs : List Value} {t : Tok} {P : Fin → Shared → Prop} (hl : s.heap.IsList l vs.toArray) (hv : AllBytes vs) (hsz : (vs.map fun v => (bOf v).size).sum ≤ 16777216)
    (h : ∀ r t' k, KBw.bInts r = catI vs → P (.done (.ret (.bytes r t'))) { s with toks := k }) :
    wpAny M A (Builtin.«bytes.join» ⟨[.bytes #[] t, .ref l], []⟩) P E s := by
  have hT := hl.typeIs
  obtain ⟨o, ho, hc, n, hd⟩ := hl
  unfold Builtin.«bytes.join» Bytes.joinM
  have hs : selfAndOne "bytes.join" ⟨[Value.bytes #[] t, Value.ref l], []⟩ = pure (Value.bytes #[] t, Value.ref l) := by first | rfl | kernel_rfl
  refine wpAny_bind (wpAny_of_eq hs ?_)
  dsimp only
  refine KFB.if_so rfl ?_
  refine wpAny_bind (m := Bytes.joinItems (.ref l)) ?_
  unfold Bytes.joinItems
  refine wpAny_bind (wpAny_typeOf hT ?_)
  refine KFB.if_so (by decide) ?_
  refine wpAny_pure ?_
  refine wpAny_bind (wpAny_seqItems ho hd ?_)
  dsimp only
  refine KFB.if_so rfl ?_
  rcases vs with _ | ⟨v, _ | ⟨v', r⟩⟩
  rotate_left
  · obtain ⟨b, tb, rfl⟩ := hv v (.head _)
    refine wpAny_bind (wpAny_typeOf (typeIs_bytes s b tb) ?_)
    refine KFB.if_so (by decide) ?_
    refine wpAny_bind (wpAny_rule ?_)
    exact wpAny_pure (h b tb s.toks (by simp [catI, bOf]))
  all_goals
    first | (show wpAny _ _ (forIn [:([] : List Value).toArray.size] (#[], []) _ >>= _) _ _ _) | (show wpAny _ _ (forIn [:(v :: v' :: r).toArray.size] (#[], []) _ >>= _) _ _ _)
    refine wpAny_bind (loopI (fun i hi => ?_) ?_)
  · obtain ⟨x, hx⟩ : ∃ x, (v :: v' :: r)[i]? = some x := ⟨_, List.getElem?_eq_getElem hi⟩
    obtain ⟨b, tb, rfl⟩ := hv x (List.mem_of_getElem? hx)
    refine wpAny_bind (wpAny_seqItems ho hd ?_)
    have hg : (v :: v' :: r).toArray.getD i Value.none = .bytes b tb := by rw [Array.getD_eq_getD_getElem?, List.getElem?_toArray, hx]; rfl
    dsimp only
    rw [hg]
    refine KFB.if_not (by rw [heap_none _ (fun y hy => hv y (List.mem_of_mem_take hy))]; rfl) ?_
    refine wpAny_bind (wpAny_holding (takeQ ?_))
    dsimp only
    refine wpAny_bind (wpAny_seqItems ho hd ?_)
    dsimp only
    refine KFB.if_not (by simp) ?_
    exact wpAny_pure ⟨by rw [jSt_next hx]; rfl, rfl⟩
  · refine wpAny_bind (wpAny_of_eq (a := #[]) rfl ?_)
    refine KFB.if_not (not_long hsz _ (by simp)) ?_
    exact join_fin hsz h _
  · exact absurd hi (Nat.not_lt_zero _)
  · refine wpAny_bind (wpAny_of_eq (a := #[]) rfl ?_)
    refine KFB.if_not (not_long (vs := []) hsz _ (by simp)) ?_
    exact join_fin (vs := []) hsz h _
end
section
variable {prog : Program} {w : World} {A : Around} {E : Value → Shared → Prop} {s : Shared}
theorem call_join {l : Addr} {vs : List Value} {t : Tok} {Q : Value → Shared → Prop} (hl : s.heap.IsList l vs.toArray) (hv : AllBytes vs) (hsz : (vs.map fun v => (bOf v).size).sum ≤ 16777216)
    (h : ∀ r t' k, KBw.bInts r = catI vs → Q (.bytes r t') { s with toks := k }) : wpAny (model prog w) A (call (.builtin "bytes.join") [.bytes #[] t, .ref l]) Q E s :=
  wpAny_call_entry slot_join (typeIs_bytes s _ t) entry_join (join_tree hl hv hsz fun r t' k e => ⟨_, rfl, h r t' k e⟩) (args_join _ _)
theorem bytesMeth {b : Array UInt8} {t : Tok} {name : Str} {id : String} {pl : Sem Bool} {Q : Value × List Value → Shared → Prop} (hs : Slot "bytes" name id) (ht : typeOf (.builtin id) = pure (.type "method_descriptor")) (h : Q (.builtin id, [.bytes b t]) s) :
    wpAny (model prog w) A (getMethod (.bytes b t) name pl) Q E s := by
  exact KBd.method_of (.bytes b t) (typeIs_bytes s b t) hs ht KBd.noRef h
end
end
section
open LCg
structure IterW (prog : Program) (w : World) (A : Around) (h₀ : Heap) (L : Addr) (s₁ : Shared) (xv : Value) (S : List (Addr × Obj) → Prop) (n : Nat) (P : Nat → Value → Prop) (o : Obj) (fp : List Addr) (St : Nat → Heap → Prop) : Prop where
  it : ∀ (Q : Value → Shared → Prop) (E : Value → Shared → Prop), Q (.ref s₁.heap.objs.size) { s₁ with heap := s₁.heap.push o } → wpAny (model prog w) A (pyIter xv) Q E s₁
  W : Walks prog w A s₁.heap.objs.size fp [s₁.heap.objs.size] n P St
  here : ∀ i h, St i h → ∃ o, h.get? s₁.heap.objs.size = some o
  st : ∀ i h h' o nw, St i h → h.get? s₁.heap.objs.size = some o → h'.get? s₁.heap.objs.size = some o → (∀ b o, h₀.get? b = some o → h'.get? b = some o) → News h₀ L h' nw → S nw → St i h'
  start : St 0 (s₁.heap.push o)
  foot : ∀ b ∈ fp, b < (s₁.heap.push o).objs.size
section
variable {prog : Program} {w : World} {A : Around} {E : Value → Shared → Prop} {s : Shared} {h₀ : Heap} {L : Addr} {m : Str → Option Value} {env : Env}
theorem IterW.bytes {s₁ : Shared} {b : Array UInt8} {t : Tok} {S : List (Addr × Obj) → Prop} (hh : A.handled = none) : IterW prog w A h₀ L s₁ (.bytes b t) S b.size (fun i v => ∃ c u, b[i]? = some c ∧ v = .int (c.toNat : Int) u) { cls := .type "bytes_iterator", data := .fields #[.bytes b t, .int 0 0] } [s₁.heap.objs.size] (fun i h => KBw.IsBytesIter h s₁.heap.objs.size b t i) where
  it := fun Q E h => KBw.pyIter_bytes h
  W := KBw.walks hh _ b t
  here := fun i h st => by obtain ⟨o, e, _⟩ := st; exact ⟨o, e⟩
  st := fun i h h' o nw st e e' _ _ _ => by obtain ⟨o', x, r⟩ := st; rw [e] at x; cases x; exact ⟨o, e', r⟩
  start := ⟨_, Heap.get?_push_size _ rfl, rfl, rfl⟩
  foot := fun b hb => by
    rw [List.mem_singleton.mp hb, Heap.size_push]
    exact Nat.lt_succ_self _
theorem IterW.range {s₁ : Shared} {r : Addr} {a b : Int} {t u v : Tok} {n : Nat} {S : List (Addr × Obj) → Prop} (hh : A.handled = none) (hr : IsRange s₁.heap r a b 1 t u v) (hsm : Builtin.Range.small a b 1 = true) (hn : Builtin.Range.rangeSize a b 1 = ((n : Nat) : Int)) : ∃ o, IterW prog w A h₀ L s₁ (.ref r) S n (fun i v => ∃ t, v = .int (a + (i : Int)) t) o [s₁.heap.objs.size] (fun i h => IsRangeIter h s₁.heap.objs.size (a + (i : Nat) * 1) ((n : Int) - (i : Nat)) 1) := by
  refine ⟨_, ⟨fun Q E h => wpAny_pyIter_range hr hsm h, range_walks hh a n, fun i h st => ⟨_, st⟩, fun i h h' o nw st e e' _ _ _ => by
    have st' : h.get? _ = some _ := st
    show h'.get? _ = some _
    rw [e', ← e]; exact st', ?_, fun b hb => ?_⟩⟩
  · show IsRangeIter _ _ _ _ _
    rw [hn]; simpa using Heap.get?_push_size _ rfl
  · rw [List.mem_singleton.mp hb, Heap.size_push]
    exact Nat.lt_succ_self _
theorem IterW.list {s₁ : Shared} {ax : Addr} {its : Array Value} (hh : A.handled = none) (hl : s₁.heap.IsList ax its) : IterW prog w A h₀ L s₁ (.ref ax) (SrcAt h₀ ax its) its.size (fun i v => its[i]? = some v) { cls := .type "list_iterator", data := .fields #[.ref ax, .int 0 0] } [s₁.heap.objs.size, ax] (fun i h => h.IsListIter s₁.heap.objs.size ax i ∧ h.IsList ax its) := by
  have hlt : ax < s₁.heap.objs.size := by obtain ⟨_, e, _⟩ := hl; exact Heap.lt_size e
  refine ⟨fun Q E h => wpAny_pyIter_list hl h, Walks.list hh _ ax (Nat.ne_of_lt hlt) its, fun i h st => by obtain ⟨o, e, _⟩ := st.1; exact ⟨o, e⟩, list_st, ⟨⟨_, Heap.get?_push_size _ rfl, rfl, rfl⟩, hl.push _⟩, fun b hb => ?_⟩
  rw [Heap.size_push]
  rcases List.mem_cons.mp hb with rfl | hb
  · exact Nat.lt_succ_self _
  · rw [List.mem_singleton.mp hb]; exact Nat.lt_succ_of_lt hlt
def CompW (prog : Program) (w : World) (A : Around) (h₀ : Heap) (L : Addr) (m : Str → Option Value) (env : Env) (elt : Expr) (x : Str) (scope : Scope) (cl : List (Str × Addr)) (Fin : Shared → List Value → List (Addr × Obj) → Prop) (xv : Value) (s₁ : Shared) : Prop :=
  ∃ n P S news o fp St, IterW prog w A h₀ L s₁ xv S n P o fp St ∧ Fr h₀ L s₁.heap m ∧ News h₀ L s₁.heap news ∧ S news ∧ n ≤ sizeLine ∧ CompRest prog w A h₀ L m env elt x scope cl { s₁ with heap := s₁.heap.push o } S P (Fin { s₁ with heap := s₁.heap.push o }) n 0 [] news
def CElt (news : List (Addr × Obj)) (R : Value → Prop) (y : Value) (news' : List (Addr × Obj)) : Prop := news' = news ∧ R y
/-- the made values answer to the read ones -/
def Made (R : Int → Value → Prop) (ks : List Int) (ys : List Value) : Prop := ys.length = ks.length ∧ ∀ (i : Nat) k y, ks[i]? = some k → ys[i]? = some y → R k y
theorem rest_of {elt : Expr} {x : Str} {scope : Scope} {cl : List (Str × Addr)} {S : List (Addr × Obj) → Prop} {P : Nat → Value → Prop} {Fin : List Value → List (Addr × Obj) → Prop} {news : List (Addr × Obj)} {n : Nat} {ks : List Int} (R : Int → Value → Prop) (hks : ks.length = n) (hP : ∀ i v, i < n → P i v → ∃ k t, ks[i]? = some k ∧ v = .int k t)
    (turn : ∀ k t I oI C oC D m₂ ys h tk (E' : Value → Shared → Prop), k ∈ ks → NsObj oC m₂ → m₂ x = some (.int k t) → Fr h₀ L h m → News h₀ L h ((I, oI) :: (C, oC) :: (D, lst ys) :: news) → Off3 I C D news → ((@Ne Nat I C) ∧ (@Ne Nat I D) ∧ (@Ne Nat C D)) →
      wpAny (model prog w) A (eval elt (compEnvC scope cl C env)) (CompEnd h₀ L m { s with heap := h, toks := tk } I oI C oC D (lst ys) S (fun y news' => CElt news (R k) y news')) E' { s with heap := h, toks := tk })
    (fin : ∀ ys, Made R ks ys → Fin ys news) : CompRest prog w A h₀ L m env elt x scope cl s S P Fin n 0 [] news := by
  have key : ∀ (j i : Nat) (ys : List Value), i + j = n → Made R (ks.take i) ys → CompRest prog w A h₀ L m env elt x scope cl s S P Fin j i ys news := by
    intro j
    induction j with
    | zero =>
      intro i ys hi hy
      have e : i = ks.length := by omega
      subst e
      rw [List.take_length] at hy
      exact CompRest.zero (fin ys hy)
    | succ j ih =>
      intro i ys hi hy
      refine CompRest.succ ?_
      intro v I oI C oC D m₂ h tk E' hv hC hx F N off ne
      obtain ⟨k, t, hk, hv'⟩ := hP i v (by omega) hv
      rw [hv'] at hx
      refine wpAny_mono (turn k t I oI C oC D m₂ ys h tk E' (List.mem_of_getElem? hk) hC hx F N off ne) (fun y s₂ hq => ?_) fun _ _ e => e
      obtain ⟨h', tk', nw, e, F', N', off', hS, hn, hR⟩ := hq
      rw [hn] at N' off' hS
      refine ⟨h', tk', news, e, F', N', off', hS, ?_⟩
      refine ih (i + 1) _ (by omega) ?_
      have hlt : i < ks.length := by omega
      have ht : (ks.take i).length = i := by rw [List.length_take]; omega
      have hyl : ys.length = i := hy.1.trans ht
      refine ⟨by rw [List.length_append, hyl, List.length_take, List.length_singleton]; omega, fun i' k' y' hk' hy' => ?_⟩
      rw [List.take_add_one, hk] at hk'
      by_cases hi' : i' < i
      · rw [List.getElem?_append_left (by omega)] at hk' hy'
        exact hy.2 i' k' y' hk' hy'
      · by_cases he : i' = i
        · subst he
          rw [List.getElem?_append_right (by omega), ht, Nat.sub_self] at hk'
          rw [List.getElem?_append_right (by omega), hyl, Nat.sub_self] at hy'
          cases hk'; cases hy'; exact hR
        · rw [List.getElem?_eq_none (by rw [List.length_append, hyl, List.length_singleton]; omega)] at hy'
          cases hy'
  exact key n 0 [] (by omega) ⟨by simp, fun i k y hk hy => by simp at hy⟩
theorem CompW.bytes {elt : Expr} {x : Str} {scope : Scope} {cl : List (Str × Addr)} {Fin : Shared → List Value → List (Addr × Obj) → Prop} {s₁ : Shared} {b : Array UInt8} {t : Tok} {news : List (Addr × Obj)} {ks : List Int} (R : Int → Value → Prop) (hh : A.handled = none) (F : Fr h₀ L s₁.heap m) (N : News h₀ L s₁.heap news) (hb : KBw.bInts b = ks) (hsz : ks.length ≤ 16777216)
    (turn : ∀ k t I oI C oC D m₂ ys h tk (E' : Value → Shared → Prop), k ∈ ks → 0 ≤ k → k < 256 → NsObj oC m₂ → m₂ x = some (.int k t) → Fr h₀ L h m → News h₀ L h ((I, oI) :: (C, oC) :: (D, lst ys) :: news) → Off3 I C D news → ((@Ne Nat I C) ∧ (@Ne Nat I D) ∧ (@Ne Nat C D)) →
      wpAny (model prog w) A (eval elt (compEnvC scope cl C env)) (CompEnd h₀ L m { s₁ with heap := h, toks := tk } I oI C oC D (lst ys) (fun _ => True) (fun y news' => CElt news (R k) y news')) E' { s₁ with heap := h, toks := tk })
    (fin : ∀ ys g, Made R ks ys → Fin { s₁ with heap := g } ys news) : CompW prog w A h₀ L m env elt x scope cl Fin (.bytes b t) s₁ := by
  have hz : b.size = ks.length := by rw [← KBw.ints_length, hb]
  refine ⟨_, _, _, news, _, _, _, IterW.bytes (S := fun _ => True) hh, F, N, trivial, by rw [hz, sizeLine_eq]; exact hsz, rest_of (ks := ks) R hz.symm (fun i v _ hv => ?_) (fun k t I oI C oC D m₂ ys h tk E' hk hC hx F' N' off ne => ?_) (fun ys hm => fin ys _ hm)⟩
  · obtain ⟨c, u, hc, e⟩ := hv
    exact ⟨_, _, hb ▸ KBw.ints_get hc, e⟩
  · have hr := KBw.ints_in (hb ▸ hk)
    exact turn k t I oI C oC D m₂ ys h tk E' hk hr.1 hr.2 hC hx F' N' off ne
theorem CompW.range {elt : Expr} {x : Str} {scope : Scope} {cl : List (Str × Addr)} {Fin : Shared → List Value → List (Addr × Obj) → Prop} {s₁ : Shared} {r : Addr} {a b : Int} {t u v : Tok} {n : Nat} {news : List (Addr × Obj)} (R : Int → Value → Prop) (hh : A.handled = none) (F : Fr h₀ L s₁.heap m) (N : News h₀ L s₁.heap news)
    (hr : IsRange s₁.heap r a b 1 t u v) (hsm : Builtin.Range.small a b 1 = true) (hn : Builtin.Range.rangeSize a b 1 = ((n : Nat) : Int)) (hsz : n ≤ 16777216)
    (turn : ∀ k t I oI C oC D m₂ ys h tk (E' : Value → Shared → Prop), k ∈ rangeKs a n → a ≤ k → k < a + (n : Int) → NsObj oC m₂ → m₂ x = some (.int k t) → Fr h₀ L h m → News h₀ L h ((I, oI) :: (C, oC) :: (D, lst ys) :: news) → Off3 I C D news → ((@Ne Nat I C) ∧ (@Ne Nat I D) ∧ (@Ne Nat C D)) →
      wpAny (model prog w) A (eval elt (compEnvC scope cl C env)) (CompEnd h₀ L m { s₁ with heap := h, toks := tk } I oI C oC D (lst ys) (fun _ => True) (fun y news' => CElt news (R k) y news')) E' { s₁ with heap := h, toks := tk })
    (fin : ∀ ys g, Made R (rangeKs a n) ys → Fin { s₁ with heap := g } ys news) : CompW prog w A h₀ L m env elt x scope cl Fin (.ref r) s₁ := by
  obtain ⟨o, I⟩ := IterW.range (prog := prog) (w := w) (h₀ := h₀) (L := L) (S := fun _ => True) hh hr hsm hn
  refine ⟨_, _, _, news, _, _, _, I, F, N, trivial, by rw [sizeLine_eq]; exact hsz, rest_of (ks := rangeKs a n) R (rangeKs_length a n) (fun i v hi hv => ?_) (fun k t I oI C oC D m₂ ys h tk E' hk hC hx F' N' off ne => ?_) (fun ys hm => fin ys _ hm)⟩
  · obtain ⟨t, e⟩ := hv
    exact ⟨a + (i : Int), t, by simp [rangeKs, hi], e⟩
  · exact turn k t I oI C oC D m₂ ys h tk E' hk (mem_rangeKs hk).1 (mem_rangeKs hk).2 hC hx F' N' off ne
theorem CompW.list {elt : Expr} {x : Str} {scope : Scope} {cl : List (Str × Addr)} {Fin : Shared → List Value → List (Addr × Obj) → Prop} {s₁ : Shared} {ax : Addr} {vs : List Value} {ks : List Int} {news : List (Addr × Obj)} (R : Int → Value → Prop) (hh : A.handled = none) (F : Fr h₀ L s₁.heap m) (N : News h₀ L s₁.heap news)
    (src : SrcAt h₀ ax vs.toArray news) (hi : IntsAre vs ks) (hsz : ks.length ≤ 16777216)
    (turn : ∀ k t I oI C oC D m₂ ys h tk (E' : Value → Shared → Prop), k ∈ ks → NsObj oC m₂ → m₂ x = some (.int k t) → Fr h₀ L h m → News h₀ L h ((I, oI) :: (C, oC) :: (D, lst ys) :: news) → Off3 I C D news → ((@Ne Nat I C) ∧ (@Ne Nat I D) ∧ (@Ne Nat C D)) →
      wpAny (model prog w) A (eval elt (compEnvC scope cl C env)) (CompEnd h₀ L m { s₁ with heap := h, toks := tk } I oI C oC D (lst ys) (SrcAt h₀ ax vs.toArray) (fun y news' => CElt news (R k) y news')) E' { s₁ with heap := h, toks := tk })
    (fin : ∀ ys g, Made R ks ys → Fin { s₁ with heap := g } ys news) : CompW prog w A h₀ L m env elt x scope cl Fin (.ref ax) s₁ := by
  have hl := src.list F.keep N
  refine ⟨_, _, _, news, _, _, _, IterW.list hh hl, F, N, src, by rw [List.size_toArray, hi.length, sizeLine_eq]; exact hsz, rest_of (ks := ks) R (by rw [List.size_toArray]; exact hi.length.symm) (fun i v _ hv => ?_) (fun k t I oI C oC D m₂ ys h tk E' hk hC hx F' N' off ne => ?_) (fun ys hm => fin ys _ hm)⟩
  · obtain ⟨k, t, e, hk⟩ := IntsAre.at hi i v (by simpa using hv)
    exact ⟨k, t, hk, e⟩
  · exact turn k t I oI C oC D m₂ ys h tk E' hk hC hx F' N' off ne
theorem comp_E {elt iter : Expr} {x : Str} {px : Pos} {scope : Scope} {cl : List (Str × Addr)} {pos : Pos} {Q : Value → Shared → Prop} (F₀ : Fr h₀ L s.heap m)
    (hclos : closureFor scope env = pure cl) (hcell : ∀ y ∈ scope.names, y.2 ≠ .cell) (hkind : scope.kind = .function)
    (hnames : ∀ y ∈ scope.names, y.2 = .local → scope.names.lookup y.1 = some .local) (hx : scope.names.lookup x = some .local)
    (h : wpAny (model prog w) A (eval iter env) (CompW prog w A h₀ L m env elt x scope cl (fun s₂ => FinE h₀ L m s₂ Q)) E s)
    (hs : ∀ x, foldedSetIterable iter env x = pure x := by intro _; rfl) :
    wpAny (model prog w) A (eval (.ListComp elt [⟨.Name x px, iter, [], 0⟩] scope pos) env) Q E s := by
  rw [eval_ListComp]
  refine wpAny_comprehension_free (use := none) rfl hs hclos hkind hnames (wpAny_mono h (fun xv s₁ h₁ => ?_) fun _ _ e => e)
  obtain ⟨n, P, S, news, o, fp, St, I, F, N, hS, hsz, R⟩ := h₁
  refine I.it _ _ ?_
  have up : ∀ b o', s₁.heap.get? b = some o' → (s₁.heap.push o).get? b = some o' := fun b o' e => Heap.get?_push_of_some _ e
  refine block_U I.W hsz I.here I.st hcell hkind hx I.start I.foot (F.keeps up) (N.grown up) (Nat.ne_of_lt F.ns.lt) (next_is_new F) (fun p hp => Nat.ne_of_lt (Heap.lt_size (N p hp).1)) hS R ?_
  intro D C h tk m' ys news' F' N' o1 hn hC₀ hD₀ hCL hDL hCD offC fin
  refine ⟨m', hn, fun h'' hs'' => fin D h'' tk (F'.change hs'' hCL hC₀) (fun p hp => ?_) o1⟩
  refine ⟨hs''.extBut _ _ ?_ (N' p hp).1, (N' p hp).2⟩
  rcases List.mem_cons.mp hp with rfl | hp
  · exact Ne.symm hCD
  · exact offC p hp
theorem comp_A {elt iter : Expr} {x y : Str} {px py : Pos} {scope : Scope} {cl : List (Str × Addr)} {pos spos : Pos} {Q : Flow → Shared → Prop} (F₀ : Fr h₀ L s.heap m) (hLe : env.locals = L)
    (hsw : swapsWith (.ListComp elt [⟨.Name x px, iter, [], 0⟩] scope pos) (some (.Name y py)) spos.line env = pure true)
    (hclos : closureFor scope env = pure cl) (hcell : ∀ z ∈ scope.names, z.2 ≠ .cell) (hkind : scope.kind = .function)
    (hnames : ∀ z ∈ scope.names, z.2 = .local → scope.names.lookup z.1 = some .local) (hx : scope.names.lookup x = some .local)
    (hy : env.kindOf y = some .local) (hp : (env.scope.kind == .class || (env.scope.kind == .module && env.locals != env.globals)) = false)
    (h : wpAny (model prog w) A (eval iter env) (CompW prog w A h₀ L m env elt x scope cl (fun s₂ => FinA h₀ L m s₂ y Q)) E s)
    (hs : ∀ x, foldedSetIterable iter env x = pure x := by intro _; rfl) :
    wpAny (model prog w) A (exec (.Assign [.Name y py] (.ListComp elt [⟨.Name x px, iter, [], 0⟩] scope pos) spos) env) Q E s := by
  subst hLe
  rw [exec_Assign_Name_used _ _ _ _ hsw]
  refine wpAny_bind (wpAny_standAt (wpAny_bind ?_))
  show wpAny _ A (do let _ ← comprehension (.ListComp elt [⟨.Name x px, iter, [], 0⟩] scope pos) scope env _ (newList []) false (eval iter env) (some (assign (.Name y py) env))) _ _ s
  refine wpAny_bind (wpAny_mono (wpAny_comprehension_free (use := some (assign (.Name y py) env)) (Q := fun _ s' => Q .next s') rfl hs hclos hkind hnames
    (wpAny_mono h (fun xv s₁ h₁ => ?_) fun _ _ e => e)) (fun _ s' hq => wpAny_pure (wpAny_pure hq)) fun _ _ e => e)
  obtain ⟨n, P, S, news, o, fp, St, I, F, N, hS, hsz, R⟩ := h₁
  refine I.it _ _ ?_
  have up : ∀ b o', s₁.heap.get? b = some o' → (s₁.heap.push o).get? b = some o' := fun b o' e => Heap.get?_push_of_some _ e
  refine block_U I.W hsz I.here I.st hcell hkind hx I.start I.foot (F.keeps up) (N.grown up) (Nat.ne_of_lt F.ns.lt) (next_is_new F) (fun p hp => Nat.ne_of_lt (Heap.lt_size (N p hp).1)) hS R ?_
  intro D C h' tk m' ys news' F' N' o1 hn hC₀ hD₀ hCL hDL hCD offC fin
  show wpAny _ A (assign (.Name y py) env (.ref D)) _ _ _
  refine wpAny_assign_Name (wpAny_storeName_local hy F'.ns (fun h₂ hn₂ hs₂ => ?_) hp)
  have hL₀ : h₀.get? env.locals = none := Heap.get?_none_of_le F'.above
  have F₂ : Fr h₀ env.locals h₂ (fun z => if z = y then some (.ref D) else m z) := ⟨hn₂, fun b o e => hs₂.extBut b o (fun q => by rw [q, hL₀] at e; cases e) (F'.keep b o e), F'.above⟩
  refine ⟨m', hn.sameBut hs₂ hCL, fun h'' hs'' => fin D h'' _ (F₂.change hs'' hCL hC₀) (fun p hp => ?_) o1⟩
  have z : h₂.get? p.1 = some p.2 := hs₂.extBut _ _ (N' p hp).2.1 (N' p hp).1
  refine ⟨hs''.extBut _ _ ?_ z, (N' p hp).2⟩
  rcases List.mem_cons.mp hp with rfl | hp
  · exact Ne.symm hCD
  · exact offC p hp
end
/-- a value made alike each time -/
def isB (b : Array UInt8) (_ : Int) (v : Value) : Prop := ∃ t, v = .bytes b t
/-- one row of octets many times over -/
@[irreducible] def manyI (n : Nat) (bs : List Int) : List Int := (List.replicate n bs).flatten
theorem manyI_length (n : Nat) (bs : List Int) : (manyI n bs).length = n * bs.length := by simp [manyI]
theorem Made.bytes {b : Array UInt8} {ks bs : List Int} {ys : List Value} (N M : Nat) (h : Made (isB b) ks ys) (hb : KBw.bInts b = bs) (hlk : ks.length ≤ N) (hlb : bs.length ≤ M) (hNM : N * M ≤ 20000 := by decide) : AllBytes ys ∧ catI ys = manyI ks.length bs ∧ (ys.map fun v => (bOf v).size).sum ≤ 16777216 ∧ (manyI ks.length bs).length ≤ 20000 := by
  have hlen : (manyI ks.length bs).length ≤ 20000 := by rw [manyI_length]; exact Nat.le_trans (Nat.mul_le_mul hlk hlb) hNM
  have hall : ∀ v ∈ ys, ∃ t, v = .bytes b t := fun v hv => by
    obtain ⟨i, hi, e⟩ := List.mem_iff_getElem.1 hv
    have hk : i < ks.length := h.1 ▸ hi
    exact h.2 i _ v (List.getElem?_eq_getElem hk) (by rw [List.getElem?_eq_getElem hi, e])
  have h1 := h.1
  have hcat : catI ys = manyI ks.length bs := by
    rw [← h1]
    clear h h1 hlk hlen
    unfold catI manyI
    congr 1
    induction ys with
    | nil => rfl
    | cons y r ih =>
      obtain ⟨t, rfl⟩ := hall y (.head _)
      rw [List.map_cons, List.length_cons, List.replicate_succ, ih fun v hv => hall v (.tail _ hv)]
      show KBw.bInts b :: _ = _
      rw [hb]
  refine ⟨fun v hv => let ⟨t, e⟩ := hall v hv; ⟨b, t, e⟩, hcat, ?_, hlen⟩
  refine Nat.le_trans (Nat.le_of_eq (?_ : _ = (manyI ks.length bs).length)) (Nat.le_trans hlen (by decide))
  rw [← hcat]
  clear h h1 hlk hlen hcat
  unfold catI
  rw [List.length_flatten, List.map_map]
  congr 1
  exact List.map_congr_left fun v _ => (KBw.ints_length _).symm
end
section
theorem zw_Cs_1 : True := by
  k_with_none
  k_with "exec Assign" => (k_here; (fail_if_success (with_reducible show wpAny _ _ _ (CutQ _) _ _)); (refine cutQ fun cutQ0 cutH0 => ?_))
  k_with "exec AugAssign" => (k_here; (fail_if_success (with_reducible show wpAny _ _ _ (CutQ _) _ _)); (refine cutQ fun cutQ0 cutH0 => ?_))
  k_with "exec Expr" => (k_here; (fail_if_success (with_reducible show wpAny _ _ _ (CutQ _) _ _)); (refine cutQ fun cutQ0 cutH0 => ?_))
  k_with "CutQ" => ((with_reducible rename (∀ f s', _ → CutQ _ f s') => cutH1); (refine cutH1 _ _ ?_); clear cutH1; (try dsimp only))
  trivial
/-- one sign of the map, by a number's lowest six bits -/
abbrev dig (n : Int) : Str := Txt.item (Str.ofString "./0123456789ABCDEFGHIJKLMNOPQRSTUVWXYZabcdefghijklmnopqrstuvwxyz") (n.fmod 64)
abbrev sgn (ks : List Int) (h m l : Int) : Int := ks.getD h.toNat 0 * 65536 + ks.getD m.toNat 0 * 256 + ks.getD l.toNat 0
def tri32 : Nat → Int × Int × Int
  | 0 => (0, 10, 20)
  | k + 1 => ((tri32 k).2.2 + 1, (tri32 k).1 + 1, (tri32 k).2.1 + 1)
def tri64 : Nat → Int × Int × Int
  | 0 => (0, 21, 42)
  | k + 1 => ((tri64 k).2.1 + 1, (tri64 k).2.2 + 1, (tri64 k).1 + 1)
def sig (tri : Nat → Int × Int × Int) (ks : List Int) : Nat → Str
  | 0 => Str.ofString ""
  | k + 1 => sig tri ks k ++ dig (sgn ks (tri k).1 (tri k).2.1 (tri k).2.2) ++ dig ((sgn ks (tri k).1 (tri k).2.1 (tri k).2.2).fdiv 64) ++ dig (((sgn ks (tri k).1 (tri k).2.1 (tri k).2.2).fdiv 64).fdiv 64) ++ dig ((((sgn ks (tri k).1 (tri k).2.1 (tri k).2.2).fdiv 64).fdiv 64).fdiv 64)
def signs32 (ks : List Int) : Str := sig tri32 ks 10 ++ dig (ks.getD 31 0 * 256 + ks.getD 30 0) ++ dig ((ks.getD 31 0 * 256 + ks.getD 30 0).fdiv 64) ++ dig (((ks.getD 31 0 * 256 + ks.getD 30 0).fdiv 64).fdiv 64)
def signs64 (ks : List Int) : Str := sig tri64 ks 21 ++ dig (ks.getD 63 0) ++ dig ((ks.getD 63 0).fdiv 64)
abbrev SgP (tri : Nat → Int × Int × Int) (N : Nat) (top : Int) (ks : List Int) (pre : List Int) (found : Str) (hi mi lo : Int) : Prop :=
  found.length = 4 * pre.length ∧ pre.length ≤ N ∧ 0 ≤ hi ∧ hi < top ∧ 0 ≤ mi ∧ mi < top ∧ 0 ≤ lo ∧ lo < top ∧ hi = (tri pre.length).1 ∧ mi = (tri pre.length).2.1 ∧ lo = (tri pre.length).2.2 ∧ found = sig tri ks pre.length
theorem dig_length (n : Int) : (dig n).length = 1 := by
  have h := Int.fmod_nonneg_of_pos n (show (0 : Int) < 64 by decide)
  have h2 := Int.fmod_lt_of_pos n (show (0 : Int) < 64 by decide)
  have : ∀ i : Nat, i < 64 → (Txt.item (Str.ofString "./0123456789ABCDEFGHIJKLMNOPQRSTUVWXYZabcdefghijklmnopqrstuvwxyz") (i : Int)).length = 1 := by decide +kernel
  have e := this (n.fmod 64).toNat (by omega)
  rwa [show (((n.fmod 64).toNat : Nat) : Int) = n.fmod 64 by omega] at e
theorem tri32_in : ∀ n : Nat, n ≤ 10 → (0 ≤ (tri32 n).1 ∧ (tri32 n).1 < 32 ∧ 0 ≤ (tri32 n).2.1 ∧ (tri32 n).2.1 < 32 ∧ 0 ≤ (tri32 n).2.2 ∧ (tri32 n).2.2 < 32) := by
  have h : ∀ n : Nat, n < 11 → (0 ≤ (tri32 n).1 ∧ (tri32 n).1 < 32 ∧ 0 ≤ (tri32 n).2.1 ∧ (tri32 n).2.1 < 32 ∧ 0 ≤ (tri32 n).2.2 ∧ (tri32 n).2.2 < 32) := by decide
  exact fun n hn => h n (by omega)
theorem tri64_in : ∀ n : Nat, n ≤ 21 → (0 ≤ (tri64 n).1 ∧ (tri64 n).1 < 64 ∧ 0 ≤ (tri64 n).2.1 ∧ (tri64 n).2.1 < 64 ∧ 0 ≤ (tri64 n).2.2 ∧ (tri64 n).2.2 < 64) := by
  have h : ∀ n : Nat, n < 22 → (0 ≤ (tri64 n).1 ∧ (tri64 n).1 < 64 ∧ 0 ≤ (tri64 n).2.1 ∧ (tri64 n).2.1 < 64 ∧ 0 ≤ (tri64 n).2.2 ∧ (tri64 n).2.2 < 64) := by decide
  exact fun n hn => h n (by omega)
theorem sg_start {tri : Nat → Int × Int × Int} {N : Nat} {top : Int} {ks : List Int} {hi mi lo : Int} (e1 : hi = (tri 0).1) (e2 : mi = (tri 0).2.1) (e3 : lo = (tri 0).2.2) (h : 0 ≤ (tri 0).1 ∧ (tri 0).1 < top ∧ 0 ≤ (tri 0).2.1 ∧ (tri 0).2.1 < top ∧ 0 ≤ (tri 0).2.2 ∧ (tri 0).2.2 < top) :
    SgP tri N top ks [] (Str.ofString "") hi mi lo := by
  subst e1 e2 e3
  obtain ⟨a, b, c, d, e, f⟩ := h
  exact ⟨by decide, Nat.zero_le _, a, b, c, d, e, f, rfl, rfl, rfl, rfl⟩
/-- the signs of a number, its lowest six bits first -/
def shrD (n : Int) : Nat → Int
  | 0 => n
  | k + 1 => (shrD n k).fdiv 64
def grow (f : Str) (n : Int) : Nat → Str
  | 0 => f
  | k + 1 => grow f n k ++ dig (shrD n k)
abbrev InP (f₀ : Str) (n₀ : Int) (pre : List Int) (found : Str) (number : Int) : Prop :=
  found.length = f₀.length + pre.length ∧ pre.length ≤ 4 ∧ found = grow f₀ n₀ pre.length ∧ number = shrD n₀ pre.length
theorem in_start {f₀ : Str} {n₀ : Int} : InP f₀ n₀ [] f₀ n₀ := ⟨rfl, Nat.zero_le _, rfl, rfl⟩
theorem in_turn {f₀ found : Str} {n₀ number kN : Int} {pre : List Int} (hl : found.length = f₀.length + pre.length) (ef : found = grow f₀ n₀ pre.length) (en : number = shrD n₀ pre.length) (hlt : pre.length < 4) :
    InP f₀ n₀ (pre ++ [kN]) (found ++ dig number) (number.fdiv 64) := by
  have el : (pre ++ [kN]).length = pre.length + 1 := by simp
  refine ⟨?_, by rw [el]; exact hlt, ?_, ?_⟩
  · rw [Str.length_append, dig_length, el, hl, Nat.add_assoc]
  · rw [el, ef, en]; rfl
  · rw [el, en]; rfl
theorem rng {prog : Program} {w : World} {A : Around} {Q E : Value → Shared → Prop} {s : Shared} {n : Int} {t : Tok} (h : ∀ m : Int, m = n → wpAny (model prog w) A (call (.type "range") [.int m t]) Q E s) : wpAny (model prog w) A (call (.type "range") [.int n t]) Q E s := h n rfl
theorem sg_turn {tri : Nat → Int × Int × Int} {N n : Nat} {top : Int} {ks pre : List Int} {kN : Int} {found found' : Str} {hi mi lo hi' mi' lo' : Int} (hl : found.length = 4 * pre.length) (e1 : hi = (tri pre.length).1) (e2 : mi = (tri pre.length).2.1) (e3 : lo = (tri pre.length).2.2) (ef : found = sig tri ks pre.length)
    (hlt : pre.length < N) (hin : ∀ n : Nat, n ≤ N → (0 ≤ (tri n).1 ∧ (tri n).1 < top ∧ 0 ≤ (tri n).2.1 ∧ (tri n).2.1 < top ∧ 0 ≤ (tri n).2.2 ∧ (tri n).2.2 < top))
    (n1 : hi' = (tri (pre.length + 1)).1) (n2 : mi' = (tri (pre.length + 1)).2.1) (n3 : lo' = (tri (pre.length + 1)).2.2)
    (g1 : found' = grow found (sgn ks hi mi lo) n) (g2 : found'.length = found.length + n) (g3 : n = 4) :
    SgP tri N top ks (pre ++ [kN]) found' hi' mi' lo' := by
  have el : (pre ++ [kN]).length = pre.length + 1 := by simp
  obtain ⟨a, b, c, d, e, f⟩ := hin (pre.length + 1) hlt
  subst g3
  refine ⟨?_, by rw [el]; omega, by rw [n1]; exact a, by rw [n1]; exact b, by rw [n2]; exact c, by rw [n2]; exact d, by rw [n3]; exact e, by rw [n3]; exact f, by rw [el]; exact n1, by rw [el]; exact n2, by rw [el]; exact n3, ?_⟩
  · rw [g2, el]; omega
  · rw [el, g1, ef, e1, e2, e3]; rfl
theorem sg_turn32 {n : Nat} {ks pre : List Int} {kN : Int} {found found' : Str} {hi mi lo : Int} (hl : found.length = 4 * pre.length) (e1 : hi = (tri32 pre.length).1) (e2 : mi = (tri32 pre.length).2.1) (e3 : lo = (tri32 pre.length).2.2) (ef : found = sig tri32 ks pre.length)
    (g1 : found' = grow found (sgn ks hi mi lo) n) (g2 : found'.length = found.length + n) (g3 : n = 4) (hlt : pre.length < 10) :
    SgP tri32 10 32 ks (pre ++ [kN]) found' (lo + 1) (hi + 1) (mi + 1) :=
  sg_turn hl e1 e2 e3 ef hlt tri32_in (by rw [e3]; rfl) (by rw [e1]; rfl) (by rw [e2]; rfl) g1 g2 g3
theorem sg_turn64 {n : Nat} {ks pre : List Int} {kN : Int} {found found' : Str} {hi mi lo : Int} (hl : found.length = 4 * pre.length) (e1 : hi = (tri64 pre.length).1) (e2 : mi = (tri64 pre.length).2.1) (e3 : lo = (tri64 pre.length).2.2) (ef : found = sig tri64 ks pre.length)
    (g1 : found' = grow found (sgn ks hi mi lo) n) (g2 : found'.length = found.length + n) (g3 : n = 4) (hlt : pre.length < 21) :
    SgP tri64 21 64 ks (pre ++ [kN]) found' (mi + 1) (lo + 1) (hi + 1) :=
  sg_turn hl e1 e2 e3 ef hlt tri64_in (by rw [e2]; rfl) (by rw [e3]; rfl) (by rw [e1]; rfl) g1 g2 g3
theorem zw_Cs_2 : True := by
  k_with "compareOp Eq int int" => (k_here; first | (refine eqT (by omega) ?_) | (refine eqF (by omega) ?_))
  k_with "binaryOp Add int int" => (k_here; (refine addZ ?_); intro _ _)
  k_with "binaryOp Mult int int" => (k_here; (refine mulZ ?_); intro _ _)
  k_with "binaryOp Mod int int" => (k_here; (refine modZ (by first | decide | omega) ?_); intro _ _)
  k_with "subscriptTail" => (k_here; (with_reducible show wpAny _ _ (subscriptTail _ _ (Value.bytes _ _) (Value.int _ _)) _ _ _); (refine itemZ (by first | (with_reducible assumption) | kba_ints) (by kba_size) (by omega) (by omega) ?_); intro _ _ kbaLoₘ778 kbaHiₘ778)
  k_with "subscriptTail Name BinOp str int" => (k_here; (with_reducible show wpAny _ _ (subscriptTail _ _ (Value.str _ _) (Value.int (Int.fmod _ _) _)) _ _ _); (refine stritemZ (by decide) (by decide) (by decide) ?_); intro _ _ sziHₘ603)
  k_with "inplaceOp Add str str" => (k_here; (with_reducible show wpAny _ _ (inplaceOp Operator.Add (Value.str _ _) (Value.str _ _)) _ _ _); (refine iaddZ (by (rw [sizeLine_eq]; omega)) ?_); intro _ _ iaHₘ250)
  trivial
theorem c_signs32 : ∀ (w : World) (p : Program) (loose : List Str) (mean : ExcName → Option Value) (mg mb : Str → Option Value) (b : Array UInt8) (tb : CbTok) (ks : List Int) (dp un : Nat) (gd : Option (List Code)) (cn : Str) (cs : Scope) (a : Addr) (ccd : Value) (cl : List (Str × Addr)) (outer : List Env) (A₀ : Around) (base h₀ : Heap) (L : Addr) (m : Str → Option Value) (s : Shared) (Q E : Value → Shared → Prop)
  (B : Below A₀ base outer h₀) (F : Fr h₀ L s.heap m) (X : (KF w.params).In h₀) (T : Top p loose mean mg mb h₀) (hcs : cs.kind = .function) (hdp : dp + 2 < recursionLimit) (hun : un + 12 < cLine)
  (hks : KBw.bInts b = ks) (hlen : ks.length = 32)
  (hret : ∀ (h' : Heap) (tk' : Nat) (hk' : ∀ b o, s.heap.get? b = some o → h'.get? b = some o) (r : Str) (t : Tok), r = signs32 ks → Q (.str r t) { s with heap := h', toks := tk' }),
  wpAny (model rw_iw0011_01.row.prog w) (ktrTop dp un gd cn cs L a ccd cl outer) (call (.ref 698) [.bytes b tb]) Q E s := by
  k_fill
  intro w p loose mean mg mb b tb ks dp un gd cn cs a ccd cl outer A₀ base h₀ L m s Q E B F X T hcs hdp hun hks hlen hret
  refine wpAny_call ?_
  k_dflt (refine' enterK (binds := [(Str.ofString "octets", .bytes b tb)]) B F X T ?kA ?kF ?kK ?k6 ?k7 ?k8 ?k9 ?kB ?_ ?c2 ?c3 ?c4 ?c5; (case kA => exact rfl); (case kF => exact rfl); (case kK => assumption); (case k6 => k_is); (case k7 => k_is); (case k8 => ktr_room); (case k9 => first | exact BindsTo.of_eq rfl | exact binds_K (by k_in) rfl (by k_is) rfl rfl rfl); (case c5 => decide); (case kB => exact locs rfl); (case c2 => exact rfl); (case c3 => exact rfl); (case c4 => exact rfl); k_whole; clear B F X T; intro L' h' F' N' B' X' T'; (try dsimp only); (try k_lift B'); (try k_fold))
  have h10 : ((ks.length : Int).fdiv 3 - 0).toNat = 10 := by rw [hlen]; rfl
  have sst := sg_start (tri := tri32) (N := 10) (top := 32) (ks := ks) (hi := 0) (mi := (ks.length : Int).fdiv 3) (lo := 2 * (ks.length : Int).fdiv 3) rfl (by rw [hlen]; rfl) (by rw [hlen]; rfl) (by decide)
  k_with "call type:range" => ((first | with_reducible show wpAny _ _ (call (Value.type "range") [Value.int 4 _]) _ _ _ | with_reducible show wpAny _ _ (call (Value.type "range") [Value.int 3 _]) _ _ _ | with_reducible show wpAny _ _ (call (Value.type "range") [Value.int 2 _]) _ _ _); refine rng ?_; intro n4 h4)
  k_with "InvEndN" => k_dflt kst_close
  k_with "pyIter ref" => (k_of "k" => k_state (fun pre (found : Str) hi mi lo => SgP tri32 10 32 ks pre found hi mi lo) "found" "high" "middle" "low")
  k_with "pyIter ref" => (k_of "j" => k_state_given ["found!", "number!"] (fun (f₀ : Str) n₀ pre (found : Str) number => InP f₀ n₀ pre found number) "found" "number")
  k_with "state" => (first | (with_reducible exact sst) | (with_reducible refine sg_turn32 (by assumption) (by assumption) (by assumption) (by assumption) (by assumption) (by assumption) (by assumption) (by (rw [rangeKs_length, h4]; decide)) (by omega)))
  k_with "state" => ((with_reducible show InP _ _ _ _ _); first | (with_reducible exact in_start) | ((with_reducible refine in_turn (by assumption) (by assumption) (by assumption) (by omega))))
  w_strict k_steps
  (rename _ = sig tri32 ks _ => hsig)
  (rename _ = grow _ _ _ => hgr)
  refine hret _ _ (Fr.keep (by k_asm)) _ _ ?_
  rw [hgr, hsig]
  simp only [rangeKs_length]
  rw [h10, h4]
  rfl
theorem c_signs64 : ∀ (w : World) (p : Program) (loose : List Str) (mean : ExcName → Option Value) (mg mb : Str → Option Value) (b : Array UInt8) (tb : CbTok) (ks : List Int) (dp un : Nat) (gd : Option (List Code)) (cn : Str) (cs : Scope) (a : Addr) (ccd : Value) (cl : List (Str × Addr)) (outer : List Env) (A₀ : Around) (base h₀ : Heap) (L : Addr) (m : Str → Option Value) (s : Shared) (Q E : Value → Shared → Prop)
  (B : Below A₀ base outer h₀) (F : Fr h₀ L s.heap m) (X : (KF w.params).In h₀) (T : Top p loose mean mg mb h₀) (hcs : cs.kind = .function) (hdp : dp + 2 < recursionLimit) (hun : un + 12 < cLine)
  (hks : KBw.bInts b = ks) (hlen : ks.length = 64)
  (hret : ∀ (h' : Heap) (tk' : Nat) (hk' : ∀ b o, s.heap.get? b = some o → h'.get? b = some o) (r : Str) (t : Tok), r = signs64 ks → Q (.str r t) { s with heap := h', toks := tk' }),
  wpAny (model rw_iw0011_01.row.prog w) (ktrTop dp un gd cn cs L a ccd cl outer) (call (.ref 698) [.bytes b tb]) Q E s := by
  k_fill
  intro w p loose mean mg mb b tb ks dp un gd cn cs a ccd cl outer A₀ base h₀ L m s Q E B F X T hcs hdp hun hks hlen hret
  refine wpAny_call ?_
  k_dflt (refine' enterK (binds := [(Str.ofString "octets", .bytes b tb)]) B F X T ?kA ?kF ?kK ?k6 ?k7 ?k8 ?k9 ?kB ?_ ?c2 ?c3 ?c4 ?c5; (case kA => exact rfl); (case kF => exact rfl); (case kK => assumption); (case k6 => k_is); (case k7 => k_is); (case k8 => ktr_room); (case k9 => first | exact BindsTo.of_eq rfl | exact binds_K (by k_in) rfl (by k_is) rfl rfl rfl); (case c5 => decide); (case kB => exact locs rfl); (case c2 => exact rfl); (case c3 => exact rfl); (case c4 => exact rfl); k_whole; clear B F X T; intro L' h' F' N' B' X' T'; (try dsimp only); (try k_lift B'); (try k_fold))
  have h10 : ((ks.length : Int).fdiv 3 - 0).toNat = 21 := by rw [hlen]; rfl
  have sst := sg_start (tri := tri64) (N := 21) (top := 64) (ks := ks) (hi := 0) (mi := (ks.length : Int).fdiv 3) (lo := 2 * (ks.length : Int).fdiv 3) rfl (by rw [hlen]; rfl) (by rw [hlen]; rfl) (by decide)
  k_with "call type:range" => ((first | with_reducible show wpAny _ _ (call (Value.type "range") [Value.int 4 _]) _ _ _ | with_reducible show wpAny _ _ (call (Value.type "range") [Value.int 3 _]) _ _ _ | with_reducible show wpAny _ _ (call (Value.type "range") [Value.int 2 _]) _ _ _); refine rng ?_; intro n4 h4)
  k_with "InvEndN" => k_dflt kst_close
  k_with "pyIter ref" => (k_of "k" => k_state (fun pre (found : Str) hi mi lo => SgP tri64 21 64 ks pre found hi mi lo) "found" "high" "middle" "low")
  k_with "pyIter ref" => (k_of "j" => k_state_given ["found!", "number!"] (fun (f₀ : Str) n₀ pre (found : Str) number => InP f₀ n₀ pre found number) "found" "number")
  k_with "state" => (first | (with_reducible exact sst) | (with_reducible refine sg_turn64 (by assumption) (by assumption) (by assumption) (by assumption) (by assumption) (by assumption) (by assumption) (by (rw [rangeKs_length, h4]; decide)) (by omega)))
  k_with "state" => ((with_reducible show InP _ _ _ _ _); first | (with_reducible exact in_start) | ((with_reducible refine in_turn (by assumption) (by assumption) (by assumption) (by omega))))
  w_strict k_steps
  (rename _ = sig tri64 ks _ => hsig)
  (rename _ = grow _ _ _ => hgr)
  refine hret _ _ (Fr.keep (by k_asm)) _ _ ?_
  rw [hgr, hsig]
  simp only [rangeKs_length]
  rw [h10, h4]
  rfl
def signsI (ks : List Int) : Str := if ks.length = 32 then signs32 ks else signs64 ks
theorem c_signs : ∀ (w : World) (p : Program) (loose : List Str) (mean : ExcName → Option Value) (mg mb : Str → Option Value) (b : Array UInt8) (tb : CbTok) (ks : List Int) (dp un : Nat) (gd : Option (List Code)) (cn : Str) (cs : Scope) (a : Addr) (ccd : Value) (cl : List (Str × Addr)) (outer : List Env) (A₀ : Around) (base h₀ : Heap) (L : Addr) (m : Str → Option Value) (s : Shared) (Q E : Value → Shared → Prop)
  (B : Below A₀ base outer h₀) (F : Fr h₀ L s.heap m) (X : (KF w.params).In h₀) (T : Top p loose mean mg mb h₀) (hcs : cs.kind = .function) (hdp : dp + 2 < recursionLimit) (hun : un + 12 < cLine)
  (hks : KBw.bInts b = ks) (hlen : ks.length = 32 ∨ ks.length = 64)
  (hret : ∀ (h' : Heap) (tk' : Nat) (hk' : ∀ b o, s.heap.get? b = some o → h'.get? b = some o) (r : Str) (t : Tok), r = signsI ks → Q (.str r t) { s with heap := h', toks := tk' }),
  wpAny (model rw_iw0011_01.row.prog w) (ktrTop dp un gd cn cs L a ccd cl outer) (call (.ref 698) [.bytes b tb]) Q E s := by
  k_fill
  intro w p loose mean mg mb b tb ks dp un gd cn cs a ccd cl outer A₀ base h₀ L m s Q E B F X T hcs hdp hun hks hlen hret
  rcases hlen with hlen | hlen
  · exact c_signs32 w p loose mean mg mb b tb ks dp un gd cn cs a ccd cl outer A₀ base h₀ L m s Q E B F X T hcs hdp hun hks hlen fun h' tk' hk' r t e => hret h' tk' hk' r t (by rw [e, signsI, if_pos hlen])
  · exact c_signs64 w p loose mean mg mb b tb ks dp un gd cn cs a ccd cl outer A₀ base h₀ L m s Q E B F X T hcs hdp hun hks hlen fun h' tk' hk' r t e => hret h' tk' hk' r t (by rw [e, signsI, if_neg (by omega)])
end
section
open LCg
section
variable {prog : Program} {w : World} {A : Around} {E : Value → Shared → Prop} {s : Shared} {h₀ : Heap} {L : Addr} {m : Str → Option Value} {env : Env}
theorem IterW.tuple {s₁ : Shared} {ax : Addr} {its : Array Value} (hh : A.handled = none) (ht : h₀.IsTuple ax its) (F : ∀ b o, h₀.get? b = some o → s₁.heap.get? b = some o) : IterW prog w A h₀ L s₁ (.ref ax) (fun _ => True) its.size (fun i v => its[i]? = some v) { cls := .type "tuple_iterator", data := .fields #[.ref ax, .int 0 0] } [s₁.heap.objs.size, ax] (fun i h => h.IsTupleIter s₁.heap.objs.size ax i ∧ h.IsTuple ax its) := by
  have hl : s₁.heap.IsTuple ax its := let ⟨o, e, r⟩ := ht; ⟨o, F _ _ e, r⟩
  have hlt : ax < s₁.heap.objs.size := by obtain ⟨_, e, _⟩ := hl; exact Heap.lt_size e
  refine ⟨fun Q E h => wpAny_pyIter_tuple hl h, Walks.tuple hh _ ax (Nat.ne_of_lt hlt) its, fun i h st => by obtain ⟨o, e, _⟩ := st.1; exact ⟨o, e⟩, fun i h h' o nw st e e' k _ _ => ⟨?_, ?_⟩, ⟨⟨_, Heap.get?_push_size _ rfl, rfl, rfl⟩, ?_⟩, fun b hb => ?_⟩
  · obtain ⟨o', x, r⟩ := st.1
    rw [e] at x; cases x; exact ⟨o, e', r⟩
  · obtain ⟨o', x, r⟩ := ht
    exact ⟨o', k _ _ x, r⟩
  · obtain ⟨o', x, r⟩ := hl
    exact ⟨o', Heap.get?_push_of_some _ x, r⟩
  · rw [Heap.size_push]
    rcases List.mem_cons.mp hb with rfl | hb
    · exact Nat.lt_succ_self _
    · rw [List.mem_singleton.mp hb]; exact Nat.lt_succ_of_lt hlt
theorem CompW.tuple {elt : Expr} {x : Str} {scope : Scope} {cl : List (Str × Addr)} {Fin : Shared → List Value → List (Addr × Obj) → Prop} {s₁ : Shared} {ax : Addr} {vs : List Value} {ks : List Int} {news : List (Addr × Obj)} (R : Int → Value → Prop) (hh : A.handled = none) (F : Fr h₀ L s₁.heap m) (N : News h₀ L s₁.heap news)
    (src : h₀.IsTuple ax vs.toArray) (hi : IntsAre vs ks) (hsz : ks.length ≤ 16777216)
    (turn : ∀ k t I oI C oC D m₂ ys h tk (E' : Value → Shared → Prop), k ∈ ks → NsObj oC m₂ → m₂ x = some (.int k t) → Fr h₀ L h m → News h₀ L h ((I, oI) :: (C, oC) :: (D, lst ys) :: news) → Off3 I C D news → ((@Ne Nat I C) ∧ (@Ne Nat I D) ∧ (@Ne Nat C D)) →
      wpAny (model prog w) A (eval elt (compEnvC scope cl C env)) (CompEnd h₀ L m { s₁ with heap := h, toks := tk } I oI C oC D (lst ys) (fun _ => True) (fun y news' => CElt news (R k) y news')) E' { s₁ with heap := h, toks := tk })
    (fin : ∀ ys g, Made R ks ys → Fin { s₁ with heap := g } ys news) : CompW prog w A h₀ L m env elt x scope cl Fin (.ref ax) s₁ := by
  refine ⟨_, _, _, news, _, _, _, IterW.tuple hh src F.keep, F, N, trivial, by rw [List.size_toArray, hi.length, sizeLine_eq]; exact hsz, rest_of (ks := ks) R (by rw [List.size_toArray]; exact hi.length.symm) (fun i v _ hv => ?_) (fun k t I oI C oC D m₂ ys h tk E' hk hC hx F' N' off ne => ?_) (fun ys hm => fin ys _ hm)⟩
  · obtain ⟨k, t, e, hk⟩ := IntsAre.at hi i v (by simpa using hv)
    exact ⟨k, t, hk, e⟩
  · exact turn k t I oI C oC D m₂ ys h tk E' hk hC hx F' N' off ne
end
/-- the octet at a told place -/
def atI (ks : List Int) (k : Int) (v : Value) : Prop := ∃ t, v = .int (ks.getD k.toNat 0) t
theorem Made.ints {ks : List Int} {off : List Int} {ys : List Value} (h : Made (atI ks) off ys) : IntsAre ys (off.map fun k => ks.getD k.toNat 0) := by
  have key : ∀ (ys : List Value) (off : List Int), ys.length = off.length → (∀ (i : Nat) k y, off[i]? = some k → ys[i]? = some y → atI ks k y) → IntsAre ys (off.map fun k => ks.getD k.toNat 0) := by
    intro ys
    induction ys with
    | nil => intro off hl _; cases off with
      | nil => exact .nil
      | cons _ _ => simp at hl
    | cons y r ih => intro off hl g; cases off with
      | nil => simp at hl
      | cons k off =>
        obtain ⟨t, e⟩ := g 0 k y rfl rfl
        subst e
        exact .cons _ t (ih off (by simpa using hl) fun i k' y' h1 h2 => g (i + 1) k' y' h1 h2)
  exact key ys off h.1 h.2
end
section
open LCg
/-- the generators stay bare, and the ended ones stay -/
def GK (g g' : Array GenState) : Prop := ((∀ x ∈ g, x.bare = true) → ∀ x ∈ g', x.bare = true) ∧ ∀ i : Nat, g[i]? = some .finished → g'[i]? = some .finished
theorem GK.refl (g : Array GenState) : GK g g := ⟨id, fun _ => id⟩
theorem GK.trans {a b c : Array GenState} (x : GK a b) (y : GK b c) : GK a c := ⟨fun h => y.1 (x.1 h), fun i h => y.2 i (x.2 i h)⟩
theorem GK.push {a b : Array GenState} {x : GenState} (hb : x.bare = true) (y : GK (a.push x) b) : GK a b := by
  refine GK.trans ⟨fun h z hz => ?_, fun i h => ?_⟩ y
  · rcases Array.mem_push.mp hz with hz | rfl
    · exact h z hz
    · exact hb
  · have hi : i < a.size := (Array.getElem?_eq_some_iff.mp h).1
    rw [Array.getElem?_push_lt hi]
    rw [Array.getElem?_eq_getElem hi] at h
    exact h
/-- an iterator that may move the generators -/
def Like (s s' : Shared) : Prop := s'.os = s.os ∧ s'.drawn = s.drawn ∧ GK s.gens s'.gens
theorem Like.refl (s : Shared) : Like s s := ⟨rfl, rfl, GK.refl _⟩
theorem Like.trans {s s' s'' : Shared} (x : Like s s') (y : Like s' s'') : Like s s'' := ⟨y.1.trans x.1, y.2.1.trans x.2.1, x.2.2.trans y.2.2⟩
theorem Like.heap {s s' : Shared} {h : Heap} {tk : Nat} (x : Like s s') : Like s { s' with heap := h, toks := tk } := x
structure WalksG (prog : Program) (w : World) (A : Around) (I : Addr) (fp wr : List Addr) (n : Nat) (P : Nat → Value → Prop) (St : Nat → Shared → Prop) : Prop where
  frame : ∀ i (s : Shared) h' tk, St i s → (∀ b ∈ fp, ∀ o, s.heap.get? b = some o → h'.get? b = some o) → St i { s with heap := h', toks := tk }
  item : ∀ i (s : Shared) (Q : Option Value → Shared → Prop) (E : Value → Shared → Prop), i < n → St i s →
    (∀ v s', P i v → St (i + 1) s' → (∀ b o, b ∉ wr → s.heap.get? b = some o → s'.heap.get? b = some o) → Like s s' → Q (some v) s') → wpAny (model prog w) A (pyNext (.ref I)) Q E s
  done : ∀ (s : Shared) (Q : Option Value → Shared → Prop) (E : Value → Shared → Prop), St n s →
    (∀ s', (∀ b o, b ∉ wr → s.heap.get? b = some o → s'.heap.get? b = some o) → Like s s' → Q none s') → wpAny (model prog w) A (pyNext (.ref I)) Q E s
  self : ∀ i (s : Shared) (Q : Value → Shared → Prop) (E : Value → Shared → Prop), St i s → Q (.ref I) s → wpAny (model prog w) A (pyIter (.ref I)) Q E s
def CompEndG (s : Shared) (R : Value → Prop) (y : Value) (s' : Shared) : Prop := R y ∧ ∃ h' tk', s' = { s with heap := h', toks := tk' } ∧ ∀ b o, s.heap.get? b = some o → h'.get? b = some o
def CompG (prog : Program) (w : World) (A : Around) (h₀ : Heap) (L : Addr) (m : Str → Option Value) (env : Env) (elt : Expr) (x : Str) (scope : Scope) (cl : List (Str × Addr)) (Q : Value → Shared → Prop) (xv : Value) (s₁ : Shared) : Prop :=
  ∃ I fp wr n P St news, ∃ R : Nat → Value → Prop, xv = .ref I ∧ WalksG prog w A I fp wr n P St ∧ St 0 s₁ ∧ (∀ b ∈ fp, b < s₁.heap.objs.size) ∧ Fr h₀ L s₁.heap m ∧ News h₀ L s₁.heap news ∧ (∀ p ∈ news, p.1 ∉ wr) ∧ L ∉ wr ∧ (∀ b ∈ wr, h₀.get? b = none) ∧ (∀ b ∈ wr, b ∈ fp) ∧ n ≤ sizeLine ∧
  (∀ i v C oC m₂ (s' : Shared) (E' : Value → Shared → Prop), i < n → P i v → NsObj oC m₂ → m₂ x = some v → Fr h₀ L s'.heap m → News h₀ L s'.heap ((C, oC) :: news) → (∀ p ∈ news, p.1 ≠ C) →
    wpAny (model prog w) A (eval elt (compEnvC scope cl C env)) (CompEndG s' (R i)) E' s') ∧
  (∀ ys D (s' : Shared), ys.length = n → (∀ (i : Nat) y, ys[i]? = some y → R i y) → Fr h₀ L s'.heap m → News h₀ L s'.heap ((D, lst ys) :: news) → (∀ p ∈ news, p.1 ≠ D) → Like s₁ s' → Q (.ref D) s')
section
variable {prog : Program} {w : World} {A : Around} {E : Value → Shared → Prop} {s : Shared} {h₀ : Heap} {L : Addr} {m : Str → Option Value} {env : Env}
theorem fr_buts {h h' : Heap} {wr : List Addr} (F : Fr h₀ L h m) (hk : ∀ b o, b ∉ wr → h.get? b = some o → h'.get? b = some o) (hL : L ∉ wr) (hI : ∀ b ∈ wr, h₀.get? b = none) : Fr h₀ L h' m :=
  ⟨F.ns.at' fun o e => hk L o hL e, fun b o e => hk b o (fun hm => by rw [hI b hm] at e; cases e) (F.keep b o e), F.above⟩
theorem news_buts {h h' : Heap} {wr : List Addr} {news : List (Addr × Obj)} (N : News h₀ L h news) (hk : ∀ b o, b ∉ wr → h.get? b = some o → h'.get? b = some o) (off : ∀ p ∈ news, p.1 ∉ wr) : News h₀ L h' news :=
  fun p hp => ⟨hk _ _ (off p hp) (N p hp).1, (N p hp).2⟩
theorem comp_EG {elt iter : Expr} {x : Str} {px : Pos} {scope : Scope} {cl : List (Str × Addr)} {pos : Pos} {Q : Value → Shared → Prop} (F₀ : Fr h₀ L s.heap m)
    (hclos : closureFor scope env = pure cl) (hcell : ∀ y ∈ scope.names, y.2 ≠ .cell) (hkind : scope.kind = .function)
    (hnames : ∀ y ∈ scope.names, y.2 = .local → scope.names.lookup y.1 = some .local) (hx : scope.names.lookup x = some .local)
    (h : wpAny (model prog w) A (eval iter env) (CompG prog w A h₀ L m env elt x scope cl Q) E s)
    (hs : ∀ x, foldedSetIterable iter env x = pure x := by intro _; rfl) :
    wpAny (model prog w) A (eval (.ListComp elt [⟨.Name x px, iter, [], 0⟩] scope pos) env) Q E s := by
  rw [eval_ListComp]
  refine wpAny_comprehension_free (use := none) rfl hs hclos hkind hnames (wpAny_mono h (fun xv s₁ h₁ => ?_) fun _ _ e => e)
  obtain ⟨I, fp, wr, n, P, St, news, R, rfl, W, hst, hfp, F, N, offw, hLw, hw₀, hwf, hsz, turn, fin⟩ := h₁
  refine W.self 0 _ _ _ hst ?_
  refine wpAny_newObj_type (wpAny_newFunctionEnv hcell (by intro y hy; simp at hy) (fun h₁ hns₁ hsb₁ => ?_) hkind)
  dsimp only at hns₁ hsb₁ ⊢
  generalize hH2 : s₁.heap.push { cls := .type "list", dict := none, data := .seq ([] : List Value).toArray } = H2 at hns₁ hsb₁ ⊢
  have hC : H2.objs.size = s₁.heap.objs.size + 1 := by rw [← hH2, Heap.size_push]
  have hDC : s₁.heap.objs.size ≠ H2.objs.size := by rw [hC]; exact Nat.ne_of_lt (Nat.lt_succ_self _)
  have below : ∀ b, b < s₁.heap.objs.size → b ≠ H2.objs.size ∧ b ≠ s₁.heap.objs.size := fun b hb => ⟨by rw [hC]; exact Nat.ne_of_lt (Nat.lt_succ_of_lt hb), Nat.ne_of_lt hb⟩
  have old : ∀ b o, s₁.heap.get? b = some o → h₁.get? b = some o := fun b o e => hsb₁.extBut b o (below b (Heap.lt_size e)).1 (Heap.get?_push_of_some _ (hH2 ▸ Heap.get?_push_of_some _ e))
  have hacc : h₁.get? s₁.heap.objs.size = some (lst []) := hsb₁.extBut _ _ hDC (Heap.get?_push_of_some _ (hH2 ▸ Heap.get?_push_size _ rfl))
  have fresh₀ : ∀ a, s₁.heap.objs.size ≤ a → h₀.get? a = none := fun a ha => by
    cases e : h₀.get? a with
    | none => rfl
    | some o' => exact absurd (Heap.lt_size (F.keep a o' e)) (Nat.not_lt.mpr ha)
  have hD₀ := fresh₀ _ (Nat.le_refl _)
  have hC₀ := fresh₀ H2.objs.size (by rw [hC]; exact Nat.le_succ _)
  have hLlt : L < s₁.heap.objs.size := F.ns.lt
  have hDL : s₁.heap.objs.size ≠ L := Ne.symm (below L hLlt).2
  have hCL : H2.objs.size ≠ L := Ne.symm (below L hLlt).1
  have hDf : s₁.heap.objs.size ∉ fp := fun hm => (below _ (hfp _ hm)).2 rfl
  have hCf : H2.objs.size ∉ fp := fun hm => (below _ (hfp _ hm)).1 rfl
  have hDw : s₁.heap.objs.size ∉ wr := fun hm => hDf (hwf _ hm)
  have hCw : H2.objs.size ∉ wr := fun hm => hCf (hwf _ hm)
  have offC : ∀ p ∈ news, p.1 ≠ H2.objs.size := fun p hp => (below _ (Heap.lt_size (N p hp).1)).1
  have offD : ∀ p ∈ news, p.1 ≠ s₁.heap.objs.size := fun p hp => (below _ (Heap.lt_size (N p hp).1)).2
  have hst₁ : ∀ tk, St 0 { s₁ with heap := h₁, toks := tk } := fun tk => W.frame _ _ _ _ hst fun b _ o e => old b o e
  have loop : ∀ s₃ : Shared, s₃ = { s₁ with heap := h₁, toks := s₁.toks + ([] : List (Str × Value)).length } →
      codeAny (model prog w) A (.compLoop (.ListComp elt [⟨.Name x px, iter, [], 0⟩] scope pos) 0 (.ref I) (.ref s₁.heap.objs.size) (compEnvC scope cl H2.objs.size env))
        (compPost (model prog w) A E none Q (.ref s₁.heap.objs.size) H2.objs.size) s₃ := by
    rintro s₃ rfl
    refine codeAny_compLoop_tests
      (fun k s' => ∃ i ys m', i ≤ n ∧ k = n + 1 - i ∧ ys.length = i ∧ (∀ (j : Nat) y, ys[j]? = some y → R j y) ∧ St i s' ∧ Fr h₀ L s'.heap m ∧ s'.heap.Ns H2.objs.size m' ∧ News h₀ L s'.heap ((s₁.heap.objs.size, lst ys) :: news) ∧ Like s₁ s') ?_ (n + 1)
      ⟨0, [], _, Nat.zero_le _, rfl, rfl, fun j y hy => by simp at hy, hst₁ _, F.keeps old, hns₁, fun p hp => ?_, Like.refl _⟩
    · rintro k s' ⟨i, ys, m', hi, rfl, hyl, hR, hst', F', hn', N', hlk⟩
      by_cases hlt : i < n
      · refine W.item i _ _ _ hlt hst' fun v s₂ hPv hst₂ hk₂ hlk₂ => ?_
        refine wpAny_assign_Name (wpAny_storeName_local (lookup_relabel_local hx) (hn'.at' fun o e => hk₂ _ o hCw e) (fun h₃ hn₃ hs₃ => ?_) (by simp [compEnvC, relabel, hkind]))
        refine wpAny_tests_nil ?_
        simp only [if_true]
        have hst₃ : ∀ tk, St (i + 1) { s₂ with heap := h₃, toks := tk } := fun tk => W.frame _ _ _ _ hst₂ fun b hb o e => hs₃.extBut b o (fun q => hCf (by have q' : b = H2.objs.size := q; rw [← q']; exact hb)) e
        obtain ⟨oC, heC, hoC⟩ := ns_obj hn₃
        have F₃ : Fr h₀ L h₃ m := (fr_buts F' hk₂ hLw hw₀).change hs₃ hCL hC₀
        have N₂ : News h₀ L s₂.heap ((s₁.heap.objs.size, lst ys) :: news) := news_buts N' hk₂ fun p hp => by
          rcases List.mem_cons.mp hp with rfl | hp
          · exact hDw
          · exact offw p hp
        have N₃ : News h₀ L h₃ ((s₁.heap.objs.size, lst ys) :: news) := fun p hp => by
          refine ⟨hs₃.extBut _ _ ?_ (N₂ p hp).1, (N₂ p hp).2⟩
          rcases List.mem_cons.mp hp with rfl | hp
          · exact hDC
          · exact offC p hp
        have NC : News h₀ L h₃ ((H2.objs.size, oC) :: news) := fun p hp => by
          rcases List.mem_cons.mp hp with rfl | hp
          · exact ⟨heC, hCL, hC₀⟩
          · exact N₃ p (List.mem_cons_of_mem _ hp)
        refine wpAny_mono (turn i v H2.objs.size oC _ { s₂ with heap := h₃, toks := _ } _ hlt hPv hoC (by simp) F₃ NC offC) (fun y s₄ h₄ => ?_) fun _ _ e => e
        obtain ⟨hRy, h₄, tk₄, rfl, hk₄⟩ := h₄
        have N₄ := N₃.grown hk₄
        refine append_at (hsz := by show ys.toArray.size ≤ sizeLine; rw [List.size_toArray, hyl]; exact Nat.le_trans hi hsz) (N₄ _ List.mem_cons_self).1 fun h₅ hs₅ hD₅ => ?_
        refine ⟨n + 1 - (i + 1), by omega, i + 1, ys ++ [y], _, hlt, rfl, by rw [List.length_append, List.length_singleton, hyl], fun j y' hy' => ?_, ?_, (F₃.keeps hk₄).change hs₅ hDL hD₀,
          (hoC.ns (hk₄ _ _ heC)).sameBut hs₅ (Ne.symm hDC), fun p hp => ?_, hlk.trans hlk₂⟩
        · by_cases hj : j < i
          · rw [List.getElem?_append_left (by omega)] at hy'; exact hR j y' hy'
          · by_cases he : j = i
            · subst he; rw [List.getElem?_append_right (by omega), hyl, Nat.sub_self] at hy'; cases hy'; exact hRy
            · rw [List.getElem?_eq_none (by rw [List.length_append, hyl, List.length_singleton]; omega)] at hy'; cases hy'
        · exact W.frame _ _ h₅ tk₄ (W.frame _ _ h₄ tk₄ (hst₃ _) fun b _ o e => hk₄ b o e) fun b hb o e => hs₅.extBut b o (fun q => hDf (q ▸ hb)) e
        · rcases List.mem_cons.mp hp with rfl | hp
          · exact ⟨hD₅.trans (congrArg some (lst_snoc ys y)), hDL, hD₀⟩
          · exact ⟨hs₅.extBut _ _ (offD p hp) (N₄ _ (List.mem_cons_of_mem _ hp)).1, (N₄ _ (List.mem_cons_of_mem _ hp)).2⟩
      · obtain rfl : i = n := Nat.le_antisymm hi (Nat.not_lt.mp hlt)
        refine W.done _ _ _ hst' fun s₂ hk₂ hlk₂ => ?_
        refine ⟨_, hn'.at' fun o e => hk₂ _ o hCw e, fun h'' hs'' => ?_⟩
        refine fin ys _ { s₂ with heap := h'' } hyl hR ((fr_buts F' hk₂ hLw hw₀).change hs'' hCL hC₀) (fun p hp => ?_) offD (hlk.trans hlk₂)
        refine ⟨hs''.extBut _ _ ?_ (hk₂ _ _ ?_ (N' p hp).1), (N' p hp).2⟩
        · rcases List.mem_cons.mp hp with rfl | hp
          · exact hDC
          · exact offC p hp
        · rcases List.mem_cons.mp hp with rfl | hp
          · exact hDw
          · exact offw p hp
    · rcases List.mem_cons.mp hp with rfl | hp
      · exact ⟨hacc, hDL, hD₀⟩
      · exact ⟨old _ _ (N p hp).1, (N p hp).2⟩
  exact codeAny_compStart_list (loop _ rfl) (W.self 0 _ _ _ (hst₁ _) (loop _ rfl))
end
end
section
theorem zw_Ce_1 : True := by
  k_with_none
  k_with "exec Assign" => (k_here; (fail_if_success (with_reducible show wpAny _ _ _ (CutQ _) _ _)); (refine cutQ fun cutQ0 cutH0 => ?_))
  k_with "exec AugAssign" => (k_here; (fail_if_success (with_reducible show wpAny _ _ _ (CutQ _) _ _)); (refine cutQ fun cutQ0 cutH0 => ?_))
  k_with "exec Expr" => (k_here; (fail_if_success (with_reducible show wpAny _ _ _ (CutQ _) _ _)); (refine cutQ fun cutQ0 cutH0 => ?_))
  k_with "CutQ" => ((with_reducible rename (∀ f s', _ → CutQ _ f s') => cutH1); (refine cutH1 _ _ ?_); clear cutH1; (try dsimp only))
  k_with "subscriptTail" => (k_here; (with_reducible show wpAny _ _ (subscriptTail _ _ (Value.bytes _ _) (Value.int _ _)) _ _ _); (refine itemZ (by first | (with_reducible assumption) | kba_ints) (by kba_size) (by omega) (by omega) ?_); intro _ _ kbaLoₘ778 kbaHiₘ778)
  trivial
/-- the signs of the published map -/
def h64N : List Nat := [46, 47, 48, 49, 50, 51, 52, 53, 54, 55, 56, 57, 65, 66, 67, 68, 69, 70, 71, 72, 73, 74, 75, 76, 77, 78, 79, 80, 81, 82, 83, 84, 85, 86, 87, 88, 89, 90, 97, 98, 99, 100, 101, 102, 103, 104, 105, 106, 107, 108, 109, 110, 111, 112, 113, 114, 115, 116, 117, 118, 119, 120, 121, 122]
def signI (v : Int) : Int := ((h64N.getD v.toNat 0 : Nat) : Int)
theorem lets : ∀ n : Nat, n < 64 → ((([46, 47, 48, 49, 50, 51, 52, 53, 54, 55, 56, 57, 65, 66, 67, 68, 69, 70, 71, 72, 73, 74, 75, 76, 77, 78, 79, 80, 81, 82, 83, 84, 85, 86, 87, 88, 89, 90, 97, 98, 99, 100, 101, 102, 103, 104, 105, 106, 107, 108, 109, 110, 111, 112, 113, 114, 115, 116, 117, 118, 119, 120, 121, 122] : List UInt8).getD n 0).toNat : Int) = ((h64N.getD n 0 : Nat) : Int) := by decide
theorem c_enc64 : ∀ (w : World) (p : Program) (loose : List Str) (mean : ExcName → Option Value) (mg mb : Str → Option Value) (v : Int) (tv : CbTok) (dp un : Nat) (gd : Option (List Code)) (cn : Str) (cs : Scope) (a : Addr) (ccd : Value) (cl : List (Str × Addr)) (outer : List Env) (A₀ : Around) (base h₀ : Heap) (L : Addr) (m : Str → Option Value) (s : Shared) (Q E : Value → Shared → Prop)
  (B : Below A₀ base outer h₀) (F : Fr h₀ L s.heap m) (X : (KF w.params).In h₀) (T : Top p loose mean mg mb h₀) (hcs : cs.kind = .function) (hdp : dp + 2 < recursionLimit) (hun : un + 12 < cLine)
  (h0 : 0 ≤ v) (h1 : v < 64)
  (hret : ∀ (h' : Heap) (tk' : Nat) (hk' : ∀ b o, s.heap.get? b = some o → h'.get? b = some o) (x : Int) (t : Tok), x = signI v → Q (.int x t) { s with heap := h', toks := tk' }),
  wpAny (model rw_iw0011_01.row.prog w) (ktrTop dp un gd cn cs L a ccd cl outer) (call (.ref 92) [.ref 303, .int v tv]) Q E s := by
  k_fill
  intro w p loose mean mg mb v tv dp un gd cn cs a ccd cl outer A₀ base h₀ L m s Q E B F X T hcs hdp hun h0 h1 hret
  refine wpAny_call ?_
  k_dflt (refine' enterK (binds := [(Str.ofString "self", .ref 303), (Str.ofString "value", .int v tv)]) B F X T ?kA ?kF ?kK ?k6 ?k7 ?k8 ?k9 ?kB ?_ ?c2 ?c3 ?c4 ?c5; (case kA => exact rfl); (case kF => exact rfl); (case kK => assumption); (case k6 => k_is); (case k7 => k_is); (case k8 => ktr_room); (case k9 => first | exact BindsTo.of_eq rfl | exact binds_K (by k_in) rfl (by k_is) rfl rfl rfl); (case c5 => decide); (case kB => exact locs rfl); (case c2 => exact rfl); (case c3 => exact rfl); (case c4 => exact rfl); k_whole; clear B F X T; intro L' h' F' N' B' X' T'; (try dsimp only); (try k_lift B'); (try k_fold))
  w_strict (k_steps <;> (dsimp only; k_steps))
  refine hret _ _ (Fr.keep (by k_asm)) _ _ ?_
  exact lets v.toNat (by omega)
end
section
open LCg
/-- a three's four signs, the lowest first -/
def fourI (a b c : Int) : List Int := [a % 64, b % 16 * 4 + a / 64, c % 4 * 16 + b / 16, c / 4]
def encI : List Int → List Int
  | a :: b :: c :: r => fourI a b c ++ encI r
  | [a, b] => [a % 64, b % 16 * 4 + a / 64, b / 16]
  | [a] => [a % 64, a / 64]
  | [] => []
/-- what the generator itself moves -/
def Gm (Lg V : Addr) (s s' : Shared) : Prop := (∀ b o, b ≠ Lg → b ≠ V → s.heap.get? b = some o → s'.heap.get? b = some o) ∧ s'.os = s.os ∧ s'.drawn = s.drawn ∧ s'.gens = s.gens
theorem Gm.refl (Lg V : Addr) (s : Shared) : Gm Lg V s s := ⟨fun _ _ _ _ e => e, rfl, rfl, rfl⟩
theorem Gm.trans {Lg V : Addr} {s s' s'' : Shared} (x : Gm Lg V s s') (y : Gm Lg V s' s'') : Gm Lg V s s'' := ⟨fun b o h1 h2 e => y.1 b o h1 h2 (x.1 b o h1 h2 e), y.2.1.trans x.2.1, y.2.2.1.trans x.2.2.1, y.2.2.2.trans x.2.2.2⟩
def Kept (b₀ : Nat) (s s' : Shared) : Prop := ∀ b : Addr, @LT.lt Nat _ b b₀ → ∀ o, s.heap.get? b = some o → s'.heap.get? b = some o
theorem Kept.refl (b₀ : Nat) (s : Shared) : Kept b₀ s s := fun _ _ _ e => e
abbrev GY (Lg V : Addr) (b₀ : Nat) (D : List Int) : Protocol := fun n s₀ v s' kap => n + 1 ≤ D.length ∧ (∃ t, v = .int (D.getD (D.length - (n + 1)) 0) t) ∧ Gm Lg V s₀ s' ∧ ∀ s'', Kept b₀ s' s'' → kap (.send .none) s''
abbrev GR (Lg V : Addr) : GenEnd := fun n s₀ r s₁ => r = .ok (.ret .none) ∧ (n = 0 ∧ Gm Lg V s₀ s₁)
section
variable {M : Model} {prog : Program} {w : World} {A : Around}
theorem pyNext_genQ {a : Addr} {g n : Nat} {gs : GenState} {P : Nat → Shared → Shared → Prop} {Y : Protocol} {Q : Option Value → Shared → Prop} {E : Value → Shared → Prop} {s : Shared} (hh : A.handled = none)
    (hl : s.heap.NoLimit) (hroom : A.depth < recursionLimit)
    (hg : s.heap.IsGen a g) (hgs : s.gens[g]? = some gs)
    (hgo : gs.Goes (model prog w) A.in1 (fun n s₀ r s₁ => r = .ok (.ret .none) ∧ P n s₀ s₁) Y n (.send .none) (s.setGen g .running))
    (hY : ∀ v s₁ gs', gs'.bare = true → Y (n - 1) (s.setGen g .running) v s₁ (fun r' s'' => match n with
        | 0 => False
        | m + 1 => gs'.Goes (model prog w) A.in1 (fun n s₀ r s₁ => r = .ok (.ret .none) ∧ P n s₀ s₁) Y m r' s'') → Q (some v) (s₁.setGen g gs'))
    (hP : ∀ s₁, P n (s.setGen g .running) s₁ → ∀ h', (∀ b o, s₁.heap.get? b = some o → h'.get? b = some o) → Q none { s₁.setGen g .finished with heap := h' }) :
    wpAny (model prog w) A (pyNext (.ref a)) Q E s := by
  unfold pyNext
  refine wpAny_bind (wpAny_attempt (wpAny_callSpecial?_slot (name := Str.ofString "__next__") hg.typeIs slot_gen_next
    (wpAny_call_entry slot_gen_next hg.typeIs entry_gen_next ?_ (args_gen_next _))))
  show wpAny _ A.in1 (Builtin.Generator.genWake (.ref a) (.send .none)) _ _ s
  unfold Builtin.Generator.genWake
  refine wpAny_bind (wpAny_holding (wpAny_genNumber hg (wpAny_bind (wpAny_genState hgs ?_))))
  cases gs with
  | running => exact hgo.elim
  | finished => exact hgo.elim
  | _ =>
    refine wpAny_bind (wpAny_roomToWake hl hroom ?_)
    show wpAny _ A.in1 (.resume g (.send .none) [] _) _ _ s
    refine wpAny_resumeQ hgs hgo (fun x s₁ hx => ?_) (fun v s₁ gs' hb hv => ?_)
    · obtain ⟨rfl, hp⟩ := hx
      show wpAny _ A.in1 (newExc (.type "StopIteration") [] >>= _) _ _ _
      refine wpAny_bind ?_
      simp only [newExc, newTuple]
      refine wpAny_bind (wpAny_newObj_type ?_ (by size_fits))
      refine wpAny_bind (m := firstArgMember _ _) (wpAny_of_eq (a := Value.none) (by first | rfl | (simp only [firstArgMember]; rfl)) ?_)
      refine wpAny_newObj_type ?_ (by size_fits)
      simp only [raiseNew]
      refine wpAny_bind (wpAny_bind (wpAny_handled ?_))
      first | rw [show A.in1.handled = none from hh] | rw [hh]
      refine wpAny_throw ?_
      refine wpAny_bind (wpAny_isInstance (T := "StopIteration") (b := true) ⟨_, Heap.get?_push_size _ rfl, rfl⟩ isSubtype_stop ?_)
      exact wpAny_pure (hP s₁ hp _ fun b o hb => Heap.get?_push_of_some _ (Heap.get?_push_of_some _ hb))
    · exact wpAny_pure ⟨v, rfl, wpAny_pure (hY v s₁ gs' hb hv)⟩
/-- the generator stands behind its i-th sign -/
def GSt (prog : Program) (w : World) (A : Around) (I : Addr) (gn : Nat) (Lg V : Addr) (b₀ : Nat) (D : List Int) (i : Nat) (s : Shared) : Prop :=
  s.heap.IsGen I gn ∧ s.heap.NoLimit ∧ ∃ gs, s.gens[gn]? = some gs ∧ ∀ s'', Kept b₀ s s'' → gs.Goes (model prog w) A.in1 (GR Lg V) (GY Lg V b₀ D) (D.length - i) (.send .none) s''
theorem bare_set {s s' : Shared} {g : Nat} {gs gs' : GenState} (hs : s'.gens = (s.setGen g gs).gens) (hb : gs'.bare = true) (h : ∀ x ∈ s.gens, x.bare = true) : ∀ x ∈ (s'.setGen g gs').gens, x.bare = true := by
  intro x hx
  have e0 : (s'.setGen g gs').gens = s'.gens.setIfInBounds g gs' := rfl
  have e1 : (s.setGen g gs).gens = s.gens.setIfInBounds g gs := rfl
  rw [e0, hs, e1] at hx
  obtain ⟨i, hi⟩ := Array.getElem?_of_mem hx
  rw [Array.getElem?_setIfInBounds] at hi
  by_cases hg : g = i
  · rw [if_pos hg] at hi
    split at hi
    · cases hi; exact hb
    · cases hi
  · rw [if_neg hg, Array.getElem?_setIfInBounds, if_neg hg] at hi
    exact h _ (Array.mem_of_getElem? hi)
theorem gk_set {s s' : Shared} {g : Nat} {gs gs0 gs' : GenState} (hs : s'.gens = (s.setGen g gs).gens) (hb : gs'.bare = true) (h0 : s.gens[g]? = some gs0) (hn : gs0 ≠ .finished) : GK s.gens (s'.setGen g gs').gens := by
  refine ⟨bare_set hs hb, fun i hi => ?_⟩
  have hg : g ≠ i := by
    rintro rfl
    rw [h0] at hi
    exact hn (Option.some.inj hi)
  have e0 : (s'.setGen g gs').gens = s'.gens.setIfInBounds g gs' := rfl
  have e1 : (s.setGen g gs).gens = s.gens.setIfInBounds g gs := rfl
  rw [e0, hs, e1, Array.getElem?_setIfInBounds, if_neg hg, Array.getElem?_setIfInBounds, if_neg hg]
  exact hi
theorem goes_ne {M : Model} {A : Around} {R : GenEnd} {Y : Protocol} {n : Nat} {r : Resume} {s : Shared} {gs : GenState} (h : gs.Goes M A R Y n r s) : gs ≠ .finished := by
  rintro rfl
  exact h.elim
theorem WalksG.gen (hh : A.handled = none) (hroom : A.depth < recursionLimit) (I : Addr) (gn : Nat) (Lg V : Addr) (b₀ : Nat) (D : List Int) (hI : @LT.lt Nat _ I b₀) (hs : @LT.lt Nat _ cStatics b₀) (hIL : I ≠ Lg) (hIV : I ≠ V) (hsL : cStatics ≠ Lg) (hsV : cStatics ≠ V) :
    WalksG prog w A I (List.range b₀) [Lg, V] D.length (fun i v => ∃ t, v = .int (D.getD i 0) t) (GSt prog w A I gn Lg V b₀ D) where
  frame := fun j s h' tk st hk =>
    ⟨let ⟨o, nm, qn, ho, r⟩ := st.1; ⟨o, nm, qn, hk I (List.mem_range.mpr hI) o ho, r⟩,
     (let ⟨mc, hns, hnn⟩ := st.2.1; ⟨mc, hns.at' fun o e => hk cStatics (List.mem_range.mpr hs) o e, hnn⟩),
     let ⟨gs, hgs, hgo⟩ := st.2.2; ⟨gs, hgs, fun s'' hal => hgo s'' fun b hb o e => hal b hb o (hk b (List.mem_range.mpr hb) o e)⟩⟩
  item := fun j s Q E hj st hQ => by
    obtain ⟨hg, hl, gs, hgs, hgo⟩ := st
    obtain ⟨m, hm⟩ : ∃ m, D.length - j = m + 1 := ⟨D.length - j - 1, by omega⟩
    rw [hm] at hgo
    refine pyNext_genQ (P := fun n s₀ s₁ => n = 0 ∧ Gm Lg V s₀ s₁) hh hl hroom hg hgs (hgo _ fun _ _ _ e => e) (fun v s₁ gs' hb hv => ?_) (fun s₁ hp h' hk => ?_)
    · obtain ⟨_, hi, hk₁, hkap⟩ := hv
      have hidx : D.length - (m + 1 - 1 + 1) = j := by omega
      rw [hidx] at hi
      refine hQ v _ hi ⟨let ⟨o, nm, qn, ho, r⟩ := hg; ⟨o, nm, qn, hk₁.1 I o hIL hIV ho, r⟩, (let ⟨mc, hns, hnn⟩ := hl; ⟨mc, hns.at' fun o e => hk₁.1 cStatics o hsL hsV e, hnn⟩), gs', ?_, ?_⟩ ?_ ?_
      · exact setGen_self (gs := .running) (by rw [hk₁.2.2.2]; exact setGen_self hgs)
      · intro s'' hal
        have e : D.length - (j + 1) = m := by omega
        rw [e]
        exact hkap s'' hal
      · intro b o hb e
        exact hk₁.1 b o (fun h => hb (h ▸ List.mem_cons_self ..)) (fun h => hb (by rw [h]; simp)) e
      · exact ⟨hk₁.2.1, hk₁.2.2.1, gk_set hk₁.2.2.2 hb hgs (goes_ne (hgo s fun _ _ _ e => e))⟩
    · exact absurd hp.1 (Nat.succ_ne_zero m)
  done := fun s Q E st hQ => by
    obtain ⟨hg, hl, gs, hgs, hgo⟩ := st
    rw [Nat.sub_self] at hgo
    refine pyNext_genQ (P := fun n s₀ s₁ => n = 0 ∧ Gm Lg V s₀ s₁) hh hl hroom hg hgs (hgo _ fun _ _ _ e => e) (fun v s₁ gs' hb hv => ?_) (fun s₁ hp h' hk => ?_)
    · obtain ⟨_, _, _, hkap⟩ := hv
      exact False.elim (hkap s₁ fun _ _ _ e => e)
    · obtain ⟨_, hk₁⟩ := hp
      refine hQ _ (fun b o hb e => hk b o (hk₁.1 b o (fun h => hb (h ▸ List.mem_cons_self ..)) (fun h => hb (by rw [h]; simp)) e)) ⟨hk₁.2.1, hk₁.2.2.1, gk_set hk₁.2.2.2 rfl hgs (goes_ne (hgo s fun _ _ _ e => e))⟩
  self := fun _ _ _ _ st hQ => wpAny_pyIter_gen st.1 hQ
end
end
section
theorem zw_Gs_1 : True := by
  k_with_none
  k_with "exec Assign" => (k_here; (fail_if_success (with_reducible show wpAny _ _ _ (CutQ _) _ _)); (refine cutQ fun cutQ0 cutH0 => ?_))
  k_with "exec AugAssign" => (k_here; (fail_if_success (with_reducible show wpAny _ _ _ (CutQ _) _ _)); (refine cutQ fun cutQ0 cutH0 => ?_))
  k_with "exec Expr" => (k_here; (fail_if_success (with_reducible show wpAny _ _ _ (CutQ _) _ _)); (refine cutQ fun cutQ0 cutH0 => ?_))
  k_with "CutQ" => ((with_reducible rename (∀ f s', _ → CutQ _ f s') => cutH1); (refine cutH1 _ _ ?_); clear cutH1; (try dsimp only))
  k_with "compareOp Eq int int" => (k_here; first | (refine eqT (by omega) ?_) | (refine eqF (by omega) ?_))
  k_with "compareOp Lt int int" => (k_here; first | (refine ltT (by omega) ?_) | (refine ltF (by omega) ?_))
  k_with "ite" => (k_here; first | with_reducible refine ite_tt ?_ | with_reducible refine ite_ff ?_ | (refine ite_pos (by with_reducible assumption) ?_) | (refine ite_neg (by with_reducible assumption) ?_) | (refine ite_pos (by omega) ?_) | (refine ite_neg (by omega) ?_) | (with_reducible refine split_dec ?_ ?_ <;> intro _))
  trivial
def bodyAt (K : Frag) (f : Addr) : List Stmt := match K.lookup f with
  | some ⟨_, _, .func fd, _⟩ => (match fd.body with | .stmts b => b | _ => [])
  | _ => []
def scopeAt (K : Frag) (f : Addr) : Scope := match K.lookup f with
  | some ⟨_, _, .func fd, _⟩ => fd.scope
  | _ => default
abbrev ledG (NV c' V Cv : Addr) (on oc oC : Obj) (vs : List Value) (n : Nat) : List (Addr × Obj) := [(NV, on), (c', oc), (V, listOf vs.toArray n), (Cv, oC)]
/-- the handed def gives the next octet -/
def NvOk (w : World) (NV c' V Cv : Addr) (on oc oC : Obj) : Prop :=
  ∀ (p : Program) (loose : List Str) (mean : ExcName → Option Value) (mg mb : Str → Option Value) (dp un : Nat) (gd : Option (List Code)) (cn : Str) (cs : Scope) (a : Addr) (ccd : Value) (cl : List (Str × Addr)) (outer : List Env) (A₀ : Around) (base h₀ : Heap) (L : Addr) (m : Str → Option Value) (s : Shared) (Q E : Value → Shared → Prop) (y : Value) (rest : List Value) (n : Nat)
    (B : Below A₀ base outer h₀) (F : Fr h₀ L s.heap m) (X : (KF w.params).In h₀) (T : Top p loose mean mg mb h₀) (hcs : cs.kind = .function) (hdp : dp + 2 < recursionLimit) (hun : un + 12 < cLine) (N : News h₀ L s.heap (ledG NV c' V Cv on oc oC (y :: rest) n)) (hl : rest.length ≤ 100)
    (hret : ∀ h' tk', Fr h₀ L h' m → News h₀ L h' (ledG NV c' V Cv on oc oC rest (n + 1)) → (∀ b o, b ≠ V → s.heap.get? b = some o → h'.get? b = some o) → Q y { s with heap := h', toks := tk' }),
    wpAny (model rw_iw0011_01.row.prog w) (ktrTop dp un gd cn cs L a ccd cl outer) (call (.ref NV) []) Q E s
abbrev arT (dp un : Nat) (gd : Option (List Code)) (outer : List Env) : Around := { handled := none, depth := dp, frames := some outer, guards := gd, units := un }
abbrev genEnv (K : Frag) (Lg : Addr) : Env := envOf (Str.ofString "Base64Engine._encode_bytes_little") (scopeAt K 133) Lg 133 (.ref 132)
theorem seg_If {M : Model} {A : Around} {R : GenEnd} {Y : Protocol} {n : Nat} {s₀ : Shared} {c : Code} {fs : List Frame} {s : Shared} {env : Env} {K : Flow → Sem Fin} {H : Value → Sem Fin} {gd : Bool → Bool} {lv : List Value → List Value} {test : Expr} {body orelse : List Stmt} {pos : Pos}
    (h : wpAny M (A.over c fs) (isTrue test env (eval test env)) (fun b s' => if b = true then Seg M A R Y n s₀ c ((execs body env).wrap K H gd lv) fs s' else Seg M A R Y n s₀ c ((execs orelse env).wrap K H gd lv) fs s') (fun x s' => Seg M A R Y n s₀ c (H x) fs s') s) :
    Seg M A R Y n s₀ c ((exec (.If test body orelse pos) env).wrap K H gd lv) fs s := by
  rw [exec_If]
  refine seg_at ?_
  show Seg _ A R Y n s₀ c (Sem.wrap K H gd lv (isTrue test env (eval test env) >>= fun b => if b = true then execs body env else execs orelse env)) fs s
  rw [Sem.bind_eq_wrap', Sem.wrap_wrap]
  refine seg_wrap (wpAny_mono h (fun b s' hb => ?_) fun _ _ x => x)
  cases b <;> exact hb
abbrev mG (NV : Addr) (ch tl : Nat) (t1 t2 : Tok) (c : Int) (t : Tok) (o1 o2 o3 : Option Value) : Str → Option Value := fun y =>
  if y = Str.ofString "v3" then o3 else if y = Str.ofString "v2" then o2 else if y = Str.ofString "v1" then o1 else if y = Str.ofString "idx" then some (.int c t) else
    ([(Str.ofString "self", .ref 303), (Str.ofString "next_value", .ref NV), (Str.ofString "chunks", .int (ch : Int) t1), (Str.ofString "tail", .int (tl : Int) t2)] : List (Str × Value)).reverse.lookup y
theorem fr_eq {h₀ h : Heap} {L : Addr} {m m' : Str → Option Value} (F : Fr h₀ L h m) (e : ∀ y, m y = m' y) : Fr h₀ L h m' := (funext e : m = m') ▸ F
theorem seg_loop {M : Model} {A : Around} {R : GenEnd} {Y : Protocol} {C : Code} {fs : List Frame} {Lg V : Addr} (I : Nat → Nat → Shared → Prop)
    (turn : ∀ j n s s₀, (∀ n' s' s₀', I j n' s' → Gm Lg V s₀' s' → Seg M A R Y n' s₀' C (M.den C) fs s') → I (j + 1) n s → Gm Lg V s₀ s → Seg M A R Y n s₀ C (M.den C) fs s)
    (exit : ∀ n s s₀, I 0 n s → Gm Lg V s₀ s → Seg M A R Y n s₀ C (M.den C) fs s) : ∀ j n s s₀, I j n s → Gm Lg V s₀ s → Seg M A R Y n s₀ C (M.den C) fs s := by
  intro j
  induction j with
  | zero => exact exit
  | succ j ih => exact fun n s s₀ => turn j n s s₀ ih
abbrev GInv (g₀ : Heap) (Lg NV c' V Cv : Addr) (on oc oC : Obj) (ks : List Int) (ch tl : Nat) (t1 t2 : Tok) (j n : Nat) (s : Shared) : Prop :=
  ∃ (c : Nat) (t : Tok) (o1 o2 o3 : Option Value) (vs' : List Value) (ks' : List Int) (nn : Nat), c + j = ch ∧ ks'.length = 3 * j + tl ∧ IntsAre vs' ks' ∧ (∀ k ∈ ks', 0 ≤ k ∧ k < 256) ∧ (∃ pre, encI ks = pre ++ encI ks') ∧ n = (encI ks').length ∧
    Fr g₀ Lg s.heap (mG NV ch tl t1 t2 c t o1 o2 o3) ∧ News g₀ Lg s.heap (ledG NV c' V Cv on oc oC vs' nn)
theorem Gm.at {Lg V : Addr} {s₀ s : Shared} {h' : Heap} (G : Gm Lg V s₀ s) (k : ∀ b o, b ≠ Lg → b ≠ V → s.heap.get? b = some o → h'.get? b = some o) : ∀ tk, Gm Lg V s₀ { s with heap := h', toks := tk } :=
  fun _ => ⟨fun b o h1 h2 e => k b o h1 h2 (G.1 b o h1 h2 e), G.2⟩
section
variable {prog : Program} {w : World} {A : Around} {E : Value → Shared → Prop} {s : Shared} {h₀ : Heap} {L V : Addr} {m : Str → Option Value} {news : List (Addr × Obj)} {env : Env} {s₀ : Shared} {a b : Int} {t u : Tok}
theorem storeG {x : Str} {v : Value} {Q : Unit → Shared → Prop} (F : Fr h₀ L s.heap m) (N : News h₀ L s.heap news) (G : Gm L V s₀ s) (hy : env.kindOf x = some .local) (hp : (env.scope.kind == .class || (env.scope.kind == .module && env.locals != env.globals)) = false) (hLe : env.locals = L)
    (h : ∀ h', Fr h₀ L h' (fun y => if y = x then some v else m y) → News h₀ L h' news → (∀ tk, Gm L V s₀ { s with heap := h', toks := tk }) → Q () { s with heap := h', toks := s.toks + 1 }) : wpAny (model prog w) A (storeName env x v) Q E s := by
  subst hLe
  have hL₀ : h₀.get? env.locals = none := Heap.get?_none_of_le F.above
  refine wpAny_storeName_local hy F.ns (fun h' hn hs => h h' ⟨hn, fun b o e => hs.extBut b o (fun q => by rw [q, hL₀] at e; cases e) (F.keep b o e), F.above⟩ (fun p hp => ?_) (G.at fun b o h1 _ e => hs.extBut b o h1 e)) hp
  exact ⟨hs.extBut _ _ (N p hp).2.1 (N p hp).1, (N p hp).2⟩
theorem and63 {Q : Value → Shared → Prop} (h : Q (.int (a % 64) s.toks) { s with toks := s.toks + 1 }) : wpAny (model prog w) A (binaryOp .BitAnd (.int a t) (.int 63 u)) Q E s := and_int (by rw [bitAnd_m6]; exact h)
theorem and15 {Q : Value → Shared → Prop} (h : Q (.int (a % 16) s.toks) { s with toks := s.toks + 1 }) : wpAny (model prog w) A (binaryOp .BitAnd (.int a t) (.int 15 u)) Q E s := and_int (by rw [bitAnd_m4]; exact h)
theorem and3 {Q : Value → Shared → Prop} (h : Q (.int (a % 4) s.toks) { s with toks := s.toks + 1 }) : wpAny (model prog w) A (binaryOp .BitAnd (.int a t) (.int 3 u)) Q E s := and_int (by rw [bitAnd_m2]; exact h)
theorem shl2 {Q : Value → Shared → Prop} (h0 : 0 ≤ a) (h1 : a < 256) (h : Q (.int (a * 4) s.toks) { s with toks := s.toks + 1 }) : wpAny (model prog w) A (binaryOp .LShift (.int a t) (.int 2 u)) Q E s := lshift_int_small (by decide) (by decide) (by omega) h
theorem shl4 {Q : Value → Shared → Prop} (h0 : 0 ≤ a) (h1 : a < 256) (h : Q (.int (a * 16) s.toks) { s with toks := s.toks + 1 }) : wpAny (model prog w) A (binaryOp .LShift (.int a t) (.int 4 u)) Q E s := lshift_int_small (by decide) (by decide) (by omega) h
theorem shr2 {Q : Value → Shared → Prop} (h : Q (.int (a / 4) s.toks) { s with toks := s.toks + 1 }) : wpAny (model prog w) A (binaryOp .RShift (.int a t) (.int 2 u)) Q E s := rshift_int (by decide) (by rw [show ((2 : Int) ^ (2 : Int).toNat) = 4 from rfl, Int.fdiv_eq_ediv_of_nonneg _ (by decide)]; exact h)
theorem shr4 {Q : Value → Shared → Prop} (h : Q (.int (a / 16) s.toks) { s with toks := s.toks + 1 }) : wpAny (model prog w) A (binaryOp .RShift (.int a t) (.int 4 u)) Q E s := rshift_int (by decide) (by rw [show ((2 : Int) ^ (4 : Int).toNat) = 16 from rfl, Int.fdiv_eq_ediv_of_nonneg _ (by decide)]; exact h)
theorem shr6 {Q : Value → Shared → Prop} (h : Q (.int (a / 64) s.toks) { s with toks := s.toks + 1 }) : wpAny (model prog w) A (binaryOp .RShift (.int a t) (.int 6 u)) Q E s := rshift_int (by decide) (by rw [show ((2 : Int) ^ (6 : Int).toNat) = 64 from rfl, Int.fdiv_eq_ediv_of_nonneg _ (by decide)]; exact h)
theorem bitOr_add (x y k : Nat) (hy : y < 2 ^ k) : Builtin.bitOr ((x : Int) * ((2 ^ k : Nat) : Int)) (y : Int) = (x : Int) * ((2 ^ k : Nat) : Int) + (y : Int) := by
  have e : Builtin.bitOr (((x * 2 ^ k : Nat) : Int)) (y : Int) = (((x * 2 ^ k) ||| y : Nat) : Int) := by
    have h1 : ∀ n : Nat, Builtin.bitNot (Builtin.bitNot (n : Int)) = (n : Int) := fun n => by unfold Builtin.bitNot; omega
    have h2 : ∀ n : Nat, decide (0 ≤ Builtin.bitNot (n : Int)) = false := fun n => by unfold Builtin.bitNot; exact decide_eq_false (by omega)
    unfold Builtin.bitOr Builtin.bitAnd
    rw [h2, h2]
    simp only [h1, Int.toNat_natCast]
  rw [← Int.natCast_mul, e, ← Int.natCast_add]
  congr 1
  rw [Nat.mul_comm, ← Nat.two_pow_add_eq_or_of_lt hy]
theorem or4 {Q : Value → Shared → Prop} (h0 : 0 ≤ a) (h2 : 0 ≤ b) (h3 : b < 4) (h : Q (.int (a * 4 + b) s.toks) { s with toks := s.toks + 1 }) : wpAny (model prog w) A (binaryOp .BitOr (.int (a * 4) t) (.int b u)) Q E s := by
  obtain ⟨x, rfl⟩ : ∃ x : Nat, a = x := ⟨a.toNat, by omega⟩
  obtain ⟨y, rfl⟩ : ∃ y : Nat, b = y := ⟨b.toNat, by omega⟩
  refine or_int ?_
  rw [show ((x : Int) * 4) = (x : Int) * ((2 ^ 2 : Nat) : Int) from rfl, bitOr_add x y 2 (by omega)]
  exact h
theorem or16 {Q : Value → Shared → Prop} (h0 : 0 ≤ a) (h2 : 0 ≤ b) (h3 : b < 16) (h : Q (.int (a * 16 + b) s.toks) { s with toks := s.toks + 1 }) : wpAny (model prog w) A (binaryOp .BitOr (.int (a * 16) t) (.int b u)) Q E s := by
  obtain ⟨x, rfl⟩ : ∃ x : Nat, a = x := ⟨a.toNat, by omega⟩
  obtain ⟨y, rfl⟩ : ∃ y : Nat, b = y := ⟨b.toNat, by omega⟩
  refine or_int ?_
  rw [show ((x : Int) * 16) = (x : Int) * ((2 ^ 4 : Nat) : Int) from rfl, bitOr_add x y 4 (by omega)]
  exact h
end
theorem getD_at {D pre q r : List Int} {x : Int} (h : D = pre ++ (q ++ x :: r)) : D.getD (D.length - (r.length + 1)) 0 = x := by
  subst h
  have e : (pre ++ (q ++ x :: r)).length - (r.length + 1) = (pre ++ q).length := by simp only [List.length_append, List.length_cons]; omega
  rw [e, ← List.append_assoc, List.getD_eq_getElem?_getD, List.getElem?_append_right (Nat.le_refl _), Nat.sub_self]
  rfl
theorem nvAt {NV c' V Cv : Addr} {on oc oC : Obj} {vs : List Value} {n : Nat} {g₀ h : Heap} {L : Addr} (N : News g₀ L h (ledG NV c' V Cv on oc oC vs n)) (hfn : ∃ o1 o2 fd sl, on = ⟨o1, o2, .func fd, sl⟩) : FnAt NV h := by
  obtain ⟨o1, o2, fd, sl, rfl⟩ := hfn
  exact FnAt.of N (.head _)
theorem fr_kept {g₀ : Heap} {Lg : Addr} {m : Str → Option Value} {s s' : Shared} {b₀ : Nat} (F : Fr g₀ Lg s.heap m) (k : Kept b₀ s s') (hL : @LT.lt Nat _ Lg b₀) : Fr g₀ Lg s'.heap m :=
  ⟨F.ns.at' fun o e => k Lg hL o e, fun b o e => k b (Nat.lt_of_lt_of_le (Heap.lt_size e) (Nat.le_trans F.above (Nat.le_of_lt hL))) o (F.keep b o e), F.above⟩
theorem news_kept {g₀ : Heap} {Lg : Addr} {news : List (Addr × Obj)} {s s' : Shared} {b₀ : Nat} (N : News g₀ Lg s.heap news) (k : Kept b₀ s s') (hb : ∀ p ∈ news, @LT.lt Nat _ p.1 b₀) : News g₀ Lg s'.heap news :=
  fun p hp => ⟨k p.1 (hb p hp) _ (N p hp).1, (N p hp).2⟩
theorem Gm.here {Lg V : Addr} {s s' : Shared} (_ : Gm Lg V s s') (x : Shared) : Gm Lg V x x := Gm.refl _ _ x
/-- what a yield owes -/
def YPost (Lg V : Addr) (b₀ : Nat) (D : List Int) (n : Nat) (s₀ : Shared) (kont : Shared → Prop) (v : Value) (s' : Shared) : Prop :=
  (∃ t, v = .int (D.getD (D.length - (n + 1)) 0) t) ∧ n + 1 ≤ D.length ∧ Gm Lg V s₀ s' ∧ ∀ s'', Kept b₀ s' s'' → kont s''
theorem YPost.intro {Lg V : Addr} {b₀ : Nat} {D : List Int} {n : Nat} {s₀ : Shared} {kont : Shared → Prop} {x : Int} {t : Tok} {s' : Shared} (hy : D.getD (D.length - (n + 1)) 0 = x) (hl : n + 1 ≤ D.length) (G : Gm Lg V s₀ s') (k : ∀ s'', Kept b₀ s' s'' → kont s'') : YPost Lg V b₀ D n s₀ kont (.int x t) s' := ⟨⟨t, by rw [hy]⟩, hl, G, k⟩
theorem seg_Y {M : Model} {A : Around} {Lg V : Addr} {b₀ : Nat} {D : List Int} {n : Nat} {s₀ : Shared} {c : Code} {fs : List Frame} {s : Shared} {env : Env} {K : Flow → Sem Fin} {H : Value → Sem Fin} {gd : Bool → Bool} {lv : List Value → List Value} {e : Expr} {ypos pos : Pos} (hfs : splitAtGen fs = none) (hgd : gd false = false) (hfg : fs.any Frame.guarded = false)
    (hco : env.scope.isCoroutine = false) (hi : interactive env = false)
    (h : wpAny M (A.over c fs) (eval e env) (YPost Lg V b₀ D n s₀ fun s'' => Seg M A (GR Lg V) (GY Lg V b₀ D) n s'' c (K .next) fs s'') (fun x s' => Seg M A (GR Lg V) (GY Lg V b₀ D) (n + 1) s₀ c (H x) fs s') s) :
    Seg M A (GR Lg V) (GY Lg V b₀ D) (n + 1) s₀ c ((exec (.Expr (.Yield (some e) ypos) pos) env).wrap K H gd lv) fs s := by
  refine seg_Expr_Yield hfs hgd hfg (wpAny_mono h (fun v s' hv => ?_) fun _ _ x => x) hco hi
  intro kap hk
  exact ⟨hv.2.1, hv.1, hv.2.2.1, fun s'' hk2 => hk .none s'' (hv.2.2.2 s'' hk2)⟩
theorem ledG_lt {NV c' V Cv : Addr} {on oc oC : Obj} {vs : List Value} {n b₀ : Nat} (h1 : @LT.lt Nat _ NV b₀) (h2 : @LT.lt Nat _ c' b₀) (h3 : @LT.lt Nat _ V b₀) (h4 : @LT.lt Nat _ Cv b₀) : ∀ p ∈ ledG NV c' V Cv on oc oC vs n, @LT.lt Nat _ p.1 b₀ := by
  intro p hp
  simp only [List.mem_cons, List.not_mem_nil, or_false] at hp
  rcases hp with rfl | rfl | rfl | rfl <;> assumption
theorem zw_Gs_2 : True := by
  k_with "YPost" => ((rename Fr _ _ _ _ => uFₘ85); (rename News _ _ _ _ => uNₘ85); (rename Gm _ _ _ _ => uGₘ85); (refine YPost.intro (by assumption) (by omega) uGₘ85 (fun s2ₘ85 hk2ₘ85 => ?_)); (have F2ₘ85 := fr_kept uFₘ85 hk2ₘ85 (by assumption)); (have N2ₘ85 := news_kept uNₘ85 hk2ₘ85 (ledG_lt (by assumption) (by assumption) (by assumption) (by assumption))); (have G2ₘ85 := Gm.here uGₘ85 s2ₘ85); (clear uFₘ85 uNₘ85 uGₘ85 hk2ₘ85); (try dsimp only))
  k_with "binaryOp BitAnd int int" => (k_here; first | with_reducible refine and63 ?_ | with_reducible refine and15 ?_ | with_reducible refine and3 ?_)
  k_with "binaryOp LShift int int" => (k_here; first | (refine shl2 (by omega) (by omega) ?_) | (refine shl4 (by omega) (by omega) ?_))
  k_with "binaryOp RShift int int" => (k_here; first | with_reducible refine shr2 ?_ | with_reducible refine shr4 ?_ | with_reducible refine shr6 ?_)
  k_with "binaryOp BitOr int int" => (k_here; first | (refine or4 (by omega) (by omega) (by omega) ?_) | (refine or16 (by omega) (by omega) (by omega) ?_))
  k_with "storeName" => (k_here; (rename Fr _ _ _ _ => uFₘ884); (rename News _ _ _ _ => uNₘ884); (rename Gm _ _ _ _ => uGₘ884); k_dflt (refine storeG uFₘ884 uNₘ884 uGₘ884 (by rfl) (by rfl) (by rfl) ?_); clear uFₘ884 uNₘ884 uGₘ884; intro h'ₘ884 F'ₘ884 N'ₘ884 G'ₘ884; replace G'ₘ884 := G'ₘ884 0)
  k_with "callWith ref" => (k_here; (rename News _ _ _ _ => uNₘ560); k_dflt (refine' callWith_F0 (by exact nvAt uNₘ560 (by assumption)) ?_; k_whole; (try dsimp only [List.nil_append, List.cons_append])))
  k_with "call ref" => (k_here; (rename Fr _ _ _ _ => uFₘ100); (rename News _ _ _ _ => uNₘ100); (rename Gm _ _ _ _ => uGₘ100); (rename NvOk _ _ _ _ _ _ _ _ => uVₘ100); k_dflt (refine' uVₘ100 _ _ _ _ _ _ _ _ _ _ _ _ _ _ _ _ _ _ _ _ _ _ _ _ _ (by assumption) uFₘ100 (by assumption) (by assumption) (by rfl) (by first | (dsimp only; omega) | exact udp (by assumption)) (by (dsimp only; omega)) uNₘ100 (by first | (with_reducible assumption) | ((simp only [List.length_cons]); omega) | omega) ?_; intro h'ₘ100 tk'ₘ100 F'ₘ100 N'ₘ100 k'ₘ100; have G'ₘ100 := Gm.at uGₘ100 (fun bₘ100 oₘ100 _ h2ₘ100 eₘ100 => k'ₘ100 bₘ100 oₘ100 h2ₘ100 eₘ100) 0; clear uFₘ100 uNₘ100 uGₘ100 k'ₘ100))
  trivial
theorem seg_ret {M : Model} {A : Around} {R : GenEnd} {Y : Protocol} {n : Nat} {s₀ : Shared} {c : Code} {fs : List Frame} {s : Shared} {K : Flow → Sem Fin} {H : Value → Sem Fin} {gd : Bool → Bool} {lv : List Value → List Value} {h : Value → Sem Unit}
    (x : Seg M A R Y n s₀ c (K .next) fs s) : Seg M A R Y n s₀ c (Sem.wrap K H gd lv (Sem.onRaise (Sem.pure Flow.next) h)) fs s := x
def ArIs (_ : Around) : Prop := True
section
variable {M : Model} {A A' : Around} {R : GenEnd} {Y : Protocol} {n : Nat} {s₀ : Shared} {c : Code} {fs : List Frame} {s : Shared} {env : Env} {K : Flow → Sem Fin} {H : Value → Sem Fin} {gd : Bool → Bool} {lv : List Value → List Value}
theorem seg_wrapA {m : Sem Flow} (_ : ArIs A') (e : A.over c fs = A') (h : wpAny M A' m (fun a s' => Seg M A R Y n s₀ c (K a) fs s') (fun x s' => Seg M A R Y n s₀ c (H x) fs s') s) : Seg M A R Y n s₀ c (m.wrap K H gd lv) fs s := by
  subst e; exact seg_wrap h
theorem seg_IfA {test : Expr} {body orelse : List Stmt} {pos : Pos} (_ : ArIs A') (e : A.over c fs = A')
    (h : wpAny M A' (isTrue test env (eval test env)) (fun b s' => if b = true then Seg M A R Y n s₀ c ((execs body env).wrap K H gd lv) fs s' else Seg M A R Y n s₀ c ((execs orelse env).wrap K H gd lv) fs s') (fun x s' => Seg M A R Y n s₀ c (H x) fs s') s) :
    Seg M A R Y n s₀ c ((exec (.If test body orelse pos) env).wrap K H gd lv) fs s := by
  subst e; exact seg_If h
theorem seg_YA {Lg V : Addr} {b₀ : Nat} {D : List Int} {e : Expr} {ypos pos : Pos} (_ : ArIs A') (ea : A.over c fs = A') (hfs : splitAtGen fs = none) (hgd : gd false = false) (hfg : fs.any Frame.guarded = false)
    (hco : env.scope.isCoroutine = false) (hi : interactive env = false)
    (h : wpAny M A' (eval e env) (YPost Lg V b₀ D n s₀ fun s'' => Seg M A (GR Lg V) (GY Lg V b₀ D) n s'' c (K .next) fs s'') (fun x s' => Seg M A (GR Lg V) (GY Lg V b₀ D) (n + 1) s₀ c (H x) fs s') s) :
    Seg M A (GR Lg V) (GY Lg V b₀ D) (n + 1) s₀ c ((exec (.Expr (.Yield (some e) ypos) pos) env).wrap K H gd lv) fs s := by
  subst ea; exact seg_Y hfs hgd hfg hco hi h
end
theorem udp {dp : Nat} (h : dp + 6 < recursionLimit) : dp + 1 + 2 < recursionLimit := by omega
theorem zw_Gs_3 : True := by
  k_with "Seg" => ((try dsimp only); first | (with_reducible refine seg_execs_cons ?_) | (with_reducible refine seg_execs_nil ?_) | ((with_reducible show Seg _ _ _ _ _ _ _ (Sem.wrap _ _ _ _ (exec (.Assign _ _ _) _)) _ _); (rename ArIs _ => uAₘ645); k_dflt (refine seg_wrapA uAₘ645 (by rfl) ?_)) | ((with_reducible show Seg _ _ _ _ _ _ _ (Sem.wrap _ _ _ _ (exec (.AugAssign _ _ _ _) _)) _ _); (rename ArIs _ => uAₘ645); k_dflt (refine seg_wrapA uAₘ645 (by rfl) ?_)) | ((with_reducible show Seg _ _ _ _ _ _ _ (Sem.wrap _ _ _ _ (exec (.Assert _ _ _) _)) _ _); (rename ArIs _ => uAₘ645); k_dflt (refine seg_wrapA uAₘ645 (by rfl) ?_)) | ((with_reducible show Seg _ _ _ _ _ _ _ (Sem.wrap _ _ _ _ (exec (.If _ _ _ _) _)) _ _); (rename ArIs _ => uAₘ645); k_dflt (refine seg_IfA uAₘ645 (by rfl) ?_)) | ((with_reducible show Seg _ _ _ _ _ _ _ (Sem.wrap _ _ _ _ (exec (.Expr _ _) _)) _ _); (rename ArIs _ => uAₘ645); k_dflt (refine seg_YA uAₘ645 (by rfl) (by rfl) (by rfl) (by rfl) (by rfl) (by rfl) ?_)) | ((with_reducible show Seg _ _ _ _ _ _ _ (Sem.wrap _ _ _ _ (Sem.onRaise _ _)) _ _); k_dflt (refine seg_ret ?_)) | ((with_reducible show Seg _ _ _ _ _ _ _ (Sem.pure (Fin.done _)) (_ :: _) _); k_dflt (refine seg_leaf (Except.ok Flow.next) ?_)) | ((with_reducible show Seg _ _ _ _ _ _ _ (Sem.pure (Fin.done _)) [] _); (rename Gm _ _ _ _ => uGₘ645); k_dflt (refine seg_end (Except.ok (Flow.ret Value.none)) ⟨rfl, rfl, uGₘ645⟩)))
  trivial
theorem ints_cons {vs : List Value} {k : Int} {ks : List Int} (h : IntsAre vs (k :: ks)) : ∃ t r, vs = .int k t :: r ∧ IntsAre r ks := by
  cases h
  exact ⟨_, _, rfl, by assumption⟩
theorem gen_seg (w : World) (p : Program) (loose : List Str) (mean : ExcName → Option Value) (mg mb : Str → Option Value) (dp un : Nat) (gd : Option (List Code)) (outer : List Env) (A₀ : Around) (base g₀ : Heap) (Lg : Addr) (s s₀ : Shared)
    (NV c' V Cv : Addr) (on oc oC : Obj) (vs : List Value) (ks : List Int) (n b₀ : Nat) (t1 t2 : Tok) (ch tl : Nat)
    (hnv : NvOk w NV c' V Cv on oc oC) (hfn : ∃ o1 o2 fd sl, on = ⟨o1, o2, .func fd, sl⟩)
    (B : Below A₀ base outer g₀) (X : (KF w.params).In g₀) (T : Top p loose mean mg mb g₀) (hdp : dp + 6 < recursionLimit) (hun : un + 30 < cLine)
    (F : Fr g₀ Lg s.heap (fun y => ([(Str.ofString "self", .ref 303), (Str.ofString "next_value", .ref NV), (Str.ofString "chunks", .int (ch : Int) t1), (Str.ofString "tail", .int (tl : Int) t2)] : List (Str × Value)).reverse.lookup y))
    (N : News g₀ Lg s.heap (ledG NV c' V Cv on oc oC vs n)) (hgm : Gm Lg V s₀ s) (hi : IntsAre vs ks) (hb : ∀ k ∈ ks, 0 ≤ k ∧ k < 256) (hks : ks.length = 3 * ch + tl) (htl : tl = 1 ∨ tl = 2) (hch : ch ≤ 30) (hLb : @LT.lt Nat _ Lg b₀) (hVb : @LT.lt Nat _ V b₀) (hcb : @LT.lt Nat _ c' b₀) (hNb : @LT.lt Nat _ NV b₀) (hCb : @LT.lt Nat _ Cv b₀) :
    Seg (model rw_iw0011_01.row.prog w) (arT dp un gd outer) (GR Lg V) (GY Lg V b₀ (encI ks)) (encI ks).length s₀ (.func (bodyAt (KF w.params) 133) (genEnv (KF w.params) Lg)) ((model rw_iw0011_01.row.prog w).den (.func (bodyAt (KF w.params) 133) (genEnv (KF w.params) Lg))) [] s := by
  generalize hbd : bodyAt (KF w.params) 133 = bd
  generalize hsc : genEnv (KF w.params) Lg = en
  have hbd' : _ = bd := hbd
  have hAr : ArIs ((arT dp un gd outer).deeper (genEnv (KF w.params) Lg)) := trivial
  refine seg_func ?_
  subst hbd
  subst hsc
  refine seg_execs_cons ?_
  refine seg_wrap ?_
  show wpAny _ ((arT dp un gd outer).deeper (genEnv (KF w.params) Lg)) _ _ _ _
  k_steps
  refine seg_While fun pw => ?_
  refine seg_loop (Lg := Lg) (V := V) (GInv g₀ Lg NV c' V Cv on oc oC ks ch tl t1 t2) ?turn ?exit ch _ _ _ ?hI ?hG
  case hI =>
    refine' ⟨0, _, none, none, none, vs, ks, n, by omega, hks, hi, hb, ⟨[], rfl⟩, rfl, ?_, ?_⟩
    rotate_left
    · refine fr_eq (by assumption) ?_
      intro y
      rcases Decidable.em (y = Str.ofString "v3") with rfl | h3
      · rfl
      rcases Decidable.em (y = Str.ofString "v2") with rfl | h2
      · rfl
      rcases Decidable.em (y = Str.ofString "v1") with rfl | h1
      · rfl
      simp only [if_neg h3, if_neg h2, if_neg h1]
      rfl
    · assumption
  case hG => assumption
  case exit =>
    intro nY s₁ s₀' hI hgm1
    obtain ⟨c, t, o1, o2, o3, vs', ks', nn, hcj, hl', hi', hb', ⟨pre, hpre⟩, rfl, F1, N1⟩ := hI
    rcases htl with rfl | rfl
    · obtain ⟨ka, rfl⟩ : ∃ ka, ks' = [ka] := by
        match ks', hl' with
        | [ka], _ => exact ⟨ka, rfl⟩
        | _ :: _ :: _, h => simp only [List.length_cons] at h; omega
        | [], h => simp only [List.length_nil] at h; omega
      obtain ⟨ta, vr1, rfl, hi1⟩ := ints_cons hi'
      have hvl : vr1.length ≤ 98 := by
        have := hi1.length
        simp only [List.length_nil] at this
        omega
      obtain ⟨ba0, ba1⟩ : 0 ≤ ka ∧ ka < 256 := hb' _ (by simp)
      have y1 : (encI ks).getD ((encI ks).length - (1 + 1)) 0 = ka % 64 := getD_at (q := []) (r := [ka / 64]) hpre
      have y2 : (encI ks).getD ((encI ks).length - (0 + 1)) 0 = ka / 64 := getD_at (q := [ka % 64]) (r := []) hpre
      have hlen : 2 ≤ (encI ks).length := by
        rw [hpre]; show _ ≤ (pre ++ [_, _]).length
        simp only [List.length_append, List.length_cons, List.length_nil]; omega
      clear hi' hi1
      show Seg _ _ _ _ (0 + 1 + 1) _ _ _ _ _
      refine seg_whileLoop ?_
      show wpAny _ ((arT dp un gd outer).deeper (genEnv (KF w.params) Lg)) _ _ _ _
      k_steps
    · obtain ⟨ka, kb, rfl⟩ : ∃ ka kb, ks' = [ka, kb] := by
        match ks', hl' with
        | [ka, kb], _ => exact ⟨ka, kb, rfl⟩
        | _ :: _ :: _ :: _, h => simp only [List.length_cons] at h; omega
        | [_], h => simp only [List.length_cons, List.length_nil] at h; omega
        | [], h => simp only [List.length_nil] at h; omega
      obtain ⟨ta, vr1, rfl, hi1⟩ := ints_cons hi'
      obtain ⟨tb, vr2, rfl, hi2⟩ := ints_cons hi1
      have hvl : vr2.length ≤ 98 := by
        have := hi2.length
        simp only [List.length_nil] at this
        omega
      obtain ⟨⟨ba0, ba1⟩, ⟨bb0, bb1⟩⟩ : (0 ≤ ka ∧ ka < 256) ∧ (0 ≤ kb ∧ kb < 256) := ⟨hb' _ (by simp), hb' _ (by simp)⟩
      have y1 : (encI ks).getD ((encI ks).length - (2 + 1)) 0 = ka % 64 := getD_at (q := []) (r := [kb % 16 * 4 + ka / 64, kb / 16]) hpre
      have y2 : (encI ks).getD ((encI ks).length - (1 + 1)) 0 = kb % 16 * 4 + ka / 64 := getD_at (q := [ka % 64]) (r := [kb / 16]) hpre
      have y3 : (encI ks).getD ((encI ks).length - (0 + 1)) 0 = kb / 16 := getD_at (q := [ka % 64, kb % 16 * 4 + ka / 64]) (r := []) hpre
      have hlen : 3 ≤ (encI ks).length := by
        rw [hpre]; show _ ≤ (pre ++ [_, _, _]).length
        simp only [List.length_append, List.length_cons, List.length_nil]; omega
      clear hi' hi1 hi2
      show Seg _ _ _ _ (0 + 1 + 1 + 1) _ _ _ _ _
      refine seg_whileLoop ?_
      show wpAny _ ((arT dp un gd outer).deeper (genEnv (KF w.params) Lg)) _ _ _ _
      k_steps
  case turn =>
    intro j nY s₁ s₀' IH hI hgm1
    obtain ⟨c, t, o1, o2, o3, vs', ks', nn, hcj, hl', hi', hb', ⟨pre, hpre⟩, rfl, F1, N1⟩ := hI
    obtain ⟨ka, kb, kc, kr, rfl⟩ : ∃ ka kb kc kr, ks' = ka :: kb :: kc :: kr := by
      match ks', hl' with
      | ka :: kb :: kc :: kr, _ => exact ⟨ka, kb, kc, kr, rfl⟩
      | [_, _], h => simp only [List.length_cons, List.length_nil] at h; omega
      | [_], h => simp only [List.length_cons, List.length_nil] at h; omega
      | [], h => simp only [List.length_nil] at h; omega
    obtain ⟨ta, vr1, rfl, hi1⟩ := ints_cons hi'
    obtain ⟨tb, vr2, rfl, hi2⟩ := ints_cons hi1
    obtain ⟨tc, vr3, rfl, hi3⟩ := ints_cons hi2
    have hvl : vr3.length ≤ 98 := by
      have := hi3.length
      simp only [List.length_cons] at hl'
      omega
    obtain ⟨⟨ba0, ba1⟩, ⟨bb0, bb1⟩, ⟨bc0, bc1⟩⟩ : (0 ≤ ka ∧ ka < 256) ∧ (0 ≤ kb ∧ kb < 256) ∧ (0 ≤ kc ∧ kc < 256) := ⟨hb' _ (by simp), hb' _ (by simp), hb' _ (by simp)⟩
    have y1 : (encI ks).getD ((encI ks).length - ((encI kr).length + 3 + 1)) 0 = ka % 64 := getD_at (q := []) (r := [kb % 16 * 4 + ka / 64, kc % 4 * 16 + kb / 16, kc / 4] ++ encI kr) hpre
    have y2 : (encI ks).getD ((encI ks).length - ((encI kr).length + 2 + 1)) 0 = kb % 16 * 4 + ka / 64 := getD_at (q := [ka % 64]) (r := [kc % 4 * 16 + kb / 16, kc / 4] ++ encI kr) hpre
    have y3 : (encI ks).getD ((encI ks).length - ((encI kr).length + 1 + 1)) 0 = kc % 4 * 16 + kb / 16 := getD_at (q := [ka % 64, kb % 16 * 4 + ka / 64]) (r := [kc / 4] ++ encI kr) hpre
    have y4 : (encI ks).getD ((encI ks).length - ((encI kr).length + 1)) 0 = kc / 4 := getD_at (q := [ka % 64, kb % 16 * 4 + ka / 64, kc % 4 * 16 + kb / 16]) (r := encI kr) hpre
    have hlen : (encI kr).length + 1 + 1 + 1 + 1 ≤ (encI ks).length := by
      rw [hpre]; show _ ≤ (pre ++ (fourI ka kb kc ++ encI kr)).length
      simp only [List.length_append, fourI, List.length_cons, List.length_nil]; omega
    clear hi' hi1 hi2
    show Seg _ _ _ _ ((encI kr).length + 1 + 1 + 1 + 1) _ _ _ _ _
    refine seg_whileLoop ?_
    show wpAny _ ((arT dp un gd outer).deeper (genEnv (KF w.params) Lg)) _ _ _ _
    k_steps
    refine seg_again (by rfl) (IH _ _ _ ?_ (by assumption))
    refine' ⟨c + 1, _, _, _, _, vr3, kr, _, by omega, by (simp only [List.length_cons] at hl'; omega), hi3, fun k h => hb' k (by simp [h]), ⟨pre ++ fourI ka kb kc, by rw [hpre, List.append_assoc]; rfl⟩, rfl, ?_, ?_⟩
    rotate_right
    · assumption
    rotate_right
    · refine fr_eq (by assumption) ?_
      intro y
      rcases Decidable.em (y = Str.ofString "v3") with rfl | h3
      · rfl
      rcases Decidable.em (y = Str.ofString "v2") with rfl | h2
      · rfl
      rcases Decidable.em (y = Str.ofString "v1") with rfl | h1
      · rfl
      rcases Decidable.em (y = Str.ofString "idx") with rfl | h0
      · rfl
      simp only [if_neg h3, if_neg h2, if_neg h1, if_neg h0]
end
section
theorem zw_Gm_1 : True := by
  k_with_none
  k_with "exec Assign" => (k_here; (fail_if_success (with_reducible show wpAny _ _ _ (CutQ _) _ _)); (refine cutQ fun cutQ0 cutH0 => ?_))
  k_with "exec AugAssign" => (k_here; (fail_if_success (with_reducible show wpAny _ _ _ (CutQ _) _ _)); (refine cutQ fun cutQ0 cutH0 => ?_))
  k_with "exec Expr" => (k_here; (fail_if_success (with_reducible show wpAny _ _ _ (CutQ _) _ _)); (refine cutQ fun cutQ0 cutH0 => ?_))
  k_with "CutQ" => ((with_reducible rename (∀ f s', _ → CutQ _ f s') => cutH1); (refine cutH1 _ _ ?_); clear cutH1; (try dsimp only))
  trivial
theorem c_gmk (w : World) (p : Program) (loose : List Str) (mean : ExcName → Option Value) (mg mb : Str → Option Value) (NV : Addr) (ch tl : Int) (t1 t2 : Tok)
  (dp un : Nat) (gd : Option (List Code)) (cn : Str) (cs : Scope) (a : Addr) (ccd : Value) (cl : List (Str × Addr)) (outer : List Env) (h₀ : Heap) (L : Addr) (m : Str → Option Value) (s : Shared) (Q E : Value → Shared → Prop)
  (F : Fr h₀ L s.heap m) (X : (KF w.params).In h₀) (T : Top p loose mean mg mb h₀) (hdp : dp + 4 < recursionLimit)
  (hret : ∀ (h' : Heap) (tk' : Nat) (Lg I : Addr), (∀ b o, s.heap.get? b = some o → h'.get? b = some o) → s.heap.objs.size ≤ Lg → @LT.lt Nat _ Lg I → @LT.lt Nat _ I h'.objs.size → h'.IsGen I s.gens.size →
    h'.Ns Lg (fun y => ([(Str.ofString "self", .ref 303), (Str.ofString "next_value", .ref NV), (Str.ofString "chunks", .int (ch : Int) t1), (Str.ofString "tail", .int (tl : Int) t2)] : List (Str × Value)).reverse.lookup y) →
    Q (.ref I) { s with heap := h', toks := tk', gens := s.gens.push (.fresh (.func (bodyAt (KF w.params) 133) (genEnv (KF w.params) Lg))) }) :
  wpAny (model rw_iw0011_01.row.prog w) (ktrTop dp un gd cn cs L a ccd cl outer) (call (.ref 133) [.ref 303, .ref NV, .int (ch : Int) t1, .int (tl : Int) t2]) Q E s := by
  k_fill
  refine wpAny_call ?_
  refine' codeAny_call_generator ?hroom ((X.keeps F.keep) _ _ ?ho) ?hd ?hco ?hgen ?hbody ?hcd ?_
  case ho => exact rfl
  case hd => exact rfl
  case hco => exact rfl
  case hgen => exact rfl
  case hbody => exact rfl
  case hroom => exact (by omega : dp < recursionLimit)
  case hcd => exact codeRec_of (X.keeps F.keep) (by rfl)
  refine' (BindsTo.of_eq (binds := [(Str.ofString "self", .ref 303), (Str.ofString "next_value", .ref NV), (Str.ofString "chunks", .int (ch : Int) t1), (Str.ofString "tail", .int (tl : Int) t2)]) (by rfl)) _ _ _ _ ?_
  refine wpAny_newFunctionEnv (by decide) (locs rfl) (fun h' hn' hs' => ?_) (by rfl)
  have hsz : h'.objs.size = s.heap.objs.size + 1 := by rw [hs'.1, Heap.size_push]
  have keep' : ∀ b o, s.heap.get? b = some o → h'.get? b = some o := fun b o e => hs'.extBut b o (Nat.ne_of_lt (Heap.lt_size e)) (Heap.get?_push_of_some _ e)
  refine ⟨(T.nolimit.keeps F.keep).keeps keep', ?_⟩
  refine hret _ _ s.heap.objs.size h'.objs.size (fun b o e => Heap.get?_push_of_some _ (keep' b o e)) (Nat.le_refl _) (by rw [hsz]; exact Nat.lt_succ_self _) (by rw [Heap.size_push]; exact Nat.lt_succ_self _) ⟨_, _, _, Heap.get?_push_size _ rfl, rfl, rfl, rfl⟩ (hn'.push _)
end
section
theorem zw_Gb_1 : True := by
  k_with_none
  k_with "exec Assign" => (k_here; (fail_if_success (with_reducible show wpAny _ _ _ (CutQ _) _ _)); (refine cutQ fun cutQ0 cutH0 => ?_))
  k_with "exec AugAssign" => (k_here; (fail_if_success (with_reducible show wpAny _ _ _ (CutQ _) _ _)); (refine cutQ fun cutQ0 cutH0 => ?_))
  k_with "exec Expr" => (k_here; (fail_if_success (with_reducible show wpAny _ _ _ (CutQ _) _ _)); (refine cutQ fun cutQ0 cutH0 => ?_))
  k_with "CutQ" => ((with_reducible rename (∀ f s', _ → CutQ _ f s') => cutH1); (refine cutH1 _ _ ?_); clear cutH1; (try dsimp only))
  k_with "ite" => (k_here; first | with_reducible refine ite_tt ?_ | with_reducible refine ite_ff ?_ | (refine ite_pos (by with_reducible assumption) ?_) | (refine ite_neg (by with_reducible assumption) ?_) | (refine ite_pos (by omega) ?_) | (refine ite_neg (by omega) ?_) | (with_reducible refine split_dec ?_ ?_ <;> intro _))
  k_with "call ref" => (k_here; (with_reducible show wpAny _ _ (call (Value.ref 133) _) _ _ _); (try dsimp only [List.nil_append, List.cons_append]); (rename Fr _ _ _ _ => uFₘ977); (rename News _ _ _ _ => uNₘ977); k_dflt (refine' c_gmk _ _ _ _ _ _ _ _ _ _ _ _ _ _ _ _ _ _ _ _ _ _ _ _ _ _ uFₘ977 (by k_asm) (by k_asm) (by ktr_room) ?_; intro h'ₘ977 tk'ₘ977 Lgₘ977 Iₘ977 ukₘ977 k2ₘ977 k3ₘ977 k4ₘ977 k5ₘ977 k6ₘ977; have F'ₘ977 := Fr.keptAll uFₘ977 ukₘ977; have N'ₘ977 := News.grown uNₘ977 ukₘ977; have k8ₘ977 := Nat.le_trans (Nat.le_trans (Fr.above uFₘ977) (Nat.le_of_lt (Heap.Ns.lt (Fr.ns uFₘ977)))) k2ₘ977; clear ukₘ977 k2ₘ977; (try dsimp only); (try k_fold)))
  trivial
theorem c_eb : ∀ (w : World) (p : Program) (loose : List Str) (mean : ExcName → Option Value) (mg mb : Str → Option Value) (NV : Addr) (ch tl : Int) (t1 t2 : Tok)
  (dp un : Nat) (gd : Option (List Code)) (cn : Str) (cs : Scope) (a : Addr) (ccd : Value) (cl : List (Str × Addr)) (outer : List Env) (A₀ : Around) (base h₀ : Heap) (L : Addr) (m : Str → Option Value) (s : Shared) (Q E : Value → Shared → Prop)
  (B : Below A₀ base outer h₀) (F : Fr h₀ L s.heap m) (X : (KF w.params).In h₀) (T : Top p loose mean mg mb h₀) (hcs : cs.kind = .function) (hdp : dp + 8 < recursionLimit) (hun : un + 30 < cLine)
  (hret : ∀ (h' : Heap) (tk' : Nat) (Lg I : Addr), (∀ b o, s.heap.get? b = some o → h'.get? b = some o) → s.heap.objs.size ≤ Lg → @LT.lt Nat _ Lg I → @LT.lt Nat _ I h'.objs.size → h'.IsGen I s.gens.size →
    h'.Ns Lg (fun y => ([(Str.ofString "self", .ref 303), (Str.ofString "next_value", .ref NV), (Str.ofString "chunks", .int (ch : Int) t1), (Str.ofString "tail", .int (tl : Int) t2)] : List (Str × Value)).reverse.lookup y) →
    Q (.ref I) { s with heap := h', toks := tk', gens := s.gens.push (.fresh (.func (bodyAt (KF w.params) 133) (genEnv (KF w.params) Lg))) }),
  wpAny (model rw_iw0011_01.row.prog w) (ktrTop dp un gd cn cs L a ccd cl outer) (call (.ref 106) [.ref 303, .ref NV, .int (ch : Int) t1, .int (tl : Int) t2]) Q E s := by
  k_fill
  intro w p loose mean mg mb NV ch tl t1 t2 dp un gd cn cs a ccd cl outer A₀ base h₀ L m s Q E B F X T hcs hdp hun hret
  refine wpAny_call ?_
  k_dflt (refine' enterK (binds := [(Str.ofString "self", .ref 303), (Str.ofString "next_value", .ref NV), (Str.ofString "chunks", .int (ch : Int) t1), (Str.ofString "tail", .int (tl : Int) t2)]) B F X T ?kA ?kF ?kK ?k6 ?k7 ?k8 ?k9 ?kB ?_ ?c2 ?c3 ?c4 ?c5; (case kA => exact rfl); (case kF => exact rfl); (case kK => assumption); (case k6 => k_is); (case k7 => k_is); (case k8 => ktr_room); (case k9 => first | exact BindsTo.of_eq rfl | exact binds_K (by k_in) rfl (by k_is) rfl rfl rfl); (case c5 => decide); (case kB => exact locs rfl); (case c2 => exact rfl); (case c3 => exact rfl); (case c4 => exact rfl); k_whole; clear B F X T; intro L' h' F' N' B' X' T'; (try dsimp only); (try k_lift B'); (try k_fold))
  w_strict k_steps
  refine hret _ _ _ _ (Fr.keep (by k_asm)) (by assumption) (by assumption) (by assumption) (by assumption) (by assumption)
end
section
open PySem (wpAny_bind)
section
variable {prog : Program} {w : World} {A : Around} {E : Value → Shared → Prop} {s : Shared}
theorem bytes_len_lk : typeLookup (.type "bytes") "__len__" = pure (some (.builtin "bytes.__len__")) := by rw [typeLookup_type, builtinLookup_eq_fast]; kernel_rfl
abbrev OctAt (b : Array UInt8) (i : Nat) (v : Value) : Prop := ∃ c u, b[i]? = some c ∧ v = .int (c.toNat : Int) u
theorem extend_bytes {R : Result → Shared → Prop} (hh : A.handled = none) (b : Array UInt8) (t : Tok) (S : Addr) (res : Value) (c₀ : Nat) (hS : s.heap.get? S = some { cls := .type "list", data := .seq #[] c₀ })
    (hR : ∀ h' tk acc' c', (∀ b o, b ≠ S → s.heap.get? b = some o → h'.get? b = some o) → h'.get? S = some { cls := .type "list", dict := none, data := .seq acc' c', slots := #[] } →
      ItemsOf (OctAt b) acc' b.size → R (.ok (.ret res)) { s with heap := h', toks := tk }) (hn : b.size ≤ sizeLine) :
    wpAny (model prog w) A.in1 (Builtin.List.listExtendWith (.ref S) (.bytes b t) res)
      (fun fin s' => match fin with | .done f => R (.ok f) s' | .again c' => c'.quiet = true ∧ codeAny (model prog w) A c' R s') (fun e s' => R (.error e) s') s := by
  have hSI : S ≠ s.heap.objs.size := Nat.ne_of_lt (Heap.lt_size hS)
  have hSf : S ∉ [s.heap.objs.size] := fun hm => hSI (List.mem_singleton.mp hm)
  unfold Builtin.List.listExtendWith
  refine wpAny_bind (wpAny_typeOf (T := "bytes") (v := .bytes b t) rfl ?_)
  have h1 : Builtin.List.listSameRef (.ref S) (.bytes b t) = false := rfl
  have h2 : (Value.type "bytes" == Value.type "list") = false := by decide
  have h3 : (Value.type "bytes" == Value.type "tuple") = false := by decide
  simp only [h1, h2, h3, Bool.or_false, Bool.false_eq_true, if_false]
  refine wpAny_bind (KBw.pyIter_bytes ?_)
  refine wpAny_bind (wpAny_holding ?_)
  unfold Builtin.List.listLengthHint
  refine wpAny_bind (wpAny_specialOf (T := "bytes") (v := .bytes b t) rfl bytes_len_lk ?_)
  wp_delta
  refine wpAny_bind (wpAny_isInstance (T := "bytes") (v := .bytes b t) (b := true) rfl (by rw [isSubtype_type]; kernel_rfl) ?_)
  show wpAny _ _ (typeOf (Value.bytes b t) >>= _) _ _ _
  refine wpAny_bind (wpAny_typeOf (T := "bytes") (v := .bytes b t) rfl ?_)
  refine wpAny_pure ?_
  rw [if_neg (by decide)]
  refine wpAny_pure ⟨plainId_quiet F.plain_extend_loop _, codeAny_extend_loopS (KBw.walks (A := A.in1) hh _ b t).toS hn _ hSf _ b.size 0 _ _ _ rfl (Nat.zero_le _) ⟨_, Heap.get?_push_size _ rfl, rfl, rfl⟩ (Heap.get?_push_of_some _ hS) (ItemsOf.nil _) fun s' acc' c' hm hS' hacc => ?_⟩
  rw [Moved.eq_with hm]
  refine hR s'.heap s'.toks acc' c' (fun b ob hb e => hm.heap b ob (fun hmem => ?_) (Heap.get?_push_of_some _ e)) hS' hacc
  rcases List.mem_cons.mp hmem with e' | hmem
  · exact hb e'
  · exact absurd (Heap.lt_size e) (by rw [List.mem_singleton.mp hmem]; exact Nat.lt_irrefl _)
theorem list_init_bytes {R : Result → Shared → Prop} (hh : A.handled = none) (b : Array UInt8) (t : Tok) (S : Addr) (hS : s.heap.get? S = some { cls := .type "list", data := .seq #[] })
    (hR : ∀ h' tk acc' c', (∀ b o, b ≠ S → s.heap.get? b = some o → h'.get? b = some o) → h'.get? S = some { cls := .type "list", dict := none, data := .seq acc' c', slots := #[] } →
      ItemsOf (OctAt b) acc' b.size → R (.ok (.ret .none)) { s with heap := h', toks := tk }) (hn : b.size ≤ sizeLine) :
    wpAny (model prog w) A.in1 (Builtin.«list.__init__» ⟨[.ref S, .bytes b t], []⟩)
      (fun fin s' => match fin with | .done f => R (.ok f) s' | .again c' => c'.quiet = true ∧ codeAny (model prog w) A c' R s') (fun e s' => R (.error e) s') s := by
  show wpAny _ _ (do let old ← Builtin.List.listItems (.ref S); Builtin.List.listUpdate (.ref S) (fun _ => #[]); letGo old.toList.reverse; Builtin.List.listExtendWith (.ref S) (.bytes b t) .none) _ _ s
  refine wpAny_bind ?_
  unfold Builtin.List.listItems
  refine wpAny_bind (wpAny_seqItems hS rfl (wpAny_pure ?_))
  show wpAny _ _ (updateSeq S (fun _ => #[]) >>= fun _ => letGo (#[] : Array Value).toList.reverse >>= fun _ => Builtin.List.listExtendWith (.ref S) (.bytes b t) .none) _ _ s
  refine wpAny_bind (wpAny_updateSeq hS rfl ?_)
  have hS₂ := Heap.get?_update_self (Obj.mapSeq (fun _ => (#[] : Array Value))) hS rfl
  have oth : ∀ b o, b ≠ S → s.heap.get? b = some o → (s.heap.update S (Obj.mapSeq (fun _ => (#[] : Array Value)))).get? b = some o :=
    fun b o hb e => (Heap.get?_update_other _ _ (Ne.symm hb)).trans e
  refine wpAny_bind (wpAny_letGo ?_)
  refine extend_bytes hh b t S .none _ hS₂ (fun h' tk acc' c' hk hS' hacc => ?_) hn
  exact hR h' tk acc' c' (fun b o hb e => hk b o hb (oth b o hb e)) hS' hacc
theorem ints_at : ∀ (vs : List Value) (ks : List Int), vs.length = ks.length → (∀ (j : Nat) v, vs[j]? = some v → ∃ k t, ks[j]? = some k ∧ v = .int k t) → IntsAre vs ks
  | [], [], _, _ => .nil
  | [], _ :: _, h, _ => by simp at h
  | _ :: _, [], h, _ => by simp at h
  | v :: r, k :: ks, h, g => by
    obtain ⟨k', t, e, rfl⟩ := g 0 v rfl
    cases e
    exact .cons _ t (ints_at r ks (by simpa using h) fun j v hj => g (j + 1) v hj)
theorem list_bytes {Q : Value → Shared → Prop} {h₀ : Heap} {L : Addr} {m : Str → Option Value} {news : List (Addr × Obj)} {b : Array UInt8} {t : Tok} {ks : List Int} (hh : A.handled = none) (F : Fr h₀ L s.heap m) (N : News h₀ L s.heap news) (hb : KBw.bInts b = ks) (hn : ks.length ≤ 16777216)
    (h : ∀ D us c h' tk, Fr h₀ L h' m → News h₀ L h' ((D, listOf (List.toArray us) c) :: news) → (∀ p ∈ news, p.1 < D) → IntsAre us ks → Q (.ref D) { s with heap := h', toks := tk }) :
    wpAny (model prog w) A (call (.type "list") [.bytes b t]) Q E s := by
  have hsz : b.size = ks.length := by rw [← KBw.ints_length, hb]
  refine callType_codes (Q₁ := fun obj s₁ => obj = .ref s.heap.objs.size ∧ s₁ = { s with heap := s.heap.push { cls := .type "list", data := .seq #[] } }) PySem.F.called_list (PySem.F.typeCall_list_1 _) PySem.F.entry_list_init
    (code_list_new _ ⟨rfl, rfl⟩) fun obj s₁ h₁ => ?_
  obtain ⟨rfl, rfl⟩ := h₁
  have hS : (s.heap.push { cls := .type "list", data := .seq #[] }).get? s.heap.objs.size = some { cls := .type "list", data := .seq #[] } := Heap.get?_push_size _ rfl
  refine ⟨⟨_, hS, rfl⟩, PySem.F.args_list_init_2 _ _, list_init_bytes (A := A.in1) hh b t _ hS (fun h' tk acc' c' hk hS' hacc => ?_) (by rw [hsz, sizeLine_eq]; exact hn)⟩
  have hk' : ∀ b o, s.heap.get? b = some o → h'.get? b = some o := fun b o e => hk b o (Nat.ne_of_lt (Heap.lt_size e)) (Heap.get?_push_of_some _ e)
  have hD : h'.get? s.heap.objs.size = some (listOf (List.toArray acc'.toList) c') := by
    rw [Array.toArray_toList]
    exact hS'
  refine ⟨rfl, h _ acc'.toList c' h' tk (F.keeps hk') (news_pushed F N hk' hD rfl) (fun p hp => Heap.lt_size (N p hp).1) ?_⟩
  refine ints_at _ _ (by rw [Array.length_toList, hacc.1, hsz]) fun j v hj => ?_
  obtain ⟨c, u, hc, e⟩ := hacc.2 j v (by rw [← hj, Array.getElem?_toList])
  exact ⟨_, _, hb ▸ KBw.ints_get hc, e⟩
end
end
section
open LCg
def cutH (h : Heap) (n : Nat) : Heap := { h with objs := (h.objs.toList.take n).toArray }
theorem cut_at (h : Heap) (n b : Nat) : (cutH h n).objs[b]? = if b < n then h.objs[b]? else none := by
  show ((h.objs.toList.take n).toArray)[b]? = _
  rw [List.getElem?_toArray, List.getElem?_take, Array.getElem?_toList]
theorem cut_get {h : Heap} {n : Nat} {b : Addr} {o : Obj} (e : (cutH h n).get? b = some o) : h.get? b = some o := by
  unfold Heap.get? at e ⊢
  rw [cut_at] at e
  by_cases hb : @LT.lt Nat _ b n
  · rw [if_pos hb] at e; exact e
  · rw [if_neg hb] at e; cases e
theorem get_cut {h : Heap} {n : Nat} {b : Addr} {o : Obj} (e : h.get? b = some o) (hb : @LT.lt Nat _ b n) : (cutH h n).get? b = some o := by
  unfold Heap.get? at e ⊢
  rw [cut_at, if_pos hb]; exact e
theorem cut_size (h : Heap) (n : Nat) : (cutH h n).objs.size ≤ n := by
  show ((h.objs.toList.take n).toArray).size ≤ n
  rw [List.size_toArray, List.length_take]; exact Nat.min_le_left _ _
theorem funFrames_up {base h h' : Heap} (k : ∀ b o, h.get? b = some o → h'.get? b = some o) : ∀ {l : List Env}, h.FunFrames base l → h'.FunFrames base l
  | [], _ => trivial
  | _ :: _, ⟨hk, ⟨L, o, hf, hn, ho, hd⟩, hr⟩ => ⟨hk, ⟨L, o, hf, hn, k _ _ ho, hd⟩, funFrames_up k hr⟩
theorem encI_in : ∀ {ks : List Int}, (∀ k ∈ ks, 0 ≤ k ∧ k < 256) → ∀ x ∈ encI ks, 0 ≤ x ∧ x < 64
  | a :: b :: c :: r, h => by
    obtain ⟨ha, hb, hc⟩ : (0 ≤ a ∧ a < 256) ∧ (0 ≤ b ∧ b < 256) ∧ (0 ≤ c ∧ c < 256) := ⟨h _ (by simp), h _ (by simp), h _ (by simp)⟩
    intro x hx
    rw [encI] at hx
    rcases List.mem_append.mp hx with hx | hx
    · simp only [fourI, List.mem_cons, List.not_mem_nil, or_false] at hx
      rcases hx with rfl | rfl | rfl | rfl <;> omega
    · exact encI_in (fun k hk => h k (by simp [hk])) x hx
  | [a, b], h => by
    obtain ⟨ha, hb⟩ : (0 ≤ a ∧ a < 256) ∧ (0 ≤ b ∧ b < 256) := ⟨h _ (by simp), h _ (by simp)⟩
    intro x hx
    simp only [encI, List.mem_cons, List.not_mem_nil, or_false] at hx
    rcases hx with rfl | rfl | rfl <;> omega
  | [a], h => by
    have ha : 0 ≤ a ∧ a < 256 := h _ (by simp)
    intro x hx
    simp only [encI, List.mem_cons, List.not_mem_nil, or_false] at hx
    rcases hx with rfl | rfl <;> omega
  | [], _ => by intro x hx; simp [encI] at hx
theorem encI_length : ∀ (ks : List Int), (encI ks).length ≤ 4 * ks.length
  | a :: b :: c :: r => by
    rw [encI, List.length_append]
    have := encI_length r
    simp only [fourI, List.length_cons, List.length_nil] at *
    omega
  | [_, _] => by simp [encI]
  | [_] => by simp [encI]
  | [] => by simp [encI]
theorem getD_mem {D : List Int} {i : Nat} (h : i < D.length) : D.getD i 0 ∈ D := by
  rw [List.getD_eq_getElem?_getD, List.getElem?_eq_getElem h]
  exact List.getElem_mem h
theorem ints_map : ∀ (ys : List Value) (D : List Int), ys.length = D.length → (∀ (i : Nat) y, ys[i]? = some y → ∃ t, y = .int (signI (D.getD i 0)) t) → IntsAre ys (D.map signI)
  | [], [], _, _ => .nil
  | [], _ :: _, h, _ => by simp at h
  | _ :: _, [], h, _ => by simp at h
  | y :: r, d :: D, h, g => by
    obtain ⟨t, e⟩ := g 0 y rfl
    subst e
    exact .cons _ t (ints_map r D (by simpa using h) fun i y hy => g (i + 1) y hy)
theorem compG_gen {w : World} {p : Program} {loose : List Str} {mean : ExcName → Option Value} {mg mb : Str → Option Value} {A A₀ : Around} {dp un : Nat} {gd : Option (List Code)} {env9 : Env} {fr : List Env} {base h₀ : Heap} {L : Addr} {m : Str → Option Value} {env : Env} {elt : Expr} {x : Str} {scope : Scope} {cl : List (Str × Addr)} {Q : Value → Shared → Prop} {s₁ : Shared}
    {NV c' V Cv Cs Lg I : Addr} {on oc oC oS oI oL oT : Obj} {vs : List Value} {ks : List Int} {nn gn ch tl : Nat} {t1 t2 : Tok} {mm : Str → Option Value}
    (hA : A.in1 = arT dp un gd (env9 :: fr)) (hh : A.handled = none) (hr : A.depth < recursionLimit) (hdp : dp + 6 < recursionLimit) (hun : un + 30 < cLine) (hf9 : env9.frame = some L) (hk9 : env9.scope.kind = .function)
    (B : Below A₀ base fr h₀) (F : Fr h₀ L s₁.heap m) (X : (KF w.params).In h₀) (T : Top p loose mean mg mb h₀)
    (N : News h₀ L s₁.heap [(I, oI), (Lg, oL), (NV, on), (c', oc), (V, listOf vs.toArray nn), (Cv, oC), (Cs, oS), (123, oT)])
    (lL : @LT.lt Nat _ L Cv) (l1 : @LT.lt Nat _ Cv V) (l2 : @LT.lt Nat _ V c') (l3 : @LT.lt Nat _ c' NV) (l4 : @LT.lt Nat _ NV Lg) (l5 : @LT.lt Nat _ Lg I) (l6 : @LT.lt Nat _ Cs Cv) (l7 : @LT.lt Nat _ 123 L) (l8 : @LT.lt Nat _ L Cs)
    (hi : IntsAre vs ks) (hb : ∀ k ∈ ks, 0 ≤ k ∧ k < 256) (hks : ks.length = 3 * ch + tl) (htl : tl = 1 ∨ tl = 2) (hch : ch ≤ 30)
    (hg : s₁.gens[gn]? = some (.fresh (.func (bodyAt (KF w.params) 133) (genEnv (KF w.params) Lg)))) (k7 : ∀ h'' : Heap, h''.get? I = some oI → h''.IsGen I gn) (k8 : NsObj oL mm)
    (k9 : mm = fun y => ([(Str.ofString "self", .ref 303), (Str.ofString "next_value", .ref NV), (Str.ofString "chunks", .int (ch : Int) t1), (Str.ofString "tail", .int (tl : Int) t2)] : List (Str × Value)).reverse.lookup y)
    (hnv : NvOk w NV c' V Cv on oc oC) (hfn : ∃ o1 o2 fd sl, on = ⟨o1, o2, .func fd, sl⟩)
    (turn : ∀ (v : Int) t C oC' m₂ (s' : Shared) (E' : Value → Shared → Prop), 0 ≤ v → v < 64 → NsObj oC' m₂ → m₂ x = some (.int v t) → Fr h₀ L s'.heap m → News h₀ L s'.heap [(C, oC'), (Cv, oC), (Cs, oS)] →
      wpAny (model rw_iw0011_01.row.prog w) A (eval elt (compEnvC scope cl C env)) (CompEndG s' (fun y => ∃ t, y = .int (signI v) t)) E' s')
    (fin : ∀ ys D (s' : Shared), IntsAre ys ((encI ks).map signI) → Fr h₀ L s'.heap m → News h₀ L s'.heap [(D, lst ys), (Cs, oS), (123, oT)] → Like s₁ s' → Q (.ref D) s') :
    CompG rw_iw0011_01.row.prog w A h₀ L m env elt x scope cl Q (.ref I) s₁ := by
  have n0 : ∀ q ∈ [(I, oI), (Lg, oL), (NV, on), (c', oc), (V, listOf vs.toArray nn), (Cv, oC), (Cs, oS), (123, oT)], @LT.lt Nat _ q.1 s₁.heap.objs.size := fun q hq => Heap.lt_size (N q hq).1
  have hIs := n0 (I, oI) (by simp)
  have hLlt : @LT.lt Nat _ L s₁.heap.objs.size := F.ns.lt
  have hLg := n0 (Lg, oL) (by simp)
  have hV := n0 (V, listOf vs.toArray nn) (by simp)
  have hNV := n0 (NV, on) (by simp)
  have hc' := n0 (c', oc) (by simp)
  have hCv := n0 (Cv, oC) (by simp)
  have hh0 : @LE.le Nat _ h₀.objs.size L := F.above
  obtain ⟨mc, hns, hnn⟩ := T.nolimit
  have hst : @LT.lt Nat _ cStatics h₀.objs.size := hns.lt
  simp only at hIs hLg hV hNV hc' hCv
  have e0 : ∀ q ∈ [(I, oI), (Lg, oL), (NV, on), (c', oc), (V, listOf vs.toArray nn), (Cv, oC), (Cs, oS), (123, oT)], h₀.get? q.1 = none := fun q hq => (N q hq).2.2
  let xs : List Addr := [NV, c', V, Cv]
  let g₀ : Heap := cutH (hideAll s₁.heap xs) Lg
  have hg₀ : ∀ b o, g₀.get? b = some o → s₁.heap.get? b = some o := fun b o e => of_hideAll _ (cut_get e)
  have up : ∀ b o, h₀.get? b = some o → g₀.get? b = some o := fun b o e => by
    refine get_cut (hideAll_get xs (F.keep b o e) fun hm => ?_) (Nat.lt_of_lt_of_le (Heap.lt_size e) (Nat.le_trans hh0 (by omega)))
    have : h₀.get? b = none := by
      simp only [xs, List.mem_cons, List.not_mem_nil, or_false] at hm
      rcases hm with rfl | rfl | rfl | rfl
      · exact e0 (_, on) (by simp)
      · exact e0 (_, oc) (by simp)
      · exact e0 (_, listOf vs.toArray nn) (by simp)
      · exact e0 (_, oC) (by simp)
    rw [this] at e; cases e
  have hL₀ : h₀.get? L = none := Heap.get?_none_of_le F.above
  have B9 : Below (arT dp un gd (env9 :: fr)) base (env9 :: fr) g₀ := by
    obtain ⟨o9, h9, es, ep, hd9, _⟩ := ns_obj F.ns
    refine ⟨rfl, fun b o e => up b o (B.stays b o e), by rw [hk9]; decide, ⟨L, o9, hf9, ?_, ?_, fun vs e => by rw [hd9] at e; cases e⟩, funFrames_up up B.frames⟩
    · cases q : base.get? L with
      | none => rfl
      | some o => have := B.stays _ _ q; rw [hL₀] at this; cases this
    · refine get_cut (hideAll_get xs h9 fun hm => ?_) (by omega)
      simp only [xs, List.mem_cons, List.not_mem_nil, or_false] at hm
      rcases hm with hm | hm | hm | hm
      · exact absurd hm (Nat.ne_of_lt (by omega))
      · exact absurd hm (Nat.ne_of_lt (by omega))
      · exact absurd hm (Nat.ne_of_lt (by omega))
      · exact absurd hm (Nat.ne_of_lt (by omega))
  have X9 : (KF w.params).In g₀ := X.keeps up
  have T9 := T.keeps up
  subst k9
  have F9 : Fr g₀ Lg s₁.heap _ := ⟨k8.ns (N (Lg, oL) (by simp)).1, hg₀, cut_size _ _⟩
  have hid : ∀ b : Addr, b ∈ xs → g₀.get? b = none := fun b hb => by
    cases q : g₀.get? b with
    | none => rfl
    | some o => have := cut_get q; rw [hideAll_none _ hb] at this; cases this
  have N9 : News g₀ Lg s₁.heap (ledG NV c' V Cv on oc oC vs nn) := by
    intro q hq
    simp only [ledG, List.mem_cons, List.not_mem_nil, or_false] at hq
    rcases hq with rfl | rfl | rfl | rfl
    · exact ⟨(N (NV, on) (by simp)).1, Nat.ne_of_lt l4, hid _ (by simp [xs])⟩
    · exact ⟨(N (c', oc) (by simp)).1, Nat.ne_of_lt (Nat.lt_trans l3 l4), hid _ (by simp [xs])⟩
    · exact ⟨(N (V, listOf vs.toArray nn) (by simp)).1, Nat.ne_of_lt (Nat.lt_trans l2 (Nat.lt_trans l3 l4)), hid _ (by simp [xs])⟩
    · exact ⟨(N (Cv, oC) (by simp)).1, Nat.ne_of_lt (Nat.lt_trans l1 (Nat.lt_trans l2 (Nat.lt_trans l3 l4))), hid _ (by simp [xs])⟩
  have hlD : (encI ks).length ≤ sizeLine := by
    have := encI_length ks
    rw [sizeLine_eq]; omega
  refine ⟨I, List.range s₁.heap.objs.size, [Lg, V], (encI ks).length, fun i v => ∃ t, v = .int ((encI ks).getD i 0) t, GSt rw_iw0011_01.row.prog w A I gn Lg V s₁.heap.objs.size (encI ks), [(Cv, oC), (Cs, oS), (123, oT)], fun i y => ∃ t, y = .int (signI ((encI ks).getD i 0)) t, rfl,
    WalksG.gen hh hr I gn Lg V s₁.heap.objs.size (encI ks) hIs ?_ ?_ ?_ ?_ ?_, ⟨k7 _ (N (I, oI) (by simp)).1, ⟨mc, hns.keeps F.keep, hnn⟩, _, hg, ?_⟩, fun b hb => List.mem_range.mp hb, F, ?_, ?_, ?_, ?_, ?_, hlD, ?_, ?_⟩
  · omega
  · exact Nat.ne_of_gt l5
  · exact Nat.ne_of_gt (by omega)
  · exact Nat.ne_of_lt (by omega)
  · exact Nat.ne_of_lt (by omega)
  · intro s'' hk
    refine ⟨rfl, ?_⟩
    rw [hA, Nat.sub_zero]
    exact gen_seg w p loose mean mg mb dp un gd (env9 :: fr) _ base g₀ Lg s'' s'' NV c' V Cv on oc oC vs ks nn s₁.heap.objs.size t1 t2 ch tl hnv hfn B9 X9 T9 hdp hun (fr_kept F9 hk hLg) (news_kept N9 hk (ledG_lt hNV hc' hV hCv)) (Gm.refl _ _ _) hi hb hks htl hch hLg hV hc' hNV hCv
  · exact fun q hq => N q (by simp only [List.mem_cons, List.not_mem_nil, or_false] at hq ⊢; rcases hq with h | h | h <;> simp [h])
  · intro q hq hm
    simp only [List.mem_cons, List.not_mem_nil, or_false] at hq hm
    rcases hq with rfl | rfl | rfl <;> rcases hm with hm | hm <;> exact absurd hm (Nat.ne_of_lt (by simp only; omega))
  · intro hm
    simp only [List.mem_cons, List.not_mem_nil, or_false] at hm
    rcases hm with hm | hm <;> exact absurd hm (Nat.ne_of_lt (by omega))
  · intro b hm
    simp only [List.mem_cons, List.not_mem_nil, or_false] at hm
    rcases hm with rfl | rfl
    · exact e0 (_, oL) (by simp)
    · exact e0 (_, listOf vs.toArray nn) (by simp)
  · intro b hm
    simp only [List.mem_cons, List.not_mem_nil, or_false] at hm
    rcases hm with rfl | rfl <;> exact List.mem_range.mpr (by assumption)
  · rintro i v C oC' m₂ s' E' hlt ⟨t, rfl⟩ hC hx F' N' _
    have hr := encI_in hb _ (getD_mem hlt)
    exact turn _ t C oC' m₂ s' E' hr.1 hr.2 hC hx F' (fun q hq => N' q (by simp only [List.mem_cons, List.not_mem_nil, or_false] at hq ⊢; rcases hq with h | h | h <;> simp [h]))
  · intro ys D s' hl hR F' N' _ hlk
    exact fin ys D s' (ints_map ys _ hl hR) F' (fun q hq => N' q (by simp only [List.mem_cons, List.not_mem_nil, or_false] at hq ⊢; rcases hq with h | h | h <;> simp [h])) hlk
section
variable {prog : Program} {w : World} {A A₀ : Around} {s : Shared} {K : Frag} {L : Addr} {h₀ base : Heap} {m mg mb : Str → Option Value} {news : List (Addr × Obj)} {p : Program} {loose : List Str} {mean : ExcName → Option Value}
/-- a made def entered, the caller's own objects handed on, all else kept -/
theorem nestE {env : Env} {outer : List Env} {R : Result → Shared → Prop} {name qual : Str} {params : Arguments} {body : List Stmt} {scope : Scope} {cl : List (Str × Addr)} {doc pm ctv : Value} {c' : Addr} {f : Addr} {args : Args} {binds : List (Str × Value)}
    (B : Below A₀ base outer h₀) (F : Fr h₀ L s.heap m) (X₀ : K.In h₀) (N : News h₀ L s.heap news) (T : Top p loose mean mg mb h₀) (hA : A.frames = some (env :: outer)) (hf : env.frame = some L) (hke : env.scope.kind = .function)
    (ho : (f, fnMade name qual params body scope cl doc pm c' ctv) ∈ news) (hcd : s.heap.CodeRec (.ref c') qual) (hroom : A.depth < recursionLimit)
    (hbind : BindsTo s (fnX name qual params body scope cl .none .none doc pm none (.ref c') ctv) args binds) (hloc : ∀ y ∈ binds, scope.names.lookup y.1 = some .local)
    (h : ∀ L' h₁, Fr (hideAll s.heap (news.map (·.1))) L' h₁ (fun y => binds.reverse.lookup y) → News (hideAll s.heap (news.map (·.1))) L' h₁ news → Below A base (env :: outer) (hideAll s.heap (news.map (·.1))) → K.In (hideAll s.heap (news.map (·.1))) → Top p loose mean mg mb (hideAll s.heap (news.map (·.1))) →
      wpAny (model prog w) (A.deeper (envX qual scope L' f (.ref c') cl)) (execs body (envX qual scope L' f (.ref c') cl))
        (fun fl s' => R (.ok (.ret (match fl with | .ret v => v | _ => .none))) s')
        (fun e s' => wpAny (model prog w) (A.deeper (envX qual scope L' f (.ref c') cl)) (leaving (envX qual scope L' f (.ref c') cl) e) (fun _ s'' => R (.error e) s'') (fun e' s'' => R (.error e') s'') s')
        { s with heap := h₁, toks := s.toks + binds.length })
    (hco : scope.isCoroutine = false) (hgen : scope.isGenerator = false) (hk : scope.kind = .function)
    (hcell : ∀ x ∈ scope.names, x.2 ≠ .cell) : codeAny (model prog w) A (.call (.ref f) args) R s := by
  obtain ⟨FG, BG, st, lv⟩ := groundX (R := R) B F N hA hf hke
  refine codeAny_call_def (fd := fnX name qual params body scope cl .none .none doc pm none (.ref c') ctv) (body := body) (binds := binds) hroom (N _ ho).1 rfl (T.nolimit.keeps F.keep) hcd rfl hbind hcell hloc (fun h₁ hns hk₁ => ?_) hco hgen hk
  exact h s.heap.objs.size h₁ ⟨hns, fun b o e => hk₁ b o (of_hideAll _ e), Nat.le_of_eq (hideAll_size _ _)⟩
    (fun p hp => ⟨hk₁ _ _ (N p hp).1, Nat.ne_of_lt (Heap.lt_size (N p hp).1), hideAll_none _ (List.mem_map_of_mem hp)⟩) BG (X₀.keeps st) (T.keeps st)
end
theorem nv_done {s : Shared} {h₀ h' : Heap} {L L' : Addr} {m m' : Str → Option Value} {NV c' V Cv : Addr} {on oc oC : Obj} {vs vs' : List Value} {n n' : Nat} (F : Fr h₀ L s.heap m) (N : News h₀ L s.heap (ledG NV c' V Cv on oc oC vs n))
    (F' : Fr (hideAll s.heap ((ledG NV c' V Cv on oc oC vs n).map (·.1))) L' h' m') (N' : News (hideAll s.heap ((ledG NV c' V Cv on oc oC vs n).map (·.1))) L' h' (ledG NV c' V Cv on oc oC vs' n')) :
    Fr h₀ L h' m ∧ News h₀ L h' (ledG NV c' V Cv on oc oC vs' n') ∧ ∀ b o, b ≠ V → s.heap.get? b = some o → h'.get? b = some o := by
  have kept : ∀ b o, b ≠ V → s.heap.get? b = some o → h'.get? b = some o := fun b o hb e => by
    by_cases hm : b ∈ (ledG NV c' V Cv on oc oC vs n).map (·.1)
    · simp only [ledG, List.map_cons, List.map_nil, List.mem_cons, List.not_mem_nil, or_false] at hm
      rcases hm with rfl | rfl | rfl | rfl
      · have := (N (b, on) (.head _)).1; rw [e] at this; cases this; exact (N' (b, on) (.head _)).1
      · have := (N (b, oc) (.tail _ (.head _))).1; rw [e] at this; cases this; exact (N' (b, oc) (.tail _ (.head _))).1
      · exact absurd rfl hb
      · have := (N (b, oC) (.tail _ (.tail _ (.tail _ (.head _))))).1; rw [e] at this; cases this; exact (N' (b, oC) (.tail _ (.tail _ (.tail _ (.head _))))).1
    · exact F'.keep b o (hideAll_get _ e hm)
  have hVL : V ≠ L := (N (V, listOf vs.toArray n) (by simp)).2.1
  have hV0 : h₀.get? V = none := (N (V, listOf vs.toArray n) (by simp)).2.2
  refine ⟨⟨F.ns.at' fun o e => kept L o (Ne.symm hVL) e, fun b o e => kept b o (fun q => by rw [q, hV0] at e; cases e) (F.keep b o e), F.above⟩, ?_, kept⟩
  intro q hq
  refine ⟨(N' q hq).1, ?_⟩
  simp only [ledG, List.mem_cons, List.not_mem_nil, or_false] at hq
  rcases hq with rfl | rfl | rfl | rfl
  · exact (N (NV, on) (by simp)).2
  · exact (N (c', oc) (by simp)).2
  · exact (N (V, listOf vs.toArray n) (by simp)).2
  · exact (N (Cv, oC) (by simp)).2
end
section
theorem zw_Ec_1 : True := by
  k_with_none
  k_with "exec Assign" => (k_here; (fail_if_success (with_reducible show wpAny _ _ _ (CutQ _) _ _)); (refine cutQ fun cutQ0 cutH0 => ?_))
  k_with "exec AugAssign" => (k_here; (fail_if_success (with_reducible show wpAny _ _ _ (CutQ _) _ _)); (refine cutQ fun cutQ0 cutH0 => ?_))
  k_with "exec Expr" => (k_here; (fail_if_success (with_reducible show wpAny _ _ _ (CutQ _) _ _)); (refine cutQ fun cutQ0 cutH0 => ?_))
  k_with "CutQ" => ((with_reducible rename (∀ f s', _ → CutQ _ f s') => cutH1); (refine cutH1 _ _ ?_); clear cutH1; (try dsimp only))
  trivial
open LCg
theorem zw_Ec_2 : True := by
  k_with "ite" => (k_here; first | with_reducible refine ite_tt ?_ | with_reducible refine ite_ff ?_ | (refine ite_pos (by with_reducible assumption) ?_) | (refine ite_neg (by with_reducible assumption) ?_) | (refine ite_pos (by omega) ?_) | (refine ite_neg (by omega) ?_) | (with_reducible refine split_dec ?_ ?_ <;> intro _))
  k_with "call ref" => (k_here; (with_reducible show wpAny _ _ (call (Value.ref 92) _) _ _ _); (rename Fr _ _ _ _ => uFₘ830); (rename News _ _ _ _ => uNₘ830); (try dsimp only [List.nil_append, List.cons_append]); k_dflt (refine' c_enc64 _ _ _ _ _ _ _ _ _ _ _ _ _ _ _ _ _ _ _ _ _ _ _ _ _ (by k_asm) uFₘ830 (by k_asm) (by k_asm) (by first | exact rfl | assumption) (by ktr_room) (by ktr_units) (by first | (with_reducible assumption) | omega | (exact rfl) | (simp only [List.length_append, List.length_map, List.length_take, List.length_cons, List.length_nil]; omega) | (simp only [List.length_append, List.length_map, List.length_cons, List.length_nil] at *; omega)) (by first | (with_reducible assumption) | omega | (exact rfl) | (simp only [List.length_append, List.length_map, List.length_take, List.length_cons, List.length_nil]; omega) | (simp only [List.length_append, List.length_map, List.length_cons, List.length_nil] at *; omega)) ?_; intro h'ₘ830 tk'ₘ830 ukₘ830 uxₘ830 utₘ830 u0ₘ830; have F'ₘ830 := Fr.keptAll uFₘ830 ukₘ830; have N'ₘ830 := News.grown uNₘ830 ukₘ830; (try dsimp only); (try k_fold)))
  k_with "CompEndG" => ((try dsimp only); (with_reducible rename (_ = signI _) => ueₘ566); (with_reducible rename (∀ b o, Heap.get? _ b = some o → Heap.get? _ b = some o) => ukₘ566); exact ⟨⟨_, by rw [ueₘ566]⟩, _, _, rfl, ukₘ566⟩)
  trivial
theorem pop_k {y : Value} {rest : List Value} : seqIndex? 0 ((y :: rest).toArray).size = some 0 := by
  rw [List.size_toArray, List.length_cons]
  simp [seqIndex?]
theorem zw_Ec_3 : True := by
  k_with "call builtin:list.pop" => (k_here; (rename Fr _ _ _ _ => uFₘ644); (rename News _ _ _ _ => uNₘ644); k_dflt (refine' (fun U0ₘ644 f0ₘ644 k0ₘ644 e0ₘ644 z0ₘ644 m0ₘ644 => kl_popAt (p := []) uFₘ644 uNₘ644 f0ₘ644 k0ₘ644 e0ₘ644 U0ₘ644 z0ₘ644 m0ₘ644) (by k_upd) (by rfl) (by exact pop_k) (by rfl) (by ((simp only [List.length_cons, sizeLine_eq]); omega)) ?_); clear uFₘ644 uNₘ644; intro h'ₘ644 F'ₘ644 N'ₘ644; (try dsimp only [List.nil_append, List.cons_append] at N'ₘ644))
  trivial
theorem drop1 {h₀ h : Heap} {L : Addr} {x : Addr × Obj} {r : List (Addr × Obj)} (N : News h₀ L h (x :: r)) : News h₀ L h r := fun p hp => N p (.tail _ hp)
theorem zw_Ec_4 : True := by
  k_with "call type:list" => (k_here; (with_reducible show wpAny _ _ (call (Value.type "list") [Value.bytes _ _]) _ _ _); (rename Fr _ _ _ _ => uFₘ932); (rename News _ _ _ _ => uNₘ932); (try simp only [List.cons_append, List.nil_append] at uNₘ932); (k_dflt (refine list_bytes rfl uFₘ932 (drop1 uNₘ932) (by assumption) (by omega) ?_)); clear uFₘ932 uNₘ932; intro D'ₘ932 us'ₘ932 c'ₘ932 h'ₘ932 tk'ₘ932 F'ₘ932 N'ₘ932 l1ₘ932 hi'ₘ932; (try k_lt l1ₘ932))
  k_with "exec FunctionDef" => (k_here; k_dflt (refine' nestDef_K (by exact rfl) (by exact rfl) (by exact rfl) ?_); (rename Fr _ _ _ _ => uFₘfd); (rename News _ _ _ _ => uNₘfd); k_dflt (refine' nest_K uFₘfd uNₘfd (by k_asm) (by assumption) (by exact rfl) (by k_updF) (by exact True.intro) (by rfl) (by exact rfl) ?_; k_whole); clear uFₘfd uNₘfd; intro f'ₘfd c'ₘfd oc'ₘfd vs'ₘfd t'ₘfd ct'ₘfd dc'ₘfd h'ₘfd tk'ₘfd F'ₘfd N'ₘfd d1'ₘfd d2'ₘfd l1ₘfd l2ₘfd; (try dsimp only at N'ₘfd); (try k_lt l1ₘfd); (try k_lt2 l2ₘfd))
  trivial
theorem news_gen {h₀ h h' : Heap} {L : Addr} {m : Str → Option Value} {news : List (Addr × Obj)} {Lg I : Addr} {g : Nat} {mm : Str → Option Value} (F : Fr h₀ L h m) (N : News h₀ L h news) (N' : News h₀ L h' news) (k2 : h.objs.size ≤ Lg) (k3 : @LT.lt Nat _ Lg I) (k5 : h'.IsGen I g) (k6 : h'.Ns Lg mm) :
    ∃ oI oL, (∀ h'' : Heap, h''.get? I = some oI → h''.IsGen I g) ∧ NsObj oL mm ∧ News h₀ L h' ((I, oI) :: (Lg, oL) :: news) ∧ (∀ p ∈ news, p.1 < Lg) := by
  obtain ⟨oI, nm, qn, e, r⟩ := k5
  obtain ⟨oL, eL, hL⟩ := ns_obj k6
  have hLL : L < Lg := Nat.lt_of_lt_of_le F.ns.lt k2
  have fresh : ∀ b : Addr, @LE.le Nat _ Lg b → h₀.get? b = none := fun b hb => Heap.get?_none_of_le (Nat.le_trans F.above (Nat.le_trans (Nat.le_of_lt hLL) hb))
  refine ⟨oI, oL, fun h'' e'' => ⟨oI, nm, qn, e'', r⟩, hL, fun p hp => ?_, fun p hp => Nat.lt_of_lt_of_le (Heap.lt_size (N p hp).1) k2⟩
  rcases List.mem_cons.mp hp with rfl | hp
  · exact ⟨e, Nat.ne_of_gt (Nat.lt_trans hLL k3), fresh _ (Nat.le_of_lt k3)⟩
  rcases List.mem_cons.mp hp with rfl | hp
  · exact ⟨eL, Nat.ne_of_gt hLL, fresh _ (Nat.le_refl _)⟩
  · exact N' p hp
theorem zw_Ec_5 : True := by
  k_with "call ref" => (k_here; (with_reducible show wpAny _ _ (call (Value.ref 106) _) _ _ _); (try dsimp only [List.nil_append, List.cons_append]); (rename Fr _ _ _ _ => uFₘ895); (rename News _ _ _ _ => uNₘ895); k_dflt (refine' c_eb _ _ _ _ _ _ _ _ _ _ _ _ _ _ _ _ _ _ _ _ _ _ _ _ _ _ _ _ (by k_asm) uFₘ895 (by k_asm) (by k_asm) (by first | exact rfl | assumption) (by ktr_room) (by ktr_units) ?_; intro h'ₘ895 tk'ₘ895 Lgₘ895 Iₘ895 ukₘ895 k2ₘ895 k3ₘ895 k4ₘ895 k5ₘ895 k6ₘ895; have F'ₘ895 := Fr.keptAll uFₘ895 ukₘ895; have N1ₘ895 := News.grown uNₘ895 ukₘ895; obtain ⟨oIₘ895, oLₘ895, k7ₘ895, k8ₘ895, N'ₘ895, l1ₘ895⟩ := news_gen uFₘ895 uNₘ895 N1ₘ895 k2ₘ895 k3ₘ895 k5ₘ895 k6ₘ895; k_lt l1ₘ895; clear ukₘ895 k2ₘ895 uNₘ895 N1ₘ895 k5ₘ895 k6ₘ895; (try dsimp only)))
  k_with "eval ListComp" => (k_here; (rename Fr _ _ _ _ => uFₘ679); k_dflt (refine comp_EG (F₀ := uFₘ679) (by first | rfl | (with_unfolding_all rfl)) (by decide) (by rfl) (by decide) (by rfl) ?_))
  k_with "eval Name" => (k_here; (with_reducible show wpAny _ _ (eval (Expr.Name (Str.ofString "values") _) _) _ _ _); (rename News _ _ _ _ => uNₘ711); k_dflt (refine' nameX_F uNₘ711 (by rfl) (by k_mem) (by assumption) ?_ (by rfl) (by rfl); k_whole))
  k_with "call type:bytes" => (k_here; (with_reducible show wpAny _ _ (call (Value.type "bytes") [Value.ref _]) _ _ _); (rename Fr _ _ _ _ => uFₘ993); (rename News _ _ _ _ => uNₘ993); k_dflt (refine' KBa.make_K uFₘ993 uNₘ993 (by rfl) (by exact News.isList uNₘ993 (.head _)) (by assumption) (by assumption) (by assumption) ?_); intro _ _ _ F'ₘ993 N'ₘ993 kbaInₘ993)
  trivial
theorem ghost_belowG {A : Around} {base h : Heap} {outer : List Env} {tabs : List (Addr × Addr)} (hT : TabsAt tabs h) (B : Below A base outer h) : Below A (ghostOf base tabs) outer (ghostOf h tabs) where
  stack := B.stack
  stays := fun b o e => ghost_ne (B.stays b o (of_hideAll _ e)) fun hm => by rw [hideAll_none _ hm] at e; cases e
  frames := by
    have key : ∀ l : List Env, h.FunFrames base l → (ghostOf h tabs).FunFrames (ghostOf base tabs) l := by
      intro l
      induction l with
      | nil => exact fun _ => trivial
      | cons env r ih =>
        rintro ⟨hk, ⟨L, o, hf, hn, ho, hd⟩, hr⟩
        refine ⟨hk, ⟨L, o, hf, ?_, ghost_get hT ho (fun q => ?_), hd⟩, ih hr⟩
        · cases e : (ghostOf base tabs).get? L with
          | none => rfl
          | some o' => have := of_hideAll _ e; rw [hn] at this; cases this
        · exact hd _ (by rw [q])
    exact key _ B.frames
theorem signs_in {ks : List Int} (h : ∀ k ∈ ks, 0 ≤ k ∧ k < 256) : ∀ x ∈ (encI ks).map signI, 0 ≤ x ∧ x < 256 := by
  intro x hx
  obtain ⟨v, hv, rfl⟩ := List.mem_map.mp hx
  obtain ⟨h0, h1⟩ := encI_in h v hv
  have key : ∀ n : Nat, n < 64 → h64N.getD n 0 < 256 := by decide
  have := key v.toNat (by omega)
  unfold signI
  omega
theorem c_enc : ∀ (w : World) (p : Program) (loose : List Str) (mean : ExcName → Option Value) (mg mb : Str → Option Value) (b : Array UInt8) (tb : CbTok) (ks : List Int)
  (dp un : Nat) (gd : Option (List Code)) (cn : Str) (cs : Scope) (a : Addr) (ccd : Value) (cl : List (Str × Addr)) (outer : List Env) (A₀ : Around) (base h₀ : Heap) (L : Addr) (m : Str → Option Value) (s : Shared) (Q E : Value → Shared → Prop)
  (B : Below A₀ base outer h₀) (F : Fr h₀ L s.heap m) (X : (KF w.params).In h₀) (T : Top p loose mean mg mb h₀) (hcs : cs.kind = .function) (hdp : dp + 12 < recursionLimit) (hun : un + 50 < cLine)
  (hks : KBw.bInts b = ks) (hlen : ks.length = 32 ∨ ks.length = 64) (h123 : s.heap.get? 123 = some (tabObj #[]))
  (hret : ∀ (h' : Heap) (tk' : Nat) (gs' : Array GenState) (r : Array UInt8) (t : Tok), (∀ b o, b ≠ 123 → s.heap.get? b = some o → h'.get? b = some o) → GK s.gens gs' → (∃ ps, h'.get? 123 = some (tabObj ps)) → KBw.bInts r = (encI ks).map signI →
    Q (.bytes r t) { s with heap := h', toks := tk', gens := gs' }),
  wpAny (model rw_iw0011_01.row.prog w) (ktrTop dp un gd cn cs L a ccd cl outer) (call (.ref 126) [.ref 303, .bytes b tb]) Q E s := by
  k_fill
  intro w p loose mean mg mb b tb ks dp un gd cn cs a ccd cl outer A₀ base h₀ L m s Q E B F X T hcs hdp hun hks hlen h123 hret
  have hT : TabsAt [(125, 123)] s.heap := by
    intro q hq
    rw [List.mem_singleton.mp hq]
    exact ⟨codeHd_of_K (X.keeps F.keep) (by kernel_rfl), h123⟩
  refine wpAny_call ?_
  k_dflt (refine' enterKC (binds := [(Str.ofString "self", .ref 303), (Str.ofString "source", .bytes b tb)]) B F X T ?kA ?kF ?kK ?k6 ?k7 ?k8 ?k9 ?kB ?kD ?_ ?c2 ?c3 ?c4; (case kA => exact rfl); (case kF => exact rfl); (case kK => assumption); (case k6 => k_is); (case k7 => k_is); (case k8 => ktr_room); (case k9 => first | exact BindsTo.of_eq rfl | exact binds_K (by k_in) rfl (by k_is) rfl rfl rfl); (case kB => exact rfl); (case kD => decide +kernel); (case c2 => exact rfl); (case c3 => exact rfl); (case c4 => exact rfl); k_whole; clear B F X T; intro L' h' tk' cells' F' N' Y' B' X' T'; k_cells Y'; (try simp only [List.cons_append, List.nil_append] at N'); (try dsimp only); (try k_lift B'); (try k_fold))
  have C8 := ghost_code hT
  have F8 := ghost_fr hT F'
  have N8 := ghost_news hT F' N'
  have B8 := ghost_belowG hT B'
  have X8 := ghost_K hT X' (by kernel_rfl)
  have T8 := ghost_top hT T'
  have l0 := ghost_lt hT F'
  clear B' F' N' X' T'
  obtain ⟨C9, -⟩ := C8
  simp only [tabNews, List.map_cons, List.map_nil, List.nil_append, List.cons_append] at N8
  simp only [tabNews, List.map_cons, List.map_nil] at l0
  k_lt l0
  k_steps
  (with_reducible rename News _ _ _ [(_, _), (_, _), (_, _), (_, _), (_, _), (_, _), (_, _), (_, _)] => N9)
  (with_reducible rename Fr _ _ _ _ => F9)
  (with_reducible rename NsObj _ _ => k8)
  (with_reducible rename (∀ h'' : Heap, _ → h''.IsGen _ _) => k7)
  (with_reducible rename IntsAre _ _ => hi9)
  refine' compG_gen (dp := dp + 1) (un := un + 4) (gd := gd) (ch := ks.length / 3) (tl := ks.length % 3) rfl rfl ?r1 ?r2 ?r3 rfl rfl B8 F9 X8 T8 N9 ?l1 ?l2 ?l3 ?l4 ?l5 ?l6 ?l7 ?l8 ?l9 hi9 ?hb ?hk ?ht ?hc ?hg k7 k8 ?k9 ?nv ?fn ?turn ?fin
  case k9 =>
    rw [show ((ks.length : Int).fdiv 3) = ((ks.length / 3 : Nat) : Int) from by rw [Int.fdiv_eq_ediv_of_nonneg _ (by decide)]; rfl, show ((ks.length : Int).fmod 3) = ((ks.length % 3 : Nat) : Int) from by rw [Int.fmod_eq_emod_of_nonneg _ (by decide)]; rfl]
  case r1 => exact (by omega : dp + 1 < recursionLimit)
  case r2 => omega
  case r3 => omega
  case hb => exact fun k hk => KBw.ints_in (by rw [hks]; exact hk)
  case hk => omega
  case ht => omega
  case hc => omega
  case hg => exact Array.getElem?_push_size
  case fn => exact ⟨_, _, _, _, rfl⟩
  all_goals (try omega)
  case nv =>
    clear N9 F9 k8 k7 hret
    intro p2 loose2 mean2 mg2 mb2 dp2 un2 gd2 cn2 cs2 a2 ccd2 cl2 outer2 A2 base2 h2 L2 m2 s2 Q2 E2 y2 rest2 n2 B2 F2 X2 T2 hcs2 hdp2 hun2 N2 hl2 hret2
    refine wpAny_call ?_
    refine' nestE (binds := []) B2 F2 X2 N2 T2 rfl rfl hcs2 (.head _) (codeRec_news N2 (.tail _ (.head _)) (by assumption) (by assumption)) ?_ (BindsTo.of_eq rfl) (locs rfl) ?_ rfl rfl rfl (by decide)
    · exact (by omega : dp2 < recursionLimit)
    clear B8 X8 T8 C9
    generalize hg3 : hideAll s2.heap _ = g3
    intro L3 h3 F3 N3 B3 X3 T3
    dsimp only
    k_steps
    (with_reducible rename Fr _ _ _ _ => F6)
    (with_reducible rename News _ _ _ _ => N6)
    subst hg3
    obtain ⟨z1, z2, z3⟩ := nv_done F2 N2 F6 N6
    exact hret2 _ _ z1 z2 z3
  case turn =>
    clear N9 F9 k8 k7 hret
    intro v t C oC' m₂ s' E' h0 h1 hC hx F' N'
    k_steps
  case fin =>
    clear N9 F9 k8 k7
    intro ys D s' hI F' N' hlk
    have hr8 : ∀ x ∈ (encI ks).map signI, 0 ≤ x ∧ x < 256 := signs_in (fun k hk => KBw.ints_in (by rw [hks]; exact hk))
    have hl8 : ((encI ks).map signI).length ≤ 16777216 := by
      rw [List.length_map]; have := encI_length ks; omega
    (k_steps <;> (dsimp only; k_steps))
    (with_reducible rename Fr _ _ _ _ => F6)
    (with_reducible rename News _ _ _ _ => N6)
    (with_reducible rename KBa.In _ => uI)
    obtain ⟨e1, e2, e3⟩ := hlk
    have e4 : s'.os = s.os := e1
    have e5 : s'.drawn = s.drawn := e2
    rw [e4, e5]
    refine hret _ _ s'.gens _ _ (fun b o hb e => F6.keep b o (ghost_ne e (by simpa using hb))) (GK.push rfl e3) ⟨_, (N6 _ (.tail _ (.tail _ (.head _)))).1⟩ ?_
    · exact KBa.ints_make uI
end
section
theorem zw_Et_1 : True := by
  k_with_none
  k_with "exec Assign" => (k_here; (fail_if_success (with_reducible show wpAny _ _ _ (CutQ _) _ _)); (refine cutQ fun cutQ0 cutH0 => ?_))
  k_with "exec AugAssign" => (k_here; (fail_if_success (with_reducible show wpAny _ _ _ (CutQ _) _ _)); (refine cutQ fun cutQ0 cutH0 => ?_))
  k_with "exec Expr" => (k_here; (fail_if_success (with_reducible show wpAny _ _ _ (CutQ _) _ _)); (refine cutQ fun cutQ0 cutH0 => ?_))
  k_with "CutQ" => ((with_reducible rename (∀ f s', _ → CutQ _ f s') => cutH1); (refine cutH1 _ _ ?_); clear cutH1; (try dsimp only))
  trivial
open LCg
theorem zw_Et_2 : True := by
  k_with "subscriptTail" => (k_here; (with_reducible show wpAny _ _ (subscriptTail _ _ (Value.bytes _ _) (Value.int _ _)) _ _ _); (refine itemZ (by first | (with_reducible assumption) | kba_ints) (by kba_size) (by omega) (by omega) ?_); intro _ _ kbaLoₘ778 kbaHiₘ778)
  k_with "eval ListComp" => (k_here; (rename Fr _ _ _ _ => uFₘ110); k_dflt (refine comp_E (F₀ := uFₘ110) (by first | rfl | (with_unfolding_all rfl)) (by decide) (by rfl) (by decide) (by rfl) ?_))
  k_with "CompEnd" => ((rename Fr _ _ _ _ => uFₘ94); (rename News _ _ _ _ => uNₘ94); k_dflt (refine' LCg.CompEnd.intro uFₘ94 uNₘ94 _ (by kcf_all) (by first | assumption | (simp only [LCg.Off3, and_true]; done) | (simp only [LCg.Off3, and_true]; assumption)) (by first | exact True.intro | lcg_src | assumption) ⟨rfl, ?_⟩); (try dsimp only))
  k_with "ite" => (k_here; first | with_reducible refine ite_tt ?_ | with_reducible refine ite_ff ?_ | (refine ite_pos (by with_reducible assumption) ?_) | (refine ite_neg (by with_reducible assumption) ?_) | (refine ite_pos (by omega) ?_) | (refine ite_neg (by omega) ?_) | (with_reducible refine split_dec ?_ ?_ <;> intro _))
  trivial
abbrev pickI (ks off : List Int) : List Int := off.map fun k => ks.getD k.toNat 0
theorem pickI_in {ks off : List Int} (h : ∀ k ∈ ks, 0 ≤ k ∧ k < 256) (hi : ∀ k ∈ off, 0 ≤ k ∧ k < ks.length) : ∀ x ∈ pickI ks off, 0 ≤ x ∧ x < 256 := by
  intro x hx
  obtain ⟨k, hk, rfl⟩ := List.mem_map.mp hx
  have := hi k hk
  exact h _ (getD_mem (by omega))
theorem zw_Et_3 : True := by
  k_with "call type:bytes" => (k_here; (with_reducible show wpAny _ _ (call (Value.type "bytes") [Value.ref _]) _ _ _); (rename Fr _ _ _ _ => uFₘ627); (rename News _ _ _ _ => uNₘ627); k_dflt (refine' KBa.make_K uFₘ627 uNₘ627 (by rfl) (by exact News.isList uNₘ627 (.head _)) (by exact Made.ints (by assumption)) (by assumption) (by assumption) ?_); intro _ _ _ F'ₘ627 N'ₘ627 kbaInₘ627; (have kbaMₘ627 := KBa.ints_make kbaInₘ627))
  k_with "call ref" => (k_here; (with_reducible show wpAny _ _ (call (Value.ref 126) _) _ _ _); (try dsimp only [List.nil_append, List.cons_append]); (rename Fr _ _ _ _ => uFₘ989); (rename News _ _ _ _ => uNₘ989); k_dflt (refine' c_enc _ _ _ _ _ _ _ _ _ _ _ _ _ _ _ _ _ _ _ _ _ _ _ _ _ _ (by k_asm) uFₘ989 (by k_asm) (by k_asm) (by first | exact rfl | assumption) (by ktr_room) (by ktr_units) (by assumption) (by assumption) (by exact (uNₘ989 (123, tabObj #[]) (by k_mem)).1) ?_; intro h'ₘ989 tk'ₘ989 gs'ₘ989 rₘ989 tₘ989 ukₘ989 ubₘ989 ugₘ989 urₘ989; have F'ₘ989 := fr_buts uFₘ989 (wr := [123]) (fun bₘ989 oₘ989 hbₘ989 eₘ989 => ukₘ989 bₘ989 oₘ989 (fun qₘ989 => hbₘ989 (qₘ989 ▸ .head _)) eₘ989) (by assumption) (fun bₘ989 hbₘ989 => by rw [List.mem_singleton.mp hbₘ989]; exact (uNₘ989 (123, tabObj #[]) (by k_mem)).2.2); clear ukₘ989 uNₘ989 uFₘ989; (try dsimp only)))
  trivial
theorem c_etb : ∀ (w : World) (p : Program) (loose : List Str) (mean : ExcName → Option Value) (mg mb : Str → Option Value) (b : Array UInt8) (tb : CbTok) (ks : List Int) (tp : Addr) (vs : List Value) (off : List Int)
  (dp un : Nat) (gd : Option (List Code)) (cn : Str) (cs : Scope) (a : Addr) (ccd : Value) (cl : List (Str × Addr)) (outer : List Env) (A₀ : Around) (base h₀ : Heap) (L : Addr) (m : Str → Option Value) (s : Shared) (Q E : Value → Shared → Prop)
  (B : Below A₀ base outer h₀) (F : Fr h₀ L s.heap m) (X : (KF w.params).In h₀) (T : Top p loose mean mg mb h₀) (hcs : cs.kind = .function) (hdp : dp + 16 < recursionLimit) (hun : un + 70 < cLine)
  (hks : KBw.bInts b = ks) (hlen : ks.length = 32 ∨ ks.length = 64) (htup : ∀ h : Heap, (KF w.params).In h → h.IsTuple tp vs.toArray) (hoff : IntsAre vs off) (hin : ∀ k ∈ off, 0 ≤ k ∧ k < ks.length) (hol : off.length = 32 ∨ off.length = 64) (h123 : s.heap.get? 123 = some (tabObj #[]))
  (hret : ∀ (h' : Heap) (tk' : Nat) (gs' : Array GenState) (r : Array UInt8) (t : Tok), (∀ b o, b ≠ 123 → s.heap.get? b = some o → h'.get? b = some o) → GK s.gens gs' → (∃ ps, h'.get? 123 = some (tabObj ps)) → KBw.bInts r = (encI (pickI ks off)).map signI →
    Q (.bytes r t) { s with heap := h', toks := tk', gens := gs' }),
  wpAny (model rw_iw0011_01.row.prog w) (ktrTop dp un gd cn cs L a ccd cl outer) (call (.ref 203) [.ref 303, .bytes b tb, .ref tp]) Q E s := by
  k_fill
  intro w p loose mean mg mb b tb ks tp vs off dp un gd cn cs a ccd cl outer A₀ base h₀ L m s Q E B F X T hcs hdp hun hks hlen htup hoff hin hol h123 hret
  have hT : TabsAt [(125, 123)] s.heap := by
    intro q hq
    rw [List.mem_singleton.mp hq]
    exact ⟨codeHd_of_K (X.keeps F.keep) (by kernel_rfl), h123⟩
  refine wpAny_call ?_
  k_dflt (refine' enterKC (binds := [(Str.ofString "self", .ref 303), (Str.ofString "source", .bytes b tb), (Str.ofString "offsets", .ref tp)]) B F X T ?kA ?kF ?kK ?k6 ?k7 ?k8 ?k9 ?kB ?kD ?_ ?c2 ?c3 ?c4; (case kA => exact rfl); (case kF => exact rfl); (case kK => assumption); (case k6 => k_is); (case k7 => k_is); (case k8 => ktr_room); (case k9 => first | exact BindsTo.of_eq rfl | exact binds_K (by k_in) rfl (by k_is) rfl rfl rfl); (case kB => exact rfl); (case kD => decide +kernel); (case c2 => exact rfl); (case c3 => exact rfl); (case c4 => exact rfl); k_whole; clear B F X T; intro L' h' tk' cells' F' N' Y' B' X' T'; k_cells Y'; (try simp only [List.cons_append, List.nil_append] at N'); (try dsimp only); (try k_lift B'); (try k_fold))
  have F8 := ghost_fr hT F'
  have N8 := ghost_news hT F' N'
  have B8 := ghost_belowG hT B'
  have X8 := ghost_K hT X' (by kernel_rfl)
  have T8 := ghost_top hT T'
  have l0 := ghost_lt hT F'
  clear B' F' N' X' T'
  simp only [tabNews, List.map_cons, List.map_nil, List.nil_append, List.cons_append] at N8
  simp only [tabNews, List.map_cons, List.map_nil] at l0
  k_lt l0
  have tup8 := htup _ X8
  have in8 := pickI_in (fun k hk => KBw.ints_in (by rw [hks]; exact hk)) hin
  have len8 : (pickI ks off).length ≤ 16777216 := by rw [List.length_map]; omega
  have len9 : (pickI ks off).length = 32 ∨ (pickI ks off).length = 64 := by rw [List.length_map]; exact hol
  have ne8 : L' ∉ [(123 : Addr)] := fun hm => absurd (List.mem_singleton.mp hm) (Nat.ne_of_gt l0)
  k_with "CompW" => (((rename Fr _ _ _ _ => uF); (rename News _ _ _ _ => uN); k_dflt (refine' CompW.tuple (atI ks) ?c1 uF uN ?c2 ?c4 ?c3 (fun k' t' I' oI' C' oC' D' m' ys' h' tk' E' hk' hC' hx' F' N' off' ne' => ?_) (fun ys' g' hm' D' h' tk' F' N' off' => ?_); (case c1 => exact rfl); (case c2 => assumption); (case c4 => assumption); (case c3 => omega)); (all_goals (try (simp only [LCg.Off3, and_true] at off'))); (all_goals (try dsimp only)); (all_goals (try k_fold))); obtain ⟨in0, in1⟩ := hin _ hk')
  k_with "CElt" => exact ⟨rfl, _, rfl⟩
  k_with "atI" => exact ⟨_, rfl⟩
  k_steps
  (with_reducible rename Fr _ _ _ _ => F6)
  refine hret _ _ _ _ _ (fun b o hb e => F6.keep b o (ghost_ne e (by simpa using hb))) ?_ ?_ ?_ <;> assumption
end
section
open LCg
/-- how a turn of a loop ends -/
def ForEnd (h₀ : Heap) (L : Addr) (s : Shared) (all : List (Addr × Obj)) (P : (Str → Option Value) → Prop) (f : Flow) (s₃ : Shared) : Prop :=
  f = .next ∧ ∃ h' tk' m', s₃ = { s with heap := h', toks := tk' } ∧ Fr h₀ L h' m' ∧ News h₀ L h' all ∧ P m'
section
variable {prog : Program} {w : World} {A : Around} {E : Value → Shared → Prop} {s : Shared} {h₀ : Heap} {L : Addr} {m : Str → Option Value} {env : Env}
theorem owned_list {target : Expr} {I : Addr} {v : Value} {o : Obj} {Q : Unit → Shared → Prop} (ho : s.heap.get? I = some o) (hc : o.cls = .type "list_iterator") (h : Q () s) : wpAny (model prog w) A (letOwnedTupleGo target (.ref I) v) Q E s := by
  have key : wpAny (model prog w) A (do
      let (.ref r, .ref a) := (Value.ref I, v) | return
      let o ← load r
      match o.cls, o.data with
      | .type n, .fields vs =>
        if ["enumerate", "zip", "dict_itemiterator", "dict_reverseitemiterator", "odict_iterator", "itertools.zip_longest", "itertools.pairwise"].contains n && vs[0]? == some (rawInt a) then
          rule "for.unpacks-the-owned-tuple"
          updateField r 0 .none
      | _, _ => pure () : Sem Unit) Q E s := by
    cases v with
    | ref a =>
      refine wpAny_bind (wpAny_load ho ?_)
      rw [hc]
      cases hd : o.data with
      | fields vs =>
        have e : (["enumerate", "zip", "dict_itemiterator", "dict_reverseitemiterator", "odict_iterator", "itertools.zip_longest", "itertools.pairwise"].contains "list_iterator") = false := by decide
        simp only [e, Bool.false_and, Bool.false_eq_true, if_false]
        exact wpAny_pure h
      | _ => exact wpAny_pure h
    | _ => exact wpAny_pure h
  unfold letOwnedTupleGo
  cases target <;> first | exact wpAny_pure h | exact key
theorem for_list {target : Expr} {body : List Stmt} {its : Array Value} {D : Addr} {oD : Obj} {news : List (Addr × Obj)} (P : Nat → (Str → Option Value) → Prop) {R : Flow → Shared → Prop} {RE : Value → Shared → Prop} (hh : A.handled = none) (hD : oD.cls = .type "list" ∧ ∃ n, oD.data = .seq its n)
    (F : Fr h₀ L s.heap m) (N : News h₀ L s.heap news) (hm : (D, oD) ∈ news) (hP : P 0 m)
    (turn : ∀ i h tk m' IT oI v (E' : Value → Shared → Prop), its[i]? = some v → Fr h₀ L h m' → News h₀ L h ((IT, oI) :: news) → (∀ p ∈ news, p.1 ≠ IT) → P i m' →
      wpAny (model prog w) A (assign target env v) (fun _ s₂ => wpAny (model prog w) A (execs body env) (ForEnd h₀ L s ((IT, oI) :: news) (P (i + 1))) E' s₂) E' { s with heap := h, toks := tk })
    (fin : ∀ h tk m', Fr h₀ L h m' → News h₀ L h news → P its.size m' → R .next { s with heap := h, toks := tk }) :
    wpAny (model prog w) A (pyIter (.ref D)) (fun it s₂ => codeAny (model prog w) A (.forLoop target it body [] env) (fun r s' => match r with | .ok f => R f s' | .error e => cameBackBy (model prog w) A env RE e s') s₂) E s := by
  have isl : ∀ h, News h₀ L h news → h.IsList D its := fun h N' => ⟨oD, (N' _ hm).1, hD.1, hD.2⟩
  refine wpAny_pyIter_list (isl _ N) ?_
  have up : ∀ b o, s.heap.get? b = some o → (s.heap.push { cls := .type "list_iterator", data := .fields #[.ref D, .int 0 0] }).get? b = some o := fun b o e => Heap.get?_push_of_some _ e
  have hIL : s.heap.objs.size ≠ L := Nat.ne_of_gt F.ns.lt
  have hI₀ : h₀.get? s.heap.objs.size = none := Heap.get?_none_of_le (Nat.le_trans F.above (Nat.le_of_lt F.ns.lt))
  have off : ∀ p ∈ news, p.1 ≠ s.heap.objs.size := fun p hp => Nat.ne_of_lt (Heap.lt_size (N p hp).1)
  have step : ∀ {h h' : Heap} {m' : Str → Option Value}, Fr h₀ L h m' → News h₀ L h news → Heap.ExtBut s.heap.objs.size h h' → Fr h₀ L h' m' ∧ News h₀ L h' news := fun F' N' k =>
    ⟨⟨F'.ns.at' fun o e => k L o (Ne.symm hIL) e, fun b o e => k b o (fun q => by rw [q, hI₀] at e; cases e) (F'.keep b o e), F'.above⟩, fun p hp => ⟨k _ _ (off p hp) (N' p hp).1, (N' p hp).2⟩⟩
  refine codeAny_forLoop_any (fun k s' => ∃ i h tk m', s' = { s with heap := h, toks := tk } ∧ i ≤ its.size ∧ k = its.size + 1 - i ∧ h.IsListIter s.heap.objs.size D i ∧ Fr h₀ L h m' ∧ News h₀ L h news ∧ P i m') ?_ (its.size + 1)
    ⟨0, _, _, m, rfl, Nat.zero_le _, rfl, ⟨_, Heap.get?_push_size _ rfl, rfl, rfl⟩, F.keeps up, N.grown up, hP⟩
  rintro k s' ⟨i, h, tk, m', rfl, hi, rfl, hit, F', N', hp⟩
  by_cases hlt : i < its.size
  · refine wpAny_pyNext_list_item hit (isl _ N') (x := its[i]) (by simp [hlt]) fun h' hit' hs' => ?_
    obtain ⟨F2, N2⟩ := step F' N' hs'.extBut
    obtain ⟨oI, eI, rI⟩ := hit'
    refine owned_list eI rI.1 ?_
    refine wpAny_mono (turn i h' tk m' s.heap.objs.size oI its[i] _ (by simp [hlt]) F2 (fun p hp => ?_) off hp) (fun _ s₂ h₂ => wpAny_mono h₂ (fun f s₃ h₃ => ?_) fun _ _ e => e) fun _ _ e => e
    · rcases List.mem_cons.mp hp with rfl | hp
      · exact ⟨eI, hIL, hI₀⟩
      · exact N2 p hp
    · obtain ⟨rfl, h', tk', m'', rfl, F3, N3, hp3⟩ := h₃
      refine ⟨its.size + 1 - (i + 1), by omega, i + 1, h', tk', m'', rfl, hlt, rfl, ⟨oI, (N3 _ (.head _)).1, rI⟩, F3, fun p hp => N3 p (.tail _ hp), hp3⟩
  · obtain rfl : i = its.size := Nat.le_antisymm hi (Nat.not_lt.mp hlt)
    refine wpAny_pyNext_list_end hh hit (isl _ N') (by simp) fun h' hx => ?_
    obtain ⟨F2, N2⟩ := step F' N' hx
    exact wpAny_execs_nil (fin h' tk m' F2 N2 hp)
end
end
section
open Builtin
theorem forIn_steps {σ : Type} (f : Nat → σ) (g : Nat → σ → Sem (ForInStep σ)) (n : Nat) (h : ∀ x k, k < n → g x (f k) = pure (.yield (f (k + 1)))) : ∀ (j s i : Nat), i + j = n → forIn (List.range' s j) (f i) g = pure (f n) := by
  intro j
  induction j with
  | zero => intro s i hi; rw [List.range'_zero, List.forIn_nil, show i = n from by omega]
  | succ j ih =>
    intro s i hi
    rw [List.range'_succ, List.forIn_cons, h s i (by omega), pure_bind]
    exact ih _ _ (by omega)
theorem take_snoc (b : Array UInt8) {k : Nat} (hk : k < b.size) : ((b.toList.take k).map (·.toNat)).toArray ++ [(b.getD k 0).toNat].toArray = ((b.toList.take (k + 1)).map (·.toNat)).toArray := by
  rw [List.take_add_one, List.map_append]
  have e : b.toList[k]? = some (b[k]) := by rw [Array.getElem?_toList]; exact Array.getElem?_eq_getElem hk
  have e2 : b.getD k 0 = b[k] := by simp [Array.getD, hk]
  rw [e, e2]
  simp
theorem run_ascii (id : String) (b : Array UInt8) (hb : ∀ k, k < b.size → (b.getD k 0).toNat < 128) (hn : b.size ≤ sizeLine) : _codecs.runDecoder id _codecs.asciiDecoder none true b 0 [] = pure (((b.toList.take b.size).map (·.toNat)).toArray, b.size) := by
  unfold _codecs.runDecoder
  simp only [Std.Legacy.Range.forIn_eq_forIn_range', Std.Legacy.Range.size]
  have key := forIn_steps (fun k => (k, ((b.toList.take k).map (·.toNat)).toArray, ({ } : _codecs.Faults)))
  refine (congrArg (· >>= _) (key _ b.size (fun x k hk => ?_) ((b.size - 0 + 1 - 1) / 1) 0 0 (by omega))).trans ?_
  · have h1 : ¬ (((b.toList.take k).map (·.toNat)).toArray).size > sizeLine := by
      rw [List.size_toArray, List.length_map, List.length_take]; omega
    have h2 : ¬ k ≥ b.size := by omega
    have h3 : _codecs.asciiDecoder.find true b k = .text [(b.getD k 0).toNat] (k + 1) := by
      show (if (b.getD k 0).toNat < 128 then _ else _) = _
      rw [if_pos (hb k hk)]; rfl
    simp only [if_neg h1, if_neg h2, h3, take_snoc b hk]
  · rw [pure_bind]
section
variable {b : Array UInt8} {c : UInt8} {cs : List UInt8} {t : Tok} {x : PySem.Str} {n : Nat}
theorem road_ascii {id : String} : _codecs.decodeRoad id b (PySem.Str.ofString "ascii") none [] = (_codecs.runDecoder id _codecs.asciiDecoder none true b 0 [] >>= fun r => mkStr ⟨r.1⟩) := by kernel_rfl
theorem meets_ascii {t1 t2 : Tok} {d : PySem.Str} (hd : ∀ id, _codecs.runDecoder id _codecs.asciiDecoder none true b 0 [] = pure (x.cps, n)) :
    Meets («_codecs.decode.text» ⟨[.bytes b t, .str (PySem.Str.ofString "ascii") t1, .none, .str d t2], []⟩) (fun _ R s => x.length ≤ sizeLine ∧ R (.ok (.ret (.str x s.toks))) { s with toks := s.toks + 1 }) := by
  refine .of_wp fun prog w A R s hS => ?_
  obtain ⟨hsz, h⟩ := hS
  show wpAny _ _ (Bytes.bytesLike _ (.bytes b t) >>= fun r => _) _ _ s
  refine wpAny_bind (wpAny_of_eq KBd.like_eq ?_)
  refine wpAny_bind (wpAny_of_eq KBd.held_eq ?_)
  show wpAny _ _ (_codecs.decodeRoad _ b (PySem.Str.ofString "ascii") none [] >>= fun v => _) _ _ s
  rw [road_ascii, hd]
  refine wpAny_bind (wpAny_bind (wpAny_pure ?_))
  exact wpAny_mkStr (wpAny_pure ⟨_, rfl, h⟩) hsz
theorem args_dec2 (a b : Value) : argsOk "bytes.decode" ⟨[a, b], []⟩ := by unfold argsOk; kernel_rfl
theorem entry_ascii {t3 : Tok} : «bytes.decode» ⟨[.bytes (c :: cs).toArray t, .str (PySem.Str.ofString "ascii") t3], []⟩ = (mkStr (PySem.Str.ofString "utf-8") >>= fun _ => mkStr (PySem.Str.ofString "ascii") >>= fun e => mkStr (PySem.Str.ofString "bytes.decode") >>= fun d =>
    call (.builtin "_codecs.decode.text") [.bytes (c :: cs).toArray t, e, .none, d] >>= fun v => ret v) := by kernel_rfl
theorem meets_dec {t3 : Tok} (hd : ∀ id, _codecs.runDecoder id _codecs.asciiDecoder none true (c :: cs).toArray 0 [] = pure (x.cps, n)) :
    Meets («bytes.decode» ⟨[.bytes (c :: cs).toArray t, .str (PySem.Str.ofString "ascii") t3], []⟩) (fun _ R s => x.length ≤ sizeLine ∧ ∀ t' k, R (.ok (.ret (.str x t'))) { s with toks := k }) := by
  refine .of_wp fun prog w A R s hS => ?_
  obtain ⟨hsz, h⟩ := hS
  rw [entry_ascii]
  refine wpAny_bind (wpAny_mkStr ?_ (by decide))
  refine wpAny_bind (wpAny_mkStr ?_ (by decide))
  refine wpAny_bind (wpAny_mkStr ?_ (by decide))
  exact wpAny_bind (call_function_meets KBd.kind_text KBd.plain_text KBd.entry_text (KBd.args_text _ _ _ _) (meets_ascii hd) ⟨hsz, wpAny_pure ⟨_, rfl, h _ _⟩⟩)
end
section
variable {prog : Program} {w : World} {A : Around} {E : Value → Shared → Prop} {s : Shared}
theorem decode_ascii {Q : Value → Shared → Prop} {b : Array UInt8} {ks : List Int} {t t3 : Tok} (hks : KBw.bInts b = ks) (h1 : 0 < ks.length) (h2 : ks.length ≤ 16777216) (h3 : ∀ k ∈ ks, k < 128)
    (h : ∀ t' k, Q (.str ⟨(ks.map Int.toNat).toArray⟩ t') { s with toks := k }) :
    wpAny (model prog w) A (call (.builtin "bytes.decode") [.bytes b t, .str (PySem.Str.ofString "ascii") t3]) Q E s := by
  have hz : b.size = ks.length := by rw [← hks, KBw.ints_length]
  have hin : ∀ k, k < b.size → (b.getD k 0).toNat < 128 := fun k hk => by
    have e2 : b.getD k 0 = b[k] := by simp [Array.getD, hk]
    have e3 := KBw.ints_get (Array.getElem?_eq_getElem hk)
    rw [hks] at e3
    have := h3 _ (List.mem_of_getElem? e3)
    rw [e2]; omega
  have hd : ∀ id, _codecs.runDecoder id _codecs.asciiDecoder none true b 0 [] = pure ((⟨(ks.map Int.toNat).toArray⟩ : PySem.Str).cps, b.size) := fun id => by
    rw [run_ascii id b hin (by rw [hz, sizeLine_eq]; exact h2)]
    congr 2
    show _ = (ks.map Int.toNat).toArray
    rw [← hks, show b.size = b.toList.length from Array.length_toList.symm, List.take_length]
    congr 1
    show _ = (b.toList.map _).map _
    rw [List.map_map]
    rfl
  obtain ⟨l⟩ := b
  cases l with
  | nil => simp only [List.size_toArray, List.length_nil] at hz; omega
  | cons c cs =>
    exact call_meets FB.slot_bytes_decode (typeIs_bytes _ _ _) FB.entry_bytes_decode (args_dec2 _ _) (meets_dec hd) ⟨by
      show (ks.map Int.toNat).toArray.size ≤ sizeLine
      rw [List.size_toArray, List.length_map, sizeLine_eq]; exact h2, h⟩
end
end
section
open LCg
/-- how an element that makes an object of its own ends: all kept, the new object told -/
def CompEndN (s : Shared) (R : Value → Obj → Prop) (y : Value) (s' : Shared) : Prop := ∃ t o h' tk', y = .ref t ∧ R y o ∧ s' = { s with heap := h', toks := tk' } ∧ h'.get? t = some o ∧ s.heap.objs.size ≤ t ∧ ∀ b o, s.heap.get? b = some o → h'.get? b = some o
/-- the made objects -/
def MadeN (R : Nat → Value → Obj → Prop) (ys : List Value) (tups : List (Addr × Obj)) : Prop := ∀ (i : Nat) y, ys[i]? = some y → ∃ t o, y = .ref t ∧ (t, o) ∈ tups ∧ R i y o
section
variable {prog : Program} {w : World} {A : Around} {E : Value → Shared → Prop} {s : Shared} {h₀ : Heap} {L : Addr} {m : Str → Option Value} {env : Env}
theorem owned_tup {target : Expr} {I : Addr} {v : Value} {o : Obj} {Q : Unit → Shared → Prop} (ho : s.heap.get? I = some o) (hc : o.cls = .type "tuple_iterator") (h : Q () s) : wpAny (model prog w) A (letOwnedTupleGo target (.ref I) v) Q E s := by
  have key : wpAny (model prog w) A (do
      let (.ref r, .ref a) := (Value.ref I, v) | return
      let o ← load r
      match o.cls, o.data with
      | .type n, .fields vs =>
        if ["enumerate", "zip", "dict_itemiterator", "dict_reverseitemiterator", "odict_iterator", "itertools.zip_longest", "itertools.pairwise"].contains n && vs[0]? == some (rawInt a) then
          rule "for.unpacks-the-owned-tuple"
          updateField r 0 .none
      | _, _ => pure () : Sem Unit) Q E s := by
    cases v with
    | ref a =>
      refine wpAny_bind (wpAny_load ho ?_)
      rw [hc]
      cases hd : o.data with
      | fields vs =>
        have e : (["enumerate", "zip", "dict_itemiterator", "dict_reverseitemiterator", "odict_iterator", "itertools.zip_longest", "itertools.pairwise"].contains "tuple_iterator") = false := by decide
        simp only [e, Bool.false_and, Bool.false_eq_true, if_false]
        exact wpAny_pure h
      | _ => exact wpAny_pure h
    | _ => exact wpAny_pure h
  unfold letOwnedTupleGo
  cases target <;> first | exact wpAny_pure h | exact key
def CompP (prog : Program) (w : World) (A : Around) (h₀ : Heap) (L : Addr) (m : Str → Option Value) (env : Env) (elt : Expr) (x x₂ : Str) (scope : Scope) (cl : List (Str × Addr)) (z : Str) (Q : Flow → Shared → Prop) (xv : Value) (s₁ : Shared) : Prop :=
  ∃ ax its news, ∃ R : Nat → Value → Obj → Prop, xv = .ref ax ∧ A.handled = none ∧ h₀.IsTuple ax its ∧ its.size ≤ sizeLine ∧ Fr h₀ L s₁.heap m ∧ News h₀ L s₁.heap news ∧
  (∀ i v, its[i]? = some v → ∃ t v₁ v₂, v = .ref t ∧ h₀.IsTuple t #[v₁, v₂] ∧ ∀ C oC m₂ (s' : Shared) (E' : Value → Shared → Prop), NsObj oC m₂ → m₂ x = some v₁ → m₂ x₂ = some v₂ → Fr h₀ L s'.heap m → News h₀ L s'.heap ((C, oC) :: news) → (∀ p ∈ news, p.1 ≠ C) →
    wpAny (model prog w) A (eval elt (compEnvC scope cl C env)) (CompEndN s' (R i)) E' s') ∧
  (∀ ys D tups h tk, ys.length = its.size → MadeN R ys tups → Fr h₀ L h (fun y => if y = z then some (.ref D) else m y) → News h₀ L h ((D, lst ys) :: (tups ++ news)) → (∀ p ∈ news, p.1 < D) → Q .next { s₁ with heap := h, toks := tk })
inductive PAInv (s₁ : Shared) (n : Nat) (R : Nat → Value → Obj → Prop) (ax : Addr) (h₀ : Heap) (L : Addr) (m : Str → Option Value) (I D C : Addr) (news : List (Addr × Obj)) : Nat → Shared → Prop
  | mk (i : Nat) (ys : List Value) (tups : List (Addr × Obj)) (m' : Str → Option Value) (h : Heap) (tk : Nat) (hi : i ≤ n) (hyl : ys.length = i) (hMade : MadeN R ys tups) (hit : h.IsTupleIter I ax i) (F : Fr h₀ L h m) (hn : h.Ns C m') (N : News h₀ L h ((D, lst ys) :: (tups ++ news))) (off : ∀ q ∈ tups, q.1 ≠ I ∧ q.1 ≠ D ∧ q.1 ≠ C) : PAInv s₁ n R ax h₀ L m I D C news (n + 1 - i) { s₁ with heap := h, toks := tk }
theorem comp_PA {elt iter : Expr} {x x₂ y : Str} {px px₂ tp py : Pos} {x1 : Nat} {scope : Scope} {cl : List (Str × Addr)} {pos spos : Pos} {Q : Flow → Shared → Prop} (F₀ : Fr h₀ L s.heap m) (hLe : env.locals = L)
    (hsw : swapsWith (.ListComp elt [⟨.Tuple [.Name x px, .Name x₂ px₂] x1 tp, iter, [], 0⟩] scope pos) (some (.Name y py)) spos.line env = pure true)
    (hclos : closureFor scope env = pure cl) (hcell : ∀ z ∈ scope.names, z.2 ≠ .cell) (hkind : scope.kind = .function)
    (hnames : ∀ z ∈ scope.names, z.2 = .local → scope.names.lookup z.1 = some .local) (hx : scope.names.lookup x = some .local) (hx₂ : scope.names.lookup x₂ = some .local) (hne : x ≠ x₂)
    (hy : env.kindOf y = some .local) (hp : (env.scope.kind == .class || (env.scope.kind == .module && env.locals != env.globals)) = false)
    (h : wpAny (model prog w) A (eval iter env) (CompP prog w A h₀ L m env elt x x₂ scope cl y Q) E s)
    (hs : ∀ x, foldedSetIterable iter env x = pure x := by intro _; rfl) :
    wpAny (model prog w) A (exec (.Assign [.Name y py] (.ListComp elt [⟨.Tuple [.Name x px, .Name x₂ px₂] x1 tp, iter, [], 0⟩] scope pos) spos) env) Q E s := by
  subst hLe
  rw [exec_Assign_Name_used _ _ _ _ hsw]
  refine wpAny_bind (wpAny_standAt (wpAny_bind ?_))
  show wpAny _ A (do let _ ← comprehension (.ListComp elt [⟨.Tuple [.Name x px, .Name x₂ px₂] x1 tp, iter, [], 0⟩] scope pos) scope env _ (newList []) false (eval iter env) (some (assign (.Name y py) env))) _ _ s
  refine wpAny_bind (wpAny_mono (wpAny_comprehension_free (use := some (assign (.Name y py) env)) (Q := fun _ s' => Q .next s') rfl hs hclos hkind hnames
    (wpAny_mono h (fun xv s₁ h₁ => ?_) fun _ _ e => e)) (fun _ s' hq => wpAny_pure (wpAny_pure hq)) fun _ _ e => e)
  obtain ⟨ax, its, news, R, rfl, hh, hax, hsz, F, N, turn, fin⟩ := h₁
  have tup : ∀ {g : Heap} {t : Addr} {vs : Array Value}, h₀.IsTuple t vs → (∀ b o, h₀.get? b = some o → g.get? b = some o) → g.IsTuple t vs := fun ⟨o, e, r⟩ k => ⟨o, k _ _ e, r⟩
  refine wpAny_pyIter_tuple (tup hax F.keep) ?_
  generalize hHI : s₁.heap.push { cls := .type "tuple_iterator", data := .fields #[.ref ax, .int 0 0] } = HI
  have upI : ∀ b o, s₁.heap.get? b = some o → HI.get? b = some o := fun b o e => hHI ▸ Heap.get?_push_of_some _ e
  have hIs : HI.objs.size = s₁.heap.objs.size + 1 := by rw [← hHI, Heap.size_push]
  have hit0 : HI.IsTupleIter s₁.heap.objs.size ax 0 := hHI ▸ ⟨_, Heap.get?_push_size _ rfl, rfl, rfl⟩
  have FI := F.keeps upI
  have NI := N.grown upI
  refine wpAny_newObj_type (wpAny_newFunctionEnv hcell (by intro y hy; simp at hy) (fun h₁ hns₁ hsb₁ => ?_) hkind)
  dsimp only at hns₁ hsb₁ ⊢
  generalize hH2 : HI.push { cls := .type "list", dict := none, data := .seq ([] : List Value).toArray } = H2 at hns₁ hsb₁ ⊢
  have hC : H2.objs.size = HI.objs.size + 1 := by rw [← hH2, Heap.size_push]
  have hlt : ∀ b, @LT.lt Nat _ b s₁.heap.objs.size → b ≠ s₁.heap.objs.size ∧ b ≠ HI.objs.size ∧ b ≠ H2.objs.size := fun b hb => ⟨Nat.ne_of_lt hb, Nat.ne_of_lt (by rw [hIs]; exact Nat.lt_succ_of_lt hb), Nat.ne_of_lt (by rw [hC, hIs]; exact Nat.lt_succ_of_lt (Nat.lt_succ_of_lt hb))⟩
  have hID : s₁.heap.objs.size ≠ HI.objs.size := Nat.ne_of_lt (by rw [hIs]; exact Nat.lt_succ_self _)
  have hIC : s₁.heap.objs.size ≠ H2.objs.size := Nat.ne_of_lt (by rw [hC, hIs]; exact Nat.lt_succ_of_lt (Nat.lt_succ_self _))
  have hDC : HI.objs.size ≠ H2.objs.size := Nat.ne_of_lt (by rw [hC]; exact Nat.lt_succ_self _)
  have old : ∀ b o, HI.get? b = some o → h₁.get? b = some o := fun b o e => hsb₁.extBut b o (Nat.ne_of_lt (by rw [hC]; exact Nat.lt_succ_of_lt (Heap.lt_size e))) (Heap.get?_push_of_some _ (hH2 ▸ Heap.get?_push_of_some _ e))
  have hacc : h₁.get? HI.objs.size = some (lst []) := hsb₁.extBut _ _ hDC (Heap.get?_push_of_some _ (hH2 ▸ Heap.get?_push_size _ rfl))
  have fresh₀ : ∀ a, @LE.le Nat _ s₁.heap.objs.size a → h₀.get? a = none := fun a ha => Heap.get?_none_of_le (Nat.le_trans F.above (Nat.le_trans (Nat.le_of_lt F.ns.lt) ha))
  have hI₀ := fresh₀ s₁.heap.objs.size (Nat.le_refl _)
  have hD₀ := fresh₀ HI.objs.size (by rw [hIs]; exact Nat.le_succ _)
  have hC₀ := fresh₀ H2.objs.size (by rw [hC, hIs]; exact Nat.le_succ_of_le (Nat.le_succ _))
  obtain ⟨hLI, hLD, hLC⟩ := hlt _ F.ns.lt
  have hCsz : @LT.lt Nat _ H2.objs.size h₁.objs.size := hns₁.lt
  have hit1 : h₁.IsTupleIter s₁.heap.objs.size ax 0 := by obtain ⟨o, e, r⟩ := hit0; exact ⟨o, old _ _ e, r⟩
  have n0 : ∀ q ∈ news, q.1 ≠ s₁.heap.objs.size ∧ q.1 ≠ HI.objs.size ∧ q.1 ≠ H2.objs.size := fun q hq => hlt _ (Heap.lt_size (N q hq).1)
  have loop : ∀ tk, codeAny (model prog w) A (.compLoop (.ListComp elt [⟨.Tuple [.Name x px, .Name x₂ px₂] x1 tp, iter, [], 0⟩] scope pos) 0 (.ref s₁.heap.objs.size) (.ref HI.objs.size) (compEnvC scope cl H2.objs.size env))
        (compPost (model prog w) A E (some (assign (.Name y py) env)) (fun _ s' => Q .next s') (.ref HI.objs.size) H2.objs.size) { s₁ with heap := h₁, toks := tk } := by
    intro tk₀
    refine LCp.codeAny_compLoop_pair (PAInv s₁ its.size R ax h₀ env.locals m s₁.heap.objs.size HI.objs.size H2.objs.size news) ?_ (its.size + 1)
      (PAInv.mk 0 [] [] _ h₁ _ (Nat.zero_le _) rfl (fun i y hy => by simp at hy) hit1 (FI.keeps old) hns₁ (fun q hq => ?_) (fun q hq => by simp at hq))
    · rintro _ _ ⟨i, ys, tups, m', h, tk, hi, hyl, hMade, hit, F', hn', N', offT⟩
      have offA : ∀ q ∈ tups ++ news, q.1 ≠ s₁.heap.objs.size ∧ q.1 ≠ HI.objs.size ∧ q.1 ≠ H2.objs.size := fun q hq => (List.mem_append.mp hq).elim (offT q) (n0 q)
      by_cases hlt2 : i < its.size
      · obtain ⟨t, v₁, v₂, hv, htup, step⟩ := turn i its[i] (by simp [hlt2])
        refine wpAny_pyNext_tuple_item hit (tup hax F'.keep) (x := its[i]) (by simp [hlt2]) fun h₂ hit₂ hs₂ => ?_
        have F2 : Fr h₀ env.locals h₂ m := F'.change hs₂ (Ne.symm hLI) hI₀
        have hn2 := hn'.sameBut hs₂ (Ne.symm hIC)
        have N2 : News h₀ env.locals h₂ ((HI.objs.size, lst ys) :: (tups ++ news)) := fun q hq => ⟨hs₂.extBut _ _ (by
          rcases List.mem_cons.mp hq with rfl | hq
          · exact Ne.symm hID
          · exact (offA q hq).1) (N' q hq).1, (N' q hq).2⟩
        obtain ⟨oI, eI, rI⟩ := id hit₂
        refine owned_tup eI rI.1 ?_
        rw [hv]
        refine wpAny_assign_Tuple hh (tup htup F2.keep) rfl rfl fun h₃ hx₃ => ?_
        have k3 : ∀ b o, h₂.get? b = some o → h₃.get? b = some o := fun b o e => hx₃ b o (Nat.ne_of_lt (Heap.lt_size e)) e
        refine wpAny_assignInOrder_more (wpAny_assign_Name (wpAny_storeName_local (lookup_relabel_local hx) (hn2.keeps k3) (fun h₄ hn₄ hs₄ => ?_) (by simp [compEnvC, relabel, hkind])))
        refine wpAny_assignInOrder_more (wpAny_assign_Name (wpAny_storeName_local (lookup_relabel_local hx₂) hn₄ (fun h₅ hn₅ hs₅ => ?_) (by simp [compEnvC, relabel, hkind])))
        refine wpAny_assignInOrder_none ?_
        have k5 : ∀ b o, b ≠ H2.objs.size → h₂.get? b = some o → h₅.get? b = some o := fun b o hb e => hs₅.extBut b o hb (hs₄.extBut b o hb (k3 b o e))
        obtain ⟨oC, eC, hoC⟩ := ns_obj hn₅
        have F5 : Fr h₀ env.locals h₅ m := ((F2.keeps k3).change hs₄ (Ne.symm hLC) hC₀).change hs₅ (Ne.symm hLC) hC₀
        have N5 : News h₀ env.locals h₅ ((HI.objs.size, lst ys) :: (tups ++ news)) := fun q hq => ⟨k5 _ _ (by
          rcases List.mem_cons.mp hq with rfl | hq
          · exact hDC
          · exact (offA q hq).2.2) (N2 q hq).1, (N2 q hq).2⟩
        have NC : News h₀ env.locals h₅ ((H2.objs.size, oC) :: news) := fun q hq => by
          rcases List.mem_cons.mp hq with rfl | hq
          · exact ⟨eC, Ne.symm hLC, hC₀⟩
          · exact N5 q (.tail _ (List.mem_append_right _ hq))
        refine wpAny_mono (step H2.objs.size oC _ { s₁ with heap := h₅, toks := _ } _ hoC (by simp [hne]) (by simp) F5 NC (fun q hq => (n0 q hq).2.2)) (fun y₁ s₆ h₆ => ?_) fun _ _ e => e
        obtain ⟨t6, o6, h6, tk6, rfl, hR6, rfl, e6, g6, k6⟩ := h₆
        have N6 := N5.grown k6
        have ht6 : ∀ b o, h₅.get? b = some o → b ≠ t6 := fun b o e q => absurd (Heap.lt_size e) (Nat.not_lt.mpr (q ▸ g6))
        refine append_at (hsz := by show ys.toArray.size ≤ sizeLine; rw [List.size_toArray, hyl]; exact Nat.le_trans hi hsz) (N6 _ List.mem_cons_self).1 fun h₇ hs₇ hD₇ => ?_
        have hit5 : h₅.IsTupleIter s₁.heap.objs.size ax (i + 1) := by obtain ⟨o, e, r⟩ := hit₂; exact ⟨o, k5 _ _ hIC e, r⟩
        obtain ⟨oI5, eI5, rI5⟩ := hit5
        have hIt : t6 ≠ s₁.heap.objs.size := fun q => ht6 _ _ eI5 q.symm
        have hDt : t6 ≠ HI.objs.size := fun q => ht6 _ _ (N5 _ List.mem_cons_self).1 q.symm
        have hCt : t6 ≠ H2.objs.size := fun q => ht6 _ _ eC q.symm
        have hLt : t6 ≠ env.locals := fun q => by
          obtain ⟨o, e, _⟩ := F5.ns
          exact absurd F5.ns.lt (Nat.not_lt.mpr (q ▸ g6))
        have ht0 : h₀.get? t6 = none := Heap.get?_none_of_le (Nat.le_trans F5.above (Nat.le_trans (Nat.le_of_lt F5.ns.lt) g6))
        refine ⟨its.size + 1 - (i + 1), by omega, PAInv.mk (i + 1) (ys ++ [.ref t6]) ((t6, o6) :: tups) _ h₇ _ hlt2 (by rw [List.length_append, List.length_singleton, hyl]) ?_ ⟨oI5, hs₇.extBut _ _ hID (k6 _ _ eI5), rI5⟩ ((F5.keeps k6).change hs₇ (Ne.symm hLD) hD₀)
          ((hoC.ns (k6 _ _ eC)).sameBut hs₇ (Ne.symm hDC)) (fun q hq => ?_) (fun q hq => ?_)⟩
        · intro j y' hy'
          by_cases hj : j < i
          · rw [List.getElem?_append_left (by omega)] at hy'
            obtain ⟨t, o, e, hm, r⟩ := hMade j y' hy'
            exact ⟨t, o, e, .tail _ hm, r⟩
          · by_cases he : j = i
            · subst he
              rw [List.getElem?_append_right (by omega), hyl, Nat.sub_self] at hy'
              cases hy'
              exact ⟨t6, o6, rfl, .head _, hR6⟩
            · rw [List.getElem?_eq_none (by rw [List.length_append, hyl, List.length_singleton]; omega)] at hy'; cases hy'
        · rcases List.mem_cons.mp hq with rfl | hq
          · exact ⟨hD₇.trans (congrArg some (lst_snoc ys _)), Ne.symm hLD, hD₀⟩
          rcases List.mem_cons.mp hq with rfl | hq
          · exact ⟨hs₇.extBut _ _ hDt e6, hLt, ht0⟩
          · exact ⟨hs₇.extBut _ _ (offA q hq).2.1 (N6 q (.tail _ hq)).1, (N6 q (.tail _ hq)).2⟩
        · rcases List.mem_cons.mp hq with rfl | hq
          · exact ⟨hIt, hDt, hCt⟩
          · exact offT q hq
      · obtain rfl : i = its.size := Nat.le_antisymm hi (Nat.not_lt.mp hlt2)
        refine wpAny_pyNext_tuple_end hh hit (tup hax F'.keep) (by simp) fun h₂ hx₂ => ?_
        have F2 : Fr h₀ env.locals h₂ m := ⟨F'.ns.at' fun o e => hx₂ _ o hLI e, fun b o e => hx₂ b o (fun q => by rw [q, hI₀] at e; cases e) (F'.keep b o e), F'.above⟩
        have N2 : News h₀ env.locals h₂ ((HI.objs.size, lst ys) :: (tups ++ news)) := fun q hq => ⟨hx₂ _ _ (by
          rcases List.mem_cons.mp hq with rfl | hq
          · exact Ne.symm hID
          · exact (offA q hq).1) (N' q hq).1, (N' q hq).2⟩
        show wpAny _ A (assign (.Name y py) env (.ref HI.objs.size)) _ _ _
        refine wpAny_assign_Name (wpAny_storeName_local hy F2.ns (fun h₃ hn₃ hs₃ => ?_) hp)
        have hL₀ : h₀.get? env.locals = none := Heap.get?_none_of_le F2.above
        have F3 : Fr h₀ env.locals h₃ (fun z => if z = y then some (.ref HI.objs.size) else m z) := ⟨hn₃, fun b o e => hs₃.extBut b o (fun q => by rw [q, hL₀] at e; cases e) (F2.keep b o e), F2.above⟩
        have hnC : h₃.Ns H2.objs.size m' := (hn'.at' fun o e => hx₂ _ o (Ne.symm hIC) e).sameBut hs₃ (Ne.symm hLC)
        refine ⟨m', hnC, fun h'' hs'' => ?_⟩
        refine fin ys _ tups h'' _ hyl hMade (F3.change hs'' (Ne.symm hLC) hC₀) (fun q hq => ?_) (fun q hq => by rw [hIs]; exact Nat.lt_succ_of_lt (Heap.lt_size (N q hq).1))
        refine ⟨hs''.extBut _ _ ?_ (hs₃.extBut _ _ (N2 q hq).2.1 (N2 q hq).1), (N2 q hq).2⟩
        rcases List.mem_cons.mp hq with rfl | hq
        · exact hDC
        · exact (offA q hq).2.2
    · rcases List.mem_cons.mp hq with rfl | hq
      · exact ⟨hacc, Ne.symm hLD, hD₀⟩
      · exact ⟨old _ _ (NI q (by simpa using hq)).1, (NI q (by simpa using hq)).2⟩
  exact codeAny_compStart_list (loop _) (wpAny_pyIter_tupleiter hit1 (loop _))
end
end
section
theorem zw_Cd_1 : True := by
  k_with_none
  k_with "exec Assign" => (k_here; (fail_if_success (with_reducible show wpAny _ _ _ (CutQ _) _ _)); (refine cutQ fun cutQ0 cutH0 => ?_))
  k_with "exec AugAssign" => (k_here; (fail_if_success (with_reducible show wpAny _ _ _ (CutQ _) _ _)); (refine cutQ fun cutQ0 cutH0 => ?_))
  k_with "exec Expr" => (k_here; (fail_if_success (with_reducible show wpAny _ _ _ (CutQ _) _ _)); (refine cutQ fun cutQ0 cutH0 => ?_))
  k_with "CutQ" => ((with_reducible rename (∀ f s', _ → CutQ _ f s') => cutH1); (refine cutH1 _ _ ?_); clear cutH1; (try dsimp only))
  k_with "binaryOp Add int int" => (k_here; (refine addZ ?_); intro _ _)
  k_with "binaryOp Mod int int" => (k_here; (refine modZ (by first | decide | omega) ?_); intro _ _)
  k_with "subscriptTail" => (k_here; (with_reducible show wpAny _ _ (subscriptTail _ _ (Value.bytes _ _) (Value.int _ _)) _ _ _); (refine itemZ (by first | (with_reducible assumption) | kba_ints) (by kba_size) (by omega) (by omega) ?_); intro _ _ kbaLoₘ778 kbaHiₘ778)
  k_with "inplaceOp Add bytes bytes" => (k_here; (refine iaddB_K (by first | (with_reducible assumption) | kba_ints | exact rfl) (by first | (with_reducible assumption) | kba_ints) (by omega) ?_); intro _ _ ibHₘ108)
  k_with "getMethod bytes" => (k_here; (with_reducible show wpAny _ _ (getMethod (Value.bytes _ _) "join" _) _ _ _); (refine bytesMeth slot_join type_join ?_))
  k_with "binaryOp Add bytes bytes" => (k_here; (with_reducible show wpAny _ _ (binaryOp Operator.Add (Value.bytes _ _) (Value.bytes _ _)) _ _ _); (refine' KBa.add_K (by first | (with_reducible assumption) | exact KBw.ints_list _ | kba_ints2) (by first | (with_reducible assumption) | exact KBw.ints_list _ | kba_ints2) (by first | omega | (simp only [List.length_append, List.length_map, List.length_take, List.length_nil, List.length_cons]; omega) | kba_size) ?_); intro _ _ kbaAppₘab)
  k_with "eval ListComp" => (k_here; (rename Fr _ _ _ _ => uFₘ110); k_dflt (refine comp_E (F₀ := uFₘ110) (by first | rfl | (with_unfolding_all rfl)) (by decide) (by rfl) (by decide) (by rfl) ?_))
  k_with "CompEnd" => ((rename Fr _ _ _ _ => uFₘ94); (rename News _ _ _ _ => uNₘ94); k_dflt (refine' LCg.CompEnd.intro uFₘ94 uNₘ94 _ (by kcf_all) (by first | assumption | (simp only [LCg.Off3, and_true]; done) | (simp only [LCg.Off3, and_true]; assumption)) (by first | exact True.intro | lcg_src | assumption) ⟨rfl, ?_⟩); (try dsimp only))
  k_with "call builtin:bytes.join" => (k_here; (try dsimp only [List.cons_append, List.nil_append]); (with_reducible show wpAny _ _ (call _ [Value.bytes _ _, Value.ref _]) _ _ _); (refine call_join (by kba_isList) (by assumption) (by omega) ?_); intro _ _ _ bjHₘ818; (try ((rename catI _ = _ => uJ2ₘ818); rw [uJ2ₘ818] at bjHₘ818)))
  k_with "compareOp Eq int int" => (k_here; refine eq_int ?_)
  k_with "compareOp Gt int int" => (k_here; refine gt_int ?_)
  k_with "ite" => (k_here; first | with_reducible refine ite_tt ?_ | with_reducible refine ite_ff ?_ | (refine ite_pos (by with_reducible assumption) ?_) | (refine ite_neg (by with_reducible assumption) ?_) | (with_reducible refine split_ieq ?_ ?_ <;> intro _) | (with_reducible refine split_dec ?_ ?_ <;> intro _))
  k_with "InvEndN" => k_dflt kst_close
  k_with "call ref" => (k_here; (with_reducible show wpAny _ _ (call (Value.ref 686) _) _ _ _); (rename Fr _ _ _ _ => uFₘ751); (rename News _ _ _ _ => uNₘ751); (try dsimp only [List.nil_append, List.cons_append]); k_dflt (refine' c_hash _ _ _ _ _ _ _ _ _ _ _ _ _ _ _ _ _ _ _ _ _ _ _ _ _ _ _ _ _ _ (by k_asm) uFₘ751 (by k_asm) (by k_asm) (by first | exact rfl | assumption) (by ktr_room) (by ktr_units) (by first | (with_reducible assumption) | omega | (exact rfl) | (simp only [List.length_append, List.length_map, List.length_take, List.length_cons, List.length_nil]; omega) | (simp only [List.length_append, List.length_map, List.length_cons, List.length_nil] at *; omega)) (by first | (with_reducible assumption) | omega | (exact rfl) | (simp only [List.length_append, List.length_map, List.length_take, List.length_cons, List.length_nil]; omega) | (simp only [List.length_append, List.length_map, List.length_cons, List.length_nil] at *; omega)) (by first | (with_reducible assumption) | omega | (exact rfl) | (simp only [List.length_append, List.length_map, List.length_take, List.length_cons, List.length_nil]; omega) | (simp only [List.length_append, List.length_map, List.length_cons, List.length_nil] at *; omega)) (by first | (with_reducible assumption) | omega | (exact rfl) | (simp only [List.length_append, List.length_map, List.length_take, List.length_cons, List.length_nil]; omega) | (simp only [List.length_append, List.length_map, List.length_cons, List.length_nil] at *; omega)) (by first | (with_reducible assumption) | omega | (exact rfl) | (simp only [List.length_append, List.length_map, List.length_take, List.length_cons, List.length_nil]; omega) | (simp only [List.length_append, List.length_map, List.length_cons, List.length_nil] at *; omega)) ?_; intro h'ₘ751 tk'ₘ751 ukₘ751 urₘ751 utₘ751 u0ₘ751 u1ₘ751; have F'ₘ751 := Fr.keptAll uFₘ751 ukₘ751; have N'ₘ751 := News.grown uNₘ751 ukₘ751; clear ukₘ751; (try dsimp only); (try k_fold)))
  k_with "call ref" => (k_here; (with_reducible show wpAny _ _ (call (Value.ref 691) _) _ _ _); (rename Fr _ _ _ _ => uFₘ728); (rename News _ _ _ _ => uNₘ728); (try dsimp only [List.nil_append, List.cons_append]); k_dflt (refine' c_row _ _ _ _ _ _ _ _ _ _ _ _ _ _ _ _ _ _ _ _ _ _ _ _ _ _ _ _ (by k_asm) uFₘ728 (by k_asm) (by k_asm) (by first | exact rfl | assumption) (by ktr_room) (by ktr_units) (by first | (with_reducible assumption) | omega | (exact rfl) | (simp only [List.length_append, List.length_map, List.length_take, List.length_cons, List.length_nil]; omega) | (simp only [List.length_append, List.length_map, List.length_cons, List.length_nil] at *; omega)) (by first | (with_reducible assumption) | omega | (exact rfl) | (simp only [List.length_append, List.length_map, List.length_take, List.length_cons, List.length_nil]; omega) | (simp only [List.length_append, List.length_map, List.length_cons, List.length_nil] at *; omega)) (by first | (with_reducible assumption) | omega | (exact rfl) | (simp only [List.length_append, List.length_map, List.length_take, List.length_cons, List.length_nil]; omega) | (simp only [List.length_append, List.length_map, List.length_cons, List.length_nil] at *; omega)) (by first | (with_reducible assumption) | omega | (exact rfl) | (simp only [List.length_append, List.length_map, List.length_take, List.length_cons, List.length_nil]; omega) | (simp only [List.length_append, List.length_map, List.length_cons, List.length_nil] at *; omega)) ?_; intro h'ₘ728 tk'ₘ728 ukₘ728 urₘ728 utₘ728 u0ₘ728 u1ₘ728; have F'ₘ728 := Fr.keptAll uFₘ728 ukₘ728; have N'ₘ728 := News.grown uNₘ728 ukₘ728; clear ukₘ728; (try dsimp only); (try k_fold)))
  k_with "call ref" => (k_here; (with_reducible show wpAny _ _ (call (Value.ref 698) _) _ _ _); (rename Fr _ _ _ _ => uFₘ926); (rename News _ _ _ _ => uNₘ926); (try dsimp only [List.nil_append, List.cons_append]); k_dflt (refine' c_signs _ _ _ _ _ _ _ _ _ _ _ _ _ _ _ _ _ _ _ _ _ _ _ _ _ _ (by k_asm) uFₘ926 (by k_asm) (by k_asm) (by first | exact rfl | assumption) (by ktr_room) (by ktr_units) (by first | (with_reducible assumption) | omega | (exact rfl) | (simp only [List.length_append, List.length_map, List.length_take, List.length_cons, List.length_nil]; omega) | (simp only [List.length_append, List.length_map, List.length_cons, List.length_nil] at *; omega)) (by first | (with_reducible assumption) | omega | (exact rfl) | (simp only [List.length_append, List.length_map, List.length_take, List.length_cons, List.length_nil]; omega) | (simp only [List.length_append, List.length_map, List.length_cons, List.length_nil] at *; omega)) ?_; intro h'ₘ926 tk'ₘ926 ukₘ926 urₘ926 utₘ926 u0ₘ926; have F'ₘ926 := Fr.keptAll uFₘ926 ukₘ926; have N'ₘ926 := News.grown uNₘ926 ukₘ926; clear ukₘ926; (try dsimp only); (try k_fold)))
  trivial
/-- for each bit of a length, the lowest first: the digest for a one, the secret for a nought -/
def bitsI (ds ks : List Int) (n : Nat) : List Int := if h : n = 0 then [] else (if n % 2 = 1 then ds else ks) ++ bitsI ds ks (n / 2)
termination_by n
decreasing_by omega
theorem bitsI_pos (ds ks : List Int) {n : Nat} (h : 0 < n) : bitsI ds ks n = (if n % 2 = 1 then ds else ks) ++ bitsI ds ks (n / 2) := by
  rw [bitsI]; rw [dif_neg (by omega)]
theorem bitsI_length (ds ks : List Int) (hd : ds.length ≤ 104) (hk : ks.length ≤ 104) : ∀ n : Nat, n < 128 → (bitsI ds ks n).length ≤ 104 * 7 := by
  have step : ∀ (j n : Nat), n < 2 ^ j → (bitsI ds ks n).length ≤ 104 * j := by
    intro j
    induction j with
    | zero => intro n hn; have : n = 0 := by omega
              subst this; rw [bitsI]; simp
    | succ j ih =>
      intro n hn
      by_cases h : n = 0
      · subst h; rw [bitsI]; simp
      · rw [bitsI_pos ds ks (by omega), List.length_append]
        have := ih (n / 2) (by rw [Nat.pow_succ] at hn; omega)
        split <;> omega
  exact fun n hn => step 7 n (by omega)
abbrev BgP (ds ks T : List Int) (begun : Array UInt8) (left : Int) : Prop :=
  0 ≤ left ∧ left ≤ 104 ∧ (KBw.bInts begun).length ≤ T.length ∧ T.length ≤ 1200 ∧ KBw.bInts begun ++ bitsI ds ks left.toNat = T
theorem bg_start {ds ks pre : List Int} {begun : Array UInt8} (h : KBw.bInts begun = pre) (hp : pre.length ≤ 224) (hd : ds.length ≤ 104) (hk : ks.length ≤ 104) : BgP ds ks (pre ++ bitsI ds ks ks.length) begun (ks.length : Int) := by
  have := bitsI_length ds ks hd hk ks.length (by omega)
  refine ⟨by omega, by omega, ?_, ?_, ?_⟩
  · rw [h, List.length_append]; omega
  · rw [List.length_append]; omega
  · rw [h, Int.toNat_natCast]
theorem bg_turn {ds ks T : List Int} {begun c : Array UInt8} {left : Int} (h0 : 0 ≤ left) (h1 : left ≤ 104) (h2 : T.length ≤ 1200) (h : KBw.bInts begun ++ bitsI ds ks left.toNat = T) (hp : 0 < left) (hb : left.fmod 2 = 1) (hc : KBw.bInts (begun ++ c) = KBw.bInts begun ++ ds) : BgP ds ks T (begun ++ c) (left.fdiv 2) := by
  obtain ⟨n, rfl⟩ : ∃ n : Nat, left = n := ⟨left.toNat, by omega⟩
  rw [Int.fmod_eq_emod_of_nonneg _ (by omega)] at hb
  rw [Int.fdiv_eq_ediv_of_nonneg _ (by omega)]
  have e : ((n : Int) / 2).toNat = n / 2 := by omega
  rw [Int.toNat_natCast, bitsI_pos ds ks (by omega), if_pos (by omega), ← List.append_assoc, ← hc] at h
  refine ⟨by omega, by omega, ?_, h2, by rw [e]; exact h⟩
  rw [← h, List.length_append]; omega
theorem bg_turn0 {ds ks T : List Int} {begun c : Array UInt8} {left : Int} (h0 : 0 ≤ left) (h1 : left ≤ 104) (h2 : T.length ≤ 1200) (h : KBw.bInts begun ++ bitsI ds ks left.toNat = T) (hp : 0 < left) (hb : left.fmod 2 ≠ 1) (hc : KBw.bInts (begun ++ c) = KBw.bInts begun ++ ks) : BgP ds ks T (begun ++ c) (left.fdiv 2) := by
  obtain ⟨n, rfl⟩ : ∃ n : Nat, left = n := ⟨left.toNat, by omega⟩
  rw [Int.fmod_eq_emod_of_nonneg _ (by omega)] at hb
  rw [Int.fdiv_eq_ediv_of_nonneg _ (by omega)]
  have e : ((n : Int) / 2).toNat = n / 2 := by omega
  rw [Int.toNat_natCast, bitsI_pos ds ks (by omega), if_neg (by omega), ← List.append_assoc, ← hc] at h
  refine ⟨by omega, by omega, ?_, h2, by rw [e]; exact h⟩
  rw [← h, List.length_append]; omega
theorem bg_end {ds ks T : List Int} {begun : Array UInt8} {left : Int} (h : KBw.bInts begun ++ bitsI ds ks left.toNat = T) (hp : ¬ 0 < left) : KBw.bInts begun = T := by
  have e : left.toNat = 0 := by omega
  rw [e, bitsI, dif_pos rfl, List.append_nil] at h
  exact h
theorem bg_turnM {ds ks T M : List Int} {begun c : Array UInt8} {left : Int} (h0 : 0 ≤ left) (h1 : left ≤ 104) (h2 : T.length ≤ 1200) (h : KBw.bInts begun ++ bitsI ds ks left.toNat = T) (hp : 0 < left) (hM : M = if (left.fmod 2 == 1) = true then ds else ks) (hc : KBw.bInts (begun ++ c) = KBw.bInts begun ++ M) : BgP ds ks T (begun ++ c) (left.fdiv 2) := by
  by_cases hb : left.fmod 2 = 1
  · rw [if_pos (beq_iff_eq.mpr hb)] at hM
    subst hM
    exact bg_turn h0 h1 h2 h hp hb hc
  · rw [if_neg (fun q => hb (beq_iff_eq.mp q))] at hM
    subst hM
    exact bg_turn0 h0 h1 h2 h hp hb hc
theorem rowI_len (ks : List Int) (n : Nat) : (rowI ks n).length = n := by unfold rowI; rw [List.length_map, List.length_range]
/-- an expression with an if that gives bytes either way: the two ways meet -/
inductive BytesV (b : Array UInt8) (s : Shared) (v : Value) (s' : Shared) : Prop
  | mk (t : CbTok) (k : Nat) (e : v = .bytes b t) (e2 : s' = { s with toks := k })
theorem ite_bytes {prog : Program} {w : World} {A : Around} {e1 e2 : Expr} {env : Env} {s : Shared} {Q E : Value → Shared → Prop} {c : Bool} {b1 b2 : Array UInt8} {X Y : List Int} {N : Nat} (hX : KBw.bInts b1 = X) (hY : KBw.bInts b2 = Y) (lX : X.length ≤ N) (lY : Y.length ≤ N)
    (h1 : c = true → wpAny (model prog w) A (eval e1 env) (BytesV b1 s) E s) (h2 : c = false → wpAny (model prog w) A (eval e2 env) (BytesV b2 s) E s)
    (h : ∀ b t k (M : List Int), M = (if c = true then X else Y) → KBw.bInts b = M → M.length ≤ N → Q (.bytes b t) { s with toks := k }) : if c = true then wpAny (model prog w) A (eval e1 env) Q E s else wpAny (model prog w) A (eval e2 env) Q E s := by
  refine split_bool (fun hc => wpAny_mono (h1 hc) ?_ fun _ _ e => e) (fun hc => wpAny_mono (h2 hc) ?_ fun _ _ e => e)
  · rintro v s' ⟨t, k, rfl, rfl⟩
    exact h b1 t k _ rfl (by rw [if_pos hc]; exact hX) (by rw [if_pos hc]; exact lX)
  · rintro v s' ⟨t, k, rfl, rfl⟩
    exact h b2 t k _ rfl (by rw [if_neg (by rw [hc]; decide)]; exact hY) (by rw [if_neg (by rw [hc]; decide)]; exact lY)
/-- what one round hashes -/
@[irreducible] def turnI (P S : List Int) (x : List Int) (k : Int) : List Int :=
  if k.fmod 2 = 1 then P ++ ((if 0 < k.fmod 3 then S else []) ++ (if 0 < k.fmod 7 then P else [])) ++ x
  else x ++ ((if 0 < k.fmod 3 then S else []) ++ (if 0 < k.fmod 7 then P else [])) ++ P
theorem turn_odd {P S x M N : List Int} {n : Int} (q : n.fmod 2 = 1) (h3 : M = if decide (0 < n.fmod 3) = true then S else []) (h7 : N = if decide (0 < n.fmod 7) = true then P else []) : P ++ (M ++ N) ++ x = turnI P S x n := by rw [turnI, if_pos q, h3, h7]; simp only [decide_eq_true_eq]
theorem turn_even {P S x M N : List Int} {n : Int} (q : ¬ n.fmod 2 = 1) (h3 : M = if decide (0 < n.fmod 3) = true then S else []) (h7 : N = if decide (0 < n.fmod 7) = true then P else []) : x ++ (M ++ N) ++ P = turnI P S x n := by rw [turnI, if_neg q, h3, h7]; simp only [decide_eq_true_eq]
def roundI (kind : Int) (sz : Nat) (P S : List Int) (x : List Int) (k : Int) : List Int := hashI kind sz (turnI P S x k)
abbrev begI (kind : Int) (sz : Nat) (ks ss : List Int) : List Int := ks ++ ss ++ rowI (hashI kind sz (ks ++ ss ++ ks)) ks.length ++ bitsI (hashI kind sz (ks ++ ss ++ ks)) ks ks.length
abbrev rowP (kind : Int) (sz : Nat) (ks : List Int) : List Int := rowI (hashI kind sz (manyI ks.length ks)) ks.length
abbrev rowS (kind : Int) (sz : Nat) (ss : List Int) (da : List Int) : List Int := List.take (min ss.length (hashI kind sz (manyI (16 + da.getD (Int.toNat 0) 0 - 0).toNat ss)).length) (hashI kind sz (manyI (16 + da.getD (Int.toNat 0) 0 - 0).toNat ss))
def dueI (kind : Int) (sz : Nat) (ks ss : List Int) (rn : Nat) : List Int :=
  (rangeKs 0 rn).foldl (roundI kind sz (rowP kind sz ks) (rowS kind sz ss (hashI kind sz (begI kind sz ks ss)))) (hashI kind sz (begI kind sz ks ss))
abbrev RdP (kind : Int) (sz : Nat) (P S da : List Int) (pre : List Int) (last : Array UInt8) : Prop := KBw.bInts last = pre.foldl (roundI kind sz P S) da ∧ (pre.foldl (roundI kind sz P S) da).length = sz
theorem rd_start {kind : Int} {sz : Nat} {P S da X : List Int} {last : Array UInt8} (h : KBw.bInts last = hashI kind sz X) (hl : (hashI kind sz X).length = sz) (e : da = hashI kind sz X) : RdP kind sz P S da [] last := by
  subst e; exact ⟨h, hl⟩
theorem rd_turn {kind : Int} {sz : Nat} {P S da pre Z : List Int} {n : Int} {last : Array UInt8} (h : KBw.bInts last = hashI kind sz Z) (hl : (hashI kind sz Z).length = sz) (e : Z = turnI P S (pre.foldl (roundI kind sz P S) da) n) : RdP kind sz P S da (pre ++ [n]) last := by
  have x : (pre ++ [n]).foldl (roundI kind sz P S) da = hashI kind sz Z := by rw [List.foldl_append, e]; rfl
  exact ⟨by rw [x]; exact h, by rw [x]; exact hl⟩
theorem c_due : ∀ (w : World) (p : Program) (loose : List Str) (mean : ExcName → Option Value) (mg mb : Str → Option Value) (b : Array UInt8) (tb : CbTok) (ks : List Int) (b2 : Array UInt8) (tb2 : CbTok) (ss : List Int) (rn : Nat) (trn : CbTok) (k : Int) (tk : CbTok) (sz : Nat) (tsz : CbTok) (dp un : Nat) (gd : Option (List Code)) (cn : Str) (cs : Scope) (a : Addr) (ccd : Value) (cl : List (Str × Addr)) (outer : List Env) (A₀ : Around) (base h₀ : Heap) (L : Addr) (m : Str → Option Value) (s : Shared) (Q E : Value → Shared → Prop)
  (B : Below A₀ base outer h₀) (F : Fr h₀ L s.heap m) (X : (KF w.params).In h₀) (T : Top p loose mean mg mb h₀) (hcs : cs.kind = .function) (hdp : dp + 4 < recursionLimit) (hun : un + 20 < cLine)
  (hks : KBw.bInts b = ks) (hss : KBw.bInts b2 = ss) (hlk : ks.length ≤ 104) (hls : ss.length ≤ 16) (hrn : rn ≤ 99) (hk0 : 0 ≤ k) (hk3 : k < 3) (hsz : sz = 32 ∨ sz = 64)
  (hret : ∀ (h' : Heap) (tk' : Nat) (hk' : ∀ b o, s.heap.get? b = some o → h'.get? b = some o) (r : Str) (t : Tok), r = signsI (dueI k sz ks ss rn) → Q (.str r t) { s with heap := h', toks := tk' }),
  wpAny (model rw_iw0011_01.row.prog w) (ktrTop dp un gd cn cs L a ccd cl outer) (call (.ref 703) [.bytes b tb, .bytes b2 tb2, .int (rn : Int) trn, .int k tk, .int (sz : Int) tsz]) Q E s := by
  k_fill
  intro w p loose mean mg mb b tb ks b2 tb2 ss rn trn k tk sz tsz dp un gd cn cs a ccd cl outer A₀ base h₀ L m s Q E B F X T hcs hdp hun hks hss hlk hls hrn hk0 hk3 hsz hret
  refine wpAny_call ?_
  k_dflt (refine' enterKC (binds := [(Str.ofString "secret", .bytes b tb), (Str.ofString "salt", .bytes b2 tb2), (Str.ofString "rounds", .int (rn : Int) trn), (Str.ofString "kind", .int k tk), (Str.ofString "size", .int (sz : Int) tsz)]) B F X T ?kA ?kF ?kK ?k6 ?k7 ?k8 ?k9 ?kB ?kD ?_ ?c2 ?c3 ?c4; (case kA => exact rfl); (case kF => exact rfl); (case kK => assumption); (case k6 => k_is); (case k7 => k_is); (case k8 => ktr_room); (case k9 => first | exact BindsTo.of_eq rfl | exact binds_K (by k_in) rfl (by k_is) rfl rfl rfl); (case kB => exact rfl); (case kD => decide +kernel); (case c2 => exact rfl); (case c3 => exact rfl); (case c4 => exact rfl); k_whole; clear B F X T; intro L' h' tk' cells' F' N' Y' B' X' T'; k_cells Y'; (try simp only [List.cons_append, List.nil_append] at N'); (try dsimp only); (try k_lift B'); (try k_fold))
  k_with "exec While Compare cons nil" => k_while (fun _ (begun : Array UInt8) left => BgP (hashI k sz (ks ++ ss ++ ks)) ks (ks ++ ss ++ rowI (hashI k sz (ks ++ ss ++ ks)) ks.length ++ bitsI (hashI k sz (ks ++ ss ++ ks)) ks ks.length) begun left) (fun _ _ left => left.toNat) "begun" "left"
  k_with "state" => first | (with_reducible refine bg_start (by kba_ints) ?_ ?_ ?_; all_goals first | omega | (simp only [List.length_append] at *; omega)) | (with_reducible exact bg_turnM (by assumption) (by assumption) (by assumption) (by assumption) (by assumption) (by assumption) (by assumption))
  k_with "measure" => (rw [Int.fdiv_eq_ediv_of_nonneg _ (by omega)]; omega)
  k_with "CompW" => (((rename Fr _ _ _ _ => uF); (rename News _ _ _ _ => uN); k_dflt (refine' CompW.bytes (isB b) ?c1 uF uN ?c2 ?c3 (fun k' t' I' oI' C' oC' D' m' ys' h' tk' E' hk' hlo' hhi' hC' hx' F' N' off' ne' => ?_) (fun ys' g' hm' D' h' tk' F' N' off' => ?_); (case c1 => exact rfl); (case c2 => first | (with_reducible assumption) | kba_ints); (case c3 => omega)); (all_goals (try (simp only [LCg.Off3, and_true] at off'))); (all_goals (try dsimp only)); (all_goals (try k_fold))); rotate_left; obtain ⟨uJ1, uJ2, uJ3, uJ4⟩ := Made.bytes 104 104 hm' (by kba_ints) (by omega) (by omega); rotate_left)
  k_with "CompW" => (((rename Fr _ _ _ _ => uF); (rename News _ _ _ _ => uN); k_dflt (refine' CompW.range (isB b2) ?c1 uF uN ?c2 ?c4 ?c5 ?c3 (fun k' t' I' oI' C' oC' D' m' ys' h' tk' E' hk' hlo' hhi' hC' hx' F' N' off' ne' => ?_) (fun ys' g' hm' D' h' tk' F' N' off' => ?_); (case c1 => exact rfl); (case c2 => assumption); (case c4 => first | decide | exact small_one (by omega) (by omega) (by omega) (by omega)); (case c5 => first | exact rangeSize_nat _ _ | rfl); (case c3 => omega)); (all_goals (try (simp only [LCg.Off3, and_true] at off'))); (all_goals (try dsimp only)); (all_goals (try k_fold))); rotate_left; obtain ⟨uJ1, uJ2, uJ3, uJ4⟩ := Made.bytes 271 16 hm' (by kba_ints) (by rw [rangeKs_length]; omega) (by omega); rw [rangeKs_length] at uJ2 uJ4; rotate_left)
  k_with "isB" => exact ⟨_, rfl⟩
  k_with "CElt" => exact ⟨rfl, _, rfl⟩
  obtain ⟨P, hP⟩ : ∃ P, P = rowP k sz ks := ⟨_, rfl⟩
  obtain ⟨da, hda⟩ : ∃ da, da = hashI k sz (begI k sz ks ss) := ⟨_, rfl⟩
  obtain ⟨S, hS⟩ : ∃ S, S = rowS k sz ss da := ⟨_, rfl⟩
  k_with "state" => ((with_reducible rename (_ ++ bitsI _ _ _ = _) => e7); have e9 := bg_end e7 (by with_reducible assumption); with_reducible refine' rd_start ?rsA ?rsB ?rsC; (case rsA => with_reducible assumption); (case rsB => with_reducible assumption); (case rsC => (rw [e9]; exact hda)))
  k_with "state" => ((with_reducible rename (_ ++ bitsI _ _ _ = _) => e7); have e9 := bg_end e7 (by with_reducible assumption); with_reducible refine' rd_turn ?rsA ?rsB ?rsC; (case rsA => with_reducible assumption); (case rsB => with_reducible assumption); (case rsC => ((first | (with_reducible rename (Int.fmod _ 2 = 1) => q2) | (with_reducible rename (Int.fmod _ 2 ≠ 1) => q2)); (with_reducible rename (_ = @ite _ (decide (0 < Int.fmod _ 3) = true) _ _ _) => m3); (with_reducible rename (_ = @ite _ (decide (0 < Int.fmod _ 7) = true) _ _ _) => m7); rw [e9] at m3; (first | rw [hS, hP, hda, e9] | rw [hS, hP, hda]); first | (with_reducible exact turn_odd q2 m3 m7) | (with_reducible exact turn_even q2 m3 m7))))
  k_with "pyIter ref" => k_state (fun pre (last : Array UInt8) => RdP k sz P S da pre last) "last"
  k_with "BytesV" => exact BytesV.mk _ _ rfl rfl
  k_with "ite" => (k_here; (with_reducible rename (KBw.bInts _ = hashI k sz (ks ++ ss ++ ks)) => uXd); (with_reducible refine' ite_bytes (e1 := Expr.Name (Str.ofString "doubled") _) (N := 104) uXd hks (by omega) (by omega) (fun _ => ?_) (fun _ => ?_) (fun _ _ _ _ ibM ibH ibL => ?_)); (all_goals (try dsimp only)))
  k_with "ite" => (k_here; (with_reducible rename (KBw.bInts (KBy.picked _ _ _) = _) => uXs); (with_reducible refine' ite_bytes (e1 := Expr.Name (Str.ofString "salt_row") _) (N := 104) uXs (rfl : KBw.bInts #[] = []) (by first | (with_reducible assumption) | (simp only [List.length_take]; omega)) (Nat.zero_le _) (fun _ => ?_) (fun _ => ?_) (fun _ _ _ _ ibM ibH ibL => ?_)); (all_goals (try dsimp only)))
  k_with "ite" => (k_here; (with_reducible rename (KBw.bInts _ = rowI (hashI _ _ (manyI _ _)) _) => uXp); (with_reducible refine' ite_bytes (e1 := Expr.Name (Str.ofString "secret_row") _) (N := 104) uXp (rfl : KBw.bInts #[] = []) (by rw [rowI_len]; exact hlk) (Nat.zero_le _) (fun _ => ?_) (fun _ => ?_) (fun _ _ _ _ ibM ibH ibL => ?_)); (all_goals (try dsimp only)))
  w_strict k_steps
  (with_reducible rename (_ = signsI _) => e5)
  refine hret _ _ (Fr.keep (by k_asm)) _ _ ?_
  rw [e5, hS, hP, hda, dueI, show ((rn : Int) - 0).toNat = rn from by rw [Int.sub_zero, Int.toNat_natCast]]
end
section
local macro_rules | `(tactic| walk_at "pyIter ref") => `(tactic| (k_here; (refine Hold.out ?_)))
section
theorem zw_R6_1 : True := by
  k_with_none
  k_with "exec Assign" => (k_here; (fail_if_success (with_reducible show wpAny _ _ _ (CutQ _) _ _)); (refine cutQ fun cutQ0 cutH0 => ?_))
  k_with "exec AugAssign" => (k_here; (fail_if_success (with_reducible show wpAny _ _ _ (CutQ _) _ _)); (refine cutQ fun cutQ0 cutH0 => ?_))
  k_with "exec Expr" => (k_here; (fail_if_success (with_reducible show wpAny _ _ _ (CutQ _) _ _)); (refine cutQ fun cutQ0 cutH0 => ?_))
  k_with "CutQ" => ((with_reducible rename (∀ f s', _ → CutQ _ f s') => cutH1); (refine cutH1 _ _ ?_); clear cutH1; (try dsimp only))
  trivial
open LCg
def Hold (P : Prop) : Prop := P
theorem Hold.out {P : Prop} (h : Hold P) : P := h
/-- a hash that is handed in -/
def HOk (w : World) (hb : Heap) (HF : Addr) (hf : List Int → List Int) (sz : Nat) : Prop :=
  ∀ (p : Program) (loose : List Str) (mean : ExcName → Option Value) (mg mb : Str → Option Value) (dp un : Nat) (gd : Option (List Code)) (cn : Str) (cs : Scope) (a : Addr) (ccd : Value) (cl : List (Str × Addr)) (outer : List Env) (A₀ : Around) (base h₀ : Heap) (L : Addr) (m : Str → Option Value) (s : Shared) (Q E : Value → Shared → Prop) (b : Array UInt8) (tb : CbTok) (ks : List Int)
    (B : Below A₀ base outer h₀) (F : Fr h₀ L s.heap m) (X : (KF w.params).In h₀) (T : Top p loose mean mg mb h₀) (hkb : ∀ b o, hb.get? b = some o → h₀.get? b = some o) (hcs : cs.kind = .function) (hdp : dp + 8 < recursionLimit) (hun : un + 40 < cLine) (hks : KBw.bInts b = ks) (hl : ks.length ≤ 20000)
    (hret : ∀ h' tk' r t, (∀ b o, s.heap.get? b = some o → h'.get? b = some o) → KBw.bInts r = hf ks → (hf ks).length = sz → Q (.bytes r t) { s with heap := h', toks := tk' }),
    wpAny (model rw_iw0011_01.row.prog w) (ktrTop dp un gd cn cs L a ccd cl outer) (call (.ref HF) [.bytes b tb]) Q E s
def HfAt (h : Heap) (HF : Addr) : Prop := ∃ oc od fd sl, h.get? HF = some ⟨oc, od, .func fd, sl⟩
theorem HfAt.fn {h₀ h : Heap} {L HF : Addr} {m : Str → Option Value} (x : HfAt h₀ HF) (F : Fr h₀ L h m) : FnAt HF h := let ⟨a, b, c, d, e⟩ := x; ⟨a, b, c, d, F.keep _ _ e⟩
abbrev pairO (b1 : Array UInt8) (u1 : CbTok) (b2 : Array UInt8) (u2 : CbTok) : Obj := { cls := .type "tuple", data := .seq #[.bytes b1 u1, .bytes b2 u2] }
def PairAt (tups : List (Addr × Obj)) (v : Value) (pr : List Int × List Int) : Prop := ∃ t b1 u1 b2 u2, v = .ref t ∧ (t, pairO b1 u1 b2 u2) ∈ tups ∧ KBw.bInts b1 = pr.1 ∧ KBw.bInts b2 = pr.2
def DataIs (tups : List (Addr × Obj)) (ds : List Value) (prs : List (List Int × List Int)) : Prop := ds.length = prs.length ∧ ∀ (i : Nat) v pr, ds[i]? = some v → prs[i]? = some pr → PairAt tups v pr
def pairStep (hf : List Int → List Int) (x : List Int) (pr : List Int × List Int) : List Int := hf (pr.2 ++ hf (x ++ pr.1))
abbrev rsE (K : Frag) (L : Addr) : Env := envOfC (Str.ofString "_raw_sha2_crypt") (scopeAt K 672) L 672 (.ref 671)
abbrev rsA (K : Frag) (L : Addr) (dp un : Nat) (gd : Option (List Code)) (outer : List Env) : Around := ktrTop dp un gd (Str.ofString "_raw_sha2_crypt") (scopeAt K 672) L 672 (.ref 671) (cellsFrom (L + 1) (scopeAt K 672).names []) outer
theorem zw_R6_2 : True := by
  k_with "callWith ref" => (k_here; (rename Fr _ _ _ _ => uFₘ895); (rename HfAt _ _ => uHₘ895); k_dflt (refine' callWith_F (by exact HfAt.fn uHₘ895 uFₘ895) ?_; k_whole))
  trivial
def blocksI (hf : List Int → List Int) (prs : List (List Int × List Int)) : Nat → List Int → List Int
  | 0, x => x
  | k + 1, x => prs.foldl (pairStep hf) (blocksI hf prs k x)
abbrev mE (D HF tp : Addr) (bda : Array UInt8) (tda : CbTok) (rn : Nat) (trn : CbTok) (m0 : Str → Option Value) : Str → Option Value := fun y => if y = Str.ofString "data" then some (.ref D) else if y = Str.ofString "da" then some (.bytes bda tda) else if y = Str.ofString "rounds" then some (.int (rn : Int) trn) else if y = Str.ofString "hash_const" then some (.ref HF) else if y = Str.ofString "transpose_map" then some (.ref tp) else m0 y
abbrev mW (D HF tp : Addr) (bda : Array UInt8) (tda : CbTok) (rn : Nat) (trn : CbTok) (m0 : Str → Option Value) (j : Int) (tj : Tok) (d : Array UInt8) (td : CbTok) (oo oe : Option Value) (tl : Int) (tt : Tok) : Str → Option Value := fun y => if y = Str.ofString "blocks" then some (.int j tj) else if y = Str.ofString "dc" then some (.bytes d td) else if y = Str.ofString "odd" then oo else if y = Str.ofString "even" then oe else if y = Str.ofString "tail" then some (.int tl tt) else mE D HF tp bda tda rn trn m0 y
theorem keepG {h₀ h h' : Heap} {L : Addr} {news : List (Addr × Obj)} (N : News h₀ L h news) (k : ∀ b o, b ≠ 123 → h.get? b = some o → h'.get? b = some o) : ∀ q : Addr × Obj, q ∈ news → q.1 ≠ 123 → h'.get? q.1 = some q.2 := fun q hq hne => k _ _ hne (N q hq).1
/-- a tuple of places -/
structure TupOk (w : World) (tp : Addr) (vs : List Value) (off : List Int) : Prop where
  tup : ∀ h : Heap, (KF w.params).In h → h.IsTuple tp vs.toArray
  are : IntsAre vs off
  lo : ∀ k ∈ off, 0 ≤ k ∧ k < off.length
  len : off.length = 32 ∨ off.length = 64
theorem TupOk.lt' {w : World} {tp : Addr} {vs : List Value} {off dk : List Int} (x : TupOk w tp vs off) (h : off.length = dk.length) : ∀ k ∈ off, 0 ≤ k ∧ k < dk.length := fun k hk => by rw [← h]; exact x.lo k hk
theorem encI_pos : ∀ {ks : List Int}, 0 < ks.length → 0 < (encI ks).length
  | _ :: _ :: _ :: _, _ => by rw [encI, List.length_append]; simp only [fourI, List.length_cons]; omega
  | [_, _], _ => by simp [encI]
  | [_], _ => by simp [encI]
  | [], h => by simp at h
theorem signs_lt {ks : List Int} (h : ∀ k ∈ ks, 0 ≤ k ∧ k < 256) : ∀ x ∈ (encI ks).map signI, x < 128 := by
  intro x hx
  obtain ⟨v, hv, rfl⟩ := List.mem_map.mp hx
  obtain ⟨h0, h1⟩ := encI_in h v hv
  have key : ∀ n : Nat, n < 64 → h64N.getD n 0 < 128 := by decide
  have := key v.toNat (by omega)
  unfold signI
  omega
theorem zw_R6_3 : True := by
  k_with "call ref" => (k_here; (with_reducible show wpAny _ _ (call (Value.ref 203) _) _ _ _); (try dsimp only [List.nil_append, List.cons_append]); (rename Fr _ _ _ _ => uFₘ629); (rename News _ _ _ _ => uNₘ629); (rename TupOk _ _ _ _ => uVₘ629); k_dflt (refine' c_etb _ _ _ _ _ _ _ _ _ _ _ _ _ _ _ _ _ _ _ _ _ _ _ _ _ _ _ _ _ (by k_asm) uFₘ629 (by k_asm) (by k_asm) (by first | exact rfl | assumption) (by ktr_room) (by ktr_units) (by with_reducible assumption) (by omega) (TupOk.tup uVₘ629) (TupOk.are uVₘ629) (by exact TupOk.lt' uVₘ629 (by assumption)) (TupOk.len uVₘ629) (by exact (uNₘ629 (123, tabObj #[]) (by k_mem)).1) ?_; intro h'ₘ629 tk'ₘ629 gs'ₘ629 rₘ629 tₘ629 ukₘ629 ubₘ629 ugₘ629 urₘ629; have F'ₘ629 := fr_buts uFₘ629 (wr := [123]) (fun bₘ629 oₘ629 hbₘ629 eₘ629 => ukₘ629 bₘ629 oₘ629 (fun qₘ629 => hbₘ629 (qₘ629 ▸ .head _)) eₘ629) (by assumption) (fun bₘ629 hbₘ629 => by rw [List.mem_singleton.mp hbₘ629]; exact (uNₘ629 (123, tabObj #[]) (by k_mem)).2.2); have G'ₘ629 := keepG uNₘ629 ukₘ629; clear ukₘ629 uNₘ629 uFₘ629; (try dsimp only)))
  k_with "getMethod bytes" => (k_here; (with_reducible refine KBd.method ?_))
  k_with "call builtin:bytes.decode" => (k_here; (refine decode_ascii (by with_reducible assumption) (by assumption) (by assumption) (by assumption) ?_); intro _ _)
  trivial
theorem r6 : ∀ (w : World) (p : Program) (loose : List Str) (mean : ExcName → Option Value) (mg mb : Str → Option Value) (tups : List (Addr × Obj)) (d : Array UInt8) (td : CbTok) (dk : List Int) (tp : Addr) (tvs : List Value) (off : List Int) (m0 : Str → Option Value)
  (dp un : Nat) (gd : Option (List Code)) (outer : List Env) (A₀ : Around) (base h₀ : Heap) (L : Addr) (s : Shared) (Q : Flow → Shared → Prop) (E : Value → Shared → Prop)
  (B : Below A₀ base outer h₀) (F : Fr h₀ L s.heap (fun y => if y = Str.ofString "dc" then some (.bytes d td) else if y = Str.ofString "transpose_map" then some (.ref tp) else m0 y)) (X : (KF w.params).In h₀) (T : Top p loose mean mg mb h₀)
  (N : News h₀ L s.heap ((123, tabObj #[]) :: tups)) (hdp : dp + 30 < recursionLimit) (hun : un + 100 < cLine)
  (hd : KBw.bInts d = dk) (hdl : dk.length = 32 ∨ dk.length = 64) (hT : TupOk w tp tvs off) (ho : off.length = dk.length) (hoo : off.length = 32 ∨ off.length = 64) (h123 : L ≠ 123)
  (hret : ∀ h' tk' gs' t m', Fr h₀ L h' m' → GK s.gens gs' → (∃ ps, h'.get? 123 = some (tabObj ps)) → (∀ q ∈ tups, q.1 ≠ 123 → h'.get? q.1 = some q.2) → Q (.ret (.str ⟨(((encI (pickI dk off)).map signI).map Int.toNat).toArray⟩ t)) { s with heap := h', toks := tk', gens := gs' }),
  wpAny (model rw_iw0011_01.row.prog w) (rsA (KF w.params) L dp un gd outer) (execs ((bodyAt (KF w.params) 672).drop 29) (rsE (KF w.params) L)) Q E s := by
  k_fill
  intro w p loose mean mg mb tups d td dk tp tvs off m0 dp un gd outer A₀ base h₀ L s Q E B F X T N hdp hun hd hdl hT ho hoo h123 hret
  have ne8 : L ∉ [(123 : Addr)] := fun hm => absurd (List.mem_singleton.mp hm) h123
  have hin : ∀ k ∈ dk, 0 ≤ k ∧ k < 256 := fun k hk => KBw.ints_in (by rw [hd]; exact hk)
  have z1 := signs_lt (pickI_in hin (TupOk.lt' hT ho))
  have z2 : 0 < ((encI (pickI dk off)).map signI).length := by
    rw [List.length_map]; exact encI_pos (by rw [List.length_map]; omega)
  have z3 : ((encI (pickI dk off)).map signI).length ≤ 16777216 := by
    rw [List.length_map]; have := encI_length (pickI dk off); rw [List.length_map] at this; omega
  refine wpAny_execs_cons ?_
  k_steps
  (with_reducible rename Fr _ _ _ _ => F6)
  (with_reducible rename (∀ q : Addr × Obj, _ → _ → _) => G6)
  refine hret _ _ _ _ _ F6 ?_ ?_ (fun q hq hne => G6 q (.tail _ hq) hne) <;> assumption
end
section
open LCg
abbrev mL (HF : Addr) (d : Array UInt8) (td : CbTok) (oo oe : Option Value) (m : Str → Option Value) : Str → Option Value := fun y => if y = Str.ofString "dc" then some (.bytes d td) else if y = Str.ofString "odd" then oo else if y = Str.ofString "even" then oe else if y = Str.ofString "hash_const" then some (.ref HF) else m y
theorem mL_eq {HF : Addr} {d : Array UInt8} {td : CbTok} {m : Str → Option Value} (h1 : m (Str.ofString "dc") = some (.bytes d td)) (h2 : m (Str.ofString "hash_const") = some (.ref HF)) : ∀ y, m y = mL HF d td (m (Str.ofString "odd")) (m (Str.ofString "even")) m y := by
  intro y
  rcases Decidable.em (y = Str.ofString "dc") with rfl | h3
  · rw [h1]; rfl
  rcases Decidable.em (y = Str.ofString "odd") with rfl | h4
  · rfl
  rcases Decidable.em (y = Str.ofString "even") with rfl | h5
  · rfl
  rcases Decidable.em (y = Str.ofString "hash_const") with rfl | h6
  · rw [h2]; rfl
  simp only [mL, if_neg h3, if_neg h4, if_neg h5, if_neg h6]
section
variable {prog : Program} {w : World} {A : Around} {E : Value → Shared → Prop} {s : Shared} {h₀ : Heap} {L : Addr} {m : Str → Option Value} {env : Env}
def PairP (HF : Addr) (sz : Nat) (m : Str → Option Value) (dk : List Int) (m' : Str → Option Value) : Prop := ∃ d td oo oe, KBw.bInts d = dk ∧ dk.length = sz ∧ ∀ y, m' y = mL HF d td oo oe m y
theorem for_pairs {target : Expr} {body : List Stmt} {ds : List Value} {prs : List (List Int × List Int)} {tups : List (Addr × Obj)} {D HF : Addr} {nD : Nat} {all : List (Addr × Obj)} {hf : List Int → List Int} {sz : Nat} {d : Array UInt8} {td : CbTok} {dk : List Int} {R : Flow → Shared → Prop} {RE : Value → Shared → Prop} (hh : A.handled = none)
    (F : Fr h₀ L s.heap m) (N : News h₀ L s.heap all) (hm : (D, listOf ds.toArray nD) ∈ all) (hsub : ∀ q ∈ tups, q ∈ all) (hdat : DataIs tups ds prs) (h1 : m (Str.ofString "dc") = some (.bytes d td)) (h2 : m (Str.ofString "hash_const") = some (.ref HF)) (hd : KBw.bInts d = dk) (hl : dk.length = sz)
    (turn : ∀ h tk d td dk' oo oe IT oI t b1 u1 b2 u2 pr (E' : Value → Shared → Prop), pr ∈ prs → KBw.bInts b1 = pr.1 → KBw.bInts b2 = pr.2 → KBw.bInts d = dk' → dk'.length = sz → Fr h₀ L h (mL HF d td oo oe m) → News h₀ L h ((t, pairO b1 u1 b2 u2) :: (IT, oI) :: all) →
      wpAny (model prog w) A (assign target env (.ref t)) (fun _ s₂ => wpAny (model prog w) A (execs body env) (ForEnd h₀ L s ((IT, oI) :: all) (PairP HF sz m (pairStep hf dk' pr))) E' s₂) E' { s with heap := h, toks := tk })
    (fin : ∀ h tk d' td' oo oe, Fr h₀ L h (mL HF d' td' oo oe m) → News h₀ L h all → KBw.bInts d' = prs.foldl (pairStep hf) dk → (prs.foldl (pairStep hf) dk).length = sz → R .next { s with heap := h, toks := tk }) :
    wpAny (model prog w) A (pyIter (.ref D)) (fun it s₂ => codeAny (model prog w) A (.forLoop target it body [] env) (fun r s' => match r with | .ok f => R f s' | .error e => cameBackBy (model prog w) A env RE e s') s₂) E s := by
  have hlen : ds.toArray.size = prs.length := by rw [List.size_toArray]; exact hdat.1
  refine for_list (fun i m' => PairP HF sz m ((prs.take i).foldl (pairStep hf) dk) m') hh ⟨rfl, _, rfl⟩ F N hm ⟨d, td, _, _, hd, hl, mL_eq h1 h2⟩ (fun i h tk m' IT oI v E' hv F' N' off hP => ?_) (fun h tk m' F' N' hP => ?_)
  · obtain ⟨d2, td2, oo, oe, e1, e2, e3⟩ := hP
    have hi : i < prs.length := by
      rw [← hdat.1]
      have : ds[i]? = some v := by simpa using hv
      exact (List.getElem?_eq_some_iff.mp this).1
    obtain ⟨t, b1, u1, b2, u2, rfl, hmt, p1, p2⟩ := hdat.2 i v prs[i] (by simpa using hv) (List.getElem?_eq_getElem hi)
    have e4 : (prs.take (i + 1)).foldl (pairStep hf) dk = pairStep hf ((prs.take i).foldl (pairStep hf) dk) prs[i] := by
      rw [List.take_add_one, List.getElem?_eq_getElem hi, List.foldl_append]; rfl
    rw [e4]
    exact turn h tk d2 td2 _ oo oe IT oI t b1 u1 b2 u2 prs[i] E' (List.getElem_mem hi) p1 p2 e1 e2 (fr_eq F' e3) (fun q hq => by
      rcases List.mem_cons.mp hq with rfl | hq
      · exact N' _ (.tail _ (hsub _ hmt))
      · exact N' _ hq)
  · obtain ⟨d2, td2, oo, oe, e1, e2, e3⟩ := hP
    rw [hlen, List.take_length] at e1 e2
    exact fin h tk d2 td2 oo oe (fr_eq F' e3) N' e1 e2
theorem item_data {value slice : Expr} {D : Addr} {nD : Nat} {ds : List Value} {tups all : List (Addr × Obj)} {prs : List (List Int × List Int)} {i : Nat} {u : Tok} {Q : Value → Shared → Prop} (N : News h₀ L s.heap all) (hm : (D, listOf ds.toArray nD) ∈ all) (hsub : ∀ q ∈ tups, q ∈ all) (hdat : DataIs tups ds prs) (hi : i < prs.length) (hs2 : prs.length ≤ 100)
    (h : ∀ t b1 u1 b2 u2, KBw.bInts b1 = (prs.getD i default).1 → KBw.bInts b2 = (prs.getD i default).2 → News h₀ L s.heap ((t, pairO b1 u1 b2 u2) :: all) → Q (.ref t) s)
    (hs : subscripted slice false (.ref D) (.int (i : Int) u) = operate [.ref D, .int (i : Int) u] (getItem (.ref D) (.int (i : Int) u)) := by with_unfolding_all rfl) :
    wpAny (model prog w) A (subscriptTail value slice (.ref D) (.int (i : Int) u)) Q E s := by
  have hl : s.heap.IsList D ds.toArray := ⟨_, (N _ hm).1, rfl, _, rfl⟩
  have hi2 : i < ds.length := by rw [hdat.1]; exact hi
  obtain ⟨t, b1, u1, b2, u2, e, hmt, p1, p2⟩ := hdat.2 i ds[i] prs[i] (List.getElem?_eq_getElem hi2) (List.getElem?_eq_getElem hi)
  have e9 : prs.getD i default = prs[i] := by rw [List.getD_eq_getElem?_getD, List.getElem?_eq_getElem hi]; rfl
  refine tail_any hl.typeIs slot_list_getitem.lookup (wpAny_getItem_list (x := .ref t) hl (by omega) (by omega) (by simp [hi2, e]) (h t b1 u1 b2 u2 (by rw [e9]; exact p1) (by rw [e9]; exact p2) fun q hq => ?_)) hs
  rcases List.mem_cons.mp hq with rfl | hq
  · exact N _ (hsub _ hmt)
  · exact N q hq
end
end
section
theorem zw_R8_1 : True := by
  k_with_none
  k_with "exec Assign" => (k_here; (fail_if_success (with_reducible show wpAny _ _ _ (CutQ _) _ _)); (refine cutQ fun cutQ0 cutH0 => ?_))
  k_with "exec AugAssign" => (k_here; (fail_if_success (with_reducible show wpAny _ _ _ (CutQ _) _ _)); (refine cutQ fun cutQ0 cutH0 => ?_))
  k_with "exec Expr" => (k_here; (fail_if_success (with_reducible show wpAny _ _ _ (CutQ _) _ _)); (refine cutQ fun cutQ0 cutH0 => ?_))
  k_with "CutQ" => ((with_reducible rename (∀ f s', _ → CutQ _ f s') => cutH1); (refine cutH1 _ _ ?_); clear cutH1; (try dsimp only))
  trivial
open LCg
theorem zw_R8_2 : True := by
  k_with "subscriptTail" => (k_here; (with_reducible show wpAny _ _ (subscriptTail _ _ (Value.bytes _ _) (Value.int _ _)) _ _ _); (refine itemZ (by first | (with_reducible assumption) | kba_ints) (by kba_size) (by omega) (by omega) ?_); intro _ _ kbaLoₘ778 kbaHiₘ778)
  k_with "binaryOp Add bytes bytes" => (k_here; (with_reducible show wpAny _ _ (binaryOp Operator.Add (Value.bytes _ _) (Value.bytes _ _)) _ _ _); (refine' KBa.add_K (by first | (with_reducible assumption) | exact KBw.ints_list _ | kba_ints2) (by first | (with_reducible assumption) | exact KBw.ints_list _ | kba_ints2) (by first | omega | (simp only [List.length_append, List.length_map, List.length_take, List.length_nil, List.length_cons]; omega) | kba_size) ?_); intro _ _ kbaAppₘab)
  k_with "ite" => (k_here; first | with_reducible refine ite_tt ?_ | with_reducible refine ite_ff ?_ | (refine ite_pos (by with_reducible assumption) ?_) | (refine ite_neg (by with_reducible assumption) ?_) | (refine ite_pos (by omega) ?_) | (refine ite_neg (by omega) ?_) | (with_reducible refine split_dec ?_ ?_ <;> intro _))
  k_with "ite" => (k_here; first | with_reducible refine ite_tt ?_ | with_reducible refine ite_ff ?_ | (refine ite_pos (by with_reducible assumption) ?_) | (refine ite_neg (by with_reducible assumption) ?_) | (with_reducible refine split_ieq ?_ ?_ <;> intro _) | (with_reducible refine split_dec ?_ ?_ <;> intro _))
  k_with "callWith ref" => (k_here; (rename Fr _ _ _ _ => uFₘ377); (rename HfAt _ _ => uHₘ377); k_dflt (refine' callWith_F ?_ ?_; (next => exact HfAt.fn uHₘ377 uFₘ377); k_whole))
  k_with "FnAt" => ((rename Fr _ _ _ _ => uFₘ389); (rename HfAt _ _ => uHₘ389); k_dflt (exact HfAt.fn uHₘ389 uFₘ389))
  k_with "call ref" => (k_here; (try dsimp only [List.nil_append, List.cons_append]); (with_reducible show wpAny _ _ (call (Value.ref _) [Value.bytes _ _]) _ _ _); (rename Fr _ _ _ _ => uFₘhk); (rename News _ _ _ _ => uNₘhk); (rename HOk _ _ _ _ _ => uHₘhk); k_dflt (refine' uHₘhk _ _ _ _ _ _ _ _ _ _ _ _ _ _ _ _ _ _ _ _ _ _ _ _ _ (by k_asm) uFₘhk (by k_asm) (by k_asm) (by assumption) (by first | exact rfl | assumption) (by ktr_room) (by ktr_units) (by with_reducible assumption) (by first | omega | (simp only [List.length_append]; omega)) ?_; intro h'ₘhk tk'ₘhk rₘhk tₘhk ukₘhk urₘhk ulₘhk; have F'ₘhk := Fr.keptAll uFₘhk ukₘhk; have N'ₘhk := News.grown uNₘhk ukₘhk; clear ukₘhk; (try dsimp only)))
  trivial
theorem zw_R8_3 : True := by
  k_with "exec For" => (k_here; k_dflt (refine wpAny_For ?_))
  trivial
section
variable {prog : Program} {w : World} {A : Around} {E : Value → Shared → Prop} {s : Shared} {n : Nat} {t u : Tok}
theorem shrN {Q : Value → Shared → Prop} (h : Q (.int ((n / 2 : Nat) : Int) s.toks) { s with toks := s.toks + 1 }) : wpAny (model prog w) A (binaryOp .RShift (.int (n : Int) t) (.int 1 u)) Q E s := rshift_int (by decide) (by rw [show ((2 : Int) ^ (1 : Int).toNat) = 2 from rfl, Int.fdiv_eq_ediv_of_nonneg _ (by decide)]; exact h)
theorem andN {Q : Value → Shared → Prop} (h : Q (.int ((n % 2 : Nat) : Int) s.toks) { s with toks := s.toks + 1 }) : wpAny (model prog w) A (binaryOp .BitAnd (.int (n : Int) t) (.int 1 u)) Q E s := and_int (by rw [bitAnd_m1]; exact h)
end
theorem zw_R8_4 : True := by
  k_with "binaryOp RShift int int" => (k_here; with_reducible refine shrN ?_)
  k_with "binaryOp BitAnd int int" => (k_here; with_reducible refine andN ?_)
  k_with "subscriptTail Name Slice ref ref" => (k_here; (with_reducible show wpAny _ _ (subscriptTail _ (PySem.Expr.Slice _ _ none _) (Value.ref _) (Value.ref _)) _ _ _); (rename Fr _ _ _ _ => uFₘ90); (rename News _ _ _ _ => uNₘ90); k_dflt (refine' kmk_slice uFₘ90 uNₘ90 (by exact News.isList uNₘ90 (.head _)) (by kmk_part) (by kmk_part) ?_ (by with_unfolding_all rfl) (by kmk_pure) (by assumption)); clear uFₘ90 uNₘ90; intro D'ₘ90 h'ₘ90 F'ₘ90 N'ₘ90 l1ₘ90)
  k_with "execs cons" => (k_here; (with_reducible show wpAny _ _ (execs [Stmt.Return _ _] _) _ _ _); (refine Hold.out ?_))
  k_with "subscriptTail" => (k_here; (with_reducible show wpAny _ _ (subscriptTail _ _ (Value.ref _) (Value.int (Nat.cast _) _)) _ _ _); (rename News _ _ _ _ => uNₘ875); (rename DataIs _ _ _ => uDₘ875); k_dflt (refine' item_data uNₘ875 (by k_mem) (by (intro qₘ875 hqₘ875; first | exact .tail _ (.tail _ (.tail _ hqₘ875)) | exact .tail _ (.tail _ hqₘ875))) uDₘ875 (by assumption) (by omega) ?_); clear uNₘ875; intro t'ₘ875 b1'ₘ875 u1'ₘ875 b2'ₘ875 u2'ₘ875 hb1'ₘ875 hb2'ₘ875 N'ₘ875)
  trivial
theorem pair_end {HF : Addr} {d d' : Array UInt8} {td td' : CbTok} {oo oe v1 v2 : Option Value} {m : Str → Option Value} : ∀ y, (if y = Str.ofString "dc" then some (Value.bytes d' td') else if y = Str.ofString "odd" then v2 else if y = Str.ofString "even" then v1 else mL HF d td oo oe m y) = mL HF d' td' v2 v1 m y := by
  intro y
  by_cases h1 : y = Str.ofString "dc"
  · simp only [mL, if_pos h1]
  by_cases h2 : y = Str.ofString "odd"
  · simp only [mL, if_neg h1, if_pos h2]
  by_cases h3 : y = Str.ofString "even"
  · simp only [mL, if_neg h1, if_neg h2, if_pos h3]
  simp only [mL, if_neg h1, if_neg h2, if_neg h3]
theorem turn_end {h₀ : Heap} {L : Addr} {s : Shared} {x : Addr × Obj} {all : List (Addr × Obj)} {HF : Addr} {sz : Nat} {m : Str → Option Value} {hf : List Int → List Int} {dk : List Int} {pr : List Int × List Int} {d d' : Array UInt8} {td td' : CbTok} {oo oe v1 v2 : Option Value} {h' : Heap} {tk : Nat}
    (F : Fr h₀ L h' (fun y => if y = Str.ofString "dc" then some (Value.bytes d' td') else if y = Str.ofString "odd" then v2 else if y = Str.ofString "even" then v1 else mL HF d td oo oe m y)) (N : News h₀ L h' (x :: all)) (e : KBw.bInts d' = hf (pr.2 ++ hf (dk ++ pr.1))) (l : (hf (pr.2 ++ hf (dk ++ pr.1))).length = sz) :
    ForEnd h₀ L s all (PairP HF sz m (pairStep hf dk pr)) .next { s with heap := h', toks := tk } :=
  ⟨rfl, h', tk, _, rfl, F, drop1 N, d', td', v2, v1, e, l, pair_end⟩
def tailI (hf : List Int → List Int) (prs : List (List Int × List Int)) (t : Nat) (x : List Int) : List Int :=
  if t = 0 then x else if t % 2 = 1 then hf ((prs.take (t / 2)).foldl (pairStep hf) x ++ (prs.getD (t / 2) default).1) else (prs.take (t / 2)).foldl (pairStep hf) x
theorem DataIs.take {tups : List (Addr × Obj)} {ds : List Value} {prs : List (List Int × List Int)} (x : DataIs tups ds prs) (k : Nat) : DataIs tups (ds.take k) (prs.take k) := by
  refine ⟨by rw [List.length_take, List.length_take, x.1], fun i v pr h1 h2 => ?_⟩
  rw [List.getElem?_take] at h1 h2
  split at h1
  · rename_i hi
    rw [if_pos hi] at h2
    exact x.2 i v pr h1 h2
  · cases h1
theorem r28 : ∀ (w : World) (p : Program) (loose : List Str) (mean : ExcName → Option Value) (mg mb : Str → Option Value) (hb : Heap) (HF : Addr) (hf : List Int → List Int) (sz : Nat) (D : Addr) (nD : Nat) (ds : List Value) (tups : List (Addr × Obj)) (prs : List (List Int × List Int)) (d : Array UInt8) (td : CbTok) (dk : List Int) (t : Nat) (tt : Tok) (tp : Addr) (tvs : List Value) (off : List Int) (m0 : Str → Option Value)
  (dp un : Nat) (gd : Option (List Code)) (outer : List Env) (A₀ : Around) (base h₀ : Heap) (L : Addr) (s : Shared) (Q : Flow → Shared → Prop) (E : Value → Shared → Prop)
  (B : Below A₀ base outer h₀) (F : Fr h₀ L s.heap (fun y => if y = Str.ofString "dc" then some (.bytes d td) else if y = Str.ofString "tail" then some (.int (t : Int) tt) else if y = Str.ofString "data" then some (.ref D) else if y = Str.ofString "hash_const" then some (.ref HF) else if y = Str.ofString "transpose_map" then some (.ref tp) else m0 y)) (X : (KF w.params).In h₀) (T : Top p loose mean mg mb h₀)
  (N : News h₀ L s.heap ((D, listOf ds.toArray nD) :: (123, tabObj #[]) :: tups)) (hdp : dp + 30 < recursionLimit) (hun : un + 100 < cLine)
  (hH : HOk w hb HF hf sz) (hkb : ∀ b o, hb.get? b = some o → h₀.get? b = some o) (hHf : HfAt h₀ HF) (hdat : DataIs tups ds prs) (hpl : ∀ pr ∈ prs, pr.1.length ≤ 300 ∧ pr.2.length ≤ 300) (hp21 : prs.length = 21) (htl : t < 42) (hd : KBw.bInts d = dk) (hdl : dk.length = sz) (hsz : sz = 32 ∨ sz = 64)
  (hT : TupOk w tp tvs off) (ho : off.length = sz) (h123 : L ≠ 123)
  (hret : ∀ h' tk' gs' t' m', Fr h₀ L h' m' → GK s.gens gs' → (∃ ps, h'.get? 123 = some (tabObj ps)) → (∀ q ∈ tups, q.1 ≠ 123 → h'.get? q.1 = some q.2) → Q (.ret (.str ⟨(((encI (pickI (tailI hf prs t dk) off)).map signI).map Int.toNat).toArray⟩ t')) { s with heap := h', toks := tk', gens := gs' }),
  wpAny (model rw_iw0011_01.row.prog w) (rsA (KF w.params) L dp un gd outer) (execs ((bodyAt (KF w.params) 672).drop 28) (rsE (KF w.params) L)) Q E s := by
  k_fill
  intro w p loose mean mg mb hb HF hf sz D nD ds tups prs d td dk t tt tp tvs off m0 dp un gd outer A₀ base h₀ L s Q E B F X T N hdp hun hH hkb hHf hdat hpl hp21 htl hd hdl hsz hT ho h123 hret
  have hz8 : ds.toArray.size ≤ sizeLine := by rw [List.size_toArray, hdat.1, hp21, sizeLine_eq]; decide
  have last : ∀ (s' : Shared) (d' : Array UInt8) (td' : CbTok) (m' : Str → Option Value), Like s s' → Fr h₀ L s'.heap m' → m' (Str.ofString "dc") = some (.bytes d' td') → m' (Str.ofString "transpose_map") = some (.ref tp) → News h₀ L s'.heap ((123, tabObj #[]) :: tups) → KBw.bInts d' = tailI hf prs t dk → (tailI hf prs t dk).length = sz →
      wpAny (model rw_iw0011_01.row.prog w) (rsA (KF w.params) L dp un gd outer) (execs ((bodyAt (KF w.params) 672).drop 29) (rsE (KF w.params) L)) Q E s' := by
    intro s' d' td' m' hlk F' h1 h2 N' h3 h4
    refine r6 w p loose mean mg mb tups d' td' _ tp tvs off m' dp un gd outer A₀ base h₀ L s' Q E B (fr_eq F' fun y => ?_) X T N' hdp hun h3 (by omega) hT (by omega) (by omega) h123 (fun h' tk' gs' t' m'' F'' hg hps hkp => ?_)
    · rcases Decidable.em (y = Str.ofString "dc") with rfl | h5
      · rw [h1]; rfl
      rcases Decidable.em (y = Str.ofString "transpose_map") with rfl | h6
      · rw [h2]; rfl
      simp only [if_neg h5, if_neg h6]
    · rw [hlk.1, hlk.2.1]
      exact hret h' tk' gs' t' m'' F'' (hlk.2.2.trans hg) hps hkp
  refine wpAny_execs_cons ?_
  rcases Nat.eq_zero_or_pos t with rfl | ht
  · have e0 : tailI hf prs 0 dk = dk := by rw [tailI, if_pos rfl]
    k_steps
    (with_reducible rename Fr _ _ _ _ => F6)
    (with_reducible rename News _ _ _ _ => N6)
    exact last _ _ _ _ (Like.refl s).heap F6 rfl rfl (drop1 N6) (by rw [e0]; exact hd) (by rw [e0]; exact hdl)
  · have hpick : (slicePick ds.toArray none (some ((t / 2 : Nat) : Int)) none) = (ds.take (t / 2)).toArray := slicePick_upto' _ _
    have ht2 : t / 2 < prs.length := by omega
    k_steps
    · (with_reducible rename Fr _ _ _ _ => F6)
      (with_reducible rename News _ _ _ _ => N6)
      rw [hpick] at N6
      refine Hold.out (P := wpAny _ _ _ _ _ _) ?_
      show wpAny _ _ _ _ _ _
      refine for_pairs (hf := hf) (sz := sz) rfl F6 N6 (.head _) (fun q hq => .tail _ (.tail _ (.tail _ hq))) (hdat.take (t / 2)) rfl rfl hd hdl ?turn ?fin
      case turn =>
        intro h tk d2 td2 dk2 oo oe IT oI tq b1 u1 b2 u2 pr E' hpr hb1 hb2 hd2 hl2 F1 N1
        obtain ⟨hp1, hp2⟩ := hpl pr (List.mem_of_mem_take hpr)
        clear F6 N6
        k_steps
        (with_reducible rename Fr _ _ _ _ => F7)
        (with_reducible rename News _ _ _ _ => N7)
        refine turn_end F7 N7 ?_ ?_ <;> assumption
      case fin =>
        intro h tk d2 td2 oo oe F1 N1 hd2 hl2
        clear F6 N6
        have hget : (prs.getD (t / 2) default).1.length ≤ 300 := by
          rw [List.getD_eq_getElem?_getD, List.getElem?_eq_getElem ht2]
          exact (hpl _ (List.getElem_mem ht2)).1
        k_steps
        · (with_reducible rename Fr _ _ _ _ => F7)
          (with_reducible rename News _ _ _ _ => N7)
          have e0 : tailI hf prs t dk = hf ((prs.take (t / 2)).foldl (pairStep hf) dk ++ (prs.getD (t / 2) default).1) := by rw [tailI, if_neg (by omega), if_pos (by omega)]
          refine last _ _ _ _ (Like.refl s).heap F7 rfl rfl (fun q hq => N7 q (.tail _ (.tail _ (.tail _ hq)))) ?_ ?_ <;> rw [e0] <;> assumption
        · (with_reducible rename Fr _ _ _ _ => F7)
          (with_reducible rename News _ _ _ _ => N7)
          have e0 : tailI hf prs t dk = (prs.take (t / 2)).foldl (pairStep hf) dk := by rw [tailI, if_neg (by omega), if_neg (by omega)]
          refine last _ _ _ _ (Like.refl s).heap F7 rfl rfl (fun q hq => N7 q (.tail _ (.tail _ hq))) ?_ ?_ <;> rw [e0] <;> assumption
    all_goals (exfalso; omega)
end
section
theorem zw_R5_1 : True := by
  k_with_none
  k_with "exec Assign" => (k_here; (fail_if_success (with_reducible show wpAny _ _ _ (CutQ _) _ _)); (refine cutQ fun cutQ0 cutH0 => ?_))
  k_with "exec AugAssign" => (k_here; (fail_if_success (with_reducible show wpAny _ _ _ (CutQ _) _ _)); (refine cutQ fun cutQ0 cutH0 => ?_))
  k_with "exec Expr" => (k_here; (fail_if_success (with_reducible show wpAny _ _ _ (CutQ _) _ _)); (refine cutQ fun cutQ0 cutH0 => ?_))
  k_with "CutQ" => ((with_reducible rename (∀ f s', _ → CutQ _ f s') => cutH1); (refine cutH1 _ _ ?_); clear cutH1; (try dsimp only))
  trivial
open LCg
theorem zw_R5_2 : True := by
  k_with "binaryOp Add bytes bytes" => (k_here; (with_reducible show wpAny _ _ (binaryOp Operator.Add (Value.bytes _ _) (Value.bytes _ _)) _ _ _); (refine' KBa.add_K (by first | (with_reducible assumption) | exact KBw.ints_list _ | kba_ints2) (by first | (with_reducible assumption) | exact KBw.ints_list _ | kba_ints2) (by first | omega | (simp only [List.length_append, List.length_map, List.length_take, List.length_nil, List.length_cons]; omega) | kba_size) ?_); intro _ _ kbaAppₘab)
  k_with "ite" => (k_here; first | with_reducible refine ite_tt ?_ | with_reducible refine ite_ff ?_ | (refine ite_pos (by with_reducible assumption) ?_) | (refine ite_neg (by with_reducible assumption) ?_) | (refine ite_pos (by omega) ?_) | (refine ite_neg (by omega) ?_) | (with_reducible refine split_dec ?_ ?_ <;> intro _))
  k_with "ite" => (k_here; first | with_reducible refine ite_tt ?_ | with_reducible refine ite_ff ?_ | (refine ite_pos (by with_reducible assumption) ?_) | (refine ite_neg (by with_reducible assumption) ?_) | (with_reducible refine split_ieq ?_ ?_ <;> intro _) | (with_reducible refine split_dec ?_ ?_ <;> intro _))
  k_with "callWith ref" => (k_here; (rename Fr _ _ _ _ => uFₘ377); (rename HfAt _ _ => uHₘ377); k_dflt (refine' callWith_F ?_ ?_; (next => exact HfAt.fn uHₘ377 uFₘ377); k_whole))
  k_with "FnAt" => ((rename Fr _ _ _ _ => uFₘ389); (rename HfAt _ _ => uHₘ389); k_dflt (exact HfAt.fn uHₘ389 uFₘ389))
  k_with "call ref" => (k_here; (try dsimp only [List.nil_append, List.cons_append]); (with_reducible show wpAny _ _ (call (Value.ref _) [Value.bytes _ _]) _ _ _); (rename Fr _ _ _ _ => uFₘhk); (rename News _ _ _ _ => uNₘhk); (rename HOk _ _ _ _ _ => uHₘhk); k_dflt (refine' uHₘhk _ _ _ _ _ _ _ _ _ _ _ _ _ _ _ _ _ _ _ _ _ _ _ _ _ (by k_asm) uFₘhk (by k_asm) (by k_asm) (by assumption) (by first | exact rfl | assumption) (by ktr_room) (by ktr_units) (by with_reducible assumption) (by first | omega | (simp only [List.length_append]; omega)) ?_; intro h'ₘhk tk'ₘhk rₘhk tₘhk ukₘhk urₘhk ulₘhk; have F'ₘhk := Fr.keptAll uFₘhk ukₘhk; have N'ₘhk := News.grown uNₘhk ukₘhk; clear ukₘhk; (try dsimp only)))
  trivial
theorem zw_R5_3 : True := by
  k_with "exec For" => (k_here; k_dflt (refine wpAny_For ?_))
  k_with "exec While" => (k_here; k_dflt (refine wpAny_While ?_); (refine Hold.out ?_))
  trivial
def roundsI (hf : List Int → List Int) (prs : List (List Int × List Int)) (rn : Nat) (da : List Int) : List Int := tailI hf prs (rn % 42) (blocksI hf prs (rn / 42) da)
def WEnd (I : Nat → Shared → Prop) (n : Nat) (f : Flow) (s₃ : Shared) : Prop := f = .next ∧ ∃ m, m < n ∧ I m s₃
theorem while_I {prog : Program} {w : World} {A : Around} {s : Shared} {R : Result → Shared → Prop} {test : Expr} {body orelse : List Stmt} {env : Env} (I : Nat → Shared → Prop)
    (turn : ∀ n s (E' : Value → Shared → Prop), I n s → wpAny (model prog w) A (isTrue test env (eval test env)) (fun b s₂ => if b = true then wpAny (model prog w) A (execs body env) (WEnd I n) E' s₂ else wpAny (model prog w) A (execs orelse env) (fun f s₃ => R (.ok f) s₃) E' s₂) E' s)
    (n : Nat) (h : I n s) : codeAny (model prog w) A (.whileLoop test body orelse env) R s := by
  refine codeAny_whileLoop I (fun n s hI => wpAny_mono (turn n s _ hI) (fun b s₂ h₂ => ?_) fun _ _ e => e) n h
  cases b with
  | true =>
    simp only [if_true] at h₂ ⊢
    refine wpAny_mono h₂ (fun f s₃ h₃ => ?_) fun _ _ e => e
    obtain ⟨rfl, h⟩ := h₃
    exact h
  | false => exact h₂
theorem zw_R5_4 : True := by
  k_with "execs cons" => (k_here; (with_reducible show wpAny _ _ (execs [Stmt.If _ _ _ _, Stmt.Return _ _] _) _ _ _); (refine Hold.out ?_))
  trivial
theorem r25 : ∀ (w : World) (p : Program) (loose : List Str) (mean : ExcName → Option Value) (mg mb : Str → Option Value) (hb : Heap) (HF : Addr) (hf : List Int → List Int) (sz : Nat) (D : Addr) (nD : Nat) (ds : List Value) (tups : List (Addr × Obj)) (prs : List (List Int × List Int)) (bda : Array UInt8) (tda : CbTok) (da : List Int) (rn : Nat) (trn : CbTok) (tp : Addr) (tvs : List Value) (off : List Int) (m0 : Str → Option Value)
  (dp un : Nat) (gd : Option (List Code)) (outer : List Env) (A₀ : Around) (base h₀ : Heap) (L : Addr) (s : Shared) (Q : Flow → Shared → Prop) (E : Value → Shared → Prop)
  (B : Below A₀ base outer h₀) (F : Fr h₀ L s.heap (fun y => if y = Str.ofString "data" then some (.ref D) else if y = Str.ofString "da" then some (.bytes bda tda) else if y = Str.ofString "rounds" then some (.int (rn : Int) trn) else if y = Str.ofString "hash_const" then some (.ref HF) else if y = Str.ofString "transpose_map" then some (.ref tp) else m0 y)) (X : (KF w.params).In h₀) (T : Top p loose mean mg mb h₀)
  (N : News h₀ L s.heap ((D, listOf ds.toArray nD) :: (123, tabObj #[]) :: tups)) (hdp : dp + 30 < recursionLimit) (hun : un + 100 < cLine)
  (hH : HOk w hb HF hf sz) (hkb : ∀ b o, hb.get? b = some o → h₀.get? b = some o) (hHf : HfAt h₀ HF) (hdat : DataIs tups ds prs) (hpl : ∀ pr ∈ prs, pr.1.length ≤ 300 ∧ pr.2.length ≤ 300) (hp21 : prs.length = 21) (hrn : rn ≤ 99) (hda : KBw.bInts bda = da) (hdl : da.length = sz) (hsz : sz = 32 ∨ sz = 64)
  (hT : TupOk w tp tvs off) (ho : off.length = sz) (h123 : L ≠ 123)
  (hret : ∀ h' tk' gs' t' m', Fr h₀ L h' m' → GK s.gens gs' → (∃ ps, h'.get? 123 = some (tabObj ps)) → (∀ q ∈ tups, q.1 ≠ 123 → h'.get? q.1 = some q.2) → Q (.ret (.str ⟨(((encI (pickI (roundsI hf prs rn da) off)).map signI).map Int.toNat).toArray⟩ t')) { s with heap := h', toks := tk', gens := gs' }),
  wpAny (model rw_iw0011_01.row.prog w) (rsA (KF w.params) L dp un gd outer) (execs ((bodyAt (KF w.params) 672).drop 25) (rsE (KF w.params) L)) Q E s := by
  k_fill
  intro w p loose mean mg mb hb HF hf sz D nD ds tups prs bda tda da rn trn tp tvs off m0 dp un gd outer A₀ base h₀ L s Q E B F X T N hdp hun hH hkb hHf hdat hpl hp21 hrn hda hdl hsz hT ho h123 hret
  generalize hbd : (bodyAt (KF w.params) 672).drop 25 = bd
  have hbd' : bd = bd := rfl
  subst hbd
  refine wpAny_execs_cons ?_
  k_steps
  show codeAny _ _ _ _ _
  have ediv : ((rn : Int).fdiv 42) = ((rn / 42 : Nat) : Int) := by rw [Int.fdiv_eq_ediv_of_nonneg _ (by decide)]; rfl
  have emod : ((rn : Int).fmod 42) = ((rn % 42 : Nat) : Int) := by rw [Int.fmod_eq_emod_of_nonneg _ (by decide)]; rfl
  refine while_I (fun j s' => ∃ h tk d td tj oo oe tt, s' = { s with heap := h, toks := tk } ∧ j ≤ rn / 42 ∧ KBw.bInts d = blocksI hf prs (rn / 42 - j) da ∧ (blocksI hf prs (rn / 42 - j) da).length = sz ∧
    Fr h₀ L h (mW D HF tp bda tda rn trn m0 (j : Int) tj d td oo oe ((rn % 42 : Nat) : Int) tt) ∧ News h₀ L h ((D, listOf ds.toArray nD) :: (123, tabObj #[]) :: tups)) ?turn (rn / 42) ?start
  case start =>
    (with_reducible rename Fr _ _ _ _ => F6)
    (with_reducible rename News _ _ _ _ => N6)
    refine' ⟨_, _, bda, tda, _, m0 (Str.ofString "odd"), m0 (Str.ofString "even"), _, rfl, Nat.le_refl _, by rw [Nat.sub_self]; exact hda, by rw [Nat.sub_self]; exact hdl, ?_, fun q hq => N6 q (.tail _ hq)⟩
    rotate_right
    · rw [ediv, emod] at F6
      refine fr_eq F6 ?_
      intro y
      rcases Decidable.em (y = Str.ofString "blocks") with rfl | h0
      · rfl
      rcases Decidable.em (y = Str.ofString "dc") with rfl | h1
      · rfl
      rcases Decidable.em (y = Str.ofString "odd") with rfl | h2
      · rfl
      rcases Decidable.em (y = Str.ofString "even") with rfl | h3
      · rfl
      rcases Decidable.em (y = Str.ofString "tail") with rfl | h4
      · rfl
      simp only [if_neg h0, if_neg h1, if_neg h2, if_neg h3, if_neg h4]
  case turn =>
    try clear F
    try clear N
    intro j s' E9 hI
    obtain ⟨h, tk, d, td, tj, oo, oe, tt, rfl, hj, hd, hdl2, F1, N1⟩ := hI
    cases j with
    | zero =>
      rw [Nat.sub_zero] at hd hdl2
      k_steps
      (with_reducible rename Fr _ _ _ _ => F7)
      (with_reducible rename News _ _ _ _ => N7)
      refine r28 w p loose mean mg mb hb HF hf sz D nD ds tups prs d td _ (rn % 42) tt tp tvs off (mW D HF tp bda tda rn trn m0 ((0 : Nat) : Int) tj d td oo oe ((rn % 42 : Nat) : Int) tt) dp un gd outer A₀ base h₀ L _ Q E B (fr_eq F7 fun y => ?_) X T N7 hdp hun hH hkb hHf hdat hpl hp21 (Nat.mod_lt _ (by decide)) hd hdl2 hsz hT ho h123 (fun h' tk' gs' t' m' F' hg hps hkp => ?_)
      rotate_left
      · exact hret h' tk' gs' t' m' F' hg hps hkp
      · rcases Decidable.em (y = Str.ofString "dc") with rfl | h0
        · rfl
        rcases Decidable.em (y = Str.ofString "tail") with rfl | h1
        · rfl
        rcases Decidable.em (y = Str.ofString "data") with rfl | h2
        · rfl
        rcases Decidable.em (y = Str.ofString "hash_const") with rfl | h3
        · rfl
        rcases Decidable.em (y = Str.ofString "transpose_map") with rfl | h4
        · rfl
        simp only [if_neg h0, if_neg h1, if_neg h2, if_neg h3, if_neg h4]
    | succ j =>
      k_steps
      · (with_reducible rename Fr _ _ _ _ => F6)
        (with_reducible rename News _ _ _ _ => N6)
        refine Hold.out (P := wpAny _ _ _ _ _ _) ?_
        show wpAny _ _ _ _ _ _
        refine for_pairs (hf := hf) (sz := sz) rfl F6 N6 (.head _) (fun q hq => .tail _ (.tail _ hq)) hdat rfl rfl hd hdl2 ?turn ?fin
        case turn =>
          intro h tk d2 td2 dk2 oo oe IT oI tq b1 u1 b2 u2 pr E' hpr hb1 hb2 hd2 hl2 F1 N1
          obtain ⟨hp1, hp2⟩ := hpl pr hpr
          clear F6 N6
          k_steps
          (with_reducible rename Fr _ _ _ _ => F7)
          (with_reducible rename News _ _ _ _ => N7)
          refine turn_end F7 N7 ?_ ?_ <;> assumption
        case fin =>
          intro h tk d2 td2 oo oe F1 N1 hd2 hl2
          clear F6 N6
          k_steps
          (with_reducible rename Fr _ _ _ _ => F7)
          (with_reducible rename News _ _ _ _ => N7)
          have e1 : rn / 42 - j = (rn / 42 - (j + 1)) + 1 := by omega
          have e2 : (((j + 1 : Nat) : Int) - 1) = (j : Int) := by omega
          rw [e2] at F7
          refine' ⟨rfl, j, Nat.lt_succ_self _, _, _, d2, td2, _, oo, oe, tt, rfl, by omega, by rw [e1]; exact hd2, by rw [e1]; exact hl2, fr_eq F7 ?hq, N7⟩
          rotate_right
          intro y
          rcases Decidable.em (y = Str.ofString "blocks") with rfl | h0
          · rfl
          rcases Decidable.em (y = Str.ofString "dc") with rfl | h1
          · rfl
          rcases Decidable.em (y = Str.ofString "odd") with rfl | h2
          · rfl
          rcases Decidable.em (y = Str.ofString "even") with rfl | h3
          · rfl
          rcases Decidable.em (y = Str.ofString "hash_const") with rfl | h4
          · rfl
          simp only [mL, mW, if_neg h0, if_neg h1, if_neg h2, if_neg h3, if_neg h4]
      all_goals (exfalso; omega)
end
section
theorem zw_R4_1 : True := by
  k_with_none
  k_with "exec Assign" => (k_here; (fail_if_success (with_reducible show wpAny _ _ _ (CutQ _) _ _)); (refine cutQ fun cutQ0 cutH0 => ?_))
  k_with "exec AugAssign" => (k_here; (fail_if_success (with_reducible show wpAny _ _ _ (CutQ _) _ _)); (refine cutQ fun cutQ0 cutH0 => ?_))
  k_with "exec Expr" => (k_here; (fail_if_success (with_reducible show wpAny _ _ _ (CutQ _) _ _)); (refine cutQ fun cutQ0 cutH0 => ?_))
  k_with "CutQ" => ((with_reducible rename (∀ f s', _ → CutQ _ f s') => cutH1); (refine cutH1 _ _ ?_); clear cutH1; (try dsimp only))
  trivial
open LCg
theorem zw_R4_2 : True := by
  k_with "binaryOp Add bytes bytes" => (k_here; (with_reducible show wpAny _ _ (binaryOp Operator.Add (Value.bytes _ _) (Value.bytes _ _)) _ _ _); (refine' KBa.add_K (by first | (with_reducible assumption) | exact KBw.ints_list _ | kba_ints2) (by first | (with_reducible assumption) | exact KBw.ints_list _ | kba_ints2) (by first | omega | (simp only [List.length_append, List.length_map, List.length_take, List.length_nil, List.length_cons]; omega) | kba_size) ?_); intro _ _ kbaAppₘab)
  trivial
/-- a list of octet rows -/
def BL (ds : List Value) (ls : List (List Int)) : Prop := ds.length = ls.length ∧ ∀ (i : Nat) v l, ds[i]? = some v → ls[i]? = some l → ∃ b u, v = .bytes b u ∧ KBw.bInts b = l
theorem BL.nil : BL [] [] := ⟨rfl, fun i v l h => by simp at h⟩
theorem BL.cons {b : Array UInt8} {u : CbTok} {l : List Int} {ds : List Value} {ls : List (List Int)} (h : KBw.bInts b = l) (x : BL ds ls) : BL (.bytes b u :: ds) (l :: ls) := by
  refine ⟨by rw [List.length_cons, List.length_cons, x.1], fun i v l' h1 h2 => ?_⟩
  cases i with
  | zero => cases h1; cases h2; exact ⟨b, u, rfl, h⟩
  | succ i => exact x.2 i v l' h1 h2
section
variable {prog : Program} {w : World} {A : Around} {E : Value → Shared → Prop} {s : Shared} {h₀ : Heap} {L : Addr}
theorem item_bl {value slice : Expr} {P : Addr} {n : Nat} {ds : List Value} {ls : List (List Int)} {news : List (Addr × Obj)} {k : Int} {u : Tok} {Q : Value → Shared → Prop} (N : News h₀ L s.heap news) (hm : (P, listOf ds.toArray n) ∈ news) (x : BL ds ls) (h0 : 0 ≤ k) (h1 : k < ls.length) (h2 : ls.length ≤ 100)
    (h : ∀ b u', KBw.bInts b = ls.getD k.toNat [] → Q (.bytes b u') s)
    (hs : subscripted slice false (.ref P) (.int k u) = operate [.ref P, .int k u] (getItem (.ref P) (.int k u)) := by with_unfolding_all rfl) :
    wpAny (model prog w) A (subscriptTail value slice (.ref P) (.int k u)) Q E s := by
  have hl : s.heap.IsList P ds.toArray := ⟨_, (N _ hm).1, rfl, _, rfl⟩
  have hi : k.toNat < ls.length := by omega
  have hi2 : k.toNat < ds.length := by rw [x.1]; exact hi
  obtain ⟨b, u', e, e2⟩ := x.2 k.toNat ds[k.toNat] ls[k.toNat] (List.getElem?_eq_getElem hi2) (List.getElem?_eq_getElem hi)
  have e9 : ls.getD k.toNat [] = ls[k.toNat] := by rw [List.getD_eq_getElem?_getD, List.getElem?_eq_getElem hi]; rfl
  exact tail_any hl.typeIs slot_list_getitem.lookup (wpAny_getItem_list (x := .bytes b u') hl h0 (by omega) (by simp [hi2, e]) (h b u' (by rw [e9]; exact e2))) hs
end
theorem zw_R4_3 : True := by
  k_with "subscriptTail" => (k_here; (with_reducible show wpAny _ _ (subscriptTail _ _ (Value.ref _) (Value.int _ _)) _ _ _); (rename News _ _ _ _ => uNₘ306); (rename BL _ _ => uDₘ306); k_dflt (refine' item_bl uNₘ306 (by k_mem) uDₘ306 (by assumption) (by assumption) (by assumption) ?_); intro b1'ₘ306 u1'ₘ306 hb1'ₘ306)
  trivial
theorem newPair {prog : Program} {w : World} {A : Around} {E : Value → Shared → Prop} {s : Shared} {b1 b2 : Array UInt8} {u1 u2 : CbTok} {Q : Value → Shared → Prop} (h : Q (.ref s.heap.objs.size) { s with heap := s.heap.push (pairO b1 u1 b2 u2) }) : wpAny (model prog w) A (newTuple [.bytes b1 u1, .bytes b2 u2]) Q E s := by
  simp only [newTuple]
  exact wpAny_newObj_type h (by size_fits)
theorem pairs_end {s : Shared} {b1 b2 : Array UInt8} {u1 u2 : CbTok} {x : List Int × List Int} {tk : Nat} (h1 : KBw.bInts b1 = x.1) (h2 : KBw.bInts b2 = x.2) : CompEndN s (fun y o => ∃ b1 u1 b2 u2, o = pairO b1 u1 b2 u2 ∧ KBw.bInts b1 = x.1 ∧ KBw.bInts b2 = x.2) (.ref s.heap.objs.size) { s with heap := s.heap.push (pairO b1 u1 b2 u2), toks := tk } :=
  ⟨_, _, _, _, rfl, ⟨b1, u1, b2, u2, rfl, h1, h2⟩, rfl, Heap.get?_push_size _ rfl, Nat.le_refl _, fun b o e => Heap.get?_push_of_some _ e⟩
theorem zw_R4_4 : True := by
  k_with "newTuple" => (k_here; (with_reducible show wpAny _ _ (newTuple [Value.bytes _ _, Value.bytes _ _]) _ _ _); (refine newPair ?_))
  k_with "CompEndN" => (refine pairs_end (by assumption) (by assumption))
  k_with "exec Assign cons ListComp" => (k_here; (rename Fr _ _ _ _ => uFₘ786); k_dflt (refine comp_PA (F₀ := uFₘ786) (by rfl) (by with_unfolding_all rfl) (by with_unfolding_all rfl) (by decide) (by rfl) (by decide) (by rfl) (by rfl) (by decide) (by rfl) (by rfl) ?_))
  k_with "execs cons" => (k_here; (with_reducible show wpAny _ _ (execs [Stmt.Assign _ _ _, Stmt.Assign _ _ _, Stmt.While _ _ _ _, Stmt.If _ _ _ _, Stmt.Return _ _] _) _ _ _); (refine Hold.out ?_))
  trivial
theorem bl_of {h₀ h : Heap} {L l : Addr} {n : Nat} {ds : List Value} {ls : List (List Int)} {rest : List (Addr × Obj)} (_ : News h₀ L h ((l, listOf ds.toArray n) :: rest)) (x : BL ds ls) : BL ds ls := x
def permsI (dp ds : List Int) : List (List Int) := [dp, dp ++ dp, dp ++ ds, dp ++ ds ++ dp, ds ++ dp, ds ++ (dp ++ dp)]
def pairAt (K : Frag) (t : Addr) : Option (Int × Int) := match K.lookup t with
  | some ⟨.type "tuple", _, .seq xs _, _⟩ => (match xs.toList with | [.int a _, .int b _] => some (a, b) | _ => none)
  | _ => none
def refsAt (K : Frag) (t : Addr) : List Addr := match K.lookup t with
  | some ⟨.type "tuple", _, .seq xs _, _⟩ => xs.toList.filterMap fun v => match v with | .ref a => some a | _ => none
  | _ => []
def offsOf (K : Frag) : List (Int × Int) := (refsAt K 664).map fun t => (pairAt K t).getD (0, 0)
def prsI (K : Frag) (dp ds : List Int) : List (List Int × List Int) := (offsOf K).map fun x => ((permsI dp ds).getD x.1.toNat [], (permsI dp ds).getD x.2.toNat [])
theorem pairAt_is {K : Frag} {h : Heap} {t : Addr} {a b : Int} (X : K.In h) (e : pairAt K t = some (a, b)) : ∃ ta tb, h.IsTuple t #[.int a ta, .int b tb] := by
  unfold pairAt at e
  split at e
  · rename_i xs n sl hk
    split at e
    · rename_i a' ta b' tb hx
      cases e
      refine ⟨ta, tb, _, X _ _ hk, rfl, n, ?_⟩
      rw [← hx, Array.toArray_toList]
    · cases e
  · cases e
def pairsFit (K : Frag) : Bool := (refsAt K 664).all fun t => match pairAt K t with | some (a, b) => decide (0 ≤ a) && decide (a < 6) && decide (0 ≤ b) && decide (b < 6) | none => false
theorem pair_item {K : Frag} {h : Heap} {i : Nat} {v : Value} (X : K.In h) (hf : pairsFit K = true) (hv : ((refsAt K 664).map Value.ref).toArray[i]? = some v) (dp ds : List Int) :
    ∃ t a b ta tb, v = .ref t ∧ h.IsTuple t #[.int a ta, .int b tb] ∧ 0 ≤ a ∧ a < 6 ∧ 0 ≤ b ∧ b < 6 ∧ (prsI K dp ds).getD i default = ((permsI dp ds).getD a.toNat [], (permsI dp ds).getD b.toNat []) := by
  rw [List.getElem?_toArray, List.getElem?_map] at hv
  cases ht : (refsAt K 664)[i]? with
  | none => rw [ht] at hv; cases hv
  | some t =>
    rw [ht] at hv
    cases hv
    have h1 := List.all_eq_true.mp hf t (List.mem_of_getElem? ht)
    cases hp : pairAt K t with
    | none => rw [hp] at h1; cases h1
    | some x =>
      obtain ⟨a, b⟩ := x
      rw [hp] at h1
      simp only [Bool.and_eq_true, decide_eq_true_eq] at h1
      obtain ⟨ta, tb, hi⟩ := pairAt_is X hp
      refine ⟨t, a, b, ta, tb, rfl, hi, h1.1.1.1, h1.1.1.2, h1.1.2, h1.2, ?_⟩
      unfold prsI offsOf
      rw [List.getD_eq_getElem?_getD, List.getElem?_map, List.getElem?_map, ht]
      simp only [Option.map_some, Option.getD_some, hp]
theorem prs_len {K : Frag} {dp ds : List Int} (h1 : dp.length ≤ 104) (h2 : ds.length ≤ 16) : ∀ pr ∈ prsI K dp ds, pr.1.length ≤ 300 ∧ pr.2.length ≤ 300 := by
  have key : ∀ n : Nat, ((permsI dp ds).getD n []).length ≤ 300 := fun n => by
    match n with
    | 0 => show dp.length ≤ 300; omega
    | 1 => show (dp ++ dp).length ≤ 300; rw [List.length_append]; omega
    | 2 => show (dp ++ ds).length ≤ 300; rw [List.length_append]; omega
    | 3 => show (dp ++ ds ++ dp).length ≤ 300; rw [List.length_append, List.length_append]; omega
    | 4 => show (ds ++ dp).length ≤ 300; rw [List.length_append]; omega
    | 5 => show (ds ++ (dp ++ dp)).length ≤ 300; rw [List.length_append, List.length_append]; omega
    | _ + 6 => show ([] : List Int).length ≤ 300; simp
  intro pr hpr
  obtain ⟨x, _, rfl⟩ := List.mem_map.mp hpr
  exact ⟨key _, key _⟩
theorem fr5 {h₀ h : Heap} {L : Addr} {m : Str → Option Value} {D HF tp : Addr} {bda : Array UInt8} {tda : CbTok} {rn : Nat} {trn : CbTok} (F : Fr h₀ L h m) (h1 : m (Str.ofString "data") = some (.ref D)) (h2 : m (Str.ofString "da") = some (.bytes bda tda)) (h3 : m (Str.ofString "rounds") = some (.int (rn : Int) trn)) (h4 : m (Str.ofString "hash_const") = some (.ref HF)) (h5 : m (Str.ofString "transpose_map") = some (.ref tp)) :
    Fr h₀ L h (fun y => if y = Str.ofString "data" then some (.ref D) else if y = Str.ofString "da" then some (.bytes bda tda) else if y = Str.ofString "rounds" then some (.int (rn : Int) trn) else if y = Str.ofString "hash_const" then some (.ref HF) else if y = Str.ofString "transpose_map" then some (.ref tp) else m y) := by
  refine fr_eq F fun y => ?_
  rcases Decidable.em (y = Str.ofString "data") with rfl | q1
  · rw [h1]; rfl
  rcases Decidable.em (y = Str.ofString "da") with rfl | q2
  · rw [h2]; rfl
  rcases Decidable.em (y = Str.ofString "rounds") with rfl | q3
  · rw [h3]; rfl
  rcases Decidable.em (y = Str.ofString "hash_const") with rfl | q4
  · rw [h4]; rfl
  rcases Decidable.em (y = Str.ofString "transpose_map") with rfl | q5
  · rw [h5]; rfl
  simp only [if_neg q1, if_neg q2, if_neg q3, if_neg q4, if_neg q5]
theorem r21 : ∀ (w : World) (p : Program) (loose : List Str) (mean : ExcName → Option Value) (mg mb : Str → Option Value) (hb : Heap) (HF : Addr) (hf : List Int → List Int) (sz : Nat) (oP : Obj) (vP : Option Value) (o9 : Obj) (bdp : Array UInt8) (tdp : CbTok) (dp9 : List Int) (bds : Array UInt8) (tds : CbTok) (ds9 : List Int) (bda : Array UInt8) (tda : CbTok) (da : List Int) (rn : Nat) (trn : CbTok) (tp : Addr) (tvs : List Value) (off : List Int) (m0 : Str → Option Value)
  (dp un : Nat) (gd : Option (List Code)) (outer : List Env) (A₀ : Around) (base h₀ : Heap) (L : Addr) (s : Shared) (Q : Flow → Shared → Prop) (E : Value → Shared → Prop)
  (B : Below A₀ base outer h₀) (F : Fr h₀ L s.heap (fun y => if y = Str.ofString "dp" then some (.bytes bdp tdp) else if y = Str.ofString "ds" then some (.bytes bds tds) else if y = Str.ofString "da" then some (.bytes bda tda) else if y = Str.ofString "rounds" then some (.int (rn : Int) trn) else if y = Str.ofString "hash_const" then some (.ref HF) else if y = Str.ofString "transpose_map" then some (.ref tp) else m0 y)) (X : (KF w.params).In h₀) (T : Top p loose mean mg mb h₀)
  (N : News h₀ L s.heap [(L + 1, oP), (123, tabObj #[]), (669, o9)]) (hoP : oP.data = .cell vP) (hdp : dp + 30 < recursionLimit) (hun : un + 100 < cLine)
  (hH : HOk w hb HF hf sz) (hkb : ∀ b o, hb.get? b = some o → h₀.get? b = some o) (hHf : HfAt h₀ HF) (hbp : KBw.bInts bdp = dp9) (hbs : KBw.bInts bds = ds9) (hlp : dp9.length ≤ 104) (hls : ds9.length ≤ 16) (hrn : rn ≤ 99) (hda : KBw.bInts bda = da) (hdl : da.length = sz) (hsz : sz = 32 ∨ sz = 64)
  (hT : TupOk w tp tvs off) (ho : off.length = sz) (h123 : @LT.lt Nat _ 123 L) (h669 : @LT.lt Nat _ 669 L)
  (hret : ∀ h' tk' gs' t' m', Fr h₀ L h' m' → GK s.gens gs' → (∃ ps, h'.get? 123 = some (tabObj ps)) → h'.get? 669 = some o9 → Q (.ret (.str ⟨(((encI (pickI (roundsI hf (prsI (KF w.params) dp9 ds9) rn da) off)).map signI).map Int.toNat).toArray⟩ t')) { s with heap := h', toks := tk', gens := gs' }),
  wpAny (model rw_iw0011_01.row.prog w) (rsA (KF w.params) L dp un gd outer) (execs ((bodyAt (KF w.params) 672).drop 21) (rsE (KF w.params) L)) Q E s := by
  k_fill
  intro w p loose mean mg mb hb HF hf sz oP vP o9 bdp tdp dp9 bds tds ds9 bda tda da rn trn tp tvs off m0 dp un gd outer A₀ base h₀ L s Q E B F X T N hoP hdp hun hH hkb hHf hbp hbs hlp hls hrn hda hdl hsz hT ho h123 h669 hret
  refine wpAny_execs_cons ?_
  k_steps
  (with_reducible rename Fr _ _ _ _ => F6)
  (with_reducible rename News _ _ _ _ => N6)
  have hbl := bl_of N6 (ls := permsI dp9 ds9) (BL.cons hbp (BL.cons (by assumption) (BL.cons (by assumption) (BL.cons (by assumption) (BL.cons (by assumption) (BL.cons (by assumption) BL.nil))))))
  have hp6 : (permsI dp9 ds9).length ≤ 100 := Nat.le_of_ble_eq_true rfl
  refine ⟨664, ((refsAt (KF w.params) 664).map Value.ref).toArray, _, fun i y o => ∃ b1 u1 b2 u2, o = pairO b1 u1 b2 u2 ∧ KBw.bInts b1 = ((prsI (KF w.params) dp9 ds9).getD i default).1 ∧ KBw.bInts b2 = ((prsI (KF w.params) dp9 ds9).getD i default).2, rfl, rfl, ⟨_, X 664 _ rfl, rfl, _, rfl⟩, ?sz, F6, N6, ?turn, ?fin⟩
  case sz => exact Nat.le_of_ble_eq_true (by kernel_rfl)
  case turn =>
    intro i v hv
    obtain ⟨t, x1, x2, t1, t2, rfl, htup, a0, a1, b0, b1, e⟩ := pair_item X (by kernel_rfl) hv dp9 ds9
    refine ⟨t, _, _, rfl, htup, ?_⟩
    intro C oC m₂ s' E' hC hx hx2 F' N' off'
    have a2 : x1 < ((permsI dp9 ds9).length : Int) := a1
    have b2 : x2 < ((permsI dp9 ds9).length : Int) := b1
    dsimp only
    rw [e]
    clear F6 N6
    k_steps
    exact pairs_end (x := ((permsI dp9 ds9).getD x1.toNat [], (permsI dp9 ds9).getD x2.toNat [])) (by assumption) (by assumption)
  case fin =>
    intro ys D tups h tk hl hM F' N' hD
    have hp21 : (prsI (KF w.params) dp9 ds9).length = 21 := by
      unfold prsI
      rw [List.length_map]
      kernel_rfl
    have hyl : ys.length = (prsI (KF w.params) dp9 ds9).length := by
      rw [hl, hp21]
      kernel_rfl
    have hdat : DataIs (tups ++ [(669, o9)]) ys (prsI (KF w.params) dp9 ds9) := by
      refine ⟨hyl, fun i v pr h1 h2 => ?_⟩
      obtain ⟨t, o, e1, e2, b1, u1, b2, u2, rfl, e3, e4⟩ := hM i v h1
      have e5 : (prsI (KF w.params) dp9 ds9).getD i default = pr := by rw [List.getD_eq_getElem?_getD, h2]; rfl
      rw [e5] at e3 e4
      exact ⟨t, b1, u1, b2, u2, e1, List.mem_append_left _ e2, e3, e4⟩
    have N7 : News h₀ L h ((D, listOf ys.toArray ys.length) :: (123, tabObj #[]) :: (tups ++ [(669, o9)])) := by
      intro q hq
      rcases List.mem_cons.mp hq with rfl | hq
      · exact N' _ (.head _)
      rcases List.mem_cons.mp hq with rfl | hq
      · exact N' _ (.tail _ (List.mem_append_right _ (.tail _ (.tail _ (.head _)))))
      rcases List.mem_append.mp hq with hq | hq
      · exact N' _ (.tail _ (List.mem_append_left _ hq))
      · rw [List.mem_singleton.mp hq]
        exact N' _ (.tail _ (List.mem_append_right _ (.tail _ (.tail _ (.tail _ (.head _))))))
    clear F6 N6 N'
    k_steps
    refine Hold.out (P := wpAny _ _ _ _ _ _) ?_
    exact r25 w p loose mean mg mb hb HF hf sz D _ ys (tups ++ [(669, o9)]) _ bda tda da rn trn tp tvs off _ dp un gd outer A₀ base h₀ L _ Q E B (fr5 F' rfl rfl rfl rfl rfl) X T N7 hdp hun hH hkb hHf hdat (prs_len hlp hls) hp21 hrn hda hdl hsz hT ho (Nat.ne_of_gt h123) (fun h' tk' gs' t' m' F'' hg hps hkp => hret h' tk' gs' t' m' F'' hg hps (hkp (669, o9) (List.mem_append_right _ (.head _)) (show (669 : Addr) ≠ 123 from Nat.ne_of_gt (by decide))))
end
section
theorem zw_R3_1 : True := by
  k_with_none
  k_with "exec Assign" => (k_here; (fail_if_success (with_reducible show wpAny _ _ _ (CutQ _) _ _)); (refine cutQ fun cutQ0 cutH0 => ?_))
  k_with "exec AugAssign" => (k_here; (fail_if_success (with_reducible show wpAny _ _ _ (CutQ _) _ _)); (refine cutQ fun cutQ0 cutH0 => ?_))
  k_with "exec Expr" => (k_here; (fail_if_success (with_reducible show wpAny _ _ _ (CutQ _) _ _)); (refine cutQ fun cutQ0 cutH0 => ?_))
  k_with "CutQ" => ((with_reducible rename (∀ f s', _ → CutQ _ f s') => cutH1); (refine cutH1 _ _ ?_); clear cutH1; (try dsimp only))
  trivial
open LCg
theorem zw_R3_2 : True := by
  k_with "binaryOp Mult bytes int" => (k_here; (with_reducible show wpAny _ _ (binaryOp Operator.Mult (Value.bytes _ _) (Value.int _ _)) _ _ _); (refine bmul_K (by first | (with_reducible assumption) | kba_ints) (by first | omega | assumption) (by first | omega | assumption) (by first | assumption | omega) (by first | assumption | omega) ?_); intro _ _ _ bmHₘ806)
  k_with "binaryOp Add int int" => (k_here; (refine addZ ?_); intro _ _)
  k_with "subscriptTail" => (k_here; (with_reducible show wpAny _ _ (subscriptTail _ _ (Value.bytes _ _) (Value.int _ _)) _ _ _); (refine itemZ (by first | (with_reducible assumption) | kba_ints) (by kba_size) (by omega) (by omega) ?_); intro _ _ kbaLoₘ778 kbaHiₘ778)
  k_with "compareOp Eq int int" => (k_here; refine eq_int ?_)
  k_with "ite" => (k_here; first | with_reducible refine ite_tt ?_ | with_reducible refine ite_ff ?_ | (refine ite_pos (by with_reducible assumption) ?_) | (refine ite_neg (by with_reducible assumption) ?_) | (with_reducible refine split_ieq ?_ ?_ <;> intro _) | (with_reducible refine split_dec ?_ ?_ <;> intro _))
  k_with "callWith ref" => (k_here; (rename Fr _ _ _ _ => uFₘ377); (rename HfAt _ _ => uHₘ377); k_dflt (refine' callWith_F ?_ ?_; (next => exact HfAt.fn uHₘ377 uFₘ377); k_whole))
  k_with "FnAt" => ((rename Fr _ _ _ _ => uFₘ389); (rename HfAt _ _ => uHₘ389); k_dflt (exact HfAt.fn uHₘ389 uFₘ389))
  k_with "call ref" => (k_here; (try dsimp only [List.nil_append, List.cons_append]); (with_reducible show wpAny _ _ (call (Value.ref _) [Value.bytes _ _]) _ _ _); (rename Fr _ _ _ _ => uFₘhk); (rename News _ _ _ _ => uNₘhk); (rename HOk _ _ _ _ _ => uHₘhk); k_dflt (refine' uHₘhk _ _ _ _ _ _ _ _ _ _ _ _ _ _ _ _ _ _ _ _ _ _ _ _ _ (by k_asm) uFₘhk (by k_asm) (by k_asm) (by assumption) (by first | exact rfl | assumption) (by ktr_room) (by ktr_units) (by with_reducible assumption) (by first | (with_reducible assumption) | omega | (simp only [List.length_append]; omega)) ?_; intro h'ₘhk tk'ₘhk rₘhk tₘhk ukₘhk urₘhk ulₘhk; have F'ₘhk := Fr.keptAll uFₘhk ukₘhk; have N'ₘhk := News.grown uNₘhk ukₘhk; clear ukₘhk; (try dsimp only)))
  trivial
theorem zw_R3_3 : True := by
  k_with "execs cons" => (k_here; (with_reducible show wpAny _ _ (execs [Stmt.Assign _ _ _, Stmt.Assign _ _ _, Stmt.Assign _ _ _, Stmt.Assign _ _ _, Stmt.Assign _ _ _, Stmt.Assign _ _ _, Stmt.While _ _ _ _, Stmt.If _ _ _ _, Stmt.Return _ _] _) _ _ _); (refine Hold.out ?_))
  trivial
/-- the salt's row -/
abbrev dsI (hf : List Int → List Int) (ss da : List Int) : List Int := List.take ss.length (hf (manyI (16 + da.getD 0 0).toNat ss))
theorem fr6 {h₀ h : Heap} {L : Addr} {m : Str → Option Value} {HF tp : Addr} {bdp bds bda : Array UInt8} {tdp tds tda : CbTok} {rn : Nat} {trn : CbTok} (F : Fr h₀ L h m) (h1 : m (Str.ofString "dp") = some (.bytes bdp tdp)) (h6 : m (Str.ofString "ds") = some (.bytes bds tds)) (h2 : m (Str.ofString "da") = some (.bytes bda tda)) (h3 : m (Str.ofString "rounds") = some (.int (rn : Int) trn)) (h4 : m (Str.ofString "hash_const") = some (.ref HF)) (h5 : m (Str.ofString "transpose_map") = some (.ref tp)) :
    Fr h₀ L h (fun y => if y = Str.ofString "dp" then some (.bytes bdp tdp) else if y = Str.ofString "ds" then some (.bytes bds tds) else if y = Str.ofString "da" then some (.bytes bda tda) else if y = Str.ofString "rounds" then some (.int (rn : Int) trn) else if y = Str.ofString "hash_const" then some (.ref HF) else if y = Str.ofString "transpose_map" then some (.ref tp) else m y) := by
  refine fr_eq F fun y => ?_
  rcases Decidable.em (y = Str.ofString "dp") with rfl | q1
  · rw [h1]; rfl
  rcases Decidable.em (y = Str.ofString "ds") with rfl | q6
  · rw [h6]; rfl
  rcases Decidable.em (y = Str.ofString "da") with rfl | q2
  · rw [h2]; rfl
  rcases Decidable.em (y = Str.ofString "rounds") with rfl | q3
  · rw [h3]; rfl
  rcases Decidable.em (y = Str.ofString "hash_const") with rfl | q4
  · rw [h4]; rfl
  rcases Decidable.em (y = Str.ofString "transpose_map") with rfl | q5
  · rw [h5]; rfl
  simp only [if_neg q1, if_neg q2, if_neg q3, if_neg q4, if_neg q5, if_neg q6]
theorem r18 : ∀ (w : World) (p : Program) (loose : List Str) (mean : ExcName → Option Value) (mg mb : Str → Option Value) (hb : Heap) (HF : Addr) (hf : List Int → List Int) (sz : Nat) (oP : Obj) (vP : Option Value) (o9 : Obj) (bdp : Array UInt8) (tdp : CbTok) (dp9 : List Int) (bss : Array UInt8) (tss : CbTok) (ss : List Int) (pl sl : Nat) (tpl tsl : Tok) (bda : Array UInt8) (tda : CbTok) (da : List Int) (rn : Nat) (trn : CbTok) (tp : Addr) (tvs : List Value) (off : List Int) (m0 : Str → Option Value)
  (dp un : Nat) (gd : Option (List Code)) (outer : List Env) (A₀ : Around) (base h₀ : Heap) (L : Addr) (s : Shared) (Q : Flow → Shared → Prop) (E : Value → Shared → Prop)
  (B : Below A₀ base outer h₀) (F : Fr h₀ L s.heap (fun y => if y = Str.ofString "dp" then some (.bytes bdp tdp) else if y = Str.ofString "salt" then some (.bytes bss tss) else if y = Str.ofString "pwd_len" then some (.int (pl : Int) tpl) else if y = Str.ofString "salt_len" then some (.int (sl : Int) tsl) else if y = Str.ofString "da" then some (.bytes bda tda) else if y = Str.ofString "rounds" then some (.int (rn : Int) trn) else if y = Str.ofString "hash_const" then some (.ref HF) else if y = Str.ofString "transpose_map" then some (.ref tp) else m0 y)) (X : (KF w.params).In h₀) (T : Top p loose mean mg mb h₀)
  (N : News h₀ L s.heap [(L + 1, oP), (123, tabObj #[]), (669, o9)]) (hoP : oP.data = .cell vP) (hdp : dp + 30 < recursionLimit) (hun : un + 100 < cLine)
  (hH : HOk w hb HF hf sz) (hkb : ∀ b o, hb.get? b = some o → h₀.get? b = some o) (hHf : HfAt h₀ HF) (hbp : KBw.bInts bdp = dp9) (hbs : KBw.bInts bss = ss) (hpl : dp9.length = pl) (hsl : ss.length = sl) (hlp : dp9.length ≤ 104) (hls : ss.length ≤ 16) (hrn : rn ≤ 99) (hda : KBw.bInts bda = da) (hdl : da.length = sz) (hsz : sz = 32 ∨ sz = 64)
  (hT : TupOk w tp tvs off) (ho : off.length = sz) (h123 : @LT.lt Nat _ 123 L) (h669 : @LT.lt Nat _ 669 L)
  (hret : ∀ h' tk' gs' t' m', Fr h₀ L h' m' → GK s.gens gs' → (∃ ps, h'.get? 123 = some (tabObj ps)) → h'.get? 669 = some o9 → Q (.ret (.str ⟨(((encI (pickI (roundsI hf (prsI (KF w.params) dp9 (dsI hf ss da)) rn da) off)).map signI).map Int.toNat).toArray⟩ t')) { s with heap := h', toks := tk', gens := gs' }),
  wpAny (model rw_iw0011_01.row.prog w) (rsA (KF w.params) L dp un gd outer) (execs ((bodyAt (KF w.params) 672).drop 18) (rsE (KF w.params) L)) Q E s := by
  k_fill
  intro w p loose mean mg mb hb HF hf sz oP vP o9 bdp tdp dp9 bss tss ss pl sl tpl tsl bda tda da rn trn tp tvs off m0 dp un gd outer A₀ base h₀ L s Q E B F X T N hoP hdp hun hH hkb hHf hbp hbs hpl hsl hlp hls hrn hda hdl hsz hT ho h123 h669 hret
  have hb0 : 0 ≤ da.getD (Int.toNat 0) 0 ∧ da.getD (Int.toNat 0) 0 < 256 := KBw.ints_in (by rw [hda]; exact getD_mem (by omega))
  have hmul : ss.length * (16 + da.getD (Int.toNat 0) 0).toNat ≤ 16777216 := Nat.le_trans (Nat.mul_le_mul hls (show (16 + da.getD (Int.toNat 0) 0).toNat ≤ 272 by omega)) (by decide)
  have hml : ((List.replicate (16 + da.getD (Int.toNat 0) 0).toNat ss).flatten).length ≤ 20000 := by
    have := Nat.mul_le_mul hls (show (16 + da.getD (Int.toNat 0) 0).toNat ≤ 272 by omega)
    simp only [List.length_flatten, List.map_replicate, List.sum_replicate_nat]
    rw [Nat.mul_comm]
    omega
  have hH9 := hH
  have hHf9 := hHf
  refine wpAny_execs_cons ?_
  k_steps
  · (with_reducible rename Fr _ _ _ _ => F6)
    (with_reducible rename News _ _ _ _ => N6)
    (with_reducible rename (KBw.bInts _ = List.take _ _) => hs9)
    (with_reducible rename (List.length (hf _) = sz) => hl9)
    refine Hold.out (P := wpAny _ _ _ _ _ _) ?_
    have e9 : KBw.bInts _ = dsI hf ss da := hs9.trans (by rw [hl9, Nat.min_eq_left (by omega), ← hsl]; unfold dsI manyI; rfl)
    have l9 : (dsI hf ss da).length ≤ 16 := by
      rw [List.length_take]; exact Nat.le_trans (Nat.min_le_left _ _) hls
    exact r21 w p loose mean mg mb hb HF hf sz oP vP o9 bdp tdp dp9 _ _ _ bda tda da rn trn tp tvs off _ dp un gd outer A₀ base h₀ L _ Q E B (fr6 F6 rfl rfl rfl rfl rfl rfl) X T N6 hoP hdp hun hH hkb hHf hbp e9 hlp l9 hrn hda hdl hsz hT ho h123 h669 (fun h' tk' gs' t' m' F'' hg hps hkp => hret h' tk' gs' t' m' F'' hg hps hkp)
  · exfalso
    (with_reducible rename (List.length (hf _) = sz) => hl9)
    simp only [List.length_take, hl9] at *
    omega
  · exfalso; omega
end
section
theorem zw_R2_1 : True := by
  k_with_none
  k_with "exec Assign" => (k_here; (fail_if_success (with_reducible show wpAny _ _ _ (CutQ _) _ _)); (refine cutQ fun cutQ0 cutH0 => ?_))
  k_with "exec AugAssign" => (k_here; (fail_if_success (with_reducible show wpAny _ _ _ (CutQ _) _ _)); (refine cutQ fun cutQ0 cutH0 => ?_))
  k_with "exec Expr" => (k_here; (fail_if_success (with_reducible show wpAny _ _ _ (CutQ _) _ _)); (refine cutQ fun cutQ0 cutH0 => ?_))
  k_with "CutQ" => ((with_reducible rename (∀ f s', _ → CutQ _ f s') => cutH1); (refine cutH1 _ _ ?_); clear cutH1; (try dsimp only))
  trivial
open LCg
theorem zw_R2_2 : True := by
  k_with "binaryOp Mult bytes int" => (k_here; (with_reducible show wpAny _ _ (binaryOp Operator.Mult (Value.bytes _ _) (Value.int _ _)) _ _ _); (refine bmul_K (by first | (with_reducible assumption) | kba_ints) (by first | omega | assumption) (by first | omega | assumption) (by first | assumption | omega) (by first | assumption | omega) ?_); intro _ _ _ bmHₘ806)
  k_with "compareOp Lt int int" => (k_here; first | (refine ltT (by omega) ?_) | (refine ltF (by omega) ?_))
  k_with "getMethod bytes" => (k_here; (with_reducible show wpAny _ _ (getMethod (Value.bytes _ _) "join" _) _ _ _); (refine bytesMeth slot_join type_join ?_))
  k_with "call builtin:bytes.join" => (k_here; (try dsimp only [List.cons_append, List.nil_append]); (with_reducible show wpAny _ _ (call _ [Value.bytes _ _, Value.ref _]) _ _ _); (refine call_join (by kba_isList) (by assumption) (by omega) ?_); intro _ _ _ bjHₘ818; (try ((rename catI _ = _ => uJ2ₘ818); rw [uJ2ₘ818] at bjHₘ818)))
  k_with "ite" => (k_here; first | with_reducible refine ite_tt ?_ | with_reducible refine ite_ff ?_ | (refine ite_pos (by with_reducible assumption) ?_) | (refine ite_neg (by with_reducible assumption) ?_) | (with_reducible refine split_ieq ?_ ?_ <;> intro _) | (with_reducible refine split_dec ?_ ?_ <;> intro _))
  k_with "callWith ref" => (k_here; (rename Fr _ _ _ _ => uFₘ377); (rename HfAt _ _ => uHₘ377); k_dflt (refine' callWith_F ?_ ?_; (next => exact HfAt.fn uHₘ377 uFₘ377); k_whole))
  k_with "FnAt" => ((rename Fr _ _ _ _ => uFₘ389); (rename HfAt _ _ => uHₘ389); k_dflt (exact HfAt.fn uHₘ389 uFₘ389))
  k_with "call ref" => (k_here; (try dsimp only [List.nil_append, List.cons_append]); (with_reducible show wpAny _ _ (call (Value.ref _) [Value.bytes _ _]) _ _ _); (rename Fr _ _ _ _ => uFₘhk); (rename News _ _ _ _ => uNₘhk); (rename HOk _ _ _ _ _ => uHₘhk); k_dflt (refine' uHₘhk _ _ _ _ _ _ _ _ _ _ _ _ _ _ _ _ _ _ _ _ _ _ _ _ _ (by k_asm) uFₘhk (by k_asm) (by k_asm) (by assumption) (by first | exact rfl | assumption) (by ktr_room) (by ktr_units) (by with_reducible assumption) (by first | (with_reducible assumption) | omega | (simp only [List.length_append]; omega)) ?_; intro h'ₘhk tk'ₘhk rₘhk tₘhk ukₘhk urₘhk ulₘhk; have F'ₘhk := Fr.keptAll uFₘhk ukₘhk; have N'ₘhk := News.grown uNₘhk ukₘhk; clear ukₘhk; (try dsimp only)))
  trivial
theorem zw_R2_3 : True := by
  k_with "call ref" => (k_here; (with_reducible show wpAny _ _ (call (Value.ref 70) _) _ _ _); (rename Fr _ _ _ _ => uFₘ347); (rename News _ _ _ _ => uNₘ347); (try dsimp only [List.nil_append, List.cons_append]); k_dflt (refine' c_rep _ _ _ _ _ _ _ _ _ _ _ _ _ _ _ _ _ _ _ _ _ _ _ _ _ _ _ _ (by k_asm) uFₘ347 (by k_asm) (by k_asm) (by first | exact rfl | assumption) (by ktr_room) (by ktr_units) (by first | (with_reducible assumption) | omega | (exact rfl) | (simp only [List.length_append, List.length_map, List.length_take, List.length_cons, List.length_nil]; omega) | (simp only [List.length_append, List.length_map, List.length_cons, List.length_nil] at *; omega)) (by first | (with_reducible assumption) | omega | (exact rfl) | (simp only [List.length_append, List.length_map, List.length_take, List.length_cons, List.length_nil]; omega) | (simp only [List.length_append, List.length_map, List.length_cons, List.length_nil] at *; omega)) (by first | (with_reducible assumption) | omega | (exact rfl) | (simp only [List.length_append, List.length_map, List.length_take, List.length_cons, List.length_nil]; omega) | (simp only [List.length_append, List.length_map, List.length_cons, List.length_nil] at *; omega)) (by first | (with_reducible assumption) | omega | (exact rfl) | (simp only [List.length_append, List.length_map, List.length_take, List.length_cons, List.length_nil]; omega) | (simp only [List.length_append, List.length_map, List.length_cons, List.length_nil] at *; omega)) ?_; intro h'ₘ347 tk'ₘ347 ukₘ347 urₘ347 utₘ347 u0ₘ347; have F'ₘ347 := Fr.keptAll uFₘ347 ukₘ347; have N'ₘ347 := News.grown uNₘ347 ukₘ347; clear ukₘ347; (try dsimp only); (try k_fold)))
  k_with "execs cons" => (k_here; (with_reducible show wpAny _ _ (execs [Stmt.Assert _ _ _, Stmt.Assign _ _ _, Stmt.Assert _ _ _, Stmt.Assign _ _ _, Stmt.Assign _ _ _, Stmt.Assign _ _ _, Stmt.Assign _ _ _, Stmt.Assign _ _ _, Stmt.Assign _ _ _, Stmt.While _ _ _ _, Stmt.If _ _ _ _, Stmt.Return _ _] _) _ _ _); (refine Hold.out ?_))
  trivial
theorem repI_length {ks : List Int} {n : Nat} (h : 0 < ks.length) : (repI ks n).length = n := by
  unfold repI
  rw [List.length_take]
  refine Nat.min_eq_left ?_
  simp only [List.length_flatten, List.map_replicate, List.sum_replicate_nat]
  rcases Nat.eq_zero_or_pos n with rfl | hn
  · exact Nat.zero_le _
  have e : (((n : Int) - 1).fdiv ks.length) = (((n - 1) / ks.length : Nat) : Int) := by
    rw [Int.fdiv_eq_ediv_of_nonneg _ (by omega), show ((n : Int) - 1) = ((n - 1 : Nat) : Int) from by omega]
    rfl
  have e2 : ∀ m : Nat, ((1 : Int) + (m : Int)).toNat = 1 + m := fun m => by omega
  rw [e, e2, Nat.add_mul, Nat.one_mul]
  have := Nat.div_add_mod (n - 1) ks.length
  have := Nat.mod_lt (n - 1) h
  have : (n - 1) / ks.length * ks.length = ks.length * ((n - 1) / ks.length) := Nat.mul_comm _ _
  omega
theorem fr8 {h₀ h : Heap} {L : Addr} {m : Str → Option Value} {HF tp : Addr} {bdp bds bda : Array UInt8} {tdp tds tda : CbTok} {pl sl rn : Nat} {tpl tsl : Tok} {trn : CbTok} (F : Fr h₀ L h m) (h1 : m (Str.ofString "dp") = some (.bytes bdp tdp)) (h6 : m (Str.ofString "salt") = some (.bytes bds tds)) (h7 : m (Str.ofString "pwd_len") = some (.int (pl : Int) tpl)) (h8 : m (Str.ofString "salt_len") = some (.int (sl : Int) tsl)) (h2 : m (Str.ofString "da") = some (.bytes bda tda)) (h3 : m (Str.ofString "rounds") = some (.int (rn : Int) trn)) (h4 : m (Str.ofString "hash_const") = some (.ref HF)) (h5 : m (Str.ofString "transpose_map") = some (.ref tp)) :
    Fr h₀ L h (fun y => if y = Str.ofString "dp" then some (.bytes bdp tdp) else if y = Str.ofString "salt" then some (.bytes bds tds) else if y = Str.ofString "pwd_len" then some (.int (pl : Int) tpl) else if y = Str.ofString "salt_len" then some (.int (sl : Int) tsl) else if y = Str.ofString "da" then some (.bytes bda tda) else if y = Str.ofString "rounds" then some (.int (rn : Int) trn) else if y = Str.ofString "hash_const" then some (.ref HF) else if y = Str.ofString "transpose_map" then some (.ref tp) else m y) := by
  refine fr_eq F fun y => ?_
  rcases Decidable.em (y = Str.ofString "dp") with rfl | q1
  · rw [h1]; rfl
  rcases Decidable.em (y = Str.ofString "salt") with rfl | q6
  · rw [h6]; rfl
  rcases Decidable.em (y = Str.ofString "pwd_len") with rfl | q7
  · rw [h7]; rfl
  rcases Decidable.em (y = Str.ofString "salt_len") with rfl | q8
  · rw [h8]; rfl
  rcases Decidable.em (y = Str.ofString "da") with rfl | q2
  · rw [h2]; rfl
  rcases Decidable.em (y = Str.ofString "rounds") with rfl | q3
  · rw [h3]; rfl
  rcases Decidable.em (y = Str.ofString "hash_const") with rfl | q4
  · rw [h4]; rfl
  rcases Decidable.em (y = Str.ofString "transpose_map") with rfl | q5
  · rw [h5]; rfl
  simp only [if_neg q1, if_neg q2, if_neg q3, if_neg q4, if_neg q5, if_neg q6, if_neg q7, if_neg q8]
theorem r16 : ∀ (w : World) (p : Program) (loose : List Str) (mean : ExcName → Option Value) (mg mb : Str → Option Value) (hb : Heap) (HF : Addr) (hf : List Int → List Int) (sz : Nat) (la : Addr) (na : Nat) (ys : List Value) (oP oA oT : Obj) (vP vT : Option Value) (o9 : Obj) (bpw : Array UInt8) (tpw : CbTok) (pk : List Int) (bss : Array UInt8) (tss : CbTok) (ss : List Int) (pl sl : Nat) (tpl tsl : Tok) (da : List Int) (rn : Nat) (trn : CbTok) (tp : Addr) (tvs : List Value) (off : List Int) (m0 : Str → Option Value)
  (dp un : Nat) (gd : Option (List Code)) (outer : List Env) (A₀ : Around) (base h₀ : Heap) (L : Addr) (s : Shared) (Q : Flow → Shared → Prop) (E : Value → Shared → Prop)
  (B : Below A₀ base outer h₀) (F : Fr h₀ L s.heap (fun y => if y = Str.ofString "pwd" then some (.bytes bpw tpw) else if y = Str.ofString "salt" then some (.bytes bss tss) else if y = Str.ofString "pwd_len" then some (.int (pl : Int) tpl) else if y = Str.ofString "salt_len" then some (.int (sl : Int) tsl) else if y = Str.ofString "rounds" then some (.int (rn : Int) trn) else if y = Str.ofString "hash_const" then some (.ref HF) else if y = Str.ofString "transpose_map" then some (.ref tp) else m0 y)) (X : (KF w.params).In h₀) (T : Top p loose mean mg mb h₀)
  (N : News h₀ L s.heap [(la, listOf ys.toArray na), (L + 1, oP), (L + 1 + 1, oA), (L + 1 + 1 + 1, oT), (123, tabObj #[]), (669, o9)]) (hoP : oP.data = .cell vP) (hoA : oA.data = .cell (some (.ref la))) (hoT : oT.data = .cell vT) (hdp : dp + 30 < recursionLimit) (hun : un + 100 < cLine)
  (hH : HOk w hb HF hf sz) (hkb : ∀ b o, hb.get? b = some o → h₀.get? b = some o) (hHf : HfAt h₀ HF) (hAll : AllBytes ys) (hcat : catI ys = da) (hys : (ys.map fun v => (bOf v).size).sum ≤ 16777216) (hdal : da.length ≤ 20000) (hbp : KBw.bInts bpw = pk) (hbs : KBw.bInts bss = ss) (hpl : pk.length = pl) (hsl : ss.length = sl) (hlp : pk.length ≤ 104) (hls : ss.length ≤ 16) (hrn : rn ≤ 99) (hsz : sz = 32 ∨ sz = 64)
  (hT : TupOk w tp tvs off) (ho : off.length = sz) (h123 : @LT.lt Nat _ 123 L) (h669 : @LT.lt Nat _ 669 L) (hp96 : pl < 96)
  (hret : ∀ h' tk' gs' t' m', Fr h₀ L h' m' → GK s.gens gs' → (∃ ps, h'.get? 123 = some (tabObj ps)) → h'.get? 669 = some o9 → Q (.ret (.str ⟨(((encI (pickI (roundsI hf (prsI (KF w.params) (repI (hf (manyI pl pk)) pl) (dsI hf ss (hf da))) rn (hf da)) off)).map signI).map Int.toNat).toArray⟩ t')) { s with heap := h', toks := tk', gens := gs' }),
  wpAny (model rw_iw0011_01.row.prog w) (rsA (KF w.params) L dp un gd outer) (execs ((bodyAt (KF w.params) 672).drop 16) (rsE (KF w.params) L)) Q E s := by
  k_fill
  intro w p loose mean mg mb hb HF hf sz la na ys oP oA oT vP vT o9 bpw tpw pk bss tss ss pl sl tpl tsl da rn trn tp tvs off m0 dp un gd outer A₀ base h₀ L s Q E B F X T N hoP hoA hoT hdp hun hH hkb hHf hAll hcat hys hdal hbp hbs hpl hsl hlp hls hrn hsz hT ho h123 h669 hp96 hret
  have hm1 : pk.length * ((pl : Int)).toNat ≤ 16777216 := by
    rw [Int.toNat_natCast, hpl]
    exact Nat.le_trans (Nat.mul_le_mul (show pl ≤ 96 by omega) (show pl ≤ 96 by omega)) (by decide)
  have hm2 : ((List.replicate ((pl : Int)).toNat pk).flatten).length ≤ 20000 := by
    rw [Int.toNat_natCast]
    simp only [List.length_flatten, List.map_replicate, List.sum_replicate_nat]
    rw [hpl]
    exact Nat.le_trans (Nat.mul_le_mul (show pl ≤ 96 by omega) (show pl ≤ 96 by omega)) (by decide)
  have hH9 := hH
  have hHf9 := hHf
  refine wpAny_execs_cons ?_
  k_steps
  (with_reducible rename Fr _ _ _ _ => F6)
  (with_reducible rename News _ _ _ _ => N6)
  (with_reducible rename (KBw.bInts _ = repI _ _) => u9)
  (with_reducible rename (KBw.bInts _ = hf da) => a9)
  (with_reducible rename (List.length (hf (List.flatten _)) = sz) => l9)
  (with_reducible rename (List.length (hf da) = sz) => l8)
  refine Hold.out (P := wpAny _ _ _ _ _ _) ?_
  rw [Int.toNat_natCast, show (List.replicate pl pk).flatten = manyI pl pk from by unfold manyI; rfl] at u9 l9
  have l7 : (repI (hf (manyI pl pk)) pl).length = pl := repI_length (by show 0 < (hf (manyI pl pk)).length; rw [l9]; omega)
  exact r18 w p loose mean mg mb hb HF hf sz oP vP o9 _ _ (repI (hf (manyI pl pk)) pl) bss tss ss pl sl tpl tsl _ _ (hf da) rn trn tp tvs off _ dp un gd outer A₀ base h₀ L _ Q E B (fr8 F6 rfl rfl rfl rfl rfl rfl rfl rfl) X T (fun q hq => N6 q (by simp only [List.mem_cons, List.not_mem_nil, or_false] at hq ⊢; rcases hq with h | h | h <;> simp [h])) hoP hdp hun hH hkb hHf u9 hbs l7 hsl (by omega) hls hrn a9 l8 hsz hT ho h123 h669 hret
end
end
section
open LCg
/-- a made def puts an octet string at the end of its list -/
def ApOk (w : World) (NV c' V Cv : Addr) (on oc oC : Obj) : Prop :=
  ∀ (p : Program) (loose : List Str) (mean : ExcName → Option Value) (mg mb : Str → Option Value) (dp un : Nat) (gd : Option (List Code)) (cn : Str) (cs : Scope) (a : Addr) (ccd : Value) (cl : List (Str × Addr)) (outer : List Env) (A₀ : Around) (base h₀ : Heap) (L : Addr) (m : Str → Option Value) (s : Shared) (Q E : Value → Shared → Prop) (b : Array UInt8) (t : CbTok) (vs : List Value) (n : Nat)
    (_ : Below A₀ base outer h₀) (_ : Fr h₀ L s.heap m) (_ : (KF w.params).In h₀) (_ : Top p loose mean mg mb h₀) (_ : cs.kind = .function) (_ : dp + 2 < recursionLimit) (_ : un + 12 < cLine) (_ : News h₀ L s.heap (ledG NV c' V Cv on oc oC vs n)) (_ : vs.length ≤ 1000)
    (_ : ∀ h' tk' n', Fr h₀ L h' m → News h₀ L h' (ledG NV c' V Cv on oc oC (vs ++ [.bytes b t]) n') → (∀ b o, b ≠ V → s.heap.get? b = some o → h'.get? b = some o) → Q .none { s with heap := h', toks := tk' }),
    wpAny (model rw_iw0011_01.row.prog w) (ktrTop dp un gd cn cs L a ccd cl outer) (call (.ref NV) [.bytes b t]) Q E s
theorem ap_back {h₀ h h' : Heap} {L V NV c' Cv : Addr} {on oc oC : Obj} {vs vs' : List Value} {n n' : Nat} {rest : List (Addr × Obj)} (N : News h₀ L h ((V, listOf vs.toArray n) :: rest)) (N' : News h₀ L h' (ledG NV c' V Cv on oc oC vs' n')) (k : ∀ b o, b ≠ V → h.get? b = some o → h'.get? b = some o) (hne : ∀ q ∈ rest, q.1 ≠ V) :
    News h₀ L h' ((V, listOf vs'.toArray n') :: rest) := by
  intro q hq
  rcases List.mem_cons.mp hq with rfl | hq
  · exact ⟨(N' _ (.tail _ (.tail _ (.head _)))).1, (N _ (.head _)).2⟩
  · exact ⟨k _ _ (hne q hq) (N q (.tail _ hq)).1, (N q (.tail _ hq)).2⟩
theorem led_of {h₀ h : Heap} {L V NV c' Cv : Addr} {on oc oC : Obj} {vs : List Value} {n : Nat} {rest : List (Addr × Obj)} (N : News h₀ L h ((V, listOf vs.toArray n) :: rest)) (x : (NV, on) ∈ rest ∧ (c', oc) ∈ rest ∧ (Cv, oC) ∈ rest) : News h₀ L h (ledG NV c' V Cv on oc oC vs n) := by
  intro q hq
  simp only [ledG, List.mem_cons, List.not_mem_nil, or_false] at hq
  rcases hq with rfl | rfl | rfl | rfl
  · exact N _ (.tail _ x.1)
  · exact N _ (.tail _ x.2.1)
  · exact N _ (.head _)
  · exact N _ (.tail _ x.2.2)
theorem ne_all {la : Addr} {rest : List (Addr × Obj)} (h : ∀ q ∈ rest.map (·.1), q ≠ la) : ∀ q ∈ rest, q.1 ≠ la := fun q hq => h _ (List.mem_map_of_mem hq)
theorem catI_snoc {ys : List Value} {b : Array UInt8} {t : CbTok} : catI (ys ++ [.bytes b t]) = catI ys ++ KBw.bInts b := by simp [catI, bOf]
theorem all_snoc {ys : List Value} {b : Array UInt8} {t : CbTok} (h : AllBytes ys) : AllBytes (ys ++ [.bytes b t]) := by
  intro v hv
  rcases List.mem_append.mp hv with hv | hv
  · exact h v hv
  · rw [List.mem_singleton.mp hv]; exact ⟨b, t, rfl⟩
theorem sum_snoc {ys : List Value} {b : Array UInt8} {t : CbTok} : ((ys ++ [Value.bytes b t]).map fun v => (bOf v).size).sum = (ys.map fun v => (bOf v).size).sum + (KBw.bInts b).length := by
  rw [List.map_append, List.sum_append, KBw.ints_length]; simp [bOf]
theorem sum_cat {ys : List Value} : (ys.map fun v => (bOf v).size).sum = (catI ys).length := by
  unfold catI
  rw [List.length_flatten, List.map_map]
  congr 1
  refine List.map_congr_left fun v _ => ?_
  exact (KBw.ints_length _).symm
theorem with_ap {w : World} {h₀ h : Heap} {L V NV c' Cv : Addr} {o1 : Value} {o2 : Option Addr} {fd : FuncData} {sl : Array (Option Value)} {oc oC : Obj} {vs : List Value} {n : Nat} {rest : List (Addr × Obj)} {m : Str → Option Value} {G : Prop}
    (N : News h₀ L h ((NV, (⟨o1, o2, .func fd, sl⟩ : Obj)) :: (c', oc) :: (V, listOf vs.toArray n) :: rest)) (F : Fr h₀ L h m) (hAp : ApOk w NV c' V Cv ⟨o1, o2, .func fd, sl⟩ oc oC) (hm : (Cv, oC) ∈ rest) (n1 : NV ≠ V) (n2 : c' ≠ V) (n3 : ∀ q ∈ rest, q.1 ≠ V)
    (k : ∀ (M6 : Str → Option Value) (R6 : List (Addr × Obj)), M6 = m → R6 = (NV, (⟨o1, o2, .func fd, sl⟩ : Obj)) :: (c', oc) :: rest → ApOk w NV c' V Cv ⟨o1, o2, .func fd, sl⟩ oc oC → ((NV, (⟨o1, o2, .func fd, sl⟩ : Obj)) ∈ R6 ∧ (c', oc) ∈ R6 ∧ (Cv, oC) ∈ R6) → (∀ q ∈ R6, q.1 ≠ V) → News h₀ L h ((V, listOf vs.toArray n) :: R6) → Fr h₀ L h M6 → G) : G := by
  refine k m _ rfl rfl hAp ⟨.head _, .tail _ (.head _), .tail _ (.tail _ hm)⟩ (fun q hq => ?_) (fun q hq => ?_) F
  · rcases List.mem_cons.mp hq with rfl | hq
    · exact n1
    rcases List.mem_cons.mp hq with rfl | hq
    · exact n2
    · exact n3 q hq
  · refine N q ?_
    simp only [List.mem_cons] at hq ⊢
    rcases hq with h | h | h | h <;> simp [h]
abbrev mI (NV : Addr) (j : Int) (tj : Tok) (b : Array UInt8) (t : CbTok) (m : Str → Option Value) : Str → Option Value := fun y => if y = Str.ofString "i" then some (.int j tj) else if y = Str.ofString "tmp_ctx_update" then some (.ref NV) else if y = Str.ofString "pwd" then some (.bytes b t) else m y
theorem frI {h₀ h : Heap} {L : Addr} {m : Str → Option Value} {NV : Addr} {j : Int} {tj : Tok} {b : Array UInt8} {t : CbTok} (F : Fr h₀ L h m) (h1 : m (Str.ofString "i") = some (.int j tj)) (h2 : m (Str.ofString "tmp_ctx_update") = some (.ref NV)) (h3 : m (Str.ofString "pwd") = some (.bytes b t)) : Fr h₀ L h (mI NV j tj b t m) := by
  refine fr_eq F fun y => ?_
  rcases Decidable.em (y = Str.ofString "i") with rfl | q1
  · rw [h1]; rfl
  rcases Decidable.em (y = Str.ofString "tmp_ctx_update") with rfl | q2
  · rw [h2]; rfl
  rcases Decidable.em (y = Str.ofString "pwd") with rfl | q3
  · rw [h3]; rfl
  simp only [if_neg q1, if_neg q2, if_neg q3]
theorem frI2 {h₀ h : Heap} {L : Addr} {m : Str → Option Value} {NV : Addr} {j j' : Int} {tj tj' : Tok} {b : Array UInt8} {t : CbTok} (F : Fr h₀ L h (fun y => if y = Str.ofString "i" then some (.int j' tj') else mI NV j tj b t m y)) : Fr h₀ L h (mI NV j' tj' b t m) := by
  refine fr_eq F fun y => ?_
  rcases Decidable.em (y = Str.ofString "i") with rfl | q1
  · rfl
  simp only [mI, if_neg q1]
abbrev mJ0 (NV : Addr) (db : Array UInt8) (tdb : CbTok) (b : Array UInt8) (t : CbTok) (pl : Nat) (tpl : Tok) (m : Str → Option Value) : Str → Option Value := fun y => if y = Str.ofString "a_ctx_update" then some (.ref NV) else if y = Str.ofString "db" then some (.bytes db tdb) else if y = Str.ofString "pwd" then some (.bytes b t) else if y = Str.ofString "pwd_len" then some (.int (pl : Int) tpl) else m y
abbrev mJ (NV : Addr) (j : Int) (tj : Tok) (db : Array UInt8) (tdb : CbTok) (b : Array UInt8) (t : CbTok) (pl : Nat) (tpl : Tok) (m : Str → Option Value) : Str → Option Value := fun y => if y = Str.ofString "i" then some (.int j tj) else if y = Str.ofString "a_ctx_update" then some (.ref NV) else if y = Str.ofString "db" then some (.bytes db tdb) else if y = Str.ofString "pwd" then some (.bytes b t) else if y = Str.ofString "pwd_len" then some (.int (pl : Int) tpl) else m y
theorem frJ0 {h₀ h : Heap} {L : Addr} {m : Str → Option Value} {NV : Addr} {db : Array UInt8} {tdb : CbTok} {b : Array UInt8} {t : CbTok} {pl : Nat} {tpl : Tok} (F : Fr h₀ L h m) (h1 : m (Str.ofString "a_ctx_update") = some (.ref NV)) (h2 : m (Str.ofString "db") = some (.bytes db tdb)) (h3 : m (Str.ofString "pwd") = some (.bytes b t)) (h4 : m (Str.ofString "pwd_len") = some (.int (pl : Int) tpl)) : Fr h₀ L h (mJ0 NV db tdb b t pl tpl m) := by
  refine fr_eq F fun y => ?_
  rcases Decidable.em (y = Str.ofString "a_ctx_update") with rfl | q1
  · rw [h1]; rfl
  rcases Decidable.em (y = Str.ofString "db") with rfl | q2
  · rw [h2]; rfl
  rcases Decidable.em (y = Str.ofString "pwd") with rfl | q3
  · rw [h3]; rfl
  rcases Decidable.em (y = Str.ofString "pwd_len") with rfl | q4
  · rw [h4]; rfl
  simp only [if_neg q1, if_neg q2, if_neg q3, if_neg q4]
theorem frJ2 {h₀ h : Heap} {L : Addr} {m : Str → Option Value} {NV : Addr} {db : Array UInt8} {tdb : CbTok} {b : Array UInt8} {t : CbTok} {pl : Nat} {tpl : Tok} {j j' : Int} {tj tj' : Tok} (F : Fr h₀ L h (fun y => if y = Str.ofString "i" then some (.int j' tj') else mJ NV j tj db tdb b t pl tpl m y)) : Fr h₀ L h (mJ NV j' tj' db tdb b t pl tpl m) := by
  refine fr_eq F fun y => ?_
  rcases Decidable.em (y = Str.ofString "i") with rfl | q1
  · rfl
  simp only [mJ, if_neg q1]
theorem fr16 {h₀ h : Heap} {L : Addr} {m : Str → Option Value} {HF tp : Addr} {bds bpw : Array UInt8} {tds tpw : CbTok} {pl sl rn : Nat} {tpl tsl : Tok} {trn : CbTok} (F : Fr h₀ L h m) (h2 : m (Str.ofString "pwd") = some (.bytes bpw tpw)) (h6 : m (Str.ofString "salt") = some (.bytes bds tds)) (h7 : m (Str.ofString "pwd_len") = some (.int (pl : Int) tpl)) (h8 : m (Str.ofString "salt_len") = some (.int (sl : Int) tsl)) (h3 : m (Str.ofString "rounds") = some (.int (rn : Int) trn)) (h4 : m (Str.ofString "hash_const") = some (.ref HF)) (h5 : m (Str.ofString "transpose_map") = some (.ref tp)) :
    Fr h₀ L h (fun y => if y = Str.ofString "pwd" then some (.bytes bpw tpw) else if y = Str.ofString "salt" then some (.bytes bds tds) else if y = Str.ofString "pwd_len" then some (.int (pl : Int) tpl) else if y = Str.ofString "salt_len" then some (.int (sl : Int) tsl) else if y = Str.ofString "rounds" then some (.int (rn : Int) trn) else if y = Str.ofString "hash_const" then some (.ref HF) else if y = Str.ofString "transpose_map" then some (.ref tp) else m y) := by
  refine fr_eq F fun y => ?_
  rcases Decidable.em (y = Str.ofString "pwd") with rfl | q2
  · rw [h2]; rfl
  rcases Decidable.em (y = Str.ofString "salt") with rfl | q6
  · rw [h6]; rfl
  rcases Decidable.em (y = Str.ofString "pwd_len") with rfl | q7
  · rw [h7]; rfl
  rcases Decidable.em (y = Str.ofString "salt_len") with rfl | q8
  · rw [h8]; rfl
  rcases Decidable.em (y = Str.ofString "rounds") with rfl | q3
  · rw [h3]; rfl
  rcases Decidable.em (y = Str.ofString "hash_const") with rfl | q4
  · rw [h4]; rfl
  rcases Decidable.em (y = Str.ofString "transpose_map") with rfl | q5
  · rw [h5]; rfl
  simp only [if_neg q2, if_neg q3, if_neg q4, if_neg q5, if_neg q6, if_neg q7, if_neg q8]
section
variable {prog : Program} {w : World} {A : Around} {E : Value → Shared → Prop} {s : Shared} {n : Nat} {t u : Tok}
theorem ishrN {Q : Value → Shared → Prop} (h : Q (.int ((n / 2 : Nat) : Int) s.toks) { s with toks := s.toks + 1 }) : wpAny (model prog w) A (inplaceOp .RShift (.int (n : Int) t) (.int 1 u)) Q E s := irshift_int (by decide) (by rw [show ((2 : Int) ^ (1 : Int).toNat) = 2 from rfl, Int.fdiv_eq_ediv_of_nonneg _ (by decide)]; exact h)
end
theorem fr7 {h₀ h : Heap} {L : Addr} {m : Str → Option Value} {HF tp : Addr} {bds bda : Array UInt8} {tds tda : CbTok} {pl sl rn : Nat} {tpl tsl : Tok} {trn : CbTok} (F : Fr h₀ L h m) (h6 : m (Str.ofString "salt") = some (.bytes bds tds)) (h7 : m (Str.ofString "pwd_len") = some (.int (pl : Int) tpl)) (h8 : m (Str.ofString "salt_len") = some (.int (sl : Int) tsl)) (h2 : m (Str.ofString "da") = some (.bytes bda tda)) (h3 : m (Str.ofString "rounds") = some (.int (rn : Int) trn)) (h4 : m (Str.ofString "hash_const") = some (.ref HF)) (h5 : m (Str.ofString "transpose_map") = some (.ref tp)) :
    Fr h₀ L h (fun y => if y = Str.ofString "salt" then some (.bytes bds tds) else if y = Str.ofString "pwd_len" then some (.int (pl : Int) tpl) else if y = Str.ofString "salt_len" then some (.int (sl : Int) tsl) else if y = Str.ofString "da" then some (.bytes bda tda) else if y = Str.ofString "rounds" then some (.int (rn : Int) trn) else if y = Str.ofString "hash_const" then some (.ref HF) else if y = Str.ofString "transpose_map" then some (.ref tp) else m y) := by
  refine fr_eq F fun y => ?_
  rcases Decidable.em (y = Str.ofString "salt") with rfl | q6
  · rw [h6]; rfl
  rcases Decidable.em (y = Str.ofString "pwd_len") with rfl | q7
  · rw [h7]; rfl
  rcases Decidable.em (y = Str.ofString "salt_len") with rfl | q8
  · rw [h8]; rfl
  rcases Decidable.em (y = Str.ofString "da") with rfl | q2
  · rw [h2]; rfl
  rcases Decidable.em (y = Str.ofString "rounds") with rfl | q3
  · rw [h3]; rfl
  rcases Decidable.em (y = Str.ofString "hash_const") with rfl | q4
  · rw [h4]; rfl
  rcases Decidable.em (y = Str.ofString "transpose_map") with rfl | q5
  · rw [h5]; rfl
  simp only [if_neg q2, if_neg q3, if_neg q4, if_neg q5, if_neg q6, if_neg q7, if_neg q8]
theorem manyI_succ (n : Nat) (ks : List Int) : manyI (n + 1) ks = manyI n ks ++ ks := by
  unfold manyI
  rw [List.replicate_succ', List.flatten_append]
  simp
end
section
theorem zw_R1b_1 : True := by
  k_with_none
  k_with "exec Assign" => (k_here; (fail_if_success (with_reducible show wpAny _ _ _ (CutQ _) _ _)); (refine cutQ fun cutQ0 cutH0 => ?_))
  k_with "exec AugAssign" => (k_here; (fail_if_success (with_reducible show wpAny _ _ _ (CutQ _) _ _)); (refine cutQ fun cutQ0 cutH0 => ?_))
  k_with "exec Expr" => (k_here; (fail_if_success (with_reducible show wpAny _ _ _ (CutQ _) _ _)); (refine cutQ fun cutQ0 cutH0 => ?_))
  k_with "CutQ" => ((with_reducible rename (∀ f s', _ → CutQ _ f s') => cutH1); (refine cutH1 _ _ ?_); clear cutH1; (try dsimp only))
  trivial
open LCg
theorem zw_R1b_2 : True := by
  k_with "compareOp Lt int int" => (k_here; first | (refine ltT (by omega) ?_) | (refine ltF (by omega) ?_))
  k_with "binaryOp Sub int int" => (k_here; (refine subZ ?_); intro _ _)
  k_with "getMethod bytes" => (k_here; (with_reducible show wpAny _ _ (getMethod (Value.bytes _ _) "join" _) _ _ _); (refine bytesMeth slot_join type_join ?_))
  k_with "call builtin:bytes.join" => (k_here; (try dsimp only [List.cons_append, List.nil_append]); (with_reducible show wpAny _ _ (call _ [Value.bytes _ _, Value.ref _]) _ _ _); (refine call_join (by kba_isList) (by assumption) (by omega) ?_); intro _ _ _ bjHₘ818; (try ((rename catI _ = _ => uJ2ₘ818); rw [uJ2ₘ818] at bjHₘ818)))
  k_with "ite" => (k_here; first | with_reducible refine ite_tt ?_ | with_reducible refine ite_ff ?_ | (refine ite_pos (by with_reducible assumption) ?_) | (refine ite_neg (by with_reducible assumption) ?_) | (refine ite_pos (by omega) ?_) | (refine ite_neg (by omega) ?_) | (with_reducible refine split_dec ?_ ?_ <;> intro _))
  k_with "ite" => (k_here; first | with_reducible refine ite_tt ?_ | with_reducible refine ite_ff ?_ | (refine ite_pos (by with_reducible assumption) ?_) | (refine ite_neg (by with_reducible assumption) ?_) | (with_reducible refine split_ieq ?_ ?_ <;> intro _) | (with_reducible refine split_dec ?_ ?_ <;> intro _))
  k_with "callWith ref" => (k_here; (with_reducible show wpAny _ _ (callWith _ (Value.ref HF) _ _ _) _ _ _); (rename Fr _ _ _ _ => uFₘ886); (rename HfAt _ _ => uHₘ886); k_dflt (refine' callWith_F ?_ ?_; (next => exact HfAt.fn uHₘ886 uFₘ886); k_whole))
  k_with "callWith ref" => (k_here; (rename ApOk _ _ _ _ _ _ _ _ => uVₘ290); (rename News _ _ _ _ => uNₘ290); (rename (_ ∈ _ ∧ _ ∈ _ ∧ _ ∈ _) => uMₘ290); k_dflt (refine' callWith_F ?_ ?_; (next => exact FnAt.of uNₘ290 (.tail _ uMₘ290.1)); k_whole))
  k_with "FnAt" => ((rename Fr _ _ _ _ => uFₘ389); (rename HfAt _ _ => uHₘ389); k_dflt (exact HfAt.fn uHₘ389 uFₘ389))
  k_with "FnAt" => ((rename News _ _ _ _ => uNₘ208); (rename (_ ∈ _ ∧ _ ∈ _ ∧ _ ∈ _) => uMₘ208); k_dflt (exact FnAt.of uNₘ208 (.tail _ uMₘ208.1)))
  k_with "call ref" => (k_here; (try dsimp only [List.nil_append, List.cons_append]); (with_reducible show wpAny _ _ (call (Value.ref _) [Value.bytes _ _]) _ _ _); (rename Fr _ _ _ _ => uFₘhk); (rename News _ _ _ _ => uNₘhk); (rename HOk _ _ _ _ _ => uHₘhk); k_dflt (refine' uHₘhk _ _ _ _ _ _ _ _ _ _ _ _ _ _ _ _ _ _ _ _ _ _ _ _ _ (by k_asm) uFₘhk (by k_asm) (by k_asm) (by assumption) (by first | exact rfl | assumption) (by ktr_room) (by ktr_units) (by with_reducible assumption) (by first | (with_reducible assumption) | omega | (simp only [List.length_append]; omega)) ?_; intro h'ₘhk tk'ₘhk rₘhk tₘhk ukₘhk urₘhk ulₘhk; have F'ₘhk := Fr.keptAll uFₘhk ukₘhk; have N'ₘhk := News.grown uNₘhk ukₘhk; clear ukₘhk; (try dsimp only)))
  k_with "call ref" => (k_here; (try dsimp only [List.nil_append, List.cons_append]); (with_reducible show wpAny _ _ (call (Value.ref _) [Value.bytes _ _]) _ _ _); (rename Fr _ _ _ _ => uFₘ102); (rename News _ _ _ _ => uNₘ102); (rename ApOk _ _ _ _ _ _ _ _ => uVₘ102); (rename (_ ∈ _ ∧ _ ∈ _ ∧ _ ∈ _) => uMₘ102); (rename (∀ q ∈ _, Prod.fst q ≠ _) => uneₘ102); k_dflt (refine' uVₘ102 _ _ _ _ _ _ _ _ _ _ _ _ _ _ _ _ _ _ _ _ _ _ _ _ _ _ (by k_asm) uFₘ102 (by k_asm) (by k_asm) (by first | exact rfl | assumption) (by ktr_room) (by ktr_units) (led_of uNₘ102 uMₘ102) (by omega) ?_; intro h'ₘ102 tk'ₘ102 n'ₘ102 F'ₘ102 N1ₘ102 ukₘ102; have N'ₘ102 := ap_back uNₘ102 N1ₘ102 ukₘ102 uneₘ102; clear uFₘ102 uNₘ102 N1ₘ102 ukₘ102; (try dsimp only)))
  k_with "exec While" => (k_here; k_dflt (refine wpAny_While ?_); (refine Hold.out ?_))
  k_with "exec FunctionDef" => (k_here; k_dflt (refine' nestDef_K (by exact rfl) (by exact rfl) (by exact rfl) ?_); (rename Fr _ _ _ _ => uFₘfd); (rename News _ _ _ _ => uNₘfd); k_dflt (refine' nest_K uFₘfd uNₘfd (by k_asm) (by assumption) (by exact rfl) (by k_updF) (by exact True.intro) (by rfl) (by exact rfl) ?_; k_whole); clear uFₘfd uNₘfd; intro f'ₘfd c'ₘfd oc'ₘfd vs'ₘfd t'ₘfd ct'ₘfd dc'ₘfd h'ₘfd tk'ₘfd F'ₘfd N'ₘfd d1'ₘfd d2'ₘfd l1ₘfd l2ₘfd; (try dsimp only at N'ₘfd); (try k_lt l1ₘfd); (try k_lt2 l2ₘfd))
  k_with "eval Name" => (k_here; (with_reducible show wpAny _ _ (eval (Expr.Name (Str.ofString "tmp_ctx") _) _) _ _ _); (rename News _ _ _ _ => uNₘ760); k_dflt (refine' nameX_F uNₘ760 (by rfl) (by k_mem) (by assumption) ?_ (by rfl) (by rfl); k_whole))
  k_with "call builtin:list.append" => (k_here; (with_reducible show wpAny _ _ (call (Value.builtin _) [Value.ref _, _]) _ _ _); (rename Fr _ _ _ _ => uFₘ366); (rename News _ _ _ _ => uNₘ366); k_dflt (refine' append_K uFₘ366 uNₘ366 (by k_upd) ?_ (by (rw [List.size_toArray, sizeLine_eq]; omega)); k_whole); clear uFₘ366 uNₘ366; intro h'ₘ366 F'ₘ366 N'ₘ366)
  k_with "call ref" => (k_here; (with_reducible show wpAny _ _ (call (Value.ref 70) _) _ _ _); (rename Fr _ _ _ _ => uFₘ347); (rename News _ _ _ _ => uNₘ347); (try dsimp only [List.nil_append, List.cons_append]); k_dflt (refine' c_rep _ _ _ _ _ _ _ _ _ _ _ _ _ _ _ _ _ _ _ _ _ _ _ _ _ _ _ _ (by k_asm) uFₘ347 (by k_asm) (by k_asm) (by first | exact rfl | assumption) (by ktr_room) (by ktr_units) (by first | (with_reducible assumption) | omega | (exact rfl) | (simp only [List.length_append, List.length_map, List.length_take, List.length_cons, List.length_nil]; omega) | (simp only [List.length_append, List.length_map, List.length_cons, List.length_nil] at *; omega)) (by first | (with_reducible assumption) | omega | (exact rfl) | (simp only [List.length_append, List.length_map, List.length_take, List.length_cons, List.length_nil]; omega) | (simp only [List.length_append, List.length_map, List.length_cons, List.length_nil] at *; omega)) (by first | (with_reducible assumption) | omega | (exact rfl) | (simp only [List.length_append, List.length_map, List.length_take, List.length_cons, List.length_nil]; omega) | (simp only [List.length_append, List.length_map, List.length_cons, List.length_nil] at *; omega)) (by first | (with_reducible assumption) | omega | (exact rfl) | (simp only [List.length_append, List.length_map, List.length_take, List.length_cons, List.length_nil]; omega) | (simp only [List.length_append, List.length_map, List.length_cons, List.length_nil] at *; omega)) ?_; intro h'ₘ347 tk'ₘ347 ukₘ347 urₘ347 utₘ347 u0ₘ347; have F'ₘ347 := Fr.keptAll uFₘ347 ukₘ347; have N'ₘ347 := News.grown uNₘ347 ukₘ347; clear ukₘ347; (try dsimp only); (try k_fold)))
  k_with "callWith ref" => (k_here; (with_reducible show wpAny _ _ (callWith _ (Value.ref 70) _ _ _) _ _ _); k_dflt (refine' callWith_K (by k_asm) (by k_is) ?_; k_whole))
  k_with "execs cons" => (k_here; (with_reducible show wpAny _ _ (execs [Stmt.Assert _ _ _, Stmt.Assign _ _ _, Stmt.Assert _ _ _, Stmt.Assign _ _ _, Stmt.Assign _ _ _, Stmt.Assign _ _ _, Stmt.Assign _ _ _, Stmt.Assign _ _ _, Stmt.Assign _ _ _, Stmt.While _ _ _ _, Stmt.If _ _ _ _, Stmt.Return _ _] _) _ _ _); (refine Hold.out ?_))
  trivial
theorem r16b : ∀ (w : World) (p : Program) (loose : List Str) (mean : ExcName → Option Value) (mg mb : Str → Option Value) (hb : Heap) (HF : Addr) (hf : List Int → List Int) (sz : Nat) (la : Addr) (na : Nat) (ys : List Value) (oP oA oT : Obj) (vP vT : Option Value) (c9 : Addr) (bpw : Array UInt8) (tpw : CbTok) (pk : List Int) (bss : Array UInt8) (tss : CbTok) (ss : List Int) (pl sl : Nat) (tpl tsl : Tok) (da : List Int) (rn : Nat) (trn : CbTok) (tp : Addr) (tvs : List Value) (off : List Int) (m0 : Str → Option Value)
  (dp un : Nat) (gd : Option (List Code)) (outer : List Env) (A₀ : Around) (base h₀ : Heap) (L : Addr) (s : Shared) (Q : Flow → Shared → Prop) (E : Value → Shared → Prop)
  (B : Below A₀ base outer h₀) (F : Fr h₀ L s.heap (fun y => if y = Str.ofString "pwd" then some (.bytes bpw tpw) else if y = Str.ofString "salt" then some (.bytes bss tss) else if y = Str.ofString "pwd_len" then some (.int (pl : Int) tpl) else if y = Str.ofString "salt_len" then some (.int (sl : Int) tsl) else if y = Str.ofString "rounds" then some (.int (rn : Int) trn) else if y = Str.ofString "hash_const" then some (.ref HF) else if y = Str.ofString "transpose_map" then some (.ref tp) else m0 y)) (X : (KF w.params).In h₀) (T : Top p loose mean mg mb h₀)
  (N : News h₀ L s.heap [(la, listOf ys.toArray na), (L + 1, oP), (L + 1 + 1, oA), (L + 1 + 1 + 1, oT), (123, tabObj #[]), (669, tabObj (#[] ++ #[rawInt ((212 : Nat) : Int), rawInt ((4 : Nat) : Int), Value.ref c9]))]) (hoP : oP.data = .cell vP) (hoA : oA.data = .cell (some (.ref la))) (hoT : oT.data = .cell vT) (hdp : dp + 30 < recursionLimit) (hun : un + 100 < cLine)
  (hH : HOk w hb HF hf sz) (hkb : ∀ b o, hb.get? b = some o → h₀.get? b = some o) (hHf : HfAt h₀ HF) (hAll : AllBytes ys) (hcat : catI ys = da) (hys : (ys.map fun v => (bOf v).size).sum ≤ 16777216) (hdal : da.length ≤ 20000) (hbp : KBw.bInts bpw = pk) (hbs : KBw.bInts bss = ss) (hpl : pk.length = pl) (hsl : ss.length = sl) (hlp : pk.length ≤ 104) (hls : ss.length ≤ 16) (hrn : rn ≤ 99) (hsz : sz = 32 ∨ sz = 64)
  (hT : TupOk w tp tvs off) (ho : off.length = sz) (hC : CodeHd h₀ 671 669) (h123 : @LT.lt Nat _ 123 L) (h669 : @LT.lt Nat _ 669 L) (hla : @LT.lt Nat _ (L + 1 + 1 + 1) la) (hp96 : 96 ≤ pl)
  (hret : ∀ h' tk' gs' t' m', Fr h₀ L h' m' → GK s.gens gs' → (∃ ps, h'.get? 123 = some (tabObj ps)) → (∃ ps, h'.get? 669 = some (tabObj ps)) → Q (.ret (.str ⟨(((encI (pickI (roundsI hf (prsI (KF w.params) (repI (hf (manyI pl pk)) pl) (dsI hf ss (hf da))) rn (hf da)) off)).map signI).map Int.toNat).toArray⟩ t')) { s with heap := h', toks := tk', gens := gs' }),
  wpAny (model rw_iw0011_01.row.prog w) (rsA (KF w.params) L dp un gd outer) (execs ((bodyAt (KF w.params) 672).drop 16) (rsE (KF w.params) L)) Q E s := by
  k_fill
  intro w p loose mean mg mb hb HF hf sz la na ys oP oA oT vP vT c9 bpw tpw pk bss tss ss pl sl tpl tsl da rn trn tp tvs off m0 dp un gd outer A₀ base h₀ L s Q E B F X T N hoP hoA hoT hdp hun hH hkb hHf hAll hcat hys hdal hbp hbs hpl hsl hlp hls hrn hsz hT ho hC h123 h669 hla hp96 hret
  have hH9 := hH
  have hHf9 := hHf
  refine wpAny_execs_cons ?_
  k_steps
  rename_i l6 _ l1a _ o6 d6 _ t7 _ h6 F6 N6
  refine with_ap (w := w) (Cv := L + 1 + 1 + 1) (oC := o6) (vs := [.bytes bpw tpw]) N6 F6 ?ap (.tail _ (.tail _ (.tail _ (.head _)))) (Nat.ne_of_gt (by omega)) (Nat.ne_of_gt (by omega)) ?ne ?k
  case ne =>
    intro q hq
    simp only [List.mem_cons, List.not_mem_nil, or_false] at hq
    rcases hq with rfl | rfl | rfl | rfl | rfl | rfl <;> exact Nat.ne_of_lt (by simp only; omega)
  case ap =>
    clear F6 hret
    intro p2 loose2 mean2 mg2 mb2 dp2 un2 gd2 cn2 cs2 a2 ccd2 cl2 outer2 A2 base2 h2 L2 m2 s2 Q2 E2 b2 tb2 zs2 n2 B2 F2 X2 T2 hcs2 hdp2 hun2 N2 hl2 hret2
    clear N6 B X T hT hC hAll
    refine wpAny_call ?_
    refine' nestE (binds := [(Str.ofString "content", .bytes b2 tb2)]) B2 F2 X2 N2 T2 rfl rfl hcs2 (.head _) (codeRec_news N2 (.tail _ (.head _)) d1'ₘfd d2'ₘfd) ?_ (BindsTo.of_eq rfl) (locs rfl) ?_ rfl rfl rfl (by decide)
    · exact (by omega : dp2 < recursionLimit)
    generalize hg3 : hideAll s2.heap _ = g3
    intro L3 h3 F3 N3 B3 X3 T3
    dsimp only
    k_steps
    (with_reducible rename Fr _ _ _ _ => F7)
    (with_reducible rename News _ _ _ _ => N7)
    simp only [List.push_toArray] at N7
    subst hg3
    obtain ⟨z1, z2, z3⟩ := nv_done F2 N2 F7 N7
    exact hret2 _ _ _ z1 z2 z3
  case k =>
    intro M6 R6 hM6 hR6 hAp uM une N7 F7
    clear F6 N6
    refine Hold.out (P := codeAny _ _ _ _ _) ?_
    refine while_I (fun j s' => ∃ h tk zs nz tj, s' = { s with heap := h, toks := tk } ∧ j + zs.length = pl ∧ AllBytes zs ∧ catI zs = manyI zs.length pk ∧ Fr h₀ L h (mI f'ₘfd (j : Int) tj bpw tpw M6) ∧ News h₀ L h ((l6, listOf zs.toArray nz) :: R6)) ?turn (pl - 1) ?start
    case start =>
      have e1 : ((pl : Int) - 1) = ((pl - 1 : Nat) : Int) := by omega
      refine ⟨_, _, [.bytes bpw tpw], 0, t7, rfl, by simp; omega, ?_, ?_, frI F7 ?_ ?_ ?_, N7⟩
      · intro v hv; rw [List.mem_singleton.mp hv]; exact ⟨_, _, rfl⟩
      · simp [catI, bOf, manyI, hbp]
      · subst hM6; rw [← e1]; rfl
      · subst hM6; rfl
      · subst hM6; rfl
    case turn =>
      clear F7 N7
      intro j s' E9 hI
      obtain ⟨h, tk, zs, nz, tj, rfl, hj, hzA, hzc, F1, N1⟩ := hI
      cases j with
      | zero =>
        have hlz : zs.length = pl := by omega
        have hcz : catI zs = manyI pl pk := by rw [hzc, hlz]
        have hszz : (zs.map fun v => (bOf v).size).sum ≤ 16777216 := by
          rw [sum_cat, hcz, manyI_length]
          exact Nat.le_trans (Nat.mul_le_mul (show pl ≤ 104 by omega) hlp) (by decide)
        have hmz : (manyI pl pk).length ≤ 20000 := by
          rw [manyI_length]
          exact Nat.le_trans (Nat.mul_le_mul (show pl ≤ 104 by omega) hlp) (by decide)
        subst hR6
        have F2 := fr7 (tpl := tpl) (tsl := tsl) (trn := trn) F1 (by subst hM6; rfl) (by subst hM6; rfl) (by subst hM6; rfl) (by subst hM6; rfl) (by subst hM6; rfl) (by subst hM6; rfl) (by subst hM6; rfl)
        clear F1 hAp uM une hAll
        k_steps
        (with_reducible rename Fr _ _ _ _ => F8)
        (with_reducible rename News _ _ _ _ => N8)
        (with_reducible rename (KBw.bInts _ = repI _ _) => u9)
        (with_reducible rename (KBw.bInts _ = hf da) => a9)
        (with_reducible rename (List.length (hf (manyI _ _)) = sz) => l9)
        (with_reducible rename (List.length (hf da) = sz) => l8)
        (with_reducible rename HOk _ _ _ _ _ => hH8)
        (with_reducible rename HfAt _ _ => hHf8)
        refine Hold.out (P := wpAny _ _ _ _ _ _) ?_
        have l7 : (repI (hf (manyI pl pk)) pl).length = pl := repI_length (by omega)
        refine r18 w p loose mean mg mb hb HF hf sz oP vP (tabObj (#[] ++ #[rawInt ((212 : Nat) : Int), rawInt ((4 : Nat) : Int), Value.ref c9] ++ #[rawInt ((225 : Nat) : Int), rawInt ((8 : Nat) : Int), Value.ref c'ₘfd])) _ _ (repI (hf (manyI pl pk)) pl) bss tss ss pl sl tpl tsl _ _ (hf da) rn trn tp tvs off _ dp un gd outer A₀ base h₀ L _ Q E B (fr8 F8 rfl rfl rfl rfl rfl rfl rfl rfl) X T (fun q hq => N8 q ?_) hoP hdp hun hH8 hkb hHf8 u9 hbs l7 hsl (by omega) hls hrn a9 l8 hsz hT ho h123 h669 (fun h' tk' gs' t' m' F' hg hps h9 => hret h' tk' gs' t' m' F' hg hps ⟨_, h9⟩)
        simp only [List.mem_cons, List.not_mem_nil, or_false] at hq
        rcases hq with h | h | h <;> subst h
        · exact .tail _ (.tail _ (.tail _ (.tail _ (.head _))))
        · exact .tail _ (.tail _ (.tail _ (.tail _ (.tail _ (.tail _ (.tail _ (.head _)))))))
        · exact .tail _ (.tail _ (.tail _ (.tail _ (.tail _ (.tail _ (.tail _ (.tail _ (.head _))))))))
      | succ j =>
        have hz2 : zs.length ≤ 1000 := by omega
        have hne : (((j + 1 : Nat) : Int) != 0) = true := bne_iff_ne.mpr (by omega)
        clear hR6 hM6
        k_steps
        (with_reducible rename Fr _ _ _ _ => F8)
        (with_reducible rename News _ _ _ _ => N8)
        have e2 : (((j + 1 : Nat) : Int) - 1) = (j : Int) := by omega
        rw [e2] at F8
        exact ⟨rfl, j, Nat.lt_succ_self _, _, _, zs ++ [.bytes bpw tpw], _, _, rfl, by rw [List.length_append, List.length_singleton]; omega, all_snoc hzA, by rw [catI_snoc, hzc, hbp, List.length_append]; exact (manyI_succ _ _).symm, frI2 F8, N8⟩
end
section
theorem zw_R1_1 : True := by
  k_with_none
  k_with "exec Assign" => (k_here; (fail_if_success (with_reducible show wpAny _ _ _ (CutQ _) _ _)); (refine cutQ fun cutQ0 cutH0 => ?_))
  k_with "exec AugAssign" => (k_here; (fail_if_success (with_reducible show wpAny _ _ _ (CutQ _) _ _)); (refine cutQ fun cutQ0 cutH0 => ?_))
  k_with "exec Expr" => (k_here; (fail_if_success (with_reducible show wpAny _ _ _ (CutQ _) _ _)); (refine cutQ fun cutQ0 cutH0 => ?_))
  k_with "CutQ" => ((with_reducible rename (∀ f s', _ → CutQ _ f s') => cutH1); (refine cutH1 _ _ ?_); clear cutH1; (try dsimp only))
  trivial
open LCg
theorem zw_R1_2 : True := by
  k_with "binaryOp Add bytes bytes" => (k_here; (with_reducible show wpAny _ _ (binaryOp Operator.Add (Value.bytes _ _) (Value.bytes _ _)) _ _ _); (refine' KBa.add_K (by first | (with_reducible assumption) | exact KBw.ints_list _ | kba_ints2) (by first | (with_reducible assumption) | exact KBw.ints_list _ | kba_ints2) (by first | omega | (simp only [List.length_append, List.length_map, List.length_take, List.length_nil, List.length_cons]; omega) | kba_size) ?_); intro _ _ kbaAppₘab)
  k_with "ite" => (k_here; first | with_reducible refine ite_tt ?_ | with_reducible refine ite_ff ?_ | (refine ite_pos (by with_reducible assumption) ?_) | (refine ite_neg (by with_reducible assumption) ?_) | (refine ite_pos (by omega) ?_) | (refine ite_neg (by omega) ?_) | (with_reducible refine split_dec ?_ ?_ <;> intro _))
  k_with "ite" => (k_here; first | with_reducible refine ite_tt ?_ | with_reducible refine ite_ff ?_ | (refine ite_pos (by with_reducible assumption) ?_) | (refine ite_neg (by with_reducible assumption) ?_) | (with_reducible refine split_ieq ?_ ?_ <;> intro _) | (with_reducible refine split_dec ?_ ?_ <;> intro _))
  k_with "callWith ref" => (k_here; (with_reducible show wpAny _ _ (callWith _ (Value.ref HF) _ _ _) _ _ _); (rename Fr _ _ _ _ => uFₘ886); (rename HfAt _ _ => uHₘ886); k_dflt (refine' callWith_F ?_ ?_; (next => exact HfAt.fn uHₘ886 uFₘ886); k_whole))
  k_with "callWith ref" => (k_here; (rename ApOk _ _ _ _ _ _ _ _ => uVₘ290); (rename News _ _ _ _ => uNₘ290); (rename (_ ∈ _ ∧ _ ∈ _ ∧ _ ∈ _) => uMₘ290); k_dflt (refine' callWith_F ?_ ?_; (next => exact FnAt.of uNₘ290 (.tail _ uMₘ290.1)); k_whole))
  k_with "FnAt" => ((rename Fr _ _ _ _ => uFₘ389); (rename HfAt _ _ => uHₘ389); k_dflt (exact HfAt.fn uHₘ389 uFₘ389))
  k_with "FnAt" => ((rename News _ _ _ _ => uNₘ208); (rename (_ ∈ _ ∧ _ ∈ _ ∧ _ ∈ _) => uMₘ208); k_dflt (exact FnAt.of uNₘ208 (.tail _ uMₘ208.1)))
  k_with "call ref" => (k_here; (try dsimp only [List.nil_append, List.cons_append]); (with_reducible show wpAny _ _ (call (Value.ref _) [Value.bytes _ _]) _ _ _); (rename Fr _ _ _ _ => uFₘhk); (rename News _ _ _ _ => uNₘhk); (rename HOk _ _ _ _ _ => uHₘhk); k_dflt (refine' uHₘhk _ _ _ _ _ _ _ _ _ _ _ _ _ _ _ _ _ _ _ _ _ _ _ _ _ (by k_asm) uFₘhk (by k_asm) (by k_asm) (by assumption) (by first | exact rfl | assumption) (by ktr_room) (by ktr_units) (by with_reducible assumption) (by first | (with_reducible assumption) | omega | (simp only [List.length_append]; omega)) ?_; intro h'ₘhk tk'ₘhk rₘhk tₘhk ukₘhk urₘhk ulₘhk; have F'ₘhk := Fr.keptAll uFₘhk ukₘhk; have N'ₘhk := News.grown uNₘhk ukₘhk; clear ukₘhk; (try dsimp only)))
  k_with "call ref" => (k_here; (try dsimp only [List.nil_append, List.cons_append]); (with_reducible show wpAny _ _ (call (Value.ref _) [Value.bytes _ _]) _ _ _); (rename Fr _ _ _ _ => uFₘ102); (rename News _ _ _ _ => uNₘ102); (rename ApOk _ _ _ _ _ _ _ _ => uVₘ102); (rename (_ ∈ _ ∧ _ ∈ _ ∧ _ ∈ _) => uMₘ102); (rename (∀ q ∈ _, Prod.fst q ≠ _) => uneₘ102); k_dflt (refine' uVₘ102 _ _ _ _ _ _ _ _ _ _ _ _ _ _ _ _ _ _ _ _ _ _ _ _ _ _ (by k_asm) uFₘ102 (by k_asm) (by k_asm) (by first | exact rfl | assumption) (by ktr_room) (by ktr_units) (led_of uNₘ102 uMₘ102) (by omega) ?_; intro h'ₘ102 tk'ₘ102 n'ₘ102 F'ₘ102 N1ₘ102 ukₘ102; have N'ₘ102 := ap_back uNₘ102 N1ₘ102 ukₘ102 uneₘ102; clear uFₘ102 uNₘ102 N1ₘ102 ukₘ102; (try dsimp only)))
  k_with "exec While" => (k_here; k_dflt (refine wpAny_While ?_); (refine Hold.out ?_))
  k_with "exec FunctionDef" => (k_here; k_dflt (refine' nestDef_K (by exact rfl) (by exact rfl) (by exact rfl) ?_); (rename Fr _ _ _ _ => uFₘfd); (rename News _ _ _ _ => uNₘfd); k_dflt (refine' nest_K uFₘfd uNₘfd (by k_asm) (by assumption) (by exact rfl) (by k_updF) (by exact True.intro) (by rfl) (by exact rfl) ?_; k_whole); clear uFₘfd uNₘfd; intro f'ₘfd c'ₘfd oc'ₘfd vs'ₘfd t'ₘfd ct'ₘfd dc'ₘfd h'ₘfd tk'ₘfd F'ₘfd N'ₘfd d1'ₘfd d2'ₘfd l1ₘfd l2ₘfd; (try dsimp only at N'ₘfd); (try k_lt l1ₘfd); (try k_lt2 l2ₘfd))
  k_with "eval Name" => (k_here; (with_reducible show wpAny _ _ (eval (Expr.Name (Str.ofString "a_ctx") _) _) _ _ _); (rename News _ _ _ _ => uNₘ171); k_dflt (refine' nameX_F uNₘ171 (by rfl) (by k_mem) (by assumption) ?_ (by rfl) (by rfl); k_whole))
  k_with "call builtin:list.append" => (k_here; (with_reducible show wpAny _ _ (call (Value.builtin _) [Value.ref _, _]) _ _ _); (rename Fr _ _ _ _ => uFₘ366); (rename News _ _ _ _ => uNₘ366); k_dflt (refine' append_K uFₘ366 uNₘ366 (by k_upd) ?_ (by (rw [List.size_toArray, sizeLine_eq]; omega)); k_whole); clear uFₘ366 uNₘ366; intro h'ₘ366 F'ₘ366 N'ₘ366)
  k_with "call ref" => (k_here; (with_reducible show wpAny _ _ (call (Value.ref 70) _) _ _ _); (rename Fr _ _ _ _ => uFₘ347); (rename News _ _ _ _ => uNₘ347); (try dsimp only [List.nil_append, List.cons_append]); k_dflt (refine' c_rep _ _ _ _ _ _ _ _ _ _ _ _ _ _ _ _ _ _ _ _ _ _ _ _ _ _ _ _ (by k_asm) uFₘ347 (by k_asm) (by k_asm) (by first | exact rfl | assumption) (by ktr_room) (by ktr_units) (by first | (with_reducible assumption) | omega | (exact rfl) | (simp only [List.length_append, List.length_map, List.length_take, List.length_cons, List.length_nil]; omega) | (simp only [List.length_append, List.length_map, List.length_cons, List.length_nil] at *; omega)) (by first | (with_reducible assumption) | omega | (exact rfl) | (simp only [List.length_append, List.length_map, List.length_take, List.length_cons, List.length_nil]; omega) | (simp only [List.length_append, List.length_map, List.length_cons, List.length_nil] at *; omega)) (by first | (with_reducible assumption) | omega | (exact rfl) | (simp only [List.length_append, List.length_map, List.length_take, List.length_cons, List.length_nil]; omega) | (simp only [List.length_append, List.length_map, List.length_cons, List.length_nil] at *; omega)) (by first | (with_reducible assumption) | omega | (exact rfl) | (simp only [List.length_append, List.length_map, List.length_take, List.length_cons, List.length_nil]; omega) | (simp only [List.length_append, List.length_map, List.length_cons, List.length_nil] at *; omega)) ?_; intro h'ₘ347 tk'ₘ347 ukₘ347 urₘ347 utₘ347 u0ₘ347; have F'ₘ347 := Fr.keptAll uFₘ347 ukₘ347; have N'ₘ347 := News.grown uNₘ347 ukₘ347; clear ukₘ347; (try dsimp only); (try k_fold)))
  k_with "callWith ref" => (k_here; (with_reducible show wpAny _ _ (callWith _ (Value.ref 70) _ _ _) _ _ _); k_dflt (refine' callWith_K (by k_asm) (by k_is) ?_; k_whole))
  k_with "inplaceOp RShift int int" => (k_here; with_reducible refine ishrN ?_)
  k_with "binaryOp BitAnd int int" => (k_here; with_reducible refine andN ?_)
  k_with "execs cons" => (k_here; (with_reducible show wpAny _ _ (execs [Stmt.Expr _ _, Stmt.Assign _ _ _, Stmt.While _ _ _ _, Stmt.Assign _ _ _, Stmt.If _ _ _ _, Stmt.Assert _ _ _, Stmt.Assign _ _ _, Stmt.Assert _ _ _, Stmt.Assign _ _ _, Stmt.Assign _ _ _, Stmt.Assign _ _ _, Stmt.Assign _ _ _, Stmt.Assign _ _ _, Stmt.Assign _ _ _, Stmt.While _ _ _ _, Stmt.If _ _ _ _, Stmt.Return _ _] _) _ _ _); (refine Hold.out ?_))
  k_with "execs cons" => (k_here; (with_reducible show wpAny _ _ (execs [Stmt.Assign _ _ _, Stmt.If _ _ _ _, Stmt.Assert _ _ _, Stmt.Assign _ _ _, Stmt.Assert _ _ _, Stmt.Assign _ _ _, Stmt.Assign _ _ _, Stmt.Assign _ _ _, Stmt.Assign _ _ _, Stmt.Assign _ _ _, Stmt.Assign _ _ _, Stmt.While _ _ _ _, Stmt.If _ _ _ _, Stmt.Return _ _] _) _ _ _); (refine Hold.out ?_))
  trivial
theorem r10 : ∀ (w : World) (p : Program) (loose : List Str) (mean : ExcName → Option Value) (mg mb : Str → Option Value) (hb : Heap) (HF : Addr) (hf : List Int → List Int) (sz : Nat) (oP oA oT : Obj) (vP vA vT : Option Value) (bpw : Array UInt8) (tpw : CbTok) (pk : List Int) (bss : Array UInt8) (tss : CbTok) (ss : List Int) (pl sl : Nat) (tpl tsl : Tok) (rn : Nat) (trn : CbTok) (tp : Addr) (tvs : List Value) (off : List Int) (m0 : Str → Option Value)
  (dp un : Nat) (gd : Option (List Code)) (outer : List Env) (A₀ : Around) (base h₀ : Heap) (L : Addr) (s : Shared) (Q : Flow → Shared → Prop) (E : Value → Shared → Prop)
  (B : Below A₀ base outer h₀) (F : Fr h₀ L s.heap (fun y => if y = Str.ofString "pwd" then some (.bytes bpw tpw) else if y = Str.ofString "salt" then some (.bytes bss tss) else if y = Str.ofString "pwd_len" then some (.int (pl : Int) tpl) else if y = Str.ofString "salt_len" then some (.int (sl : Int) tsl) else if y = Str.ofString "rounds" then some (.int (rn : Int) trn) else if y = Str.ofString "hash_const" then some (.ref HF) else if y = Str.ofString "transpose_map" then some (.ref tp) else m0 y)) (X : (KF w.params).In h₀) (T : Top p loose mean mg mb h₀)
  (N : News h₀ L s.heap [(L + 1, oP), (L + 1 + 1, oA), (L + 1 + 1 + 1, oT), (123, tabObj #[]), (669, tabObj #[])]) (hoP : oP.data = .cell vP) (hoA : oA.data = .cell vA) (hoT : oT.data = .cell vT) (hdp : dp + 30 < recursionLimit) (hun : un + 100 < cLine)
  (hH : HOk w hb HF hf sz) (hkb : ∀ b o, hb.get? b = some o → h₀.get? b = some o) (hHf : HfAt h₀ HF) (hbp : KBw.bInts bpw = pk) (hbs : KBw.bInts bss = ss) (hpl : pk.length = pl) (hsl : ss.length = sl) (hlp : pk.length ≤ 104) (hls : ss.length ≤ 16) (hrn : rn ≤ 99) (hsz : sz = 32 ∨ sz = 64)
  (hT : TupOk w tp tvs off) (ho : off.length = sz) (hC : CodeHd h₀ 671 669) (h123 : @LT.lt Nat _ 123 L) (h669 : @LT.lt Nat _ 669 L)
  (hret : ∀ h' tk' gs' t' m', Fr h₀ L h' m' → GK s.gens gs' → (∃ ps, h'.get? 123 = some (tabObj ps)) → (∃ ps, h'.get? 669 = some (tabObj ps)) → Q (.ret (.str ⟨(((encI (pickI (roundsI hf (prsI (KF w.params) (repI (hf (manyI pl pk)) pl) (dsI hf ss (hf (pk ++ ss ++ repI (hf (pk ++ ss ++ pk)) pl ++ bitsI (hf (pk ++ ss ++ pk)) pk pl)))) rn (hf (pk ++ ss ++ repI (hf (pk ++ ss ++ pk)) pl ++ bitsI (hf (pk ++ ss ++ pk)) pk pl))) off)).map signI).map Int.toNat).toArray⟩ t')) { s with heap := h', toks := tk', gens := gs' }),
  wpAny (model rw_iw0011_01.row.prog w) (rsA (KF w.params) L dp un gd outer) (execs ((bodyAt (KF w.params) 672).drop 10) (rsE (KF w.params) L)) Q E s := by
  k_fill
  intro w p loose mean mg mb hb HF hf sz oP oA oT vP vA vT bpw tpw pk bss tss ss pl sl tpl tsl rn trn tp tvs off m0 dp un gd outer A₀ base h₀ L s Q E B F X T N hoP hoA hoT hdp hun hH hkb hHf hbp hbs hpl hsl hlp hls hrn hsz hT ho hC h123 h669 hret
  have hH9 := hH
  have hHf9 := hHf
  refine wpAny_execs_cons ?_
  k_steps
  rename_i t60 _ l6 _ l1a _ o6 d6 _ F6 N6
  refine with_ap (w := w) (Cv := L + 1 + 1) (oC := o6) (vs := [.bytes (bpw ++ bss) t60]) N6 F6 ?ap (.tail _ (.head _)) (Nat.ne_of_gt (by omega)) (Nat.ne_of_gt (by omega)) ?ne ?k
  case ne =>
    intro q hq
    simp only [List.mem_cons, List.not_mem_nil, or_false] at hq
    rcases hq with rfl | rfl | rfl | rfl | rfl <;> exact Nat.ne_of_lt (by simp only; omega)
  case ap =>
    clear F6 hret
    intro p2 loose2 mean2 mg2 mb2 dp2 un2 gd2 cn2 cs2 a2 ccd2 cl2 outer2 A2 base2 h2 L2 m2 s2 Q2 E2 b2 tb2 zs2 n2 B2 F2 X2 T2 hcs2 hdp2 hun2 N2 hl2 hret2
    clear N6 B X T hT hC
    refine wpAny_call ?_
    refine' nestE (binds := [(Str.ofString "content", .bytes b2 tb2)]) B2 F2 X2 N2 T2 rfl rfl hcs2 (.head _) (codeRec_news N2 (.tail _ (.head _)) d1'ₘfd d2'ₘfd) ?_ (BindsTo.of_eq rfl) (locs rfl) ?_ rfl rfl rfl (by decide)
    · exact (by omega : dp2 < recursionLimit)
    generalize hg3 : hideAll s2.heap _ = g3
    intro L3 h3 F3 N3 B3 X3 T3
    dsimp only
    k_steps
    (with_reducible rename Fr _ _ _ _ => F7)
    (with_reducible rename News _ _ _ _ => N7)
    simp only [List.push_toArray] at N7
    subst hg3
    obtain ⟨z1, z2, z3⟩ := nv_done F2 N2 F7 N7
    exact hret2 _ _ _ z1 z2 z3
  case k =>
    intro M6 R6 hM6 hR6 hAp uM une N7 F7
    clear F6 N6
    have F8 := frJ0 (db := rₘhk) (tdb := tₘhk) (pl := pl) (tpl := tpl) F7 (by subst hM6; rfl) (by subst hM6; rfl) (by subst hM6; rfl) (by subst hM6; rfl)
    clear F7
    refine Hold.out (P := wpAny _ _ _ _ _ _) ?_
    refine wpAny_execs_cons ?_
    have hz1 : ([Value.bytes (bpw ++ bss) t60] : List Value).length ≤ 1000 := by simp
    k_steps
    (with_reducible rename Fr _ _ _ _ => F9)
    (with_reducible rename News _ _ _ _ => N9)
    (with_reducible rename (KBw.bInts _ = repI _ _) => u9)
    refine Hold.out (P := codeAny _ _ _ _ _) ?_
    obtain ⟨dbk, hdbk⟩ : ∃ dbk, dbk = hf (pk ++ ss ++ pk) := ⟨_, rfl⟩
    rw [← hdbk] at urₘhk ulₘhk u9
    have hdb9 : dbk.length ≤ 64 := by omega
    obtain ⟨TT, hTT⟩ : ∃ TT, TT = pk ++ ss ++ repI dbk pl ++ bitsI dbk pk pl := ⟨_, rfl⟩
    rw [← hdbk, ← hTT] at hret
    have hTl : TT.length ≤ 2000 := by
      rw [hTT]
      have b1 := bitsI_length dbk pk (by omega) hlp pl (by omega)
      have b2 : (repI dbk pl).length ≤ pl := by unfold repI; rw [List.length_take]; exact Nat.min_le_left _ _
      simp only [List.length_append]
      omega
    refine while_I (fun j s' => ∃ h tk zs nz tj, s' = { s with heap := h, toks := tk } ∧ j ≤ pl ∧ zs.length + j ≤ 2 + pl ∧ AllBytes zs ∧ catI zs ++ bitsI dbk pk j = TT ∧ Fr h₀ L h (mJ f'ₘfd (j : Int) tj rₘhk tₘhk bpw tpw pl tpl M6) ∧ News h₀ L h ((l6, listOf zs.toArray nz) :: R6)) ?turn pl ?start
    case start =>
      refine ⟨_, _, _, _, _, rfl, Nat.le_refl _, by simp, ?_, ?_, F9, N9⟩
      · exact all_snoc (fun v hv => by rw [List.mem_singleton.mp hv]; exact ⟨_, _, rfl⟩)
      · rw [catI_snoc, u9, hTT, ← kbaAppₘab]
        simp [catI, bOf]
    case turn =>
      clear F9 N9
      intro j s' E9 hI
      obtain ⟨h, tk, zs, nz, tj, rfl, hjp, hj, hzA, hzc, F1, N1⟩ := hI
      have hz2 : zs.length ≤ 1000 := by omega
      cases j with
      | zero =>
        k_steps
        refine Hold.out (P := wpAny _ _ _ _ _ _) ?_
        have hcz : catI zs = TT := by
          rw [bitsI, dif_pos rfl, List.append_nil] at hzc; exact hzc
        have hszz : (zs.map fun v => (bOf v).size).sum ≤ 16777216 := by
          rw [sum_cat, hcz]; omega
        (with_reducible rename HOk _ _ _ _ _ => hH8)
        (with_reducible rename HfAt _ _ => hHf8)
        have F2 := fr16 (bds := bss) (tds := tss) (sl := sl) (tsl := tsl) (rn := rn) (trn := trn) (HF := HF) (tp := tp) F1 rfl (by subst hM6; rfl) rfl (by subst hM6; rfl) (by subst hM6; rfl) (by subst hM6; rfl) (by subst hM6; rfl)
        have N2 : News h₀ L h [(l6, listOf zs.toArray nz), (L + 1, oP), (L + 1 + 1, o6), (L + 1 + 1 + 1, oT), (123, tabObj #[]), (669, tabObj (#[] ++ #[rawInt ((212 : Nat) : Int), rawInt ((4 : Nat) : Int), Value.ref c'ₘfd]))] := by
          subst hR6
          intro q hq
          refine N1 q ?_
          rcases List.mem_cons.mp hq with rfl | hq
          · exact .head _
          · exact .tail _ (.tail _ (.tail _ hq))
        rcases Nat.lt_or_ge pl 96 with h96 | h96
        · exact r16 w p loose mean mg mb hb HF hf sz l6 nz zs oP o6 oT vP vT _ bpw tpw pk bss tss ss pl sl tpl tsl TT rn trn tp tvs off _ dp un gd outer A₀ base h₀ L { s with heap := h, toks := tk } Q E B F2 X T N2 hoP d6 hoT hdp hun hH8 hkb hHf8 hzA hcz hszz (by omega) hbp hbs hpl hsl hlp hls hrn hsz hT ho h123 h669 h96 (fun h' tk' gs' t' m' F' hg hps h9 => hret h' tk' gs' t' m' F' hg hps ⟨_, h9⟩)
        · exact r16b w p loose mean mg mb hb HF hf sz l6 nz zs oP o6 oT vP vT c'ₘfd bpw tpw pk bss tss ss pl sl tpl tsl TT rn trn tp tvs off _ dp un gd outer A₀ base h₀ L { s with heap := h, toks := tk } Q E B F2 X T N2 hoP d6 hoT hdp hun hH8 hkb hHf8 hzA hcz hszz (by omega) hbp hbs hpl hsl hlp hls hrn hsz hT ho hC h123 h669 (by omega) h96 hret
      | succ j =>
        have hne : (((j + 1 : Nat) : Int) != 0) = true := bne_iff_ne.mpr (by omega)
        clear hR6 hM6
        k_steps
        · (with_reducible rename Fr _ _ _ _ => F8)
          (with_reducible rename News _ _ _ _ => N8)
          rw [bitsI_pos _ _ (Nat.succ_pos j), if_pos (by omega), ← List.append_assoc, ← urₘhk] at hzc
          exact ⟨rfl, (j + 1) / 2, by omega, _, _, zs ++ [.bytes rₘhk tₘhk], _, _, rfl, by omega, by rw [List.length_append, List.length_singleton]; omega, all_snoc hzA, by rw [catI_snoc]; rw [← urₘhk]; exact hzc, frJ2 F8, N8⟩
        · (with_reducible rename Fr _ _ _ _ => F8)
          (with_reducible rename News _ _ _ _ => N8)
          rw [bitsI_pos _ _ (Nat.succ_pos j), if_neg (by omega), ← List.append_assoc] at hzc
          exact ⟨rfl, (j + 1) / 2, by omega, _, _, zs ++ [.bytes bpw tpw], _, _, rfl, by omega, by rw [List.length_append, List.length_singleton]; omega, all_snoc hzA, by rw [catI_snoc, hbp]; exact hzc, frJ2 F8, N8⟩
end
section
open Builtin
theorem look_index : typeLookup (.type "bytes") "__index__" = pure none := by rw [typeLookup_type, builtinLookup_eq_fast]; kernel_rfl
theorem asInt_bytes {b : Array UInt8} {t : Tok} : asInt? (.bytes b t) = pure none := by first | rfl | kernel_rfl
theorem cut_bytes {b : Array UInt8} {t : Tok} : typeNameOfCut 200 (.bytes b t) = pure "bytes" := by first | rfl | kernel_rfl
theorem index_bytes {M : Model} {A : Around} {s : Shared} {b : Array UInt8} {t : Tok} {Q : Int → Shared → Prop} {E : Value → Shared → Prop} (hh : A.handled = none)
    (h : ∀ h' tk e, Heap.NewExc s.heap h' e "TypeError" → E (.ref e) { s with heap := h', toks := tk }) : wpAny M A (asIndex (.bytes b t)) Q E s := by
  unfold asIndex
  refine wpAny_bind (wpAny_of_eq asInt_bytes ?_)
  dsimp only
  refine wpAny_bind (m := callSpecial? _ _ _ _) (wpAny_of_eq (a := none) (by unfold callSpecial?; rw [KBy.special_eq look_index]; rfl) ?_)
  dsimp only
  refine wpAny_bind (wpAny_of_eq cut_bytes ?_)
  first
    | exact wpAny_raiseErrorMade plainExc_TypeError hh h
    | exact wpAny_raiseErrorWords plainExc_TypeError hh h
theorem buffer_eq {b : Array UInt8} {t : Tok} {id : String} : Bytes.buffer? id (.bytes b t) = pure (some b) := by first | rfl | exact KBy.buffer_eq
theorem in_tree {M : Model} {A : Around} {s : Shared} {b c : Array UInt8} {t u : Tok} {P : Fin → Shared → Prop} {E : Value → Shared → Prop} (hh : A.handled = none)
    (h : ∀ h' tk, (∀ a o, s.heap.get? a = some o → h'.get? a = some o) → P (.done (.ret (.bool (Bytes.find? b c 0 b.size).isSome))) { s with heap := h', toks := tk }) : wpAny M A (Builtin.«bytes.__contains__» ⟨[.bytes b t, .bytes c u], []⟩) P E s := by
  unfold Builtin.«bytes.__contains__»
  have hs : slotArgs "__contains__" 1 ⟨[Value.bytes b t, Value.bytes c u], []⟩ = pure (Value.bytes b t, [Value.bytes c u]) := by first | rfl | kernel_rfl
  refine wpAny_bind (wpAny_of_eq hs ?_)
  dsimp only
  refine wpAny_bind (m := Bytes.containsIn _ _ _) ?_
  unfold Bytes.containsIn
  refine wpAny_bind (wpAny_attempt (index_bytes hh fun h' tk e hx => ?_))
  refine wpAny_bind (wpAny_of_eq buffer_eq ?_)
  dsimp only
  refine wpAny_bind (wpAny_of_eq buffer_eq ?_)
  dsimp only
  refine wpAny_bind (wpAny_rule ?_)
  exact wpAny_pure (wpAny_pure (h h' tk hx.keeps))
section
variable {prog : Program} {w : World} {A : Around} {E : Value → Shared → Prop} {s : Shared}
theorem in_bytes {b c : Array UInt8} {t u : Tok} {Q : Value → Shared → Prop} (hh : A.handled = none)
    (h : ∀ h' tk, (∀ a o, s.heap.get? a = some o → h'.get? a = some o) → Q (.bool (Bytes.find? b c 0 b.size).isSome) { s with heap := h', toks := tk }) : wpAny (model prog w) A (compareOp .In (.bytes c u) (.bytes b t)) Q E s := by
  show wpAny _ _ (do return .bool (← contains (.bytes b t) (.bytes c u))) Q E s
  refine wpAny_bind (wpAny_contains_slot (typeIs_bytes s b t) FB.slot_bytes_contains ?_)
  exact wpAny_call_entry FB.slot_bytes_contains (typeIs_bytes s b t) FB.entry_bytes_contains (in_tree hh fun h' tk k => ⟨_, rfl, wpAny_pure (wpAny_pure (h h' tk k))⟩) (FB.args_bytes_contains_2 _ _)
end
/-- one octet of nought is found where it lies -/
theorem find_null (b : Array UInt8) : (Bytes.find? b #[0] 0 b.size).isSome = (KBw.bInts b).any (fun k => k == 0) := by
  rw [Bool.eq_iff_iff]
  unfold Bytes.find?
  rw [List.find?_isSome, List.any_eq_true]
  have key : ∀ i, i < b.size → b.extract i (i + 1) = #[b.getD i 0] := fun i hi => by
    apply Array.ext
    · simp; omega
    · intro j h1 h2
      simp only [List.size_toArray, List.length_singleton] at h2
      have : j = 0 := by omega
      subst this
      simp [Array.getD, hi]
  constructor
  · rintro ⟨x, hx, hp⟩
    obtain ⟨i, hi, rfl⟩ := List.mem_map.mp hx
    rw [List.mem_range] at hi
    have hi2 : i < b.size := by
      have : (#[0] : Array UInt8).size = 1 := rfl
      omega
    have h2 : b.extract i (i + 1) = #[0] := by
      have := eq_of_beq hp
      simpa using this
    rw [key i hi2] at h2
    have h3 : b.getD i 0 = 0 := by simpa using h2
    refine ⟨0, ?_, rfl⟩
    have h4 := KBw.ints_get (Array.getElem?_eq_getElem hi2)
    have h5 : b[i] = 0 := by simpa [Array.getD, hi2] using h3
    rw [h5] at h4
    exact List.mem_of_getElem? h4
  · rintro ⟨k, hk, hp⟩
    have hk0 : k = 0 := eq_of_beq hp
    subst hk0
    obtain ⟨i, hi⟩ := List.getElem?_of_mem hk
    have hi2 : i < b.size := by
      have := (List.getElem?_eq_some_iff.mp hi).1
      rwa [KBw.ints_length] at this
    have h4 := KBw.ints_get (Array.getElem?_eq_getElem hi2)
    rw [hi] at h4
    have h5 : b[i].toNat = 0 := by
      have := Option.some.inj h4
      omega
    have h6 : b[i] = 0 := UInt8.toNat_inj.mp h5
    refine ⟨i, List.mem_map.mpr ⟨i, List.mem_range.mpr ?_, by simp⟩, ?_⟩
    · have : (#[0] : Array UInt8).size = 1 := rfl
      omega
    · have : (#[0] : Array UInt8).size = 1 := rfl
      rw [this, key i hi2]
      have h7 : b.getD i 0 = 0 := by simp [Array.getD, hi2, h6]
      rw [h7]
      rfl
end
section
open Builtin
theorem forIn_two {σ : Type} (g : Nat → σ → Sem (ForInStep σ)) (a b : σ) (h1 : ∀ x, g x a = pure (.yield b)) (h2 : ∀ x, g x b = pure (.done b)) : ∀ n, 0 < n → forIn (List.range' 0 n) a g = pure b
  | 0, h => absurd h (Nat.lt_irrefl _)
  | 1, _ => by
    rw [show List.range' 0 1 = [0] from rfl, List.forIn_cons, h1, pure_bind]
    exact List.forIn_nil
  | n + 2, _ => by
    rw [List.range'_succ, List.forIn_cons, h1, pure_bind, List.range'_succ]
    show forIn (_ :: _) b g = _
    rw [List.forIn_cons, h2, pure_bind]
abbrev encB (c : _codecs.TextCodec) (x : PySem.Str) : Array UInt8 := x.cps.foldl (fun acc y => acc ++ (c.bytesOf y).toArray) #[]
theorem narrow_clean (id : String) (c : _codecs.TextCodec) (self : Value) (x : PySem.Str) (hb : ∀ k ∈ x.cps.toList, c.bad k = false) (hsz : (encB c x).size ≤ sizeLine) :
    _codecs.encodeNarrow id c none self x = pure (encB c x) := by
  unfold _codecs.encodeNarrow
  simp only [Std.Legacy.Range.forIn_eq_forIn_range', Std.Legacy.Range.size]
  rcases Nat.eq_zero_or_pos x.cps.size with h0 | h0
  · have e : x = ⟨#[]⟩ := by cases x with | mk c0 => exact congrArg _ (Array.eq_empty_of_size_eq_zero h0)
    subst e
    rfl
  · have hn : 0 < (x.length - 0 + 1 - 1) / 1 := by show 0 < (x.cps.size - 0 + 1 - 1) / 1; omega
    refine (congrArg (· >>= _) (forIn_two _ (0, (#[] : Array UInt8), ({ } : _codecs.Faults)) (x.cps.size, encB c x, { }) (fun k => ?_) (fun k => ?_) _ hn)).trans ?_
    · have h1 : ¬ (#[] : Array UInt8).size > sizeLine := by rw [sizeLine_eq]; decide
      have h2 : x.cps[0]? = some x.cps[0] := Array.getElem?_eq_getElem h0
      have h3 : (!c.bad x.cps[0]) = true := by rw [hb _ (by simp)]; rfl
      have e1 : x.cps.extract 0 = x.cps := by simp
      have e2 : Array.findIdx? c.bad x.cps = none := by
        rw [Array.findIdx?_eq_none_iff]
        intro y hy
        exact hb y (by simpa using hy)
      simp only [if_neg h1, h2, if_pos h3, e1, e2, Option.getD_none, Nat.zero_add]
    · have h1 : ¬ (encB c x).size > sizeLine := Nat.not_lt.mpr hsz
      have h2 : x.cps[x.cps.size]? = none := Array.getElem?_eq_none (Nat.le_refl _)
      simp only [if_neg h1, h2]
    · rw [pure_bind]
section
variable {prog : Program} {w : World} {A : Around} {E : Value → Shared → Prop} {s : Shared}
theorem road_asc {id : String} {self : Value} {x : PySem.Str} : _codecs.encodeRoad id self x (PySem.Str.ofString "ascii") none = (do mkBytes (← _codecs.encodeNarrow id _codecs.asciiCodec none self x)) := by first | rfl | kernel_rfl
theorem road_utf {id : String} {self : Value} {x : PySem.Str} : _codecs.encodeRoad id self x (PySem.Str.ofString "utf-8") none = (do mkBytes (← _codecs.encodeNarrow id _codecs.utf8Codec none self x)) := by first | rfl | kernel_rfl
theorem tree_asc {x : PySem.Str} {t u : Tok} : «str.encode» ⟨[.str x t, .str (PySem.Str.ofString "ascii") u], []⟩ = (do ret (← _codecs.encodeRoad "str.encode" (.str x t) x (PySem.Str.ofString "ascii") none)) := by first | rfl | kernel_rfl
theorem tree_utf {x : PySem.Str} {t u : Tok} : «str.encode» ⟨[.str x t, .str (PySem.Str.ofString "utf-8") u], []⟩ = (do ret (← _codecs.encodeRoad "str.encode" (.str x t) x (PySem.Str.ofString "utf-8") none)) := by first | rfl | kernel_rfl
theorem encode_any {c : _codecs.TextCodec} {x : PySem.Str} {t u : Tok} {enc : PySem.Str} {Q : Value → Shared → Prop} (ht : «str.encode» ⟨[.str x t, .str enc u], []⟩ = (do ret (← _codecs.encodeRoad "str.encode" (.str x t) x enc none))) (hr : _codecs.encodeRoad "str.encode" (.str x t) x enc none = (do mkBytes (← _codecs.encodeNarrow "str.encode" c none (.str x t) x)))
    (hb : ∀ k ∈ x.cps.toList, c.bad k = false) (hsz : (encB c x).size ≤ 16777216) (h : ∀ t' k, Q (.bytes (encB c x) t') { s with toks := k }) :
    wpAny (model prog w) A (call (.builtin "str.encode") [.str x t, .str enc u]) Q E s := by
  refine wpAny_call_entry F.slot_str_encode (typeIs_str s x t) F.entry_str_encode ?_ (F.args_str_encode_2 _ _)
  rw [ht, hr]
  have hsz2 : (encB c x).size ≤ sizeLine := by rw [sizeLine_eq]; exact hsz
  refine wpAny_bind (wpAny_bind (wpAny_of_eq (narrow_clean _ c _ x hb hsz2) ?_))
  refine wpAny_mkBytes ?_ hsz2
  exact wpAny_pure ⟨_, rfl, h _ _⟩
theorem encB_ints (c : _codecs.TextCodec) (x : PySem.Str) : KBw.bInts (encB c x) = x.cps.toList.flatMap fun y => (c.bytesOf y).map fun b => (b.toNat : Int) := by
  have key : ∀ (l : List Nat) (acc : Array UInt8), KBw.bInts (l.foldl (fun acc y => acc ++ (c.bytesOf y).toArray) acc) = KBw.bInts acc ++ l.flatMap fun y => (c.bytesOf y).map fun b => (b.toNat : Int) := by
    intro l
    induction l with
    | nil => intro acc; simp
    | cons y r ih =>
      intro acc
      rw [List.foldl_cons, ih, List.flatMap_cons, ← List.append_assoc]
      congr 1
      exact KBw.ints_app rfl rfl
  unfold encB
  rw [← Array.foldl_toList, key]
  rfl
/-- the octets of a text of small signs -/
theorem encode_ascii {x : PySem.Str} {t u : Tok} {Q : Value → Shared → Prop} (hb : ∀ k ∈ x.cps.toList, k < 128) (hsz : x.cps.size ≤ 16777216) (h : ∀ b t' k, KBw.bInts b = x.cps.toList.map (fun n : Nat => (n : Int)) → Q (.bytes b t') { s with toks := k }) :
    wpAny (model prog w) A (call (.builtin "str.encode") [.str x t, .str (PySem.Str.ofString "ascii") u]) Q E s := by
  have e : KBw.bInts (encB _codecs.asciiCodec x) = x.cps.toList.map (fun n : Nat => (n : Int)) := by
    rw [encB_ints]
    have key : ∀ l : List Nat, (∀ k ∈ l, k < 128) → (l.flatMap fun y => (_codecs.asciiCodec.bytesOf y).map fun b => (b.toNat : Int)) = l.map (fun n : Nat => (n : Int)) := by
      intro l
      induction l with
      | nil => intro _; rfl
      | cons y r ih =>
        intro hl
        rw [List.flatMap_cons, ih (fun k hk => hl k (.tail _ hk))]
        have hy := hl y (.head _)
        have e2 : y.toUInt8.toNat = y := by show y % 2 ^ 8 = y; omega
        show [((y.toUInt8).toNat : Int)] ++ _ = _
        rw [e2]
        rfl
    exact key _ hb
  refine encode_any tree_asc road_asc (fun k hk => ?_) ?_ (fun t' k => h _ t' k e)
  · show decide (k ≥ 128) = false
    exact decide_eq_false (by have := hb k hk; omega)
  · rw [← KBw.ints_length, e, List.length_map, Array.length_toList]; exact hsz
end
/-- the octets of a text in utf-8 -/
def utf8I (l : List Nat) : List Int := l.flatMap fun y => (PySem.Str.utf8Of y).map fun b => (b.toNat : Int)
theorem utf8_one {k : Nat} (h : k < 2048) : (PySem.Str.utf8Of k).length ≤ 2 ∧ (0 < k → ∀ b ∈ PySem.Str.utf8Of k, b.toNat ≠ 0) := by
  unfold PySem.Str.utf8Of
  split
  · refine ⟨by simp, fun h0 b hb => ?_⟩
    rw [List.mem_singleton.mp hb]
    show k % 2 ^ 8 ≠ 0
    omega
  · refine ⟨by simp, fun h0 b hb => ?_⟩
    simp only [List.mem_cons, List.not_mem_nil, or_false] at hb
    rcases hb with rfl | rfl
    · show (0xC0 + k / 64) % 2 ^ 8 ≠ 0; omega
    · show (0x80 + k % 64) % 2 ^ 8 ≠ 0; omega
theorem utf8I_length : ∀ (l : List Nat), (∀ k ∈ l, k < 2048) → (utf8I l).length ≤ 2 * l.length
  | [], _ => by simp [utf8I]
  | k :: r, h => by
    unfold utf8I
    rw [List.flatMap_cons, List.length_append, List.length_map, List.length_cons]
    have h1 := (utf8_one (h k (.head _))).1
    have h2 := utf8I_length r fun j hj => h j (.tail _ hj)
    unfold utf8I at h2
    omega
theorem utf8I_ne0 {l : List Nat} (h : ∀ k ∈ l, 0 < k ∧ k < 2048) : ∀ x ∈ utf8I l, x ≠ 0 := by
  intro x hx
  obtain ⟨k, hk, hx⟩ := List.mem_flatMap.mp hx
  obtain ⟨b, hb, rfl⟩ := List.mem_map.mp hx
  have := (utf8_one (h k hk).2).2 (h k hk).1 b hb
  omega
theorem encode_utf8 {prog : Program} {w : World} {A : Around} {E : Value → Shared → Prop} {s : Shared} {x : PySem.Str} {t u : Tok} {Q : Value → Shared → Prop} (hb : ∀ k ∈ x.cps.toList, k < 2048) (hsz : x.cps.size ≤ 16777) (h : ∀ b t' k, KBw.bInts b = utf8I x.cps.toList → Q (.bytes b t') { s with toks := k }) :
    wpAny (model prog w) A (call (.builtin "str.encode") [.str x t, .str (PySem.Str.ofString "utf-8") u]) Q E s := by
  have e : KBw.bInts (encB _codecs.utf8Codec x) = utf8I x.cps.toList := encB_ints _ x
  refine encode_any tree_utf road_utf (fun k hk => ?_) ?_ (fun t' k => h _ t' k e)
  · show (decide (0xD800 ≤ k) && decide (k ≤ 0xDFFF)) = false
    rw [decide_eq_false (by have := hb k hk; omega)]; rfl
  · rw [← KBw.ints_length, e]
    have := utf8I_length _ hb
    have e9 : x.cps.toList.length = x.cps.size := Array.length_toList
    rw [e9] at this
    show List.length (utf8I x.cps.toList) ≤ 16777216
    omega
end
section
theorem zw_R0_1 : True := by
  k_with_none
  k_with "exec Assign" => (k_here; (fail_if_success (with_reducible show wpAny _ _ _ (CutQ _) _ _)); (refine cutQ fun cutQ0 cutH0 => ?_))
  k_with "exec AugAssign" => (k_here; (fail_if_success (with_reducible show wpAny _ _ _ (CutQ _) _ _)); (refine cutQ fun cutQ0 cutH0 => ?_))
  k_with "exec Expr" => (k_here; (fail_if_success (with_reducible show wpAny _ _ _ (CutQ _) _ _)); (refine cutQ fun cutQ0 cutH0 => ?_))
  k_with "CutQ" => ((with_reducible rename (∀ f s', _ → CutQ _ f s') => cutH1); (refine cutH1 _ _ ?_); clear cutH1; (try dsimp only))
  trivial
open LCg
theorem zw_R0_2 : True := by
  k_with "ite" => (k_here; first | with_reducible refine ite_tt ?_ | with_reducible refine ite_ff ?_ | (refine ite_pos (by with_reducible assumption) ?_) | (refine ite_neg (by with_reducible assumption) ?_) | (refine ite_pos (by omega) ?_) | (refine ite_neg (by omega) ?_) | (with_reducible refine split_dec ?_ ?_ <;> intro _))
  trivial
def seqAt (K : Frag) (a : Addr) : List Value := match K.lookup a with
  | some ⟨.type "tuple", _, .seq xs _, _⟩ => xs.toList
  | _ => []
def isTup (K : Frag) (a : Addr) : Bool := match K.lookup a with
  | some ⟨.type "tuple", _, .seq _ _, _⟩ => true
  | _ => false
theorem seqAt_is {K : Frag} {h : Heap} {a : Addr} (X : K.In h) (e : isTup K a = true) : h.IsTuple a (seqAt K a).toArray := by
  unfold isTup at e
  split at e
  · rename_i xs n sl hk
    unfold seqAt
    have e2 : ∀ l, K.lookup a = some l → (match K.lookup a with | some ⟨.type "tuple", _, .seq xs _, _⟩ => xs.toList | _ => []) = (match some l with | some ⟨.type "tuple", _, .seq xs _, _⟩ => xs.toList | _ => []) := fun l h => by rw [h]
    rw [e2 _ hk]
    exact ⟨_, X _ _ hk, rfl, n, by simp⟩
  · cases e
def intOf : Value → Int
  | .int i _ => i
  | _ => 0
def allInt (l : List Value) : Bool := l.all fun v => match v with
  | .int _ _ => true
  | _ => false
theorem intsAre_of : ∀ {l : List Value}, allInt l = true → IntsAre l (l.map intOf)
  | [], _ => .nil
  | v :: r, h => by
    unfold allInt at h
    rw [List.all_cons, Bool.and_eq_true] at h
    obtain ⟨h1, h2⟩ := h
    have ih := intsAre_of (l := r) h2
    cases v with
    | int i t => exact .cons _ t ih
    | _ => cases h1
theorem tupOk_of {w : World} {a : Addr} (h1 : isTup (KF w.params) a = true) (h2 : allInt (seqAt (KF w.params) a) = true) (h3 : (((seqAt (KF w.params) a).map intOf).all fun k => decide (0 ≤ k) && decide (k < (((seqAt (KF w.params) a).map intOf).length : Int))) = true)
    (h4 : ((seqAt (KF w.params) a).map intOf).length = 32 ∨ ((seqAt (KF w.params) a).map intOf).length = 64) : TupOk w a (seqAt (KF w.params) a) ((seqAt (KF w.params) a).map intOf) where
  tup := fun h X => seqAt_is X h1
  are := intsAre_of h2
  lo := fun k hk => by
    have := List.all_eq_true.mp h3 k hk
    simp only [Bool.and_eq_true, decide_eq_true_eq] at this
    exact this
  len := h4
abbrev offAt (K : Frag) (a : Addr) : List Int := (seqAt K a).map intOf
theorem tup256 (w : World) : TupOk w 665 (seqAt (KF w.params) 665) (offAt (KF w.params) 665) := tupOk_of (by kernel_rfl) (by kernel_rfl) (by kernel_rfl) (.inl (by kernel_rfl))
theorem tup512 (w : World) : TupOk w 666 (seqAt (KF w.params) 666) (offAt (KF w.params) 666) := tupOk_of (by kernel_rfl) (by kernel_rfl) (by kernel_rfl) (.inr (by kernel_rfl))
theorem len256 (w : World) : (offAt (KF w.params) 665).length = 32 := by kernel_rfl
theorem len512 (w : World) : (offAt (KF w.params) 666).length = 64 := by kernel_rfl
theorem strMeth {prog : Program} {w : World} {A : Around} {E : Value → Shared → Prop} {s : Shared} {x : Str} {t : Tok} {name : Str} {id : String} {pl : Sem Bool} {Q : Value × List Value → Shared → Prop} (hs : Slot "str" name id) (ht : typeOf (.builtin id) = pure (.type "method_descriptor")) (h : Q (.builtin id, [.str x t]) s) :
    wpAny (model prog w) A (getMethod (.str x t) name pl) Q E s := by
  exact getMethod_builtin (typeIs_str s x t) F.plainAttrs_str hs ht (fun a e => nomatch e) h
theorem zw_R0_3 : True := by
  k_with "getMethod str" => (k_here; (with_reducible show wpAny _ _ (getMethod (Value.str _ _) (Str.ofString "encode") _) _ _ _); (refine strMeth PySem.F.slot_str_encode PySem.F.type_str_encode ?_))
  trivial
theorem fr16v {h₀ h : Heap} {L : Addr} {m : Str → Option Value} {v1 v2 v3 v4 v5 v6 v7 : Value} (F : Fr h₀ L h m) (h1 : m (Str.ofString "pwd") = some v1) (h2 : m (Str.ofString "salt") = some v2) (h3 : m (Str.ofString "pwd_len") = some v3) (h4 : m (Str.ofString "salt_len") = some v4) (h5 : m (Str.ofString "rounds") = some v5) (h6 : m (Str.ofString "hash_const") = some v6) (h7 : m (Str.ofString "transpose_map") = some v7) :
    Fr h₀ L h (fun y => if y = Str.ofString "pwd" then some v1 else if y = Str.ofString "salt" then some v2 else if y = Str.ofString "pwd_len" then some v3 else if y = Str.ofString "salt_len" then some v4 else if y = Str.ofString "rounds" then some v5 else if y = Str.ofString "hash_const" then some v6 else if y = Str.ofString "transpose_map" then some v7 else m y) := by
  refine fr_eq F fun y => ?_
  rcases Decidable.em (y = Str.ofString "pwd") with rfl | q1
  · rw [h1]; rfl
  rcases Decidable.em (y = Str.ofString "salt") with rfl | q2
  · rw [h2]; rfl
  rcases Decidable.em (y = Str.ofString "pwd_len") with rfl | q3
  · rw [h3]; rfl
  rcases Decidable.em (y = Str.ofString "salt_len") with rfl | q4
  · rw [h4]; rfl
  rcases Decidable.em (y = Str.ofString "rounds") with rfl | q5
  · rw [h5]; rfl
  rcases Decidable.em (y = Str.ofString "hash_const") with rfl | q6
  · rw [h6]; rfl
  rcases Decidable.em (y = Str.ofString "transpose_map") with rfl | q7
  · rw [h7]; rfl
  simp only [if_neg q1, if_neg q2, if_neg q3, if_neg q4, if_neg q5, if_neg q6, if_neg q7]
def tpOf (b : Bool) : Addr := if b then 666 else 665
theorem zw_R0_4 : True := by
  k_with "call builtin:str.encode" => (k_here; (refine encode_ascii (by assumption) (by assumption) ?_); intro _ _ _ uA0ₘ460; (have uAscₘ460 := uA0ₘ460.trans (by with_reducible assumption)); clear uA0ₘ460)
  k_with "execs cons" => (k_here; (with_reducible show wpAny _ _ (execs [Stmt.Assign _ _ _, Stmt.Assign _ _ _, Stmt.FunctionDef _ _ _ _ _ _ _ _ _ _, Stmt.Expr _ _, Stmt.Assign _ _ _, Stmt.While _ _ _ _, Stmt.Assign _ _ _, Stmt.If _ _ _ _, Stmt.Assert _ _ _, Stmt.Assign _ _ _, Stmt.Assert _ _ _, Stmt.Assign _ _ _, Stmt.Assign _ _ _, Stmt.Assign _ _ _, Stmt.Assign _ _ _, Stmt.Assign _ _ _, Stmt.Assign _ _ _, Stmt.While _ _ _ _, Stmt.If _ _ _ _, Stmt.Return _ _] _) _ _ _); (refine Hold.out ?_))
  trivial
theorem r3 : ∀ (w : World) (p : Program) (loose : List Str) (mean : ExcName → Option Value) (mg mb : Str → Option Value) (HF : Value) (news : List (Addr × Obj)) (bpw : Array UInt8) (tpw : CbTok) (pk : List Int) (xs : Str) (txs : Tok) (ss : List Int) (rn le : Int) (trn tle : CbTok) (b5 : Bool) (m0 : Str → Option Value)
  (dp un : Nat) (gd : Option (List Code)) (outer : List Env) (A₀ : Around) (base h₀ : Heap) (L : Addr) (s : Shared) (Q : Flow → Shared → Prop) (E : Value → Shared → Prop)
  (B : Below A₀ base outer h₀) (F : Fr h₀ L s.heap (fun y => if y = Str.ofString "pwd" then some (.bytes bpw tpw) else if y = Str.ofString "salt" then some (.str xs txs) else if y = Str.ofString "rounds" then some (.int rn trn) else if y = Str.ofString "hash_const" then some HF else if y = Str.ofString "use_512" then some (.bool b5) else if y = Str.ofString "least" then some (.int le tle) else m0 y)) (X : (KF w.params).In h₀) (T : Top p loose mean mg mb h₀)
  (N : News h₀ L s.heap news) (hdp : dp + 30 < recursionLimit) (hun : un + 100 < cLine)
  (hbp : KBw.bInts bpw = pk) (hlp : pk.length ≤ 300) (hasc : ∀ k ∈ xs.cps.toList, k < 128) (hxs : xs.cps.size ≤ 16777216) (hss : xs.cps.toList.map (fun n : Nat => (n : Int)) = ss) (hsl : ss.length ≤ 16777216)
  (hE : (le ≤ rn → rn ≤ 999999999 → 17 ≤ ss.length) → ∀ hh h' e tk' m', Fr h₀ L hh m' → News h₀ L hh news → Heap.NewExc hh h' e "AssertionError" → E (.ref e) { s with heap := h', toks := tk' })
  (hk : le ≤ rn → rn ≤ 999999999 → ss.length < 17 → ∀ h' tk' bss tss t1 t2 (m1 : Str → Option Value), KBw.bInts bss = ss → Fr h₀ L h' (fun y => if y = Str.ofString "pwd" then some (.bytes bpw tpw) else if y = Str.ofString "salt" then some (.bytes bss tss) else if y = Str.ofString "pwd_len" then some (.int (pk.length : Int) t1) else if y = Str.ofString "salt_len" then some (.int (ss.length : Int) t2) else if y = Str.ofString "rounds" then some (.int rn trn) else if y = Str.ofString "hash_const" then some HF else if y = Str.ofString "transpose_map" then some (.ref (tpOf b5)) else m1 y) → News h₀ L h' news →
    wpAny (model rw_iw0011_01.row.prog w) (rsA (KF w.params) L dp un gd outer) (execs ((bodyAt (KF w.params) 672).drop 10) (rsE (KF w.params) L)) Q E { s with heap := h', toks := tk' }),
  wpAny (model rw_iw0011_01.row.prog w) (rsA (KF w.params) L dp un gd outer) (execs ((bodyAt (KF w.params) 672).drop 3) (rsE (KF w.params) L)) Q E s := by
  k_fill
  intro w p loose mean mg mb HF news bpw tpw pk xs txs ss rn le trn tle b5 m0 dp un gd outer A₀ base h₀ L s Q E B F X T N hdp hun hbp hlp hasc hxs hss hsl hE hk
  refine wpAny_execs_cons ?_
  k_steps
  · (with_reducible rename Fr _ _ _ _ => F6)
    (with_reducible rename News _ _ _ _ => N6)
    (with_reducible rename (KBw.bInts _ = ss) => u6)
    refine Hold.out (P := wpAny _ _ _ _ _ _) ?_
    (with_reducible rename (b5 = _) => hb)
    subst hb
    exact hk (by assumption) (by assumption) (by omega) _ _ _ _ _ _ _ u6 (fr16v F6 rfl rfl rfl rfl rfl rfl rfl) N6
  · (with_reducible rename Fr _ _ _ _ => F6)
    (with_reducible rename News _ _ _ _ => N6)
    (with_reducible rename (KBw.bInts _ = ss) => u6)
    refine Hold.out (P := wpAny _ _ _ _ _ _) ?_
    (with_reducible rename (b5 = _) => hb)
    subst hb
    exact hk (by assumption) (by assumption) (by omega) _ _ _ _ _ _ _ u6 (fr16v F6 rfl rfl rfl rfl rfl rfl rfl) N6
  · exact hE (fun _ _ => by omega) _ _ _ _ _ (by assumption) (by assumption) (by assumption)
  · exact hE (fun _ h2 => absurd h2 (by assumption)) _ _ _ _ _ (by assumption) (by assumption) (by assumption)
  · exact hE (fun h1 _ => absurd h1 (by assumption)) _ _ _ _ _ (by assumption) (by assumption) (by assumption)
end
section
theorem zw_Nx_1 : True := by
  k_with_none
  k_with "exec Assign" => (k_here; (fail_if_success (with_reducible show wpAny _ _ _ (CutQ _) _ _)); (refine cutQ fun cutQ0 cutH0 => ?_))
  k_with "exec AugAssign" => (k_here; (fail_if_success (with_reducible show wpAny _ _ _ (CutQ _) _ _)); (refine cutQ fun cutQ0 cutH0 => ?_))
  k_with "exec Expr" => (k_here; (fail_if_success (with_reducible show wpAny _ _ _ (CutQ _) _ _)); (refine cutQ fun cutQ0 cutH0 => ?_))
  k_with "CutQ" => ((with_reducible rename (∀ f s', _ → CutQ _ f s') => cutH1); (refine cutH1 _ _ ?_); clear cutH1; (try dsimp only))
  trivial
open LCg
theorem zw_Nx_2 : True := by
  k_with "call ref" => (k_here; (with_reducible show wpAny _ _ (call (Value.ref _) _) _ _ _); (refine wpAny_call ?_); (try dsimp only [List.nil_append, List.cons_append]); k_dflt (refine' code_def (by k_asm) (by k_asm) (by k_asm) (by k_asm) (by k_asm) (by exact rfl) (by exact rfl) (by first | exact rfl | assumption) (by k_is) (by k_is) (by ktr_room) (by first | exact BindsTo.of_eq rfl | exact binds_K (by k_in) rfl (by k_is) rfl rfl rfl) (by exact locs rfl) ?_ (by exact rfl) (by exact rfl) (by exact rfl) (by decide); k_whole; intro g'ₘ560 L'ₘ560 h'ₘ560 FG'ₘ560 F'ₘ560 N'ₘ560 B'ₘ560 X'ₘ560 T'ₘ560; (try dsimp only); (try k_lift B'ₘ560); (try k_fold)))
  k_with "ite" => (k_here; first | with_reducible refine ite_tt ?_ | with_reducible refine ite_ff ?_ | (refine ite_pos (by with_reducible assumption) ?_) | (refine ite_neg (by with_reducible assumption) ?_) | (refine ite_pos (by omega) ?_) | (refine ite_neg (by omega) ?_) | (with_reducible refine split_dec ?_ ?_ <;> intro _))
  trivial
section
variable {prog : Program} {w : World} {A : Around} {E : Value → Shared → Prop} {s : Shared} {h₀ : Heap} {mg : Str → Option Value}
/-- what the raised expression owes -/
def RzEnd (h₀ : Heap) (C : Addr) (E : Value → Shared → Prop) (v : Value) (s₁ : Shared) : Prop :=
  ∃ e t, v = .ref e ∧ (∀ b o, h₀.get? b = some o → s₁.heap.get? b = some o) ∧ s₁.heap.get? e = some { cls := .ref C, data := .fields #[.ref t, .none, .none, .none, .bool false, .none] } ∧ E (.ref e) s₁
theorem Raise_def {B newId initId : String} {bm : List Value} {x : Str} {C : Addr} {e₀ : Expr} {pos : Pos} {env : Env} {Q : Flow → Shared → Prop} (O : OwnCls x C bm newId mg h₀) (FB : ExcBaseFacts B newId initId bm) (hh : A.handled = none)
    (h : wpAny (model prog w) A (eval e₀ env) (RzEnd h₀ C E) E s) : wpAny (model prog w) A (exec (.Raise (some e₀) none pos) env) Q E s := by
  obtain ⟨tl, N, nm, q, bs, hdct, sn, sub, ab, col, dd, k0, k1, k2, k3, k5, mN, hC, hN, hni, T⟩ := O.obj
  rw [arm_exec_Raise]
  simp only [evalOpt, Option.map]
  refine wpAny_bind (wpAny_standAt (wpAny_raiseStmt_made_sub (C := C) (nm := nm) (q := q) (N := N) (bs := bs) (bm := tl) (hdct := hdct) (sn := sn) (sub := sub) (ab := ab) (col := col) (dd := dd) (k0 := k0) (k1 := k1) (k2 := k2) (k3 := k3) (k5 := k5) (newId := newId) (T.hasType FB.hasBase) hh ?_))
  refine wpAny_bind (wpAny_mono h (fun v s₃ h₃ => wpAny_bind (wpAny_standAt (wpAny_pure ?_))) fun _ _ x => x)
  obtain ⟨e, t, rfl, hk, he, hE⟩ := h₃
  exact ⟨e, t, rfl, hk _ _ hC, he, hE⟩
theorem call_own {B newId initId : String} {bm : List Value} {x : Str} {C : Addr} {rest : List Value} {Q : Value → Shared → Prop} (O : OwnCls x C bm newId mg h₀) (FB : ExcBaseFacts B newId initId bm) (k : ∀ b o, h₀.get? b = some o → s.heap.get? b = some o)
    (hr : rest.length ≤ 16777216) (h : ∀ h' e, Heap.MadeExcOf s.heap h' e (.ref C) rest → Q (.ref e) { s with heap := h' }) : wpAny (model prog w) A (call (.ref C) rest) Q E s := by
  obtain ⟨tl, N, nm, q, bs, hdct, sn, sub, ab, col, dd, k0, k1, k2, k3, k5, mN, hC, hN, hni, T⟩ := O.obj
  obtain ⟨hp, g, d, tk, os⟩ := s
  exact wpAny_call_exc_subT (hrest := by rw [sizeLine_eq]; exact hr) FB (T.keeps k) (k _ _ hC) (hN.keeps k) hni h
end
theorem zw_Nx_3 : True := by
  k_with "call ref" => (k_here; (with_reducible show wpAny _ _ (call (Value.ref 31) _) _ _ _); (rename Fr _ _ _ _ => uFₘ896); k_dflt (refine' call_own (x := Str.ofString "PasswordValueError") (by exact own_of_in (by k_asm) (by k_asm) (by k_is) (by k_exc)) PySem.F.excBase_ValueError (Fr.keep uFₘ896) (by (simp only [List.length_cons, List.length_nil]; omega)) ?_); intro h'ₘ896 e'ₘ896 uMₘ896)
  trivial
theorem c_npe : ∀ (w : World) (p : Program) (loose : List Str) (mean : ExcName → Option Value) (mg mb : Str → Option Value)  (dp un : Nat) (gd : Option (List Code)) (cn : Str) (cs : Scope) (a : Addr) (ccd : Value) (cl : List (Str × Addr)) (outer : List Env) (A₀ : Around) (base h₀ : Heap) (L : Addr) (m : Str → Option Value) (s : Shared) (Q E : Value → Shared → Prop)
  (B : Below A₀ base outer h₀) (F : Fr h₀ L s.heap m) (X : (KF w.params).In h₀) (T : Top p loose mean mg mb h₀) (hcs : cs.kind = .function) (hdp : dp + 4 < recursionLimit) (hun : un + 20 < cLine)
  (hret : ∀ (h' : Heap) (tk' : Nat) (hk' : ∀ b o, s.heap.get? b = some o → h'.get? b = some o) (hh : Heap) (e : Addr) (vs : List Value), (∀ b o, s.heap.get? b = some o → hh.get? b = some o) → Heap.MadeExcOf hh h' e (.ref 31) vs → Q (.ref e) { s with heap := h', toks := tk' }),
  wpAny (model rw_iw0011_01.row.prog w) (ktrTop dp un gd cn cs L a ccd cl outer) (call (.ref 63) []) Q E s := by
  k_fill
  intro w p loose mean mg mb  dp un gd cn cs a ccd cl outer A₀ base h₀ L m s Q E B F X T hcs hdp hun  hret
  refine wpAny_call ?_
  k_dflt (refine' enterK (binds := [(Str.ofString "handler", .none)]) B F X T ?kA ?kF ?kK ?k6 ?k7 ?k8 ?k9 ?kB ?_ ?c2 ?c3 ?c4 ?c5; (case kA => exact rfl); (case kF => exact rfl); (case kK => assumption); (case k6 => k_is); (case k7 => k_is); (case k8 => ktr_room); (case k9 => first | exact BindsTo.of_eq rfl | exact binds_K (by k_in) rfl (by k_is) rfl rfl rfl); (case c5 => decide); (case kB => exact locs rfl); (case c2 => exact rfl); (case c3 => exact rfl); (case c4 => exact rfl); k_whole; clear B F X T; intro L' h' F' N' B' X' T'; (try dsimp only); (try k_lift B'); (try k_fold))
  w_strict k_steps
  (with_reducible rename Fr _ _ _ _ => F6)
  (with_reducible rename Heap.MadeExcOf _ _ _ _ _ => M6)
  exact hret _ _ (fun b o e => M6.keeps b o (F6.keep b o e)) _ _ _ F6.keep M6
end
section
theorem zw_R1a_1 : True := by
  k_with_none
  k_with "exec Assign" => (k_here; (fail_if_success (with_reducible show wpAny _ _ _ (CutQ _) _ _)); (refine cutQ fun cutQ0 cutH0 => ?_))
  k_with "exec AugAssign" => (k_here; (fail_if_success (with_reducible show wpAny _ _ _ (CutQ _) _ _)); (refine cutQ fun cutQ0 cutH0 => ?_))
  k_with "exec Expr" => (k_here; (fail_if_success (with_reducible show wpAny _ _ _ (CutQ _) _ _)); (refine cutQ fun cutQ0 cutH0 => ?_))
  k_with "CutQ" => ((with_reducible rename (∀ f s', _ → CutQ _ f s') => cutH1); (refine cutH1 _ _ ?_); clear cutH1; (try dsimp only))
  trivial
open LCg
theorem zw_R1a_2 : True := by
  k_with "ite" => (k_here; first | with_reducible refine ite_tt ?_ | with_reducible refine ite_ff ?_ | (refine ite_pos (by with_reducible assumption) ?_) | (refine ite_neg (by with_reducible assumption) ?_) | (refine ite_pos (by omega) ?_) | (refine ite_neg (by omega) ?_) | (with_reducible refine split_dec ?_ ?_ <;> intro _))
  k_with "compareOp In bytes bytes" => (k_here; (refine in_bytes rfl ?_); intro h'ₘ291 tk'ₘ291 ukₘ291; (rename Fr _ _ _ _ => uFₘ291); (rename News _ _ _ _ => uNₘ291); have F'ₘ291 := Fr.keptAll uFₘ291 ukₘ291; have N'ₘ291 := News.grown uNₘ291 ukₘ291; clear ukₘ291 uFₘ291 uNₘ291; (try dsimp only))
  k_with "execs cons" => (k_here; (with_reducible show wpAny _ _ (execs [Stmt.Assign _ _ _, Stmt.Assert _ _ _, Stmt.Assert _ _ _, Stmt.Assign _ _ _, Stmt.Assign _ _ _, Stmt.Assert _ _ _, Stmt.If _ _ _ _, Stmt.Assign _ _ _, Stmt.Assign _ _ _, Stmt.FunctionDef _ _ _ _ _ _ _ _ _ _, Stmt.Expr _ _, Stmt.Assign _ _ _, Stmt.While _ _ _ _, Stmt.Assign _ _ _, Stmt.If _ _ _ _, Stmt.Assert _ _ _, Stmt.Assign _ _ _, Stmt.Assert _ _ _, Stmt.Assign _ _ _, Stmt.Assign _ _ _, Stmt.Assign _ _ _, Stmt.Assign _ _ _, Stmt.Assign _ _ _, Stmt.Assign _ _ _, Stmt.While _ _ _ _, Stmt.If _ _ _ _, Stmt.Return _ _] _) _ _ _); (refine Hold.out ?_))
  k_with "callWith ref" => (k_here; (with_reducible show wpAny _ _ (callWith _ (Value.ref 63) _ _ _) _ _ _); k_dflt (refine' callWith_K0 (by k_in) (by k_is) ?_; k_whole))
  k_with "call ref" => (k_here; (with_reducible show wpAny _ _ (call (Value.ref 63) _) _ _ _); (rename Fr _ _ _ _ => uFₘ495); (rename News _ _ _ _ => uNₘ495); (try dsimp only [List.nil_append, List.cons_append]); k_dflt (refine' c_npe _ _ _ _ _ _ _ _ _ _ _ _ _ _ _ _ _ _ _ _ _ _ _ (by k_asm) uFₘ495 (by k_asm) (by k_asm) (by first | exact rfl | assumption) (by ktr_room) (by ktr_units) ?_; intro h'ₘ495 tk'ₘ495 ukₘ495 hhₘ495 e'ₘ495 vs'ₘ495 uk1ₘ495 uMₘ495; have F'ₘ495 := Fr.keptAll uFₘ495 uk1ₘ495; have N'ₘ495 := News.grown uNₘ495 uk1ₘ495; clear ukₘ495 uk1ₘ495; (try dsimp only)))
  k_with "exec Raise some none" => (k_here; (with_reducible show wpAny _ _ (exec (Stmt.Raise (some (Expr.Call (Expr.Name _ _) [] [] _)) none _) _) _ _ _); k_dflt (refine' Raise_def (x := Str.ofString "PasswordValueError") (by exact own_of_in (by k_asm) (by k_asm) (by k_is) (by k_exc)) PySem.F.excBase_ValueError rfl ?_))
  trivial
theorem r1 : ∀ (w : World) (p : Program) (loose : List Str) (mean : ExcName → Option Value) (mg mb : Str → Option Value) (news : List (Addr × Obj)) (bpw : Array UInt8) (tpw : CbTok) (pk : List Int) (m0 : Str → Option Value)
  (dp un : Nat) (gd : Option (List Code)) (outer : List Env) (A₀ : Around) (base h₀ : Heap) (L : Addr) (s : Shared) (Q : Flow → Shared → Prop) (E : Value → Shared → Prop)
  (B : Below A₀ base outer h₀) (F : Fr h₀ L s.heap (fun y => if y = Str.ofString "pwd" then some (.bytes bpw tpw) else m0 y)) (X : (KF w.params).In h₀) (T : Top p loose mean mg mb h₀)
  (N : News h₀ L s.heap news) (hdp : dp + 30 < recursionLimit) (hun : un + 100 < cLine)
  (hbp : KBw.bInts bpw = pk) (hlp : pk.length ≤ 300)
  (hE : (∃ k ∈ pk, k = 0) → ∀ hh h' e vs tk' m', Fr h₀ L hh m' → News h₀ L hh news → Heap.MadeExcOf hh h' e (.ref 31) vs → E (.ref e) { s with heap := h', toks := tk' })
  (hk : (∀ k ∈ pk, k ≠ 0) → ∀ h' tk', Fr h₀ L h' (fun y => if y = Str.ofString "pwd" then some (.bytes bpw tpw) else m0 y) → News h₀ L h' news →
    wpAny (model rw_iw0011_01.row.prog w) (rsA (KF w.params) L dp un gd outer) (execs ((bodyAt (KF w.params) 672).drop 3) (rsE (KF w.params) L)) Q E { s with heap := h', toks := tk' }),
  wpAny (model rw_iw0011_01.row.prog w) (rsA (KF w.params) L dp un gd outer) (execs ((bodyAt (KF w.params) 672).drop 1) (rsE (KF w.params) L)) Q E s := by
  k_fill
  intro w p loose mean mg mb news bpw tpw pk m0 dp un gd outer A₀ base h₀ L s Q E B F X T N hdp hun hbp hlp hE hk
  refine wpAny_execs_cons ?_
  k_steps
  · (with_reducible rename Fr _ _ _ _ => F6)
    (with_reducible rename News _ _ _ _ => N6)
    (with_reducible rename Heap.MadeExcOf _ _ _ _ _ => M6)
    (with_reducible rename (Option.isSome _ = true) => q6)
    obtain ⟨t, ht, _, _⟩ := M6.there
    rw [find_null, hbp, List.any_eq_true] at q6
    obtain ⟨k, hk1, hk2⟩ := q6
    exact ⟨_, t, rfl, fun b o e => M6.keeps b o (F6.keep b o e), ht, hE ⟨k, hk1, eq_of_beq hk2⟩ _ _ _ _ _ _ F6 N6 M6⟩
  · (with_reducible rename Fr _ _ _ _ => F6)
    (with_reducible rename News _ _ _ _ => N6)
    (with_reducible rename (Option.isSome _ = false) => q6)
    rw [find_null, hbp, List.any_eq_false] at q6
    refine Hold.out (P := wpAny _ _ _ _ _ _) ?_
    exact hk (fun k hk1 hk2 => q6 k hk1 (beq_iff_eq.mpr hk2)) _ _ F6 N6
theorem zw_R1a_3 : True := by
  k_with "execs cons" => (k_here; (with_reducible show wpAny _ _ (execs [Stmt.Assert _ _ _, Stmt.If _ _ _ _, Stmt.Assign _ _ _, Stmt.Assert _ _ _, Stmt.Assert _ _ _, Stmt.Assign _ _ _, Stmt.Assign _ _ _, Stmt.Assert _ _ _, Stmt.If _ _ _ _, Stmt.Assign _ _ _, Stmt.Assign _ _ _, Stmt.FunctionDef _ _ _ _ _ _ _ _ _ _, Stmt.Expr _ _, Stmt.Assign _ _ _, Stmt.While _ _ _ _, Stmt.Assign _ _ _, Stmt.If _ _ _ _, Stmt.Assert _ _ _, Stmt.Assign _ _ _, Stmt.Assert _ _ _, Stmt.Assign _ _ _, Stmt.Assign _ _ _, Stmt.Assign _ _ _, Stmt.Assign _ _ _, Stmt.Assign _ _ _, Stmt.Assign _ _ _, Stmt.While _ _ _ _, Stmt.If _ _ _ _, Stmt.Return _ _] _) _ _ _); (refine Hold.out ?_))
  k_with "getMethod str" => (k_here; (with_reducible show wpAny _ _ (getMethod (Value.str _ _) (Str.ofString "encode") _) _ _ _); (refine strMeth PySem.F.slot_str_encode PySem.F.type_str_encode ?_))
  k_with "call builtin:str.encode" => (k_here; (refine encode_utf8 (by assumption) (by assumption) ?_); intro _ _ _ uUtfₘ136)
  trivial
theorem r0b : ∀ (w : World) (p : Program) (loose : List Str) (mean : ExcName → Option Value) (mg mb : Str → Option Value) (news : List (Addr × Obj)) (bpw : Array UInt8) (tpw : CbTok) (pk : List Int) (m0 : Str → Option Value)
  (dp un : Nat) (gd : Option (List Code)) (outer : List Env) (A₀ : Around) (base h₀ : Heap) (L : Addr) (s : Shared) (Q : Flow → Shared → Prop) (E : Value → Shared → Prop)
  (B : Below A₀ base outer h₀) (F : Fr h₀ L s.heap (fun y => if y = Str.ofString "pwd" then some (.bytes bpw tpw) else m0 y)) (X : (KF w.params).In h₀) (T : Top p loose mean mg mb h₀)
  (N : News h₀ L s.heap news) (hdp : dp + 30 < recursionLimit) (hun : un + 100 < cLine)
  (hbp : KBw.bInts bpw = pk) (hlp : pk.length ≤ 300)
  (hE : (∃ k ∈ pk, k = 0) → ∀ hh h' e vs tk' m', Fr h₀ L hh m' → News h₀ L hh news → Heap.MadeExcOf hh h' e (.ref 31) vs → E (.ref e) { s with heap := h', toks := tk' })
  (hk : (∀ k ∈ pk, k ≠ 0) → ∀ h' tk', Fr h₀ L h' (fun y => if y = Str.ofString "pwd" then some (.bytes bpw tpw) else m0 y) → News h₀ L h' news →
    wpAny (model rw_iw0011_01.row.prog w) (rsA (KF w.params) L dp un gd outer) (execs ((bodyAt (KF w.params) 672).drop 3) (rsE (KF w.params) L)) Q E { s with heap := h', toks := tk' }),
  wpAny (model rw_iw0011_01.row.prog w) (rsA (KF w.params) L dp un gd outer) (execs (bodyAt (KF w.params) 672) (rsE (KF w.params) L)) Q E s := by
  k_fill
  intro w p loose mean mg mb news bpw tpw pk m0 dp un gd outer A₀ base h₀ L s Q E B F X T N hdp hun hbp hlp hE hk
  refine wpAny_execs_cons ?_
  k_steps
  (with_reducible rename Fr _ _ _ _ => F6)
  (with_reducible rename News _ _ _ _ => N6)
  refine Hold.out (P := wpAny _ _ _ _ _ _) ?_
  exact r1 w p loose mean mg mb news bpw tpw pk m0 dp un gd outer A₀ base h₀ L _ Q E B F6 X T N6 hdp hun hbp hlp hE hk
theorem frp {h₀ h : Heap} {L : Addr} {m : Str → Option Value} {v v' : Value} (F : Fr h₀ L h (fun y => if y = Str.ofString "pwd" then some v else if y = Str.ofString "pwd" then some v' else m y)) : Fr h₀ L h (fun y => if y = Str.ofString "pwd" then some v else m y) := by
  refine fr_eq F fun y => ?_
  rcases Decidable.em (y = Str.ofString "pwd") with rfl | q1
  · rfl
  simp only [if_neg q1]
theorem r0t : ∀ (w : World) (p : Program) (loose : List Str) (mean : ExcName → Option Value) (mg mb : Str → Option Value) (news : List (Addr × Obj)) (x : Str) (tx : Tok) (m0 : Str → Option Value)
  (dp un : Nat) (gd : Option (List Code)) (outer : List Env) (A₀ : Around) (base h₀ : Heap) (L : Addr) (s : Shared) (Q : Flow → Shared → Prop) (E : Value → Shared → Prop)
  (B : Below A₀ base outer h₀) (F : Fr h₀ L s.heap (fun y => if y = Str.ofString "pwd" then some (.str x tx) else m0 y)) (X : (KF w.params).In h₀) (T : Top p loose mean mg mb h₀)
  (N : News h₀ L s.heap news) (hdp : dp + 30 < recursionLimit) (hun : un + 100 < cLine)
  (hx1 : ∀ k ∈ x.cps.toList, k < 2048) (hx2 : x.cps.size ≤ 16777) (hlp : (utf8I x.cps.toList).length ≤ 300)
  (hE : (∃ k ∈ utf8I x.cps.toList, k = 0) → ∀ hh h' e vs tk' m', Fr h₀ L hh m' → News h₀ L hh news → Heap.MadeExcOf hh h' e (.ref 31) vs → E (.ref e) { s with heap := h', toks := tk' })
  (hk : (∀ k ∈ utf8I x.cps.toList, k ≠ 0) → ∀ h' tk' bpw tpw, KBw.bInts bpw = utf8I x.cps.toList → Fr h₀ L h' (fun y => if y = Str.ofString "pwd" then some (.bytes bpw tpw) else m0 y) → News h₀ L h' news →
    wpAny (model rw_iw0011_01.row.prog w) (rsA (KF w.params) L dp un gd outer) (execs ((bodyAt (KF w.params) 672).drop 3) (rsE (KF w.params) L)) Q E { s with heap := h', toks := tk' }),
  wpAny (model rw_iw0011_01.row.prog w) (rsA (KF w.params) L dp un gd outer) (execs (bodyAt (KF w.params) 672) (rsE (KF w.params) L)) Q E s := by
  k_fill
  intro w p loose mean mg mb news x tx m0 dp un gd outer A₀ base h₀ L s Q E B F X T N hdp hun hx1 hx2 hlp hE hk
  refine wpAny_execs_cons ?_
  k_steps
  (with_reducible rename Fr _ _ _ _ => F6)
  (with_reducible rename News _ _ _ _ => N6)
  (with_reducible rename (KBw.bInts _ = utf8I _) => u6)
  refine Hold.out (P := wpAny _ _ _ _ _ _) ?_
  have F8 := frp F6
  exact r1 w p loose mean mg mb news _ _ (utf8I x.cps.toList) m0 dp un gd outer A₀ base h₀ L _ Q E B F8 X T N6 hdp hun u6 hlp hE (fun h0 h' tk' F' N' => hk h0 h' tk' _ _ u6 F' N')
end
section
theorem zw_Ro_1 : True := by
  k_with_none
  k_with "exec Assign" => (k_here; (fail_if_success (with_reducible show wpAny _ _ _ (CutQ _) _ _)); (refine cutQ fun cutQ0 cutH0 => ?_))
  k_with "exec AugAssign" => (k_here; (fail_if_success (with_reducible show wpAny _ _ _ (CutQ _) _ _)); (refine cutQ fun cutQ0 cutH0 => ?_))
  k_with "exec Expr" => (k_here; (fail_if_success (with_reducible show wpAny _ _ _ (CutQ _) _ _)); (refine cutQ fun cutQ0 cutH0 => ?_))
  k_with "CutQ" => ((with_reducible rename (∀ f s', _ → CutQ _ f s') => cutH1); (refine cutH1 _ _ ?_); clear cutH1; (try dsimp only))
  trivial
open LCg
theorem zw_Ro_2 : True := by
  k_with "ite" => (k_here; first | with_reducible refine ite_tt ?_ | with_reducible refine ite_ff ?_ | (refine ite_pos (by with_reducible assumption) ?_) | (refine ite_neg (by with_reducible assumption) ?_) | (refine ite_pos (by omega) ?_) | (refine ite_neg (by omega) ?_) | (with_reducible refine split_dec ?_ ?_ <;> intro _))
  trivial
/-- not of that kind -/
def NoInst (w : World) (h₀ : Heap) (L : Addr) (news : List (Addr × Obj)) (v : Value) (ty : String) : Prop :=
  ∀ (A : Around) (s : Shared) (m : Str → Option Value) (Q E : Value → Shared → Prop), Fr h₀ L s.heap m → News h₀ L s.heap news → (∀ tk, Q (.bool false) { s with toks := tk }) → wpAny (model rw_iw0011_01.row.prog w) A (call (.builtin "isinstance") [v, .type ty]) Q E s
theorem NoInst.go {w : World} {h₀ : Heap} {L : Addr} {news : List (Addr × Obj)} {v : Value} {ty : String} {A : Around} {s : Shared} {m : Str → Option Value} {Q E : Value → Shared → Prop} (x : NoInst w h₀ L news v ty) (F : Fr h₀ L s.heap m) (N : News h₀ L s.heap news) (h : ∀ tk, Q (.bool false) { s with toks := tk }) :
    wpAny (model rw_iw0011_01.row.prog w) A (call (.builtin "isinstance") [v, .type ty]) Q E s := x A s m Q E F N h
theorem zw_Ro_3 : True := by
  k_with "call builtin:isinstance" => (k_here; (try dsimp only [List.nil_append, List.cons_append]); (rename Fr _ _ _ _ => uFₘ468); (rename News _ _ _ _ => uNₘ468); k_dflt (refine' NoInst.go (by with_reducible assumption) uFₘ468 uNₘ468 ?_); intro _)
  trivial
theorem r0o : ∀ (w : World) (p : Program) (loose : List Str) (mean : ExcName → Option Value) (mg mb : Str → Option Value) (news : List (Addr × Obj)) (v : Value) (m0 : Str → Option Value)
  (dp un : Nat) (gd : Option (List Code)) (outer : List Env) (A₀ : Around) (base h₀ : Heap) (L : Addr) (s : Shared) (Q : Flow → Shared → Prop) (E : Value → Shared → Prop)
  (B : Below A₀ base outer h₀) (F : Fr h₀ L s.heap (fun y => if y = Str.ofString "pwd" then some v else m0 y)) (X : (KF w.params).In h₀) (T : Top p loose mean mg mb h₀)
  (N : News h₀ L s.heap news) (hdp : dp + 30 < recursionLimit) (hun : un + 100 < cLine)
  (h1 : NoInst w h₀ L news v "str") (h2 : NoInst w h₀ L news v "bytes")
  (hE : ∀ hh h' e tk' m', Fr h₀ L hh m' → News h₀ L hh news → Heap.NewExc hh h' e "AssertionError" → E (.ref e) { s with heap := h', toks := tk' }),
  wpAny (model rw_iw0011_01.row.prog w) (rsA (KF w.params) L dp un gd outer) (execs (bodyAt (KF w.params) 672) (rsE (KF w.params) L)) Q E s := by
  k_fill
  intro w p loose mean mg mb news v m0 dp un gd outer A₀ base h₀ L s Q E B F X T N hdp hun h1 h2 hE
  refine wpAny_execs_cons ?_
  k_steps
  exact hE _ _ _ _ _ (by assumption) (by assumption) (by assumption)
theorem r3w : ∀ (w : World) (p : Program) (loose : List Str) (mean : ExcName → Option Value) (mg mb : Str → Option Value) (news : List (Addr × Obj)) (bpw : Array UInt8) (tpw : CbTok) (pk : List Int) (v : Value) (rn le : Int) (trn tle : CbTok) (m0 : Str → Option Value)
  (dp un : Nat) (gd : Option (List Code)) (outer : List Env) (A₀ : Around) (base h₀ : Heap) (L : Addr) (s : Shared) (Q : Flow → Shared → Prop) (E : Value → Shared → Prop)
  (B : Below A₀ base outer h₀) (F : Fr h₀ L s.heap (fun y => if y = Str.ofString "pwd" then some (.bytes bpw tpw) else if y = Str.ofString "salt" then some v else if y = Str.ofString "rounds" then some (.int rn trn) else if y = Str.ofString "least" then some (.int le tle) else m0 y)) (X : (KF w.params).In h₀) (T : Top p loose mean mg mb h₀)
  (N : News h₀ L s.heap news) (hdp : dp + 30 < recursionLimit) (hun : un + 100 < cLine)
  (hbp : KBw.bInts bpw = pk) (hlp : pk.length ≤ 300) (h1 : NoInst w h₀ L news v "str")
  (hE : ∀ hh h' e tk' m', Fr h₀ L hh m' → News h₀ L hh news → Heap.NewExc hh h' e "AssertionError" → E (.ref e) { s with heap := h', toks := tk' }),
  wpAny (model rw_iw0011_01.row.prog w) (rsA (KF w.params) L dp un gd outer) (execs ((bodyAt (KF w.params) 672).drop 3) (rsE (KF w.params) L)) Q E s := by
  k_fill
  intro w p loose mean mg mb news bpw tpw pk v rn le trn tle m0 dp un gd outer A₀ base h₀ L s Q E B F X T N hdp hun hbp hlp h1 hE
  refine wpAny_execs_cons ?_
  k_steps
  all_goals exact hE _ _ _ _ _ (by assumption) (by assumption) (by assumption)
end
section
theorem zw_Rs_1 : True := by
  k_with_none
  k_with "exec Assign" => (k_here; (fail_if_success (with_reducible show wpAny _ _ _ (CutQ _) _ _)); (refine cutQ fun cutQ0 cutH0 => ?_))
  k_with "exec AugAssign" => (k_here; (fail_if_success (with_reducible show wpAny _ _ _ (CutQ _) _ _)); (refine cutQ fun cutQ0 cutH0 => ?_))
  k_with "exec Expr" => (k_here; (fail_if_success (with_reducible show wpAny _ _ _ (CutQ _) _ _)); (refine cutQ fun cutQ0 cutH0 => ?_))
  k_with "CutQ" => ((with_reducible rename (∀ f s', _ → CutQ _ f s') => cutH1); (refine cutH1 _ _ ?_); clear cutH1; (try dsimp only))
  trivial
open LCg
theorem fr1 {h₀ h : Heap} {L : Addr} {m : Str → Option Value} {v : Value} (F : Fr h₀ L h m) (h1 : m (Str.ofString "pwd") = some v) : Fr h₀ L h (fun y => if y = Str.ofString "pwd" then some v else m y) := by
  refine fr_eq F fun y => ?_
  rcases Decidable.em (y = Str.ofString "pwd") with rfl | q1
  · rw [h1]; rfl
  simp only [if_neg q1]
theorem frs6 {h₀ h : Heap} {L : Addr} {m : Str → Option Value} {v1 v2 v3 v4 v5 v6 : Value} (F : Fr h₀ L h (fun y => if y = Str.ofString "pwd" then some v1 else m y)) (h2 : m (Str.ofString "salt") = some v2) (h3 : m (Str.ofString "rounds") = some v3) (h4 : m (Str.ofString "hash_const") = some v4) (h5 : m (Str.ofString "use_512") = some v5) (h6 : m (Str.ofString "least") = some v6) :
    Fr h₀ L h (fun y => if y = Str.ofString "pwd" then some v1 else if y = Str.ofString "salt" then some v2 else if y = Str.ofString "rounds" then some v3 else if y = Str.ofString "hash_const" then some v4 else if y = Str.ofString "use_512" then some v5 else if y = Str.ofString "least" then some v6 else m y) := by
  refine fr_eq F fun y => ?_
  rcases Decidable.em (y = Str.ofString "pwd") with rfl | q1
  · rfl
  rcases Decidable.em (y = Str.ofString "salt") with rfl | q2
  · simp only [if_neg q1, h2]; rfl
  rcases Decidable.em (y = Str.ofString "rounds") with rfl | q3
  · simp only [if_neg q1, h3]; rfl
  rcases Decidable.em (y = Str.ofString "hash_const") with rfl | q4
  · simp only [if_neg q1, h4]; rfl
  rcases Decidable.em (y = Str.ofString "use_512") with rfl | q5
  · simp only [if_neg q1, h5]; rfl
  rcases Decidable.em (y = Str.ofString "least") with rfl | q6
  · simp only [if_neg q1, h6]; rfl
  simp only [if_neg q1, if_neg q2, if_neg q3, if_neg q4, if_neg q5, if_neg q6]
/-- the bytes that are hashed first of all behind the doubled digest -/
abbrev begR (hf : List Int → List Int) (pk ss : List Int) : List Int := pk ++ ss ++ repI (hf (pk ++ ss ++ pk)) pk.length ++ bitsI (hf (pk ++ ss ++ pk)) pk pk.length
/-- what the function answers -/
def toldI (K : Frag) (hf : List Int → List Int) (pk ss : List Int) (rn : Nat) (off : List Int) : List Nat :=
  ((encI (pickI (roundsI hf (prsI K (repI (hf (manyI pk.length pk)) pk.length) (dsI hf ss (hf (begR hf pk ss)))) rn (hf (begR hf pk ss))) off)).map signI).map Int.toNat
/-- a secret: octets, or a text -/
def PwdIs (v : Value) (pk : List Int) : Prop :=
  (∃ b t, v = .bytes b t ∧ KBw.bInts b = pk) ∨ ∃ x t, v = .str x t ∧ utf8I x.cps.toList = pk ∧ (∀ k ∈ x.cps.toList, k < 2048) ∧ x.cps.size ≤ 16777
theorem news_cells {h₀ h : Heap} {L : Addr} {a b c x y : Addr × Obj} (N : News h₀ L h [a, b, c, x, y]) : News h₀ L h [c, b, a, x, y] := by
  intro q hq
  simp only [List.mem_cons, List.not_mem_nil, or_false] at hq
  rcases hq with rfl | rfl | rfl | rfl | rfl
  · exact N _ (.tail _ (.tail _ (.head _)))
  · exact N _ (.tail _ (.head _))
  · exact N _ (.head _)
  · exact N _ (.tail _ (.tail _ (.tail _ (.head _))))
  · exact N _ (.tail _ (.tail _ (.tail _ (.tail _ (.head _)))))
theorem r3z : ∀ (w : World) (p : Program) (loose : List Str) (mean : ExcName → Option Value) (mg mb : Str → Option Value) (hb : Heap) (HF : Addr) (hf : List Int → List Int) (oP oA oT : Obj) (vP vA vT : Option Value) (bpw : Array UInt8) (tpw : CbTok) (pk : List Int) (xs : Str) (txs : Tok) (ss : List Int) (rn : Nat) (trn : CbTok) (b5 : Bool) (le : Int) (tle : CbTok) (m0 : Str → Option Value)
  (dp un : Nat) (gd : Option (List Code)) (outer : List Env) (A₀ : Around) (base h₀ : Heap) (L : Addr) (s : Shared) (Q : Flow → Shared → Prop) (E : Value → Shared → Prop)
  (B : Below A₀ base outer h₀) (F : Fr h₀ L s.heap (fun y => if y = Str.ofString "pwd" then some (.bytes bpw tpw) else if y = Str.ofString "salt" then some (.str xs txs) else if y = Str.ofString "rounds" then some (.int (rn : Int) trn) else if y = Str.ofString "hash_const" then some (.ref HF) else if y = Str.ofString "use_512" then some (.bool b5) else if y = Str.ofString "least" then some (.int le tle) else m0 y)) (X : (KF w.params).In h₀) (T : Top p loose mean mg mb h₀)
  (N : News h₀ L s.heap [(L + 1, oP), (L + 1 + 1, oA), (L + 1 + 1 + 1, oT), (123, tabObj #[]), (669, tabObj #[])]) (hoP : oP.data = .cell vP) (hoA : oA.data = .cell vA) (hoT : oT.data = .cell vT) (hdp : dp + 30 < recursionLimit) (hun : un + 100 < cLine)
  (hH : HOk w hb HF hf (if b5 then 64 else 32)) (hkb : ∀ b o, hb.get? b = some o → h₀.get? b = some o) (hHf : HfAt h₀ HF) (hbp : KBw.bInts bpw = pk) (hlp : pk.length ≤ 104) (hasc : ∀ k ∈ xs.cps.toList, k < 128) (hss : xs.cps.toList.map (fun n : Nat => (n : Int)) = ss) (hls : ss.length ≤ 16) (hrn : rn ≤ 99) (hle : le ≤ rn)
  (hC : CodeHd h₀ 671 669) (h123 : @LT.lt Nat _ 123 L) (h669 : @LT.lt Nat _ 669 L)
  (hret : ∀ h' tk' gs' t' m', Fr h₀ L h' m' → GK s.gens gs' → (∃ ps, h'.get? 123 = some (tabObj ps)) → (∃ ps, h'.get? 669 = some (tabObj ps)) → Q (.ret (.str ⟨(toldI (KF w.params) hf pk ss rn (offAt (KF w.params) (tpOf b5))).toArray⟩ t')) { s with heap := h', toks := tk', gens := gs' }),
  wpAny (model rw_iw0011_01.row.prog w) (rsA (KF w.params) L dp un gd outer) (execs ((bodyAt (KF w.params) 672).drop 3) (rsE (KF w.params) L)) Q E s := by
  intro w p loose mean mg mb hb HF hf oP oA oT vP vA vT bpw tpw pk xs txs ss rn trn b5 le tle m0 dp un gd outer A₀ base h₀ L s Q E B F X T N hoP hoA hoT hdp hun hH hkb hHf hbp hlp hasc hss hls hrn hle hC h123 h669 hret
  have htup : TupOk w (tpOf b5) (seqAt (KF w.params) (tpOf b5)) (offAt (KF w.params) (tpOf b5)) := by
    cases b5
    · exact tup256 w
    · exact tup512 w
  have hlen : (offAt (KF w.params) (tpOf b5)).length = (if b5 then 64 else 32) := by
    cases b5
    · exact len256 w
    · exact len512 w
  have hsz : (if b5 then 64 else 32) = 32 ∨ (if b5 then 64 else 32) = 64 := by cases b5 <;> simp
  have hxs : xs.cps.size = ss.length := by rw [← hss, List.length_map, Array.length_toList]
  refine r3 w p loose mean mg mb (.ref HF) _ bpw tpw pk xs txs ss (rn : Int) le trn tle b5 m0 dp un gd outer A₀ base h₀ L s Q E B F X T N hdp hun hbp (by omega) hasc (by omega) hss (by omega) (fun h1 => ?_) (fun _ _ _ h' tk' bss tss t1 t2 m1 hbs F2 N2 => ?_)
  · have := h1 hle (by omega)
    omega
  · exact r10 w p loose mean mg mb hb HF hf _ oP oA oT vP vA vT bpw tpw pk bss tss ss pk.length ss.length t1 t2 rn trn (tpOf b5) _ _ m1 dp un gd outer A₀ base h₀ L _ Q E B F2 X T N2 hoP hoA hoT hdp hun hH hkb hHf hbp hbs rfl rfl hlp hls hrn hsz htup hlen hC h123 h669 hret
theorem c_rsc : ∀ (w : World) (p : Program) (loose : List Str) (mean : ExcName → Option Value) (mg mb : Str → Option Value) (hb : Heap) (HF : Addr) (hf : List Int → List Int) (v : Value) (pk : List Int) (xs : Str) (txs : Tok) (ss : List Int) (rn : Nat) (trn : CbTok) (b5 : Bool) (le : Int) (tle : CbTok)
  (dp un : Nat) (gd : Option (List Code)) (cn : Str) (cs : Scope) (a : Addr) (ccd : Value) (cl : List (Str × Addr)) (outer : List Env) (A₀ : Around) (base h₀ : Heap) (L : Addr) (m : Str → Option Value) (s : Shared) (Q E : Value → Shared → Prop)
  (B : Below A₀ base outer h₀) (F : Fr h₀ L s.heap m) (X : (KF w.params).In h₀) (T : Top p loose mean mg mb h₀) (hcs : cs.kind = .function) (hdp : dp + 40 < recursionLimit) (hun : un + 150 < cLine)
  (h123 : s.heap.get? 123 = some (tabObj #[])) (h669 : s.heap.get? 669 = some (tabObj #[])) (hH : HOk w hb HF hf (if b5 then 64 else 32)) (hkb : ∀ b o, hb.get? b = some o → (ghostOf s.heap [(125, 123), (671, 669)]).get? b = some o) (hHf : HfAt s.heap HF)
  (hv : PwdIs v pk) (hpk : pk.length ≤ 104) (hnz : ∀ k ∈ pk, k ≠ 0) (hasc : ∀ k ∈ xs.cps.toList, k < 128) (hss : xs.cps.toList.map (fun n : Nat => (n : Int)) = ss) (hsl : ss.length ≤ 16) (hrn : rn ≤ 99) (hle : le ≤ rn)
  (hret : ∀ (h' : Heap) (tk' : Nat) (gs' : Array GenState) (t : Tok), (∀ b o, b ≠ 123 → b ≠ 669 → s.heap.get? b = some o → h'.get? b = some o) → GK s.gens gs' → (∃ ps, h'.get? 123 = some (tabObj ps)) → (∃ ps, h'.get? 669 = some (tabObj ps)) →
    Q (.str ⟨(toldI (KF w.params) hf pk ss rn (offAt (KF w.params) (tpOf b5))).toArray⟩ t) { s with heap := h', toks := tk', gens := gs' }),
  wpAny (model rw_iw0011_01.row.prog w) (ktrTop dp un gd cn cs L a ccd cl outer) (call (.ref 672) [v, .str xs txs, .int (rn : Int) trn, .ref HF, .bool b5, .int le tle]) Q E s := by
  k_fill
  intro w p loose mean mg mb hb HF hf v pk xs txs ss rn trn b5 le tle dp un gd cn cs a ccd cl outer A₀ base h₀ L m s Q E B F X T hcs hdp hun h123 h669 hH hkb hHf hv hpk hnz hasc hss hsl hrn hle hret
  have hT : TabsAt [(125, 123), (671, 669)] s.heap := by
    intro q hq
    rcases List.mem_cons.mp hq with rfl | hq
    · exact ⟨codeHd_of_K (X.keeps F.keep) (by kernel_rfl), h123⟩
    rw [List.mem_singleton.mp hq]
    exact ⟨codeHd_of_K (X.keeps F.keep) (by kernel_rfl), h669⟩
  refine wpAny_call ?_
  k_dflt (refine' enterKC (binds := [(Str.ofString "pwd", v), (Str.ofString "salt", .str xs txs), (Str.ofString "rounds", .int (rn : Int) trn), (Str.ofString "hash_const", .ref HF), (Str.ofString "use_512", .bool b5), (Str.ofString "least", .int le tle)]) B F X T ?kA ?kF ?kK ?k6 ?k7 ?k8 ?k9 ?kB ?kD ?_ ?c2 ?c3 ?c4; (case kA => exact rfl); (case kF => exact rfl); (case kK => assumption); (case k6 => k_is); (case k7 => k_is); (case k8 => ktr_room); (case k9 => first | exact BindsTo.of_eq rfl | exact binds_K (by k_in) rfl (by k_is) rfl rfl rfl); (case kB => exact rfl); (case kD => decide +kernel); (case c2 => exact rfl); (case c3 => exact rfl); (case c4 => exact rfl); k_whole; clear B F X T; intro L' h' tk' cells' F' N' Y' B' X' T'; k_cells Y'; (try simp only [List.cons_append, List.nil_append] at N'); (try dsimp only); (try k_lift B'); (try k_fold))
  have C8 := ghost_code hT
  have F8 := ghost_fr hT F'
  have N8 := ghost_news hT F' N'
  have B8 := ghost_belowG hT B'
  have X8 := ghost_K hT X' (by kernel_rfl)
  have T8 := ghost_top hT T'
  have l0 := ghost_lt hT F'
  clear B' F' N' X' T'
  simp only [tabNews, List.map_cons, List.map_nil, List.nil_append, List.cons_append] at N8
  simp only [tabNews, List.map_cons, List.map_nil] at l0
  k_lt l0
  obtain ⟨C9, C7, -⟩ := C8
  have hHf8 : HfAt (ghostOf s.heap [(125, 123), (671, 669)]) HF := by
    obtain ⟨oc, od, fd, sl, e⟩ := hHf
    exact ⟨oc, od, fd, sl, ghost_get hT e (fun q => by cases q)⟩
  obtain ⟨M8, F9, e1, e2, e3, e4, e5, e6⟩ : ∃ M8 : Str → Option Value, Fr (ghostOf s.heap [(125, 123), (671, 669)]) L' h' M8 ∧ M8 (Str.ofString "pwd") = some v ∧ M8 (Str.ofString "salt") = some (.str xs txs) ∧ M8 (Str.ofString "rounds") = some (.int (rn : Int) trn) ∧ M8 (Str.ofString "hash_const") = some (.ref HF) ∧ M8 (Str.ofString "use_512") = some (.bool b5) ∧ M8 (Str.ofString "least") = some (.int le tle) := ⟨_, F8, rfl, rfl, rfl, rfl, rfl, rfl⟩
  clear F8
  have l3 : @LT.lt Nat _ 123 L' := by omega
  have l4 : @LT.lt Nat _ 669 L' := by omega
  have k1 : (ktrTop dp un gd cn cs L a ccd cl outer).depth + 1 + 30 < recursionLimit := (by omega : dp + 1 + 30 < recursionLimit)
  have k2 : (ktrTop dp un gd cn cs L a ccd cl outer).units + 3 + 100 < cLine := (by omega : un + 3 + 100 < cLine)
  rcases hv with ⟨b, t, rfl, hb8⟩ | ⟨x, t, rfl, hx1, hx2, hx3⟩
  · refine r0b w _ _ _ _ _ _ b t pk M8 _ _ _ _ _ _ _ L' _ _ _ B8 (fr1 F9 e1) X8 T8 N8 k1 k2 hb8 (by omega) (fun ⟨k, h1, h2⟩ => absurd h2 (hnz k h1)) (fun _ h2 tk2 F2 N2 => ?_)
    refine r3z w _ _ _ _ _ hb HF hf _ _ _ _ _ _ b _ pk xs txs ss rn trn b5 le tle M8 _ _ _ _ _ _ _ L' _ _ _ B8 (frs6 F2 e2 e3 e4 e5 e6) X8 T8 (news_cells N2) (by assumption) (by assumption) (by assumption) k1 k2 hH hkb hHf8 hb8 hpk hasc hss hsl hrn hle C7 l3 l4 (fun h3 tk3 gs3 t3 m3 F3 hg h5 h6 => ?_)
    exact hret _ _ _ _ (fun b o n1 n2 e => F3.keep b o (ghost_ne e (by simp [n1, n2]))) hg h5 h6
  · subst hx1
    refine r0t w _ _ _ _ _ _ x t M8 _ _ _ _ _ _ _ L' _ _ _ B8 (fr1 F9 e1) X8 T8 N8 k1 k2 hx2 hx3 (by omega) (fun ⟨k, h1, h2⟩ => absurd h2 (hnz k h1)) (fun _ h2 tk2 bpw tpw hb8 F2 N2 => ?_)
    refine r3z w _ _ _ _ _ hb HF hf _ _ _ _ _ _ bpw _ _ xs txs ss rn trn b5 le tle M8 _ _ _ _ _ _ _ L' _ _ _ B8 (frs6 F2 e2 e3 e4 e5 e6) X8 T8 (news_cells N2) (by assumption) (by assumption) (by assumption) k1 k2 hH hkb hHf8 hb8 hpk hasc hss hsl hrn hle C7 l3 l4 (fun h3 tk3 gs3 t3 m3 F3 hg h5 h6 => ?_)
    exact hret _ _ _ _ (fun b o n1 n2 e => F3.keep b o (ghost_ne e (by simp [n1, n2]))) hg h5 h6
end
section
open LCg
abbrev lwE (K : Frag) (L : Addr) : Env := envOfC (Str.ofString "law") (scopeAt K 736) L 736 (.ref 735)
abbrev lwA (K : Frag) (L : Addr) (dp un : Nat) (gd : Option (List Code)) (outer : List Env) : Around := ktrTop dp un gd (Str.ofString "law") (scopeAt K 736) L 736 (.ref 735) (cellsFrom (L + 1) (scopeAt K 736).names []) outer
def isAt (ns : List Int) (k : Int) (y : Value) : Prop := ∃ t, y = .int (ns.getD k.toNat 0) t
theorem Made.peel {R : Int → Value → Prop} {k : Int} {ks : List Int} {ys : List Value} (h : Made R (k :: ks) ys) : ∃ y ys', ys = y :: ys' ∧ R k y ∧ Made R ks ys' := by
  obtain ⟨hl, hg⟩ := h
  cases ys with
  | nil => cases hl
  | cons y ys' => exact ⟨y, ys', rfl, hg 0 k y rfl rfl, Nat.succ.inj hl, fun i k' y' e1 e2 => hg (i + 1) k' y' e1 e2⟩
theorem Made.nil {R : Int → Value → Prop} {ys : List Value} (h : Made R [] ys) : ys = [] := List.length_eq_zero_iff.mp h.1
theorem Made.three {ns : List Int} {ys : List Value} (h : Made (isAt ns) (rangeKs 0 3) ys) : ∃ t1 t2 t3, ys = [.int (ns.getD 0 0) t1, .int (ns.getD 1 0) t2, .int (ns.getD 2 0) t3] := by
  rw [show rangeKs 0 3 = [0, 1, 2] by decide] at h
  obtain ⟨_, _, e0, ⟨t1, h1⟩, h⟩ := h.peel
  obtain ⟨_, _, e1, ⟨t2, h2⟩, h⟩ := h.peel
  obtain ⟨_, _, e2, ⟨t3, h3⟩, h⟩ := h.peel
  exact ⟨t1, t2, t3, by rw [e0, e1, e2, h.nil, h1, h2, h3]; rfl⟩
theorem ints_item : ∀ {vs : List Value} {ns : List Int}, IntsAre vs ns → ∀ k, k < vs.length → ∃ t, vs[k]? = some (.int (ns.getD k 0) t)
  | _, _, .nil, k, h => absurd h (Nat.not_lt_zero _)
  | _, _, .cons n t r, 0, _ => ⟨t, rfl⟩
  | _, _, .cons n t r, k + 1, h => by
    obtain ⟨t', e⟩ := ints_item r k (by simpa using h)
    exact ⟨t', by simpa using e⟩
theorem isAt_out {ns : List Int} {vs : List Value} {k : Int} {t : Tok} (h : IntsAre vs ns) (hk : ¬ k < (vs.length : Int)) : isAt ns k (.int 0 t) := by
  refine ⟨t, ?_⟩
  rw [List.getD_eq_getElem?_getD, List.getElem?_eq_none (by rw [← h.length]; omega)]
  rfl
theorem drop23 {h₀ h : Heap} {L : Addr} {a b c : Addr × Obj} {r : List (Addr × Obj)} (N : News h₀ L h (a :: b :: c :: r)) : News h₀ L h (a :: r) := by
  intro q hq
  rcases List.mem_cons.mp hq with rfl | hq
  · exact N _ (.head _)
  · exact N _ (.tail _ (.tail _ (.tail _ hq)))
theorem abs_news {G : Prop} {h₀ h : Heap} {L : Addr} {news : List (Addr × Obj)} (N : News h₀ L h news) (k : ∀ nw, nw = news → News h₀ L h nw → G) : G := k news rfl N
section
variable {prog : Program} {w : World} {A : Around} {E : Value → Shared → Prop} {s : Shared} {h₀ : Heap} {L : Addr} {vs : List Value} {news : List (Addr × Obj)} {l : Addr} {n : Nat}
theorem lenL {Q : Value → Shared → Prop} (N : News h₀ L s.heap news) (hm : (l, listOf vs.toArray n) ∈ news) (hl : vs.length ≤ 16777216) (h : ∀ t tk, Q (.int (vs.length : Int) t) { s with toks := tk }) : wpAny (model prog w) A (call (.builtin "len") [.ref l]) Q E s := by
  refine len_list (items := vs.toArray) ⟨_, (N _ hm).1, rfl, _, rfl⟩ (by rw [List.size_toArray]; omega) ?_
  rw [List.size_toArray]
  exact h _ _
theorem itemL {value slice : Expr} {ns : List Int} {k : Int} {u : Tok} {Q : Value → Shared → Prop} (N : News h₀ L s.heap news) (hm : (l, listOf vs.toArray n) ∈ news) (hi : IntsAre vs ns) (h0 : 0 ≤ k) (h1 : k < vs.length) (hl : vs.length ≤ 16777216) (h : ∀ t, Q (.int (ns.getD k.toNat 0) t) s)
    (hs : subscripted slice false (.ref l) (.int k u) = operate [.ref l, .int k u] (getItem (.ref l) (.int k u)) := by with_unfolding_all rfl) :
    wpAny (model prog w) A (subscriptTail value slice (.ref l) (.int k u)) Q E s := by
  have hl : s.heap.IsList l vs.toArray := ⟨_, (N _ hm).1, rfl, _, rfl⟩
  obtain ⟨t, e⟩ := ints_item hi k.toNat (by omega)
  exact tail_any hl.typeIs slot_list_getitem.lookup (wpAny_getItem_list hl h0 (by omega) (by rw [List.getElem?_toArray]; exact e) (h t)) hs
end
/-- an octet that is not nought -/
def isOct (_ : Int) (y : Value) : Prop := ∃ v t, y = .int v t ∧ 1 ≤ v ∧ v ≤ 255
theorem isOct_mod {k x : Int} {t : Tok} : isOct k (.int (1 + x.fmod 255) t) := by
  refine ⟨_, t, rfl, ?_⟩
  rw [Int.fmod_eq_emod_of_nonneg _ (by decide)]
  omega
theorem Made.oct {ks : List Int} : ∀ {ys : List Value}, Made isOct ks ys → ∃ os, IntsAre ys os ∧ os.length = ks.length ∧ ∀ o ∈ os, 1 ≤ o ∧ o ≤ 255 := by
  intro ys ⟨hl, hg⟩
  have key : ∀ ys : List Value, (∀ y ∈ ys, isOct 0 y) → ∃ os, IntsAre ys os ∧ os.length = ys.length ∧ ∀ o ∈ os, 1 ≤ o ∧ o ≤ 255 := by
    intro ys
    induction ys with
    | nil => intro _; exact ⟨[], .nil, rfl, by simp⟩
    | cons y r ih =>
      intro h
      obtain ⟨os, h1, h2, h3⟩ := ih fun z hz => h z (.tail _ hz)
      obtain ⟨v, t, rfl, h4⟩ := h y (.head _)
      exact ⟨v :: os, .cons v t h1, by simp [h2], fun o ho => by rcases List.mem_cons.mp ho with rfl | ho; exact h4; exact h3 o ho⟩
  obtain ⟨os, h1, h2, h3⟩ := key ys fun y hy => by
    obtain ⟨i, hi⟩ := List.getElem?_of_mem hy
    have hi2 : i < ks.length := by rw [← hl]; exact (List.getElem?_eq_some_iff.mp hi).1
    obtain ⟨v, t, e, h⟩ := hg i _ y (List.getElem?_eq_getElem hi2) hi
    exact ⟨v, t, e, h⟩
  exact ⟨os, h1, h2.trans hl, h3⟩
/-- one sign, of a place below a bound -/
def isLet (n : Nat) (_ : Int) (y : Value) : Prop := ∃ c t, y = .str ⟨#[c]⟩ t ∧ 0 < c ∧ c < n
theorem Made.lets {n : Nat} {ks : List Int} : ∀ {ys : List Value}, Made (isLet n) ks ys → ∃ cs : List Nat, StrsAre ys (cs.map fun c => ⟨#[c]⟩) ∧ cs.length = ks.length ∧ ∀ c ∈ cs, 0 < c ∧ c < n := by
  intro ys ⟨hl, hg⟩
  have key : ∀ ys : List Value, (∀ y ∈ ys, isLet n 0 y) → ∃ cs : List Nat, StrsAre ys (cs.map fun c => ⟨#[c]⟩) ∧ cs.length = ys.length ∧ ∀ c ∈ cs, 0 < c ∧ c < n := by
    intro ys
    induction ys with
    | nil => intro _; exact ⟨[], .nil, rfl, by simp⟩
    | cons y r ih =>
      intro h
      obtain ⟨cs, h1, h2, h3⟩ := ih fun z hz => h z (.tail _ hz)
      obtain ⟨c, t, rfl, h4⟩ := h y (.head _)
      exact ⟨c :: cs, .cons _ t h1, by simp [h2], fun o ho => by rcases List.mem_cons.mp ho with rfl | ho; exact h4; exact h3 o ho⟩
  obtain ⟨cs, h1, h2, h3⟩ := key ys fun y hy => by
    obtain ⟨i, hi⟩ := List.getElem?_of_mem hy
    have hi2 : i < ks.length := by rw [← hl]; exact (List.getElem?_eq_some_iff.mp hi).1
    obtain ⟨c, t, e, h⟩ := hg i _ y (List.getElem?_eq_getElem hi2) hi
    exact ⟨c, t, e, h⟩
  exact ⟨cs, h1, h2.trans hl, h3⟩
theorem join_letters (cs : List Nat) : Txt.join (Str.ofString "") (cs.map fun c => (⟨#[c]⟩ : Str)) = ⟨cs.toArray⟩ := by
  show Builtin.Str.glued (Str.ofString "") (cs.map fun c => (⟨#[c]⟩ : Str)) = _
  rw [StrLaws.glued_eq_join]
  have key : ∀ cs : List Nat, Str.join (Str.ofString "") (cs.map fun c => (⟨#[c]⟩ : Str)) = ⟨cs.toArray⟩ := by
    intro cs
    induction cs with
    | nil => rfl
    | cons c r ih =>
      cases r with
      | nil => rfl
      | cons c' r =>
        show (⟨#[c]⟩ : Str) ++ Str.ofString "" ++ Str.join (Str.ofString "") ((c' :: r).map fun c => (⟨#[c]⟩ : Str)) = _
        rw [ih]
        show (⟨#[c] ++ (Str.ofString "").cps ++ (c' :: r).toArray⟩ : Str) = _
        congr 1
        simp [show (Str.ofString "").cps = #[] from rfl]
  exact key cs
theorem item_let {x : Str} {i k : Int} {t : Tok} (h : ∀ c ∈ x.cps.toList, 0 < c ∧ c < 128) (hn : 0 ≤ i) (hi : i < x.cps.size) : isLet 128 k (.str (Txt.item x i) t) := by
  have e : Txt.item x i = ⟨#[x.cps[i.toNat]]⟩ := item_meets hn (Array.getElem?_eq_getElem (by omega))
  rw [e]
  exact ⟨_, t, rfl, h _ (by simp)⟩
theorem item_let64 {x : Str} {k : Int} {t : Tok} (h : ∀ c ∈ x.cps.toList, 0 < c ∧ c < 128) (hsz : x.cps.size = 64) : isLet 128 k (.str (Txt.item x (k.fmod 64)) t) := by
  have h2 : 0 ≤ k.fmod 64 ∧ k.fmod 64 < 64 := by rw [Int.fmod_eq_emod_of_nonneg _ (by decide)]; omega
  exact item_let h h2.1 (by omega)
theorem drop4 {h₀ h : Heap} {L : Addr} {a b c d : Addr × Obj} {r : List (Addr × Obj)} (N : News h₀ L h (a :: b :: c :: d :: r)) : News h₀ L h r := fun q hq => N q (.tail _ (.tail _ (.tail _ (.tail _ hq))))
section
variable {prog : Program} {w : World} {A : Around} {E : Value → Shared → Prop} {s : Shared} {h₀ : Heap} {L : Addr} {vs : List Value} {news : List (Addr × Obj)} {l : Addr} {n : Nat}
theorem itemF {value slice : Expr} {ns : List Int} {a : Int} {u : Tok} {Q : Value → Shared → Prop} (N : News h₀ L s.heap news) (hm : (l, listOf vs.toArray n) ∈ news) (hi : IntsAre vs ns) (h1 : 0 < vs.length) (hl : vs.length ≤ 16777216) (h : ∀ v t, Q (.int v t) s)
    (hs : subscripted slice false (.ref l) (.int (a.fmod (vs.length : Int)) u) = operate [.ref l, .int (a.fmod (vs.length : Int)) u] (getItem (.ref l) (.int (a.fmod (vs.length : Int)) u)) := by with_unfolding_all rfl) :
    wpAny (model prog w) A (subscriptTail value slice (.ref l) (.int (a.fmod (vs.length : Int)) u)) Q E s := by
  have h2 : 0 ≤ a.fmod (vs.length : Int) := by rw [Int.fmod_eq_emod_of_nonneg _ (by omega)]; exact Int.emod_nonneg _ (by omega)
  have h3 : a.fmod (vs.length : Int) < vs.length := by rw [Int.fmod_eq_emod_of_nonneg _ (by omega)]; exact Int.emod_lt_of_pos _ (by omega)
  exact itemL N hm hi h2 h3 hl (fun t => h _ t) hs
theorem src_head {h : Heap} {r : List (Addr × Obj)} (_ : News h₀ L h ((l, listOf vs.toArray n) :: r)) : LCg.SrcAt h₀ l vs.toArray ((l, listOf vs.toArray n) :: r) := .inr ⟨_, .head _, rfl, _, rfl⟩
theorem truthyL {Q : Bool → Shared → Prop} (N : News h₀ L s.heap news) (hm : (l, listOf vs.toArray n) ∈ news) (hl : vs.length ≤ 16777216) (h : ∀ tk, Q (decide (0 < vs.length)) { s with toks := tk }) : wpAny (model prog w) A (truthy (.ref l)) Q E s := by
  refine wpAny_truthy_list (items := vs.toArray) ⟨_, (N _ hm).1, rfl, _, rfl⟩ (by rw [List.size_toArray]; omega) ?_
  have e : (!vs.toArray.isEmpty) = decide (0 < vs.length) := by cases vs <;> simp
  rw [e]
  exact h _
theorem joinL {cs : List Nat} {t : Tok} {ys : List Value} {Q : Value → Shared → Prop} (N : News h₀ L s.heap news) (hm : (l, listOf ys.toArray n) ∈ news) (hi : StrsAre ys (cs.map fun c => (⟨#[c]⟩ : Str))) (hl : cs.length ≤ 1000) (h : ∀ t' k, Q (.str ⟨cs.toArray⟩ t') { s with toks := k }) :
    wpAny (model prog w) A (call (.builtin "str.join") [.str (Str.ofString "") t, .ref l]) Q E s := by
  refine join_list (items := ys.toArray) ⟨_, (N _ hm).1, rfl, _, rfl⟩ (by simpa using hi) ?_ (fun t' k => by rw [join_letters]; exact h t' k)
  have e : ∀ cs : List Nat, ((cs.map fun c => (⟨#[c]⟩ : Str)).map (·.length)).sum = cs.length := by
    intro cs
    induction cs with
    | nil => rfl
    | cons c r ih => simp only [List.map_cons, List.sum_cons, ih, List.length_cons]; show 1 + r.length = _; omega
  rw [e, List.length_map, show (Str.ofString "").length = 0 from rfl]
  omega
end
end
section
theorem zw_Lw_1 : True := by
  k_with_none
  k_with "exec Assign" => (k_here; (fail_if_success (with_reducible show wpAny _ _ _ (CutQ _) _ _)); (refine cutQ fun cutQ0 cutH0 => ?_))
  k_with "exec AugAssign" => (k_here; (fail_if_success (with_reducible show wpAny _ _ _ (CutQ _) _ _)); (refine cutQ fun cutQ0 cutH0 => ?_))
  k_with "exec Expr" => (k_here; (fail_if_success (with_reducible show wpAny _ _ _ (CutQ _) _ _)); (refine cutQ fun cutQ0 cutH0 => ?_))
  k_with "CutQ" => ((with_reducible rename (∀ f s', _ → CutQ _ f s') => cutH1); (refine cutH1 _ _ ?_); clear cutH1; (try dsimp only))
  trivial
open LCg
theorem zw_Lw_2 : True := by
  k_with "compareOp Eq int int" => (k_here; first | (refine eqT (by omega) ?_) | (refine eqF (by omega) ?_))
  k_with "compareOp Lt int int" => (k_here; first | (refine ltT (by omega) ?_) | (refine ltF (by omega) ?_))
  k_with "binaryOp Mod int int" => (k_here; (refine modZ (by first | decide | omega) ?_); intro _ _)
  k_with "eval ListComp" => (k_here; (rename Fr _ _ _ _ => uFₘ110); k_dflt (refine comp_E (F₀ := uFₘ110) (by first | rfl | (with_unfolding_all rfl)) (by decide) (by rfl) (by decide) (by rfl) ?_))
  k_with "ite" => (k_here; first | with_reducible refine ite_tt ?_ | with_reducible refine ite_ff ?_ | (refine ite_pos (by with_reducible assumption) ?_) | (refine ite_neg (by with_reducible assumption) ?_) | (refine ite_pos (by omega) ?_) | (refine ite_neg (by omega) ?_) | (with_reducible refine split_dec ?_ ?_ <;> intro _))
  k_with "exec Assign cons ListComp" => (k_here; (with_reducible show wpAny _ _ (exec (Stmt.Assign [Expr.Tuple _ _ _] _ _) _) _ _ _); k_dflt (refine Assign_Tuple ?_))
  k_with "call builtin:len" => (k_here; (with_reducible show wpAny _ _ (call (Value.builtin "len") [Value.ref _]) _ _ _); (rename News _ _ _ _ => uNₘ7); k_dflt (refine' lenL uNₘ7 (by first | (with_reducible assumption) | exact List.mem_cons_of_mem _ (List.mem_cons_of_mem _ (List.mem_cons_of_mem _ (by with_reducible assumption))) | k_mem) (by omega) ?_); intro _ _)
  k_with "subscriptTail" => (k_here; (with_reducible show wpAny _ _ (subscriptTail _ _ (Value.ref _) (Value.int _ _)) _ _ _); (rename News _ _ _ _ => uNₘ691); k_dflt (refine' itemL uNₘ691 (by first | (with_reducible assumption) | exact List.mem_cons_of_mem _ (List.mem_cons_of_mem _ (List.mem_cons_of_mem _ (by with_reducible assumption))) | k_mem) (by assumption) (by omega) (by omega) (by omega) ?_); intro _)
  k_with "eval Name" => (k_here; (with_reducible show wpAny _ _ (eval (Expr.Name _ _) (compEnvC _ _ _ _)) _ _ _); (rename News _ _ _ _ => uNₘ491); k_dflt (refine' kcf_cell uNₘ491 (by rfl) (by exact List.mem_cons_of_mem _ (List.mem_cons_of_mem _ (List.mem_cons_of_mem _ (by with_reducible assumption)))) (by with_reducible assumption) ?_))
  k_with "CompEnd" => ((rename Fr _ _ _ _ => uFₘ962); (rename News _ _ _ _ => uNₘ962); k_dflt (refine' LCg.CompEnd.intro uFₘ962 uNₘ962 _ (by kcf_all) (by first | assumption | (simp only [LCg.Off3, and_true]; done) | (simp only [LCg.Off3, and_true]; assumption)) (by first | exact True.intro | (with_reducible assumption) | lcg_src) ⟨rfl, ?_⟩); (try dsimp only))
  k_with "execs cons" => (k_here; (with_reducible show wpAny _ _ (execs [Stmt.Assign _ _ _, Stmt.Assign _ _ _, Stmt.Assign _ _ _, Stmt.Assign _ _ _, Stmt.Assign _ _ _, Stmt.If _ _ _ _, Stmt.Assign _ _ _, Stmt.If _ _ _ _, Stmt.Assign _ _ _, Stmt.Return _ _] _) _ _ _); (refine Hold.out ?_))
  trivial
theorem lA : ∀ (w : World) (p : Program) (loose : List Str) (mean : ExcName → Option Value) (mg mb : Str → Option Value) (sc : Addr) (nsc : Nat) (vs : List Value) (ns : List Int) (o1 o2 o3 o4 o5 o6 o7 : Obj) (v2 v3 v4 v5 v6 v7 : Option Value) (m0 : Str → Option Value)
  (dp un : Nat) (gd : Option (List Code)) (outer : List Env) (A₀ : Around) (base h₀ : Heap) (L : Addr) (s : Shared) (Q : Flow → Shared → Prop) (E : Value → Shared → Prop)
  (B : Below A₀ base outer h₀) (F : Fr h₀ L s.heap m0) (X : (KF w.params).In h₀) (T : Top p loose mean mg mb h₀)
  (N : News h₀ L s.heap [(sc, listOf vs.toArray nsc), (L + 1, o1), (L + 1 + 1, o2), (L + 1 + 1 + 1, o3), (L + 1 + 1 + 1 + 1, o4), (L + 1 + 1 + 1 + 1 + 1, o5), (L + 1 + 1 + 1 + 1 + 1 + 1, o6), (L + 1 + 1 + 1 + 1 + 1 + 1 + 1, o7), (123, tabObj #[]), (669, tabObj #[]), (733, tabObj #[])]) (hdp : dp + 60 < recursionLimit) (hun : un + 300 < cLine)
  (h1 : o1.data = .cell (some (.ref sc))) (h2 : o2.data = .cell v2) (h3 : o3.data = .cell v3) (h4 : o4.data = .cell v4) (h5 : o5.data = .cell v5) (h6 : o6.data = .cell v6) (h7 : o7.data = .cell v7) (hns : IntsAre vs ns) (hl : vs.length ≤ 63) (hsc : @LT.lt Nat _ sc L) (h123 : @LT.lt Nat _ 123 L) (h669 : @LT.lt Nat _ 669 L) (h733 : @LT.lt Nat _ 733 L)
  (hk : ∀ (h' : Heap) (tk' : Nat) (D : Addr) (nd : Nat) (ws : List Value) (ms : List Int) (p2 p3 p6 p7 : Obj) (bi ci ki : Int) (tb tc tk ts : Tok) (sz : Nat) (m1 : Str → Option Value), h'.get? sc = some (listOf vs.toArray nsc) → IntsAre ws ms → ws.length ≤ 63 → 0 ≤ ki → ki < 3 → (sz = 32 ∨ sz = 64) → p2.data = .cell (some (.int bi tb)) → p3.data = .cell (some (.ref D)) → p6.data = .cell (some (.int ki tk)) → p7.data = .cell (some (.int (sz : Int) ts)) → (@LT.lt Nat _ (L + 1 + 1 + 1 + 1 + 1 + 1 + 1) D) →
    Fr h₀ L h' (fun y => if y = Str.ofString "c" then some (.int ci tc) else m1 y) → News h₀ L h' [(D, listOf ws.toArray nd), (L + 1, o1), (L + 1 + 1, p2), (L + 1 + 1 + 1, p3), (L + 1 + 1 + 1 + 1, o4), (L + 1 + 1 + 1 + 1 + 1, o5), (L + 1 + 1 + 1 + 1 + 1 + 1, p6), (L + 1 + 1 + 1 + 1 + 1 + 1 + 1, p7), (123, tabObj #[]), (669, tabObj #[]), (733, tabObj #[])] →
    wpAny (model rw_iw0011_01.row.prog w) (lwA (KF w.params) L dp un gd outer) (execs ((bodyAt (KF w.params) 736).drop 4) (lwE (KF w.params) L)) Q E { s with heap := h', toks := tk' }),
  wpAny (model rw_iw0011_01.row.prog w) (lwA (KF w.params) L dp un gd outer) (execs (bodyAt (KF w.params) 736) (lwE (KF w.params) L)) Q E s := by
  k_fill
  intro w p loose mean mg mb sc nsc vs ns o1 o2 o3 o4 o5 o6 o7 v2 v3 v4 v5 v6 v7 m0 dp un gd outer A₀ base h₀ L s Q E B F X T N hdp hun h1 h2 h3 h4 h5 h6 h7 hns hl hsc h123 h669 h733 hk
  refine wpAny_execs_cons ?_
  k_with "CompW" => ((rename News _ _ _ _ => uN0); refine abs_news uN0 (fun nw hnw uN1 => ?_); (have m1 : (sc, W.listOf vs.toArray nsc) ∈ nw := by rw [hnw]; exact .head _); (have m2 : (L + 1, o1) ∈ nw := by rw [hnw]; exact .tail _ (.head _)); clear uN0; ((rename Fr _ _ _ _ => uF); (rename News _ _ _ _ => uN); k_dflt (refine' CompW.range (isAt ns) ?c1 uF uN ?c2 ?c4 ?c5 ?c3 (fun k' t' I' oI' C' oC' D' m' ys' h' tk' E' hk' hlo' hhi' hC' hx' F' N' off' ne' => ?_) (fun ys' g' hm' D' h' tk' F' N' off' => ?_); (case c1 => exact rfl); (case c2 => assumption); (case c4 => first | decide | exact small_one (by omega) (by omega) (by omega) (by omega)); (case c5 => first | exact rangeSize_nat _ _ | rfl); (case c3 => omega)); (all_goals (try (simp only [LCg.Off3, and_true] at off'))); (all_goals (try dsimp only)); (all_goals (try k_fold))); rotate_left; (subst hnw; simp only [LCg.Off1, and_true] at off'; obtain ⟨q1, q2, q3, uJ1⟩ := Made.three hm'; subst uJ1); rotate_left; clear hnw)
  k_with "isAt" => first | exact isAt_out hns (by with_reducible assumption) | exact ⟨_, rfl⟩
  k_with "CElt" => refine ⟨rfl, ?_⟩
  k_steps
  all_goals
    (with_reducible rename Fr _ _ _ _ => F6)
    (with_reducible rename News _ _ _ _ => N6)
    (with_reducible rename IntsAre _ _ => i6)
    refine Hold.out (P := wpAny _ _ _ _ _ _) ?_
  all_goals
    have a1 := i6.length
    have a2 := hns.length
    rw [List.length_drop] at a1
    have a3 : 0 ≤ (ns.getD 0 0).fmod 3 ∧ (ns.getD 0 0).fmod 3 < 3 := by rw [Int.fmod_eq_emod_of_nonneg _ (by decide)]; omega
  · exact hk _ _ _ 0 _ _ _ _ _ _ _ _ _ _ _ _ _ 64 _ (N6 (sc, listOf vs.toArray nsc) (by simp)).1 i6 (by omega) a3.1 a3.2 (.inr rfl) (by assumption) (by assumption) (by assumption) (by assumption) (by omega) F6 (drop23 N6)
  · exact hk _ _ _ 0 _ _ _ _ _ _ _ _ _ _ _ _ _ 32 _ (N6 (sc, listOf vs.toArray nsc) (by simp)).1 i6 (by omega) a3.1 a3.2 (.inl rfl) (by assumption) (by assumption) (by assumption) (by assumption) (by omega) F6 (drop23 N6)
end
section
theorem zw_Lb2_1 : True := by
  k_with_none
  k_with "exec Assign" => (k_here; (fail_if_success (with_reducible show wpAny _ _ _ (CutQ _) _ _)); (refine cutQ fun cutQ0 cutH0 => ?_))
  k_with "exec AugAssign" => (k_here; (fail_if_success (with_reducible show wpAny _ _ _ (CutQ _) _ _)); (refine cutQ fun cutQ0 cutH0 => ?_))
  k_with "exec Expr" => (k_here; (fail_if_success (with_reducible show wpAny _ _ _ (CutQ _) _ _)); (refine cutQ fun cutQ0 cutH0 => ?_))
  k_with "CutQ" => ((with_reducible rename (∀ f s', _ → CutQ _ f s') => cutH1); (refine cutH1 _ _ ?_); clear cutH1; (try dsimp only))
  trivial
open LCg
theorem zw_Lb2_2 : True := by
  k_with "binaryOp Add int int" => (k_here; (refine addZ ?_); intro _ _)
  k_with "binaryOp Mult int int" => (k_here; (refine mulZ ?_); intro _ _)
  k_with "binaryOp Mod int int" => (k_here; (refine modZ (by first | decide | omega) ?_); intro _ _)
  k_with "subscriptTail Name BinOp str int" => (k_here; (with_reducible show wpAny _ _ (subscriptTail _ _ (Value.str _ _) (Value.int (Int.fmod _ _) _)) _ _ _); (refine stritemZ (by decide) (by decide) (by decide) ?_); intro _ _ sziHₘ603)
  k_with "eval ListComp" => (k_here; (rename Fr _ _ _ _ => uFₘ110); k_dflt (refine comp_E (F₀ := uFₘ110) (by first | rfl | (with_unfolding_all rfl)) (by decide) (by rfl) (by decide) (by rfl) ?_))
  k_with "ite" => (k_here; first | with_reducible refine ite_tt ?_ | with_reducible refine ite_ff ?_ | (refine ite_pos (by with_reducible assumption) ?_) | (refine ite_neg (by with_reducible assumption) ?_) | (refine ite_pos (by omega) ?_) | (refine ite_neg (by omega) ?_) | (with_reducible refine split_dec ?_ ?_ <;> intro _))
  k_with "call builtin:len" => (k_here; (with_reducible show wpAny _ _ (call (Value.builtin "len") [Value.ref _]) _ _ _); (rename News _ _ _ _ => uNₘ7); k_dflt (refine' lenL uNₘ7 (by first | (with_reducible assumption) | exact List.mem_cons_of_mem _ (List.mem_cons_of_mem _ (List.mem_cons_of_mem _ (by with_reducible assumption))) | k_mem) (by omega) ?_); intro _ _)
  k_with "eval Name" => (k_here; (with_reducible show wpAny _ _ (eval (Expr.Name _ _) (compEnvC _ _ _ _)) _ _ _); (rename News _ _ _ _ => uNₘ491); k_dflt (refine' kcf_cell uNₘ491 (by rfl) (by exact List.mem_cons_of_mem _ (List.mem_cons_of_mem _ (List.mem_cons_of_mem _ (by with_reducible assumption)))) (by with_reducible assumption) ?_))
  k_with "CompEnd" => ((rename Fr _ _ _ _ => uFₘ962); (rename News _ _ _ _ => uNₘ962); k_dflt (refine' LCg.CompEnd.intro uFₘ962 uNₘ962 _ (by kcf_all) (by first | assumption | (simp only [LCg.Off3, and_true]; done) | (simp only [LCg.Off3, and_true]; assumption)) (by first | exact True.intro | (with_reducible assumption) | lcg_src) ⟨rfl, ?_⟩); (try dsimp only))
  k_with "truthy ref" => (k_here; (rename News _ _ _ _ => uNₘ625); k_dflt (refine' truthyL uNₘ625 (by first | (with_reducible assumption) | exact List.mem_cons_of_mem _ (List.mem_cons_of_mem _ (List.mem_cons_of_mem _ (by with_reducible assumption))) | k_mem) (by omega) ?_); intro _)
  k_with "call type:bytes" => (k_here; (with_reducible show wpAny _ _ (call (Value.type "bytes") [Value.ref _]) _ _ _); (rename Fr _ _ _ _ => uFₘ6); (rename News _ _ _ _ => uNₘ6); k_dflt (refine' KBa.make_K uFₘ6 uNₘ6 (by rfl) (by exact News.isList uNₘ6 (.head _)) (by assumption) (by assumption) (by omega) ?_); intro _ _ _ F'ₘ6 N'ₘ6 kbaInₘ6)
  k_with "call builtin:str.join" => (k_here; (rename News _ _ _ _ => uNₘ937); k_dflt (refine' joinL uNₘ937 (by exact .head _) (by assumption) (by omega) ?_); intro _ _)
  k_with "getMethod str" => (k_here; (with_reducible show wpAny _ _ (getMethod (Value.str _ _) (Str.ofString "join") _) _ _ _); (refine strMeth PySem.F.slot_str_join PySem.F.type_str_join ?_))
  k_with "execs cons" => (k_here; (with_reducible show wpAny _ _ (execs [Stmt.Assign _ _ _, Stmt.If _ _ _ _, Stmt.Assign _ _ _, Stmt.If _ _ _ _, Stmt.Assign _ _ _, Stmt.Return _ _] _) _ _ _); (refine Hold.out ?_))
  k_with "subscriptTail" => (k_here; (with_reducible show wpAny _ _ (subscriptTail _ _ (Value.ref _) (Value.int (Int.fmod _ _) _)) _ _ _); (rename News _ _ _ _ => uNₘ348); k_dflt (refine' itemF uNₘ348 (by exact List.mem_cons_of_mem _ (List.mem_cons_of_mem _ (List.mem_cons_of_mem _ (by with_reducible assumption)))) (by assumption) (by assumption) (by omega) ?_); intro _ _)
  trivial
theorem frRC {h₀ h : Heap} {L : Addr} {m : Str → Option Value} {v1 v2 : Value} (F : Fr h₀ L h m) (h1 : m (Str.ofString "rounds") = some v1) (h2 : m (Str.ofString "c") = some v2) : Fr h₀ L h (fun y => if y = Str.ofString "rounds" then some v1 else if y = Str.ofString "c" then some v2 else m y) := by
  refine fr_eq F fun y => ?_
  rcases Decidable.em (y = Str.ofString "rounds") with rfl | q1
  · rw [h1]; rfl
  rcases Decidable.em (y = Str.ofString "c") with rfl | q2
  · rw [h2]; rfl
  simp only [if_neg q1, if_neg q2]
theorem lB : ∀ (w : World) (p : Program) (loose : List Str) (mean : ExcName → Option Value) (mg mb : Str → Option Value) (D : Addr) (nd : Nat) (ws : List Value) (ms : List Int) (o1 o2 o3 o4 o5 o6 o7 : Obj) (v4 v5 : Option Value) (bi ci ki : Int) (tb tc tk ts : Tok) (sz : Nat) (m1 : Str → Option Value)
  (dp un : Nat) (gd : Option (List Code)) (outer : List Env) (A₀ : Around) (base h₀ : Heap) (L : Addr) (s : Shared) (Q : Flow → Shared → Prop) (E : Value → Shared → Prop)
  (B : Below A₀ base outer h₀) (F : Fr h₀ L s.heap (fun y => if y = Str.ofString "c" then some (.int ci tc) else m1 y)) (X : (KF w.params).In h₀) (T : Top p loose mean mg mb h₀)
  (N : News h₀ L s.heap [(D, listOf ws.toArray nd), (L + 1, o1), (L + 1 + 1, o2), (L + 1 + 1 + 1, o3), (L + 1 + 1 + 1 + 1, o4), (L + 1 + 1 + 1 + 1 + 1, o5), (L + 1 + 1 + 1 + 1 + 1 + 1, o6), (L + 1 + 1 + 1 + 1 + 1 + 1 + 1, o7), (123, tabObj #[]), (669, tabObj #[]), (733, tabObj #[])]) (hdp : dp + 60 < recursionLimit) (hun : un + 300 < cLine)
  (hi : IntsAre ws ms) (hl : ws.length ≤ 63) (h2 : o2.data = .cell (some (.int bi tb))) (h3 : o3.data = .cell (some (.ref D))) (h4 : o4.data = .cell v4) (h5 : o5.data = .cell v5) (h6 : o6.data = .cell (some (.int ki tk))) (h7 : o7.data = .cell (some (.int (sz : Int) ts))) (hD : @LT.lt Nat _ (L + 1 + 1 + 1 + 1 + 1 + 1 + 1) D) (h123 : @LT.lt Nat _ 123 L) (h669 : @LT.lt Nat _ 669 L) (h733 : @LT.lt Nat _ 733 L)
  (hk : ∀ (h' : Heap) (tk' : Nat) (bs : Array UInt8) (tbs : CbTok) (pk : List Int) (cs : List Nat) (tcs trn : Tok) (rn : Nat) (p4 p5 : Obj) (m2 : Str → Option Value), KBw.bInts bs = pk → pk.length ≤ 104 → (∀ k ∈ pk, 1 ≤ k ∧ k ≤ 255) → (∀ c ∈ cs, c < 128) → cs.length ≤ 16 → rn ≤ 99 → p4.data = .cell (some (.bytes bs tbs)) → p5.data = .cell (some (.str ⟨cs.toArray⟩ tcs)) →
    Fr h₀ L h' (fun y => if y = Str.ofString "rounds" then some (.int (rn : Int) trn) else if y = Str.ofString "c" then some (.int ci tc) else m2 y) → News h₀ L h' [(L + 1, o1), (L + 1 + 1, o2), (L + 1 + 1 + 1, o3), (L + 1 + 1 + 1 + 1, p4), (L + 1 + 1 + 1 + 1 + 1, p5), (L + 1 + 1 + 1 + 1 + 1 + 1, o6), (L + 1 + 1 + 1 + 1 + 1 + 1 + 1, o7), (123, tabObj #[]), (669, tabObj #[]), (733, tabObj #[])] →
    wpAny (model rw_iw0011_01.row.prog w) (lwA (KF w.params) L dp un gd outer) (execs ((bodyAt (KF w.params) 736).drop 8) (lwE (KF w.params) L)) Q E { s with heap := h', toks := tk' }),
  wpAny (model rw_iw0011_01.row.prog w) (lwA (KF w.params) L dp un gd outer) (execs ((bodyAt (KF w.params) 736).drop 4) (lwE (KF w.params) L)) Q E s := by
  k_fill
  intro w p loose mean mg mb D nd ws ms o1 o2 o3 o4 o5 o6 o7 v4 v5 bi ci ki tb tc tk ts sz m1 dp un gd outer A₀ base h₀ L s Q E B F X T N hdp hun hi hl h2 h3 h4 h5 h6 h7 hD h123 h669 h733 hk
  refine wpAny_execs_cons ?_
  have hcnt : 0 ≤ ci.fmod 105 ∧ ci.fmod 105 < 105 := by rw [Int.fmod_eq_emod_of_nonneg _ (by decide)]; omega
  have hcnt2 : 0 ≤ (ci.fdiv 105).fmod 17 ∧ (ci.fdiv 105).fmod 17 < 17 := by rw [Int.fmod_eq_emod_of_nonneg _ (by decide)]; omega
  k_with "CompW" => ((rename News _ _ _ _ => uN0); refine abs_news uN0 (fun nw hnw uN1 => ?_); (have m1 : (D, W.listOf ws.toArray nd) ∈ nw := by rw [hnw]; exact .head _); (have m2 : (L + 1 + 1 + 1, o3) ∈ nw := by rw [hnw]; exact .tail _ (.tail _ (.tail _ (.head _)))); clear uN0; ((rename Fr _ _ _ _ => uF); (rename News _ _ _ _ => uN); k_dflt (refine' CompW.range (isOct) ?c1 uF uN ?c2 ?c4 ?c5 ?c3 (fun k' t' I' oI' C' oC' D' m' ys' h' tk' E' hk' hlo' hhi' hC' hx' F' N' off' ne' => ?_) (fun ys' g' hm' D' h' tk' F' N' off' => ?_); (case c1 => exact rfl); (case c2 => assumption); (case c4 => first | decide | exact small_one (by omega) (by omega) (by omega) (by omega)); (case c5 => first | exact rangeSize_nat _ _ | rfl); (case c3 => omega)); (all_goals (try (simp only [LCg.Off3, and_true] at off'))); (all_goals (try dsimp only)); (all_goals (try k_fold))); rotate_left; (subst hnw; simp only [LCg.Off1, and_true] at off'; obtain ⟨os, uO1, uO2, uO3⟩ := Made.oct hm'; rw [rangeKs_length] at uO2; (have uO4 : ∀ o ∈ os, 0 ≤ o ∧ o < 256 := fun o ho => by have := uO3 o ho; omega)); rotate_left; clear hnw)
  have hlaw : ∀ c ∈ (Str.ofString "./0123456789ABCDEFGHIJKLMNOPQRSTUVWXYZabcdefghijklmnopqrstuvwxyz").cps.toList, 0 < c ∧ c < 128 := by decide
  k_with "CompW" => ((rename News _ _ _ _ => uN0); (have m1 := src_head uN0); refine abs_news uN0 (fun nw hnw uN => ?_); (rw [← hnw] at m1); clear uN0; (rename Fr _ _ _ _ => uF); k_dflt (refine' CompW.list (isLet 128) ?c1 uF uN ?c2 ?c4 ?c3 (fun k' t' I' oI' C' oC' D' m' ys' h' tk' E' hk' hC' hx' F' N' off' ne' => ?_) (fun ys' g' hm' D' h' tk' F' N' off' => ?_); (case c1 => exact rfl); (case c2 => assumption); (case c4 => assumption); (case c3 => (rw [List.length_take]; omega))); (all_goals (try dsimp only)); (all_goals (try k_fold)); rotate_left; (subst hnw; simp only [LCg.Off1, and_true] at off'; obtain ⟨cs, uC1, uC2, uC3⟩ := Made.lets hm'; rw [List.length_take] at uC2); rotate_left; clear hnw)
  k_with "isLet" => exact item_let64 hlaw rfl
  k_with "isOct" => exact isOct_mod
  k_steps
  (with_reducible rename Fr _ _ _ _ => F6)
  (with_reducible rename News _ _ _ _ => N6)
  (with_reducible rename KBa.In _ => uI)
  refine Hold.out (P := wpAny _ _ _ _ _ _) ?_
  have hrn : 0 ≤ bi.fmod 100 ∧ bi.fmod 100 < 100 := by rw [Int.fmod_eq_emod_of_nonneg _ (by decide)]; omega
  have ern : bi.fmod 100 = ((bi.fmod 100).toNat : Int) := by omega
  have F7 := frRC F6 rfl rfl
  rw [ern] at F7
  exact hk _ _ _ _ os cs _ _ (bi.fmod 100).toNat _ _ _ (KBa.ints_make uI) (by omega) (by assumption) (fun c hc => (by assumption : ∀ c ∈ cs, 0 < c ∧ c < 128) c hc |>.2) (by omega) (by omega) (by assumption) (by assumption) F7 (drop4 N6)
end
section
theorem zw_Lc2_1 : True := by
  k_with_none
  k_with "exec Assign" => (k_here; (fail_if_success (with_reducible show wpAny _ _ _ (CutQ _) _ _)); (refine cutQ fun cutQ0 cutH0 => ?_))
  k_with "exec AugAssign" => (k_here; (fail_if_success (with_reducible show wpAny _ _ _ (CutQ _) _ _)); (refine cutQ fun cutQ0 cutH0 => ?_))
  k_with "exec Expr" => (k_here; (fail_if_success (with_reducible show wpAny _ _ _ (CutQ _) _ _)); (refine cutQ fun cutQ0 cutH0 => ?_))
  k_with "CutQ" => ((with_reducible rename (∀ f s', _ → CutQ _ f s') => cutH1); (refine cutH1 _ _ ?_); clear cutH1; (try dsimp only))
  trivial
open LCg
theorem zw_Lc2_2 : True := by
  k_with "compareOp Eq int int" => (k_here; first | (refine eqT (by omega) ?_) | (refine eqF (by omega) ?_))
  k_with "binaryOp Add int int" => (k_here; (refine addZ ?_); intro _ _)
  k_with "binaryOp Mult int int" => (k_here; (refine mulZ ?_); intro _ _)
  k_with "binaryOp Mod int int" => (k_here; (refine modZ (by first | decide | omega) ?_); intro _ _)
  k_with "subscriptTail" => (k_here; (with_reducible show wpAny _ _ (subscriptTail _ _ (Value.bytes _ _) (Value.int _ _)) _ _ _); (refine itemZ (by first | (with_reducible assumption) | kba_ints) (by kba_size) (by omega) (by omega) ?_); intro _ _ kbaLoₘ778 kbaHiₘ778)
  k_with "eval ListComp" => (k_here; (rename Fr _ _ _ _ => uFₘ110); k_dflt (refine comp_E (F₀ := uFₘ110) (by first | rfl | (with_unfolding_all rfl)) (by decide) (by rfl) (by decide) (by rfl) ?_))
  k_with "ite" => (k_here; first | with_reducible refine ite_tt ?_ | with_reducible refine ite_ff ?_ | (refine ite_pos (by with_reducible assumption) ?_) | (refine ite_neg (by with_reducible assumption) ?_) | (refine ite_pos (by omega) ?_) | (refine ite_neg (by omega) ?_) | (with_reducible refine split_dec ?_ ?_ <;> intro _))
  k_with "subscriptTail" => (k_here; (with_reducible show wpAny _ _ (subscriptTail _ _ (Value.ref _) (Value.int _ _)) _ _ _); (rename News _ _ _ _ => uNₘ691); k_dflt (refine' itemL uNₘ691 (by first | (with_reducible assumption) | exact List.mem_cons_of_mem _ (List.mem_cons_of_mem _ (List.mem_cons_of_mem _ (by with_reducible assumption))) | k_mem) (by assumption) (by omega) (by omega) (by omega) ?_); intro _)
  k_with "eval Name" => (k_here; (with_reducible show wpAny _ _ (eval (Expr.Name _ _) (compEnvC _ _ _ _)) _ _ _); (rename News _ _ _ _ => uNₘ491); k_dflt (refine' kcf_cell uNₘ491 (by rfl) (by exact List.mem_cons_of_mem _ (List.mem_cons_of_mem _ (List.mem_cons_of_mem _ (by with_reducible assumption)))) (by with_reducible assumption) ?_))
  k_with "CompEnd" => ((rename Fr _ _ _ _ => uFₘ962); (rename News _ _ _ _ => uNₘ962); k_dflt (refine' LCg.CompEnd.intro uFₘ962 uNₘ962 _ (by kcf_all) (by first | assumption | (simp only [LCg.Off3, and_true]; done) | (simp only [LCg.Off3, and_true]; assumption)) (by first | exact True.intro | (with_reducible assumption) | lcg_src) ⟨rfl, ?_⟩); (try dsimp only))
  k_with "call builtin:str.join" => (k_here; (rename News _ _ _ _ => uNₘ937); k_dflt (refine' joinL uNₘ937 (by exact .head _) (by assumption) (by omega) ?_); intro _ _)
  k_with "getMethod str" => (k_here; (with_reducible show wpAny _ _ (getMethod (Value.str _ _) (Str.ofString "join") _) _ _ _); (refine strMeth PySem.F.slot_str_join PySem.F.type_str_join ?_))
  k_with "getMethod str" => (k_here; (with_reducible show wpAny _ _ (getMethod (Value.str _ _) (Str.ofString "encode") _) _ _ _); (refine strMeth PySem.F.slot_str_encode PySem.F.type_str_encode ?_))
  k_with "call builtin:str.encode" => (k_here; (refine encode_utf8 (by assumption) (by assumption) ?_); intro _ _ _ uUtfₘ136)
  k_with "execs cons" => (k_here; (with_reducible show wpAny _ _ (execs [Stmt.Assign _ _ _, Stmt.If _ _ _ _, Stmt.Assign _ _ _, Stmt.Return _ _] _) _ _ _); (refine Hold.out ?_))
  trivial
theorem chr_let {k j : Int} {t : Tok} (h : 1 ≤ k ∧ k ≤ 255) : isLet 2048 j (.str ⟨#[(64 + 5 * k).toNat]⟩ t) := ⟨_, t, rfl, by omega, by omega⟩
theorem frGR {h₀ h : Heap} {L : Addr} {m : Str → Option Value} {v1 v2 : Value} (F : Fr h₀ L h m) (h1 : m (Str.ofString "given") = some v1) (h2 : m (Str.ofString "rounds") = some v2) : Fr h₀ L h (fun y => if y = Str.ofString "given" then some v1 else if y = Str.ofString "rounds" then some v2 else m y) := by
  refine fr_eq F fun y => ?_
  rcases Decidable.em (y = Str.ofString "given") with rfl | q1
  · rw [h1]; rfl
  rcases Decidable.em (y = Str.ofString "rounds") with rfl | q2
  · rw [h2]; rfl
  simp only [if_neg q1, if_neg q2]
theorem lC : ∀ (w : World) (p : Program) (loose : List Str) (mean : ExcName → Option Value) (mg mb : Str → Option Value) (o1 o2 o3 o4 o5 o6 o7 : Obj) (ci : Int) (tc : Tok) (bs : Array UInt8) (tbs : CbTok) (pk : List Int) (rn : Nat) (trn : Tok) (m2 : Str → Option Value)
  (dp un : Nat) (gd : Option (List Code)) (outer : List Env) (A₀ : Around) (base h₀ : Heap) (L : Addr) (s : Shared) (Q : Flow → Shared → Prop) (E : Value → Shared → Prop)
  (B : Below A₀ base outer h₀) (F : Fr h₀ L s.heap (fun y => if y = Str.ofString "rounds" then some (.int (rn : Int) trn) else if y = Str.ofString "c" then some (.int ci tc) else m2 y)) (X : (KF w.params).In h₀) (T : Top p loose mean mg mb h₀)
  (N : News h₀ L s.heap [(L + 1, o1), (L + 1 + 1, o2), (L + 1 + 1 + 1, o3), (L + 1 + 1 + 1 + 1, o4), (L + 1 + 1 + 1 + 1 + 1, o5), (L + 1 + 1 + 1 + 1 + 1 + 1, o6), (L + 1 + 1 + 1 + 1 + 1 + 1 + 1, o7), (123, tabObj #[]), (669, tabObj #[]), (733, tabObj #[])]) (hdp : dp + 60 < recursionLimit) (hun : un + 300 < cLine)
  (hbs : KBw.bInts bs = pk) (hpl : pk.length ≤ 104) (hpk : ∀ k ∈ pk, 1 ≤ k ∧ k ≤ 255) (h4 : o4.data = .cell (some (.bytes bs tbs))) (h123 : @LT.lt Nat _ 123 L) (h669 : @LT.lt Nat _ 669 L) (h733 : @LT.lt Nat _ 733 L)
  (hk : ∀ (h' : Heap) (tk' : Nat) (bs' : Array UInt8) (tbs' : CbTok) (pk' : List Int) (v : Value) (p4 : Obj) (m3 : Str → Option Value), KBw.bInts bs' = pk' → PwdIs v pk' → pk'.length ≤ 104 → (∀ k ∈ pk', k ≠ 0) → p4.data = .cell (some (.bytes bs' tbs')) →
    Fr h₀ L h' (fun y => if y = Str.ofString "given" then some v else if y = Str.ofString "rounds" then some (.int (rn : Int) trn) else m3 y) → News h₀ L h' [(L + 1, o1), (L + 1 + 1, o2), (L + 1 + 1 + 1, o3), (L + 1 + 1 + 1 + 1, p4), (L + 1 + 1 + 1 + 1 + 1, o5), (L + 1 + 1 + 1 + 1 + 1 + 1, o6), (L + 1 + 1 + 1 + 1 + 1 + 1 + 1, o7), (123, tabObj #[]), (669, tabObj #[]), (733, tabObj #[])] →
    wpAny (model rw_iw0011_01.row.prog w) (lwA (KF w.params) L dp un gd outer) (execs ((bodyAt (KF w.params) 736).drop 10) (lwE (KF w.params) L)) Q E { s with heap := h', toks := tk' }),
  wpAny (model rw_iw0011_01.row.prog w) (lwA (KF w.params) L dp un gd outer) (execs ((bodyAt (KF w.params) 736).drop 8) (lwE (KF w.params) L)) Q E s := by
  k_fill
  intro w p loose mean mg mb o1 o2 o3 o4 o5 o6 o7 ci tc bs tbs pk rn trn m2 dp un gd outer A₀ base h₀ L s Q E B F X T N hdp hun hbs hpl hpk h4 h123 h669 h733 hk
  refine wpAny_execs_cons ?_
  have hk9 : (List.take (clipAt pk.length 50) pk).length ≤ 50 := by
    rw [List.length_take]
    have : clipAt pk.length 50 ≤ 50 := by unfold clipAt; rw [if_neg (by decide)]; omega
    omega
  have hkp : ∀ k ∈ List.take (clipAt pk.length 50) pk, 1 ≤ k ∧ k ≤ 255 := fun k hk => hpk k (List.mem_of_mem_take hk)
  k_with "CompW" => ((rename News _ _ _ _ => uN0); refine abs_news uN0 (fun nw hnw uN1 => ?_); clear uN0; ((rename Fr _ _ _ _ => uF); (rename News _ _ _ _ => uN); k_dflt (refine' CompW.bytes (isLet 2048) ?c1 uF uN ?c2 ?c3 (fun k' t' I' oI' C' oC' D' m' ys' h' tk' E' hk' hlo' hhi' hC' hx' F' N' off' ne' => ?_) (fun ys' g' hm' D' h' tk' F' N' off' => ?_); (case c1 => exact rfl); (case c2 => first | (with_reducible assumption) | kba_ints); (case c3 => omega)); (all_goals (try (simp only [LCg.Off3, and_true] at off'))); (all_goals (try dsimp only)); (all_goals (try k_fold))); rotate_left; (subst hnw; simp only [LCg.Off1, and_true] at off'; obtain ⟨cs, uC1, uC2, uC3⟩ := Made.lets hm'; (have uC5 : ∀ k ∈ (⟨cs.toArray⟩ : Str).cps.toList, k < 2048 := fun k hk => (uC3 k (by simpa using hk)).2); (have uC6 : (⟨cs.toArray⟩ : Str).cps.size ≤ 16777 := by show cs.length ≤ 16777; omega)); rotate_left; clear hnw)
  k_with "isLet" => exact chr_let (hkp _ (by with_reducible assumption))
  k_steps
  · (with_reducible rename Fr _ _ _ _ => F6)
    (with_reducible rename News _ _ _ _ => N6)
    (with_reducible rename (KBw.bInts _ = utf8I _) => u6)
    refine Hold.out (P := wpAny _ _ _ _ _ _) ?_
    have h9 := utf8I_length _ uC5
    have h8 : (⟨cs.toArray⟩ : Str).cps.toList.length = cs.length := by simp
    exact hk _ _ _ _ (utf8I (⟨cs.toArray⟩ : Str).cps.toList) _ _ _ u6 (.inr ⟨_, _, rfl, rfl, uC5, uC6⟩) (by omega) (utf8I_ne0 fun k hk => uC3 k (by simpa using hk)) (by assumption) (frGR F6 rfl rfl) (drop1 N6)
  · (with_reducible rename Fr _ _ _ _ => F6)
    (with_reducible rename News _ _ _ _ => N6)
    refine Hold.out (P := wpAny _ _ _ _ _ _) ?_
    exact hk _ _ bs tbs pk _ _ _ hbs (.inl ⟨_, _, rfl, hbs⟩) hpl (fun k hk1 hk2 => by have := hpk k hk1; omega) h4 (frGR F6 rfl rfl) N6
end
section
open LCg
section
variable {prog : Program} {w : World} {A A₀ : Around} {s : Shared} {K : Frag} {L : Addr} {h₀ base : Heap} {m mg mb : Str → Option Value} {p : Program} {loose : List Str} {mean : ExcName → Option Value}
/-- a lambda of the heap entered, all kept -/
theorem enterL {env : Env} {outer : List Env} {R : Result → Shared → Prop} {name qual : Str} {params : Arguments} {body : Expr} {scope : Scope} {cl : List (Str × Addr)} {pm ctv : Value} {c' : Addr} {f : Addr} {args : Args} {binds : List (Str × Value)}
    (B : Below A₀ base outer h₀) (F : Fr h₀ L s.heap m) (X₀ : K.In h₀) (T : Top p loose mean mg mb h₀) (hA : A.frames = some (env :: outer)) (hf : env.frame = some L) (hke : env.scope.kind = .function)
    (ho : s.heap.get? f = some (kla_obj name qual params body scope cl pm c' ctv)) (hcd : s.heap.CodeRec (.ref c') qual) (hroom : A.depth < recursionLimit)
    (hbind : bindArgs (kla_fn name qual params body scope cl pm (.ref c') ctv) args = pure binds) (hloc : ∀ y ∈ binds, scope.names.lookup y.1 = some .local)
    (h : ∀ L' h₁, Fr s.heap L' h₁ (fun y => binds.reverse.lookup y) → News s.heap L' h₁ [] → Below A base (env :: outer) s.heap → K.In s.heap → Top p loose mean mg mb s.heap →
      wpAny (model prog w) (A.deeper (envX qual scope L' f (.ref c') cl)) (eval body (envX qual scope L' f (.ref c') cl))
        (fun v s' => R (.ok (.ret v)) s')
        (fun e s' => wpAny (model prog w) (A.deeper (envX qual scope L' f (.ref c') cl)) (leaving (envX qual scope L' f (.ref c') cl) e) (fun _ s'' => R (.error e) s'') (fun e' s'' => R (.error e') s'') s')
        { s with heap := h₁, toks := s.toks + binds.length })
    (hco : scope.isCoroutine = false) (hgen : scope.isGenerator = false) (hk : scope.kind = .function)
    (hcell : ∀ x ∈ scope.names, x.2 ≠ .cell) : codeAny (model prog w) A (.call (.ref f) args) R s := by
  obtain ⟨FG, BG, st, lv⟩ := groundX (R := R) B F (News.nil : News h₀ L s.heap []) hA hf hke
  refine kla_callFunE hroom ho rfl hco hgen rfl hcd ?_
  rw [hbind]
  refine wpAny_pure (wpAny_newFunctionEnv hcell hloc (fun h₁ hns hsb => ⟨((T.nolimit).keeps F.keep).fresh _ hsb, ?_⟩) hk)
  show codeAny _ _ (.expr body (envX qual scope s.heap.objs.size f (.ref c') cl)) _ _
  have hk₁ : ∀ b o, s.heap.get? b = some o → h₁.get? b = some o := fun b o e => hsb.extBut b o (Nat.ne_of_lt (Heap.lt_size e)) (Heap.get?_push_of_some _ e)
  exact kla_codeExpr (h s.heap.objs.size h₁ ⟨hns, hk₁, Nat.le_refl _⟩ News.nil BG (X₀.keeps st) (T.keeps st))
end
section
variable {M : Model} {A : Around} {E : Value → Shared → Prop} {s : Shared} {L a : Addr} {cn : Str} {cs : Scope} {ccd : Value} {cl : List (Str × Addr)} {x : Str} {v : Value} {Q : Value → Shared → Prop} {c : Addr} {o : Obj} {pos : Pos}
theorem nameX_H (hc : cl.lookup x = some c) (hm : s.heap.get? c = some o) (hd : o.data = .cell (some v)) (h : Q v s)
    (hk : cs.kind = .function := by rfl) (hx : (envX cn cs L a ccd cl).kindOf x = some .free := by rfl) (hb : (x == ("__debug__" : Str)) = false := by decide) (hn : (x == ("__classdict__" : Str)) = false := by decide) :
    wpAny M A (eval (.Name x pos) (envX cn cs L a ccd cl)) Q E s := wpAny_Name (wpAny_loadName_free hk hx hc ⟨o, hm, hd⟩ h hn) hb
end
end
section
theorem zw_Ld_1 : True := by
  k_with_none
  k_with "exec Assign" => (k_here; (fail_if_success (with_reducible show wpAny _ _ _ (CutQ _) _ _)); (refine cutQ fun cutQ0 cutH0 => ?_))
  k_with "exec AugAssign" => (k_here; (fail_if_success (with_reducible show wpAny _ _ _ (CutQ _) _ _)); (refine cutQ fun cutQ0 cutH0 => ?_))
  k_with "exec Expr" => (k_here; (fail_if_success (with_reducible show wpAny _ _ _ (CutQ _) _ _)); (refine cutQ fun cutQ0 cutH0 => ?_))
  k_with "CutQ" => ((with_reducible rename (∀ f s', _ → CutQ _ f s') => cutH1); (refine cutH1 _ _ ?_); clear cutH1; (try dsimp only))
  trivial
open LCg
theorem zw_Ld_2 : True := by
  k_with "compareOp Eq int int" => (k_here; first | (refine eqT (by omega) ?_) | (refine eqF (by omega) ?_))
  k_with "binaryOp Sub int int" => (k_here; (refine subZ ?_); intro _ _)
  k_with "binaryOp Mod int int" => (k_here; (refine modZ (by first | decide | omega) ?_); intro _ _)
  k_with "ite" => (k_here; first | with_reducible refine ite_tt ?_ | with_reducible refine ite_ff ?_ | (refine ite_pos (by with_reducible assumption) ?_) | (refine ite_neg (by with_reducible assumption) ?_) | (refine ite_pos (by omega) ?_) | (refine ite_neg (by omega) ?_) | (with_reducible refine split_dec ?_ ?_ <;> intro _))
  k_with "call ref" => (k_here; (with_reducible show wpAny _ _ (call (Value.ref 672) _) _ _ _); (refine Hold.out ?_))
  k_with "execs cons" => (k_here; (with_reducible show wpAny _ _ (execs [Stmt.Assign _ _ _, Stmt.Return _ _] _) _ _ _); (refine Hold.out ?_))
  k_with "callWith ref" => (k_here; (with_reducible show wpAny _ _ (callWith _ (Value.ref 672) _ _ _) _ _ _); k_dflt (refine' callWith_K (by k_asm) (by k_is) ?_; k_whole))
  k_with "callWith ref" => (k_here; (with_reducible show wpAny _ _ (callWith _ (Value.ref 686) _ _ _) _ _ _); k_dflt (refine' callWith_K (by k_asm) (by k_is) ?_; k_whole))
  k_with "callWith ref" => (k_here; (with_reducible show wpAny _ _ (callWith _ (Value.ref 703) _ _ _) _ _ _); k_dflt (refine' callWith_K (by k_asm) (by k_is) ?_; k_whole))
  k_with "eval Name" => (k_here; (with_reducible show wpAny _ _ (eval (Expr.Name (Str.ofString "kind") _) (envX _ (Scope.mk _ [(Str.ofString "octets", _), _, _, _] _ _ _) _ _ _ _)) _ _ _); k_dflt (refine' nameX_H (by rfl) (by assumption) (by assumption) ?_))
  k_with "eval Name" => (k_here; (with_reducible show wpAny _ _ (eval (Expr.Name (Str.ofString "size") _) (envX _ (Scope.mk _ [(Str.ofString "octets", _), _, _, _] _ _ _) _ _ _ _)) _ _ _); k_dflt (refine' nameX_H (by rfl) (by assumption) (by assumption) ?_))
  k_with "call ref" => (k_here; (with_reducible show wpAny _ _ (call (Value.ref 686) _) _ _ _); (rename Fr _ _ _ _ => uFₘ751); (rename News _ _ _ _ => uNₘ751); (try dsimp only [List.nil_append, List.cons_append]); k_dflt (refine' c_hash _ _ _ _ _ _ _ _ _ _ _ _ _ _ _ _ _ _ _ _ _ _ _ _ _ _ _ _ _ _ (by k_asm) uFₘ751 (by k_asm) (by k_asm) (by first | exact rfl | assumption) (by ktr_room) (by ktr_units) (by first | (with_reducible assumption) | omega | (exact rfl) | (simp only [List.length_append, List.length_map, List.length_take, List.length_cons, List.length_nil]; omega) | (simp only [List.length_append, List.length_map, List.length_cons, List.length_nil] at *; omega)) (by first | (with_reducible assumption) | omega | (exact rfl) | (simp only [List.length_append, List.length_map, List.length_take, List.length_cons, List.length_nil]; omega) | (simp only [List.length_append, List.length_map, List.length_cons, List.length_nil] at *; omega)) (by first | (with_reducible assumption) | omega | (exact rfl) | (simp only [List.length_append, List.length_map, List.length_take, List.length_cons, List.length_nil]; omega) | (simp only [List.length_append, List.length_map, List.length_cons, List.length_nil] at *; omega)) (by first | (with_reducible assumption) | omega | (exact rfl) | (simp only [List.length_append, List.length_map, List.length_take, List.length_cons, List.length_nil]; omega) | (simp only [List.length_append, List.length_map, List.length_cons, List.length_nil] at *; omega)) (by first | (with_reducible assumption) | omega | (exact rfl) | (simp only [List.length_append, List.length_map, List.length_take, List.length_cons, List.length_nil]; omega) | (simp only [List.length_append, List.length_map, List.length_cons, List.length_nil] at *; omega)) ?_; intro h'ₘ751 tk'ₘ751 ukₘ751 urₘ751 utₘ751 u0ₘ751 u1ₘ751; have F'ₘ751 := Fr.keptAll uFₘ751 ukₘ751; have N'ₘ751 := News.grown uNₘ751 ukₘ751; clear ukₘ751; (try dsimp only); (try k_fold)))
  k_with "call ref" => (k_here; (with_reducible show wpAny _ _ (call (Value.ref 703) _) _ _ _); (rename Fr _ _ _ _ => uFₘ275); (rename News _ _ _ _ => uNₘ275); (try dsimp only [List.nil_append, List.cons_append]); k_dflt (refine' c_due _ _ _ _ _ _ _ _ _ _ _ _ _ _ _ _ _ _ _ _ _ _ _ _ _ _ _ _ _ _ _ _ _ _ _ (by k_asm) uFₘ275 (by k_asm) (by k_asm) (by first | exact rfl | assumption) (by ktr_room) (by ktr_units) (by first | (with_reducible assumption) | omega | (exact rfl) | (simp only [List.length_append, List.length_map, List.length_take, List.length_cons, List.length_nil]; omega) | (simp only [List.length_append, List.length_map, List.length_cons, List.length_nil] at *; omega)) (by first | (with_reducible assumption) | omega | (exact rfl) | (simp only [List.length_append, List.length_map, List.length_take, List.length_cons, List.length_nil]; omega) | (simp only [List.length_append, List.length_map, List.length_cons, List.length_nil] at *; omega)) (by first | (with_reducible assumption) | omega | (exact rfl) | (simp only [List.length_append, List.length_map, List.length_take, List.length_cons, List.length_nil]; omega) | (simp only [List.length_append, List.length_map, List.length_cons, List.length_nil] at *; omega)) (by first | (with_reducible assumption) | omega | (exact rfl) | (simp only [List.length_append, List.length_map, List.length_take, List.length_cons, List.length_nil]; omega) | (simp only [List.length_append, List.length_map, List.length_cons, List.length_nil] at *; omega)) (by first | (with_reducible assumption) | omega | (exact rfl) | (simp only [List.length_append, List.length_map, List.length_take, List.length_cons, List.length_nil]; omega) | (simp only [List.length_append, List.length_map, List.length_cons, List.length_nil] at *; omega)) (by first | (with_reducible assumption) | omega | (exact rfl) | (simp only [List.length_append, List.length_map, List.length_take, List.length_cons, List.length_nil]; omega) | (simp only [List.length_append, List.length_map, List.length_cons, List.length_nil] at *; omega)) (by first | (with_reducible assumption) | omega | (exact rfl) | (simp only [List.length_append, List.length_map, List.length_take, List.length_cons, List.length_nil]; omega) | (simp only [List.length_append, List.length_map, List.length_cons, List.length_nil] at *; omega)) (by first | (with_reducible assumption) | omega | (exact rfl) | (simp only [List.length_append, List.length_map, List.length_take, List.length_cons, List.length_nil]; omega) | (simp only [List.length_append, List.length_map, List.length_cons, List.length_nil] at *; omega)) ?_; intro h'ₘ275 tk'ₘ275 ukₘ275 urₘ275 utₘ275 u0ₘ275; have F'ₘ275 := Fr.keptAll uFₘ275 ukₘ275; have N'ₘ275 := News.grown uNₘ275 ukₘ275; clear ukₘ275; (try dsimp only); (try k_fold)))
  k_with "getMethod str" => (k_here; (with_reducible show wpAny _ _ (getMethod (Value.str _ _) (Str.ofString "encode") _) _ _ _); (refine strMeth PySem.F.slot_str_encode PySem.F.type_str_encode ?_))
  k_with "call builtin:str.encode" => (k_here; (refine encode_ascii (by assumption) (by assumption) ?_); intro _ _ _ uA0ₘ460; (have uAscₘ460 := uA0ₘ460.trans (by with_reducible assumption)); clear uA0ₘ460)
  trivial
theorem hid2 {b : Addr} (h1 : @LT.lt Nat _ 123 b) (h2 : @LT.lt Nat _ 669 b) : b ∉ [((125 : Addr), (123 : Addr)), (671, 669)].map (·.2) := by
  intro hm
  simp only [List.map_cons, List.map_nil, List.mem_cons, List.not_mem_nil, or_false] at hm
  rcases hm with hm | hm
  · exact absurd hm (Nat.ne_of_gt h1)
  · exact absurd hm (Nat.ne_of_gt h2)
theorem tab_news {h₀ h h8 : Heap} {L : Addr} {f c : Addr × Obj} {cells : List (Addr × Obj)} {o : Obj} {ps1 ps2 : Array Value} (N : News h₀ L h (f :: c :: (cells ++ [(123, tabObj #[]), (669, tabObj #[]), (733, o)]))) (k : ∀ b o, b ≠ 123 → b ≠ 669 → h.get? b = some o → h8.get? b = some o) (hc : ∀ q ∈ cells, q.1 ≠ 123 ∧ q.1 ≠ 669) (p1 : h8.get? 123 = some (tabObj ps1)) (p2 : h8.get? 669 = some (tabObj ps2)) :
    News h₀ L h8 (cells ++ [(123, tabObj ps1), (669, tabObj ps2), (733, o)]) := by
  intro q hq
  rcases List.mem_append.mp hq with hq | hq
  · have z := N q (.tail _ (.tail _ (List.mem_append_left _ hq)))
    exact ⟨k _ _ (hc q hq).1 (hc q hq).2 z.1, z.2⟩
  · simp only [List.mem_cons, List.not_mem_nil, or_false] at hq
    rcases hq with rfl | rfl | rfl
    · exact ⟨p1, (N (123, tabObj #[]) (.tail _ (.tail _ (List.mem_append_right _ (.head _))))).2⟩
    · exact ⟨p2, (N (669, tabObj #[]) (.tail _ (.tail _ (List.mem_append_right _ (.tail _ (.head _)))))).2⟩
    · have z := N (733, o) (.tail _ (.tail _ (List.mem_append_right _ (.tail _ (.tail _ (.head _))))))
      exact ⟨k _ _ (show (733 : Addr) ≠ 123 by decide) (show (733 : Addr) ≠ 669 by decide) z.1, z.2⟩
theorem lD : ∀ (w : World) (p : Program) (loose : List Str) (mean : ExcName → Option Value) (mg mb : Str → Option Value) (o1 o2 o3 o4 o5 o6 o7 : Obj) (bi ki : Int) (tb tk ts : Tok) (sz : Nat) (bs : Array UInt8) (tbs : CbTok) (pk : List Int) (v : Value) (cs : List Nat) (tcs : Tok) (rn : Nat) (trn : Tok) (m3 : Str → Option Value)
  (dp un : Nat) (gd : Option (List Code)) (outer : List Env) (A₀ : Around) (base h₀ : Heap) (L : Addr) (s : Shared) (Q : Flow → Shared → Prop) (E : Value → Shared → Prop)
  (B : Below A₀ base outer h₀) (F : Fr h₀ L s.heap (fun y => if y = Str.ofString "given" then some v else if y = Str.ofString "rounds" then some (.int (rn : Int) trn) else m3 y)) (X : (KF w.params).In h₀) (T : Top p loose mean mg mb h₀)
  (N : News h₀ L s.heap [(L + 1, o1), (L + 1 + 1, o2), (L + 1 + 1 + 1, o3), (L + 1 + 1 + 1 + 1, o4), (L + 1 + 1 + 1 + 1 + 1, o5), (L + 1 + 1 + 1 + 1 + 1 + 1, o6), (L + 1 + 1 + 1 + 1 + 1 + 1 + 1, o7), (123, tabObj #[]), (669, tabObj #[]), (733, tabObj #[])]) (hdp : dp + 60 < recursionLimit) (hun : un + 300 < cLine)
  (hbs : KBw.bInts bs = pk) (hv : PwdIs v pk) (hpl : pk.length ≤ 104) (hpk : ∀ k ∈ pk, k ≠ 0) (hcs : ∀ c ∈ cs, c < 128) (hcl : cs.length ≤ 16) (hrn : rn ≤ 99) (hk0 : 0 ≤ ki) (hk3 : ki < 3) (hsz : sz = 32 ∨ sz = 64)
  (h2 : o2.data = .cell (some (.int bi tb))) (h4 : o4.data = .cell (some (.bytes bs tbs))) (h5 : o5.data = .cell (some (.str ⟨cs.toArray⟩ tcs))) (h6 : o6.data = .cell (some (.int ki tk))) (h7 : o7.data = .cell (some (.int (sz : Int) ts))) (hC : CodeHd h₀ 735 733) (h123 : @LT.lt Nat _ 123 L) (h669 : @LT.lt Nat _ 669 L) (h733 : @LT.lt Nat _ 733 L)
  (hTD : ∀ ss : List Int, (⟨cs.toArray⟩ : Str).cps.toList.map (fun n : Nat => (n : Int)) = ss → (⟨(toldI (KF w.params) (hashI ki sz) pk ss rn (offAt (KF w.params) (tpOf ((sz : Int) == 64)))).toArray⟩ : Str) = signsI (dueI ki sz pk ss rn))
  (hk : ∀ (h' : Heap) (tk' : Nat) (gs' : Array GenState) (ps1 ps2 ps3 : Array Value) (m4 : Str → Option Value), GK s.gens gs' → Fr h₀ L h' m4 → News h₀ L h' [(L + 1, o1), (L + 1 + 1, o2), (L + 1 + 1 + 1, o3), (L + 1 + 1 + 1 + 1, o4), (L + 1 + 1 + 1 + 1 + 1, o5), (L + 1 + 1 + 1 + 1 + 1 + 1, o6), (L + 1 + 1 + 1 + 1 + 1 + 1 + 1, o7), (123, tabObj ps1), (669, tabObj ps2), (733, tabObj ps3)] →
    wpAny (model rw_iw0011_01.row.prog w) (lwA (KF w.params) L dp un gd outer) (execs ((bodyAt (KF w.params) 736).drop 12) (lwE (KF w.params) L)) Q E { s with heap := h', toks := tk', gens := gs' }),
  wpAny (model rw_iw0011_01.row.prog w) (lwA (KF w.params) L dp un gd outer) (execs ((bodyAt (KF w.params) 736).drop 10) (lwE (KF w.params) L)) Q E s := by
  k_fill
  intro w p loose mean mg mb o1 o2 o3 o4 o5 o6 o7 bi ki tb tk ts sz bs tbs pk v cs tcs rn trn m3 dp un gd outer A₀ base h₀ L s Q E B F X T N hdp hun hbs hv hpl hpk hcs hcl hrn hk0 hk3 hsz h2 h4 h5 h6 h7 hC h123 h669 h733 hTD hk
  refine wpAny_execs_cons ?_
  k_steps
  rename_i f6 c6 oc6 vs6 t6 ct6 hh6 tk6 F6 N6 d1 d2 l1 l2 t7 k7 t8 k8
  have hHOk : HOk w (ghostOf hh6 [(125, 123), (671, 669)]) f6 (hashI ki sz) sz := by
    have e1 := ghost_ne (tabs := [(125, 123), (671, 669)]) (N6 _ (.head _)).1 (hid2 (by omega) (by omega))
    have e2 := ghost_ne (tabs := [(125, 123), (671, 669)]) (N6 _ (.tail _ (.head _))).1 (hid2 (by omega) (by omega))
    have e3 := ghost_ne (tabs := [(125, 123), (671, 669)]) (N6 (L + 1 + 1 + 1 + 1 + 1 + 1, o6) (by simp)).1 (hid2 (by omega) (by omega))
    have e4 := ghost_ne (tabs := [(125, 123), (671, 669)]) (N6 (L + 1 + 1 + 1 + 1 + 1 + 1 + 1, o7) (by simp)).1 (hid2 (by omega) (by omega))
    clear F6 N6 F N T X B
    intro p2 loose2 mean2 mg2 mb2 dp2 un2 gd2 cn2 cs2 a2 ccd2 cl2 outer2 A2 base2 h2' L2 m2 s2 Q2 E2 b2 tb2 ks2 B2 F2 X2 T2 hkb2 hcs2 hdp2 hun2 hks2 hl2 hret2
    have g1 := F2.keep _ _ (hkb2 _ _ e1)
    have g2 := F2.keep _ _ (hkb2 _ _ e2)
    have g3 := F2.keep _ _ (hkb2 _ _ e3)
    have g4 := F2.keep _ _ (hkb2 _ _ e4)
    refine wpAny_call ?_
    refine' enterL (binds := [(Str.ofString "octets", .bytes b2 tb2)]) B2 F2 X2 T2 rfl rfl hcs2 g1 ⟨c6, oc6, vs6, t6, rfl, g2, d1, d2⟩ ?_ rfl (locs rfl) ?_ rfl rfl rfl (by decide)
    · exact (by omega : dp2 < recursionLimit)
    intro L3 h3 F3 N3 B3 X3 T3
    have g5 := F3.keep _ _ g3
    have g6 := F3.keep _ _ g4
    clear e1 e2 e3 e4 g1 g2 g3 g4 B2 X2 T2 hkb2
    dsimp only
    k_steps
    (with_reducible rename Fr _ _ _ _ => F4)
    exact hret2 _ _ _ _ F4.keep (by assumption) (by assumption)
  have hb5 : (if ((sz : Int) == 64) = true then 64 else 32) = sz := by rcases hsz with rfl | rfl <;> rfl
  refine Hold.out (P := wpAny _ _ _ _ _ _) ?_
  obtain ⟨ss, hss⟩ : ∃ ss, (⟨cs.toArray⟩ : Str).cps.toList.map (fun n : Nat => (n : Int)) = ss := ⟨_, rfl⟩
  have hcs5 : ∀ k ∈ (⟨cs.toArray⟩ : Str).cps.toList, k < 128 := fun k hk => hcs k (by simpa using hk)
  have hcs6 : (⟨cs.toArray⟩ : Str).cps.size ≤ 16777216 := by show cs.length ≤ _; omega
  have hss6 : ss.length ≤ 16 := by rw [← hss]; simpa using hcl
  have le3 : 0 ≤ (bi.fdiv 100).fmod 3 := by rw [Int.fmod_eq_emod_of_nonneg _ (by decide)]; omega
  refine c_rsc w p loose mean mg mb _ f6 (hashI ki sz) v pk ⟨cs.toArray⟩ tcs ss rn trn ((sz : Int) == 64) _ t8 dp un gd _ _ _ _ _ outer A₀ base h₀ L _ _ _ _ B F6 X T rfl (by omega) (by omega) (N6 (123, tabObj #[]) (by simp)).1 (N6 (669, tabObj #[]) (by simp)).1 (by rw [hb5]; exact hHOk) (fun b o e => e) ⟨_, _, _, _, (N6 _ (.head _)).1⟩ hv hpl hpk hcs5 hss hss6 hrn (by omega) (fun h8 tk8 gs8 t9 uk8 ug8 up8 uq8 => ?_)
  obtain ⟨ps1, hp1⟩ := up8
  obtain ⟨ps2, hp2⟩ := uq8
  have e123 := (N6 (123, tabObj #[]) (by simp)).2.2
  have e669 := (N6 (669, tabObj #[]) (by simp)).2.2
  have F8 := fr_buts F6 (wr := [123, 669]) (fun b o hb e => uk8 b o (fun q => hb (by simp [q])) (fun q => hb (by simp [q])) e) (fun hm => by
    simp only [List.mem_cons, List.not_mem_nil, or_false] at hm
    rcases hm with hm | hm
    · exact absurd hm (Nat.ne_of_gt h123)
    · exact absurd hm (Nat.ne_of_gt h669)) (fun b hm => by
    simp only [List.mem_cons, List.not_mem_nil, or_false] at hm
    rcases hm with rfl | rfl
    · exact e123
    · exact e669)
  have N8 := tab_news (cells := [(L + 1, o1), (L + 1 + 1, o2), (L + 1 + 1 + 1, o3), (L + 1 + 1 + 1 + 1, o4), (L + 1 + 1 + 1 + 1 + 1, o5), (L + 1 + 1 + 1 + 1 + 1 + 1, o6), (L + 1 + 1 + 1 + 1 + 1 + 1 + 1, o7)]) N6 uk8 (fun q hq => by
    simp only [List.mem_cons, List.not_mem_nil, or_false] at hq
    rcases hq with rfl | rfl | rfl | rfl | rfl | rfl | rfl <;> exact ⟨Nat.ne_of_gt (by simp only; omega), Nat.ne_of_gt (by simp only; omega)⟩) hp1 hp2
  simp only [List.cons_append, List.nil_append] at N8
  clear N6 F6 hHOk e123 e669 uk8 hp1 hp2 l1 l2
  rw [hTD ss hss]
  k_steps
  · (with_reducible rename Fr _ _ _ _ => F9)
    (with_reducible rename News _ _ _ _ => N9)
    refine Hold.out (P := wpAny _ _ _ _ _ _) ?_
    exact hk _ _ _ _ _ _ _ ug8 F9 N9
end
section
open LCg
section
variable {M : Model} {A : Around} {E : Value → Shared → Prop} {s' : Shared} {base g g₂ h : Heap} {outer : List Env} {env : Env} {L e : Addr} {m : Str → Option Value} {Q : Unit → Shared → Prop}
theorem memX {b : Addr} (hf : env.frame = some L) (hm : b ∈ (env :: outer).filterMap (·.frame)) : b = L ∨ b ∈ outer.filterMap (·.frame) := by
  obtain ⟨x, hx, hb⟩ := List.mem_filterMap.mp hm
  rcases List.mem_cons.mp hx with rfl | hx
  · rw [hf] at hb; exact .inl (Option.some.inj hb).symm
  · exact .inr (List.mem_filterMap.mpr ⟨x, hx, hb⟩)
theorem staysX (hf : env.frame = some L) (hk : env.scope.kind = .function) (K : Below A base outer g) (F : Fr g L h m) :
    base.StaysIn (hideAll h ((env :: outer).filterMap (·.frame))) ∧ (∀ b o, g.get? b = some o → b ∉ outer.filterMap (·.frame) → (hideAll h ((env :: outer).filterMap (·.frame))).get? b = some o) ∧ (hideAll h ((env :: outer).filterMap (·.frame))).StaysIn h ∧ h.FunFrames (hideAll h ((env :: outer).filterMap (·.frame))) (env :: outer) := by
  have K' := pushX K F hf hk
  refine ⟨fun b o q => hideAll_get _ (K'.stays b o q) fun hm => ?_, fun b o q nm => hideAll_get _ (F.keep b o q) fun hm => ?_, fun b o q => of_hideAll _ q, ?_⟩
  · rw [(K'.frames.mem hm).1] at q; cases q
  · rcases memX hf hm with z | z
    · rw [z, kts_self F] at q; cases q
    · exact nm z
  · exact funFrames_hide K'.frames fun x hx b hb => List.mem_filterMap.mpr ⟨x, hx, hb⟩
theorem leave_newX {cls : String} (hf : env.frame = some L) (hk : env.scope.kind = .function) (K : Below A base outer g) (hx : Heap.NewExc h s'.heap e cls) (F : Fr g L h m)
    (hQ : ∀ h', RaisedSN base g outer e (.type cls) [] h' → g.UpToSlots h' → Q () { s' with heap := h' }) : wpAny M (A.deeper env) (leaving env (.ref e)) Q E s' := by
  obtain ⟨st, sg, up, ff⟩ := staysX hf hk K F
  obtain ⟨ob, tp, he, hcls, hd⟩ := hx.there
  have hen : (hideAll h ((env :: outer).filterMap (·.frame))).get? e = none := by
    cases q : (hideAll h ((env :: outer).filterMap (·.frame))).get? e with
    | none => rfl
    | some o => have := up _ _ q; rw [hx.new] at this; cases this
  refine wpAny_leaving_firstW (a0 := tp) (Around.frames_deeper K.stack) (ff.of_keeps fun b o hb _ => ⟨o, hx.keeps b o hb, rfl⟩) hf he (fun b o hb => hx.keeps b o (up b o hb)) hen hd rfl rfl fun h' hL => ?_
  obtain ⟨k1, ⟨_, _, k2⟩, k3, k4⟩ := hL
  exact hQ h' ⟨_, tp, st, sg, (fun q hq => nomatch hq), k1, hen, k2, by rw [← hcls]; exact k3⟩ (((Heap.UpToSlots.of_keeps F.keep).trans (Heap.UpToSlots.of_keeps hx.keeps)).trans k4)
theorem leave_madeX {cls : Value} {vs : List Value} (hf : env.frame = some L) (hk : env.scope.kind = .function) (K : Below A base outer g) (hx : Heap.MadeExcOf h s'.heap e cls vs) (F : Fr g L h m)
    (hQ : ∀ h', RaisedSN base g outer e cls [] h' → g.UpToSlots h' → Q () { s' with heap := h' }) : wpAny M (A.deeper env) (leaving env (.ref e)) Q E s' := by
  obtain ⟨st, sg, up, ff⟩ := staysX hf hk K F
  exact wpAny_leaves_madeW (Around.frames_deeper K.stack) hf up ff hx fun h' t x1 _ _ x4 =>
    hQ h' ⟨_, _, st, sg, (fun q hq => nomatch hq), x1⟩ (((Heap.UpToSlots.of_keeps F.keep).trans (Heap.UpToSlots.of_keeps hx.keeps)).trans x4)
theorem leave_onX {cls : Value} (hf : env.frame = some L) (K : Below A base outer g) (F : Fr g L g₂ m) (R : RaisedSN base g₂ (env :: outer) e cls [] s'.heap) (hsm : g₂.UpToSlots s'.heap)
    (hQ : ∀ h', RaisedSN base g outer e cls [] h' → g.UpToSlots h' → Q () { s' with heap := h' }) : wpAny M (A.deeper env) (leaving env (.ref e)) Q E s' := by
  obtain ⟨B, a0, hB, hBG, hl, hfl⟩ := R
  refine wpAny_leaves_onW (Around.frames_deeper K.stack) hf hfl fun h' x1 x2 => hQ h' ⟨B, a0, hB, fun b o q nm => hBG b o (F.keep b o q) (fun hm => ?_), (fun q hq => nomatch hq), x1⟩ ((Heap.UpToSlots.of_keeps F.keep).trans (hsm.trans x2))
  rcases memX hf hm with z | z
  · rw [z, kts_self F] at q; cases q
  · exact nm z
/-- how an exception comes to be at the end of a frame -/
def ExcFrom (base : Heap) (l : List Env) (hh h' : Heap) (e : Addr) (cls : Value) : Prop :=
  (∃ X, cls = .type X ∧ Heap.NewExc hh h' e X) ∨ (∃ vs, Heap.MadeExcOf hh h' e cls vs) ∨ (RaisedSN base hh l e cls [] h' ∧ hh.UpToSlots h')
theorem leave_excX {cls : Value} (hf : env.frame = some L) (hk : env.scope.kind = .function) (K : Below A base outer g) (F : Fr g L h m) (x : ExcFrom base (env :: outer) h s'.heap e cls)
    (hQ : ∀ h', RaisedSN base g outer e cls [] h' → g.UpToSlots h' → Q () { s' with heap := h' }) : wpAny M (A.deeper env) (leaving env (.ref e)) Q E s' := by
  rcases x with ⟨X, rfl, x⟩ | ⟨vs, x⟩ | ⟨x, u⟩
  · exact leave_newX hf hk K x F hQ
  · exact leave_madeX hf hk K x F hQ
  · exact leave_onX hf K F x u hQ
end
end
section
theorem zw_Ex1_1 : True := by
  k_with_none
  k_with "exec Assign" => (k_here; (fail_if_success (with_reducible show wpAny _ _ _ (CutQ _) _ _)); (refine cutQ fun cutQ0 cutH0 => ?_))
  k_with "exec AugAssign" => (k_here; (fail_if_success (with_reducible show wpAny _ _ _ (CutQ _) _ _)); (refine cutQ fun cutQ0 cutH0 => ?_))
  k_with "exec Expr" => (k_here; (fail_if_success (with_reducible show wpAny _ _ _ (CutQ _) _ _)); (refine cutQ fun cutQ0 cutH0 => ?_))
  k_with "CutQ" => ((with_reducible rename (∀ f s', _ → CutQ _ f s') => cutH1); (refine cutH1 _ _ ?_); clear cutH1; (try dsimp only))
  trivial
open LCg
def BodyRaise (w : World) (hb : Heap) (v sv HF : Value) (rv le : Int) (b5 : Bool) (cls : Value) : Prop :=
  ∀ (p : Program) (loose : List Str) (mean : ExcName → Option Value) (mg mb : Str → Option Value) (dp un : Nat) (gd : Option (List Code)) (outer : List Env) (A₀ : Around) (base h₀ : Heap) (L : Addr) (s : Shared) (Q : Flow → Shared → Prop) (E : Value → Shared → Prop) (m0 : Str → Option Value) (news : List (Addr × Obj)) (trv tle : Tok)
    (_ : Below A₀ base outer h₀) (_ : Fr h₀ L s.heap m0) (_ : m0 (Str.ofString "pwd") = some v ∧ m0 (Str.ofString "salt") = some sv ∧ m0 (Str.ofString "rounds") = some (.int rv trv) ∧ m0 (Str.ofString "hash_const") = some HF ∧ m0 (Str.ofString "use_512") = some (.bool b5) ∧ m0 (Str.ofString "least") = some (.int le tle)) (_ : (KF w.params).In h₀) (_ : Top p loose mean mg mb h₀) (_ : News h₀ L s.heap news) (_ : ∀ b o, hb.get? b = some o → h₀.get? b = some o) (_ : dp + 30 < recursionLimit) (_ : un + 100 < cLine)
    (_ : ∀ hh h' e tk' m', Fr h₀ L hh m' → ExcFrom base (rsE (KF w.params) L :: outer) hh h' e cls → E (.ref e) { s with heap := h', toks := tk' }),
    wpAny (model rw_iw0011_01.row.prog w) (rsA (KF w.params) L dp un gd outer) (execs (bodyAt (KF w.params) 672) (rsE (KF w.params) L)) Q E s
theorem c_e6 : ∀ (w : World) (p : Program) (loose : List Str) (mean : ExcName → Option Value) (mg mb : Str → Option Value) (v sv HF : Value) (rv : Int) (trv : CbTok) (b5 : Bool) (le : Int) (tle : CbTok) (cls : Value)
  (dp un : Nat) (gd : Option (List Code)) (cn : Str) (cs : Scope) (a : Addr) (ccd : Value) (cl : List (Str × Addr)) (outer : List Env) (A₀ : Around) (base h₀ : Heap) (L : Addr) (m : Str → Option Value) (s : Shared) (Q E : Value → Shared → Prop)
  (B : Below A₀ base outer h₀) (F : Fr h₀ L s.heap m) (X : (KF w.params).In h₀) (T : Top p loose mean mg mb h₀) (hcs : cs.kind = .function) (hdp : dp + 40 < recursionLimit) (hun : un + 150 < cLine)
  (hb : BodyRaise w s.heap v sv HF rv le b5 cls)
  (hE : ∀ e h' tk', RaisedSN base s.heap (envX cn cs L a ccd cl :: outer) e cls [] h' → s.heap.UpToSlots h' → E (.ref e) { s with heap := h', toks := tk' }),
  wpAny (model rw_iw0011_01.row.prog w) (ktrTop dp un gd cn cs L a ccd cl outer) (call (.ref 672) [v, sv, .int rv trv, HF, .bool b5, .int le tle]) Q E s := by
  k_fill
  intro w p loose mean mg mb v sv HF rv trv b5 le tle cls dp un gd cn cs a ccd cl outer A₀ base h₀ L m s Q E B F X T hcs hdp hun hb hE
  refine wpAny_call ?_
  k_dflt (refine' enterKC (binds := [(Str.ofString "pwd", v), (Str.ofString "salt", sv), (Str.ofString "rounds", .int rv trv), (Str.ofString "hash_const", HF), (Str.ofString "use_512", .bool b5), (Str.ofString "least", .int le tle)]) B F X T ?kA ?kF ?kK ?k6 ?k7 ?k8 ?k9 ?kB ?kD ?_ ?c2 ?c3 ?c4; (case kA => exact rfl); (case kF => exact rfl); (case kK => assumption); (case k6 => k_is); (case k7 => k_is); (case k8 => ktr_room); (case k9 => first | exact BindsTo.of_eq rfl | exact binds_K (by k_in) rfl (by k_is) rfl rfl rfl); (case kB => exact rfl); (case kD => decide +kernel); (case c2 => exact rfl); (case c3 => exact rfl); (case c4 => exact rfl); k_whole; clear B F X T; intro L' h' tk' cells' F' N' Y' B' X' T'; k_cells Y'; (try simp only [List.cons_append, List.nil_append] at N'); (try dsimp only); (try k_lift B'); (try k_fold))
  refine hb _ _ _ _ _ _ _ _ _ _ _ _ L' _ _ _ _ _ _ _ B' F' ⟨rfl, rfl, rfl, rfl, rfl, rfl⟩ X' T' N' (fun b o e => e) ?_ ?_ (fun hh h2 e tk2 m2 F2 x2 => ?_)
  · exact (by omega : dp + 1 + 30 < recursionLimit)
  · exact (by omega : un + 3 + 100 < cLine)
  · exact leave_excX rfl rfl B' F2 x2 fun h3 R3 U3 => hE e h3 tk2 R3 U3
theorem c_e5 : ∀ (w : World) (p : Program) (loose : List Str) (mean : ExcName → Option Value) (mg mb : Str → Option Value) (v sv HF : Value) (rv : Int) (trv : CbTok) (b5 : Bool) (cls : Value)
  (dp un : Nat) (gd : Option (List Code)) (cn : Str) (cs : Scope) (a : Addr) (ccd : Value) (cl : List (Str × Addr)) (outer : List Env) (A₀ : Around) (base h₀ : Heap) (L : Addr) (m : Str → Option Value) (s : Shared) (Q E : Value → Shared → Prop)
  (B : Below A₀ base outer h₀) (F : Fr h₀ L s.heap m) (X : (KF w.params).In h₀) (T : Top p loose mean mg mb h₀) (hcs : cs.kind = .function) (hdp : dp + 40 < recursionLimit) (hun : un + 150 < cLine)
  (hb : BodyRaise w s.heap v sv HF rv 1000 b5 cls)
  (hE : ∀ e h' tk', RaisedSN base s.heap (envX cn cs L a ccd cl :: outer) e cls [] h' → s.heap.UpToSlots h' → E (.ref e) { s with heap := h', toks := tk' }),
  wpAny (model rw_iw0011_01.row.prog w) (ktrTop dp un gd cn cs L a ccd cl outer) (call (.ref 672) [v, sv, .int rv trv, HF, .bool b5]) Q E s := by
  k_fill
  intro w p loose mean mg mb v sv HF rv trv b5 cls dp un gd cn cs a ccd cl outer A₀ base h₀ L m s Q E B F X T hcs hdp hun hb hE
  refine wpAny_call ?_
  k_dflt (refine' enterKC (binds := [(Str.ofString "pwd", v), (Str.ofString "salt", sv), (Str.ofString "rounds", .int rv trv), (Str.ofString "hash_const", HF), (Str.ofString "use_512", .bool b5), (Str.ofString "least", .int 1000 1180)]) B F X T ?kA ?kF ?kK ?k6 ?k7 ?k8 ?k9 ?kB ?kD ?_ ?c2 ?c3 ?c4; (case kA => exact rfl); (case kF => exact rfl); (case kK => assumption); (case k6 => k_is); (case k7 => k_is); (case k8 => ktr_room); (case k9 => first | exact BindsTo.of_eq rfl | exact binds_K (by k_in) rfl (by k_is) rfl rfl rfl); (case kB => exact rfl); (case kD => decide +kernel); (case c2 => exact rfl); (case c3 => exact rfl); (case c4 => exact rfl); k_whole; clear B F X T; intro L' h' tk' cells' F' N' Y' B' X' T'; k_cells Y'; (try simp only [List.cons_append, List.nil_append] at N'); (try dsimp only); (try k_lift B'); (try k_fold))
  refine hb _ _ _ _ _ _ _ _ _ _ _ _ L' _ _ _ _ _ _ _ B' F' ⟨rfl, rfl, rfl, rfl, rfl, rfl⟩ X' T' N' (fun b o e => e) ?_ ?_ (fun hh h2 e tk2 m2 F2 x2 => ?_)
  · exact (by omega : dp + 1 + 30 < recursionLimit)
  · exact (by omega : un + 3 + 100 < cLine)
  · exact leave_excX rfl rfl B' F2 x2 fun h3 R3 U3 => hE e h3 tk2 R3 U3
theorem c_e4 : ∀ (w : World) (p : Program) (loose : List Str) (mean : ExcName → Option Value) (mg mb : Str → Option Value) (v sv HF : Value) (rv : Int) (trv : CbTok) (cls : Value)
  (dp un : Nat) (gd : Option (List Code)) (cn : Str) (cs : Scope) (a : Addr) (ccd : Value) (cl : List (Str × Addr)) (outer : List Env) (A₀ : Around) (base h₀ : Heap) (L : Addr) (m : Str → Option Value) (s : Shared) (Q E : Value → Shared → Prop)
  (B : Below A₀ base outer h₀) (F : Fr h₀ L s.heap m) (X : (KF w.params).In h₀) (T : Top p loose mean mg mb h₀) (hcs : cs.kind = .function) (hdp : dp + 40 < recursionLimit) (hun : un + 150 < cLine)
  (hb : BodyRaise w s.heap v sv HF rv 1000 false cls)
  (hE : ∀ e h' tk', RaisedSN base s.heap (envX cn cs L a ccd cl :: outer) e cls [] h' → s.heap.UpToSlots h' → E (.ref e) { s with heap := h', toks := tk' }),
  wpAny (model rw_iw0011_01.row.prog w) (ktrTop dp un gd cn cs L a ccd cl outer) (call (.ref 672) [v, sv, .int rv trv, HF]) Q E s := by
  k_fill
  intro w p loose mean mg mb v sv HF rv trv cls dp un gd cn cs a ccd cl outer A₀ base h₀ L m s Q E B F X T hcs hdp hun hb hE
  refine wpAny_call ?_
  k_dflt (refine' enterKC (binds := [(Str.ofString "pwd", v), (Str.ofString "salt", sv), (Str.ofString "rounds", .int rv trv), (Str.ofString "hash_const", HF), (Str.ofString "use_512", .bool false), (Str.ofString "least", .int 1000 1180)]) B F X T ?kA ?kF ?kK ?k6 ?k7 ?k8 ?k9 ?kB ?kD ?_ ?c2 ?c3 ?c4; (case kA => exact rfl); (case kF => exact rfl); (case kK => assumption); (case k6 => k_is); (case k7 => k_is); (case k8 => ktr_room); (case k9 => first | exact BindsTo.of_eq rfl | exact binds_K (by k_in) rfl (by k_is) rfl rfl rfl); (case kB => exact rfl); (case kD => decide +kernel); (case c2 => exact rfl); (case c3 => exact rfl); (case c4 => exact rfl); k_whole; clear B F X T; intro L' h' tk' cells' F' N' Y' B' X' T'; k_cells Y'; (try simp only [List.cons_append, List.nil_append] at N'); (try dsimp only); (try k_lift B'); (try k_fold))
  refine hb _ _ _ _ _ _ _ _ _ _ _ _ L' _ _ _ _ _ _ _ B' F' ⟨rfl, rfl, rfl, rfl, rfl, rfl⟩ X' T' N' (fun b o e => e) ?_ ?_ (fun hh h2 e tk2 m2 F2 x2 => ?_)
  · exact (by omega : dp + 1 + 30 < recursionLimit)
  · exact (by omega : un + 3 + 100 < cLine)
  · exact leave_excX rfl rfl B' F2 x2 fun h3 R3 U3 => hE e h3 tk2 R3 U3
end
section
theorem zw_Ex2_1 : True := by
  k_with_none
  k_with "exec Assign" => (k_here; (fail_if_success (with_reducible show wpAny _ _ _ (CutQ _) _ _)); (refine cutQ fun cutQ0 cutH0 => ?_))
  k_with "exec AugAssign" => (k_here; (fail_if_success (with_reducible show wpAny _ _ _ (CutQ _) _ _)); (refine cutQ fun cutQ0 cutH0 => ?_))
  k_with "exec Expr" => (k_here; (fail_if_success (with_reducible show wpAny _ _ _ (CutQ _) _ _)); (refine cutQ fun cutQ0 cutH0 => ?_))
  k_with "CutQ" => ((with_reducible rename (∀ f s', _ → CutQ _ f s') => cutH1); (refine cutH1 _ _ ?_); clear cutH1; (try dsimp only))
  trivial
open LCg
theorem zw_Ex2_2 : True := by
  k_with "binaryOp Add bytes bytes" => (k_here; (with_reducible show wpAny _ _ (binaryOp Operator.Add (Value.bytes _ _) (Value.bytes _ _)) _ _ _); (refine' KBa.add_K (by first | (with_reducible assumption) | exact KBw.ints_list _ | kba_ints2) (by first | (with_reducible assumption) | exact KBw.ints_list _ | kba_ints2) (by first | omega | (simp only [List.length_append, List.length_map, List.length_take, List.length_nil, List.length_cons]; omega) | kba_size) ?_); intro _ _ kbaAppₘab)
  k_with "leaving ref" => (k_here; (rename Fr _ _ _ _ => uFₘ253); k_dflt (refine' leave_excX rfl rfl (by k_asm) uFₘ253 (by first | exact .inl ⟨_, rfl, by assumption⟩ | exact .inr (.inl ⟨_, by assumption⟩) | exact .inr (.inr ⟨by assumption, by assumption⟩)) ?_); intro h'ₘ253 R'ₘ253 U'ₘ253)
  trivial
theorem c_stop : ∀ (w : World) (p : Program) (loose : List Str) (mean : ExcName → Option Value) (mg mb : Str → Option Value) (b : Array UInt8) (tb : CbTok)
  (dp un : Nat) (gd : Option (List Code)) (cn : Str) (cs : Scope) (a : Addr) (ccd : Value) (cl : List (Str × Addr)) (outer : List Env) (A₀ : Around) (base h₀ : Heap) (L : Addr) (m : Str → Option Value) (s : Shared) (Q E : Value → Shared → Prop)
  (B : Below A₀ base outer h₀) (F : Fr h₀ L s.heap m) (X : (KF w.params).In h₀) (T : Top p loose mean mg mb h₀) (hcs : cs.kind = .function) (hdp : dp + 4 < recursionLimit) (hun : un + 30 < cLine)
  (hE : ∀ e h' tk', RaisedSN base s.heap (envX cn cs L a ccd cl :: outer) e (.type "KeyError") [] h' → s.heap.UpToSlots h' → E (.ref e) { s with heap := h', toks := tk' }),
  wpAny (model rw_iw0011_01.row.prog w) (ktrTop dp un gd cn cs L a ccd cl outer) (call (.ref 710) [.bytes b tb]) Q E s := by
  k_fill
  intro w p loose mean mg mb b tb dp un gd cn cs a ccd cl outer A₀ base h₀ L m s Q E B F X T hcs hdp hun hE
  refine wpAny_call ?_
  k_dflt (refine' enterK (binds := [(Str.ofString "octets", .bytes b tb)]) B F X T ?kA ?kF ?kK ?k6 ?k7 ?k8 ?k9 ?kB ?_ ?c2 ?c3 ?c4 ?c5; (case kA => exact rfl); (case kF => exact rfl); (case kK => assumption); (case k6 => k_is); (case k7 => k_is); (case k8 => ktr_room); (case k9 => first | exact BindsTo.of_eq rfl | exact binds_K (by k_in) rfl (by k_is) rfl rfl rfl); (case c5 => decide); (case kB => exact locs rfl); (case c2 => exact rfl); (case c3 => exact rfl); (case c4 => exact rfl); k_whole; clear B F X T; intro L' h' F' N' B' X' T'; (try dsimp only); (try k_lift B'); (try k_fold))
  k_steps
  exact hE _ _ _ (by assumption) (by assumption)
theorem zw_Ex2_3 : True := by
  k_with "call ref" => (k_here; (with_reducible show wpAny _ _ (call (Value.ref 710) _) _ _ _); (try dsimp only [List.nil_append, List.cons_append]); (rename Fr _ _ _ _ => uFₘ622); (rename News _ _ _ _ => uNₘ622); k_dflt (refine' c_stop _ _ _ _ _ _ _ _ _ _ _ _ _ _ _ _ _ _ _ _ _ _ _ _ _ (by k_asm) uFₘ622 (by k_asm) (by k_asm) (by first | exact rfl | assumption) (by ktr_room) (by ktr_units) ?_); intro e'ₘ622 h'ₘ622 tk'ₘ622 R'ₘ622 U'ₘ622)
  k_with "callWith ref" => (k_here; (with_reducible show wpAny _ _ (callWith _ (Value.ref 710) _ _ _) _ _ _); k_dflt (refine' callWith_K (by k_asm) (by k_is) ?_; k_whole))
  trivial
theorem r10s : ∀ (w : World) (p : Program) (loose : List Str) (mean : ExcName → Option Value) (mg mb : Str → Option Value) (news : List (Addr × Obj)) (bpw : Array UInt8) (tpw : CbTok) (pk : List Int) (bss : Array UInt8) (tss : CbTok) (ss : List Int) (m0 : Str → Option Value)
  (dp un : Nat) (gd : Option (List Code)) (outer : List Env) (A₀ : Around) (base h₀ : Heap) (L : Addr) (s : Shared) (Q : Flow → Shared → Prop) (E : Value → Shared → Prop)
  (B : Below A₀ base outer h₀) (F : Fr h₀ L s.heap (fun y => if y = Str.ofString "pwd" then some (.bytes bpw tpw) else if y = Str.ofString "salt" then some (.bytes bss tss) else if y = Str.ofString "hash_const" then some (.ref 710) else m0 y)) (X : (KF w.params).In h₀) (T : Top p loose mean mg mb h₀)
  (N : News h₀ L s.heap news) (hdp : dp + 30 < recursionLimit) (hun : un + 100 < cLine) (hbp : KBw.bInts bpw = pk) (hbs : KBw.bInts bss = ss) (hlp : pk.length ≤ 300) (hls : ss.length ≤ 16)
  (hE : ∀ hh h' e tk' m', Fr h₀ L hh m' → ExcFrom base (rsE (KF w.params) L :: outer) hh h' e (.type "KeyError") → E (.ref e) { s with heap := h', toks := tk' }),
  wpAny (model rw_iw0011_01.row.prog w) (rsA (KF w.params) L dp un gd outer) (execs ((bodyAt (KF w.params) 672).drop 10) (rsE (KF w.params) L)) Q E s := by
  k_fill
  intro w p loose mean mg mb news bpw tpw pk bss tss ss m0 dp un gd outer A₀ base h₀ L s Q E B F X T N hdp hun hbp hbs hlp hls hE
  have hm1 : ss.length + pk.length ≤ 400 := by omega
  refine wpAny_execs_cons ?_
  k_steps
  (with_reducible rename Fr _ _ _ _ => F9)
  (with_reducible rename RaisedSN _ _ _ _ _ _ _ => R9)
  (with_reducible rename Heap.UpToSlots _ _ => U9)
  exact hE _ _ _ _ _ F9 (.inr (.inr ⟨R9, U9⟩))
end
end
section
open LCg
theorem br_null {w : World} {hb : Heap} {b : Array UInt8} {t : CbTok} {pk : List Int} {sv HF : Value} {rv le : Int} {b5 : Bool} (hp : KBw.bInts b = pk) (hl : pk.length ≤ 300) (h0 : ∃ k ∈ pk, k = 0) : BodyRaise w hb (.bytes b t) sv HF rv le b5 (.ref 31) := by
  intro p loose mean mg mb dp un gd outer A₀ base h₀ L s Q E m0 news trv tle B F e X T N hkb hdp hun hE
  obtain ⟨e1, e2, e3, e4, e5, e6⟩ := e
  obtain ⟨k, hk1, hk2⟩ := h0
  exact r0b w p loose mean mg mb news b t pk m0 dp un gd outer A₀ base h₀ L s Q E B (fr1 F e1) X T N hdp hun hp hl (fun _ hh h' e vs tk' m' F' _ M' => hE hh h' e tk' m' F' (.inr (.inl ⟨vs, M'⟩))) (fun hn => absurd hk2 (hn k hk1))
theorem br_nullt {w : World} {hb : Heap} {x : Str} {t : Tok} {sv HF : Value} {rv le : Int} {b5 : Bool} (h1 : ∀ k ∈ x.cps.toList, k < 2048) (h2 : x.cps.size ≤ 100) (h0 : ∃ k ∈ utf8I x.cps.toList, k = 0) : BodyRaise w hb (.str x t) sv HF rv le b5 (.ref 31) := by
  intro p loose mean mg mb dp un gd outer A₀ base h₀ L s Q E m0 news trv tle B F e X T N hkb hdp hun hE
  obtain ⟨e1, e2, e3, e4, e5, e6⟩ := e
  obtain ⟨k, hk1, hk2⟩ := h0
  have h9 := utf8I_length _ h1
  have h8 : x.cps.toList.length = x.cps.size := Array.length_toList
  exact r0t w p loose mean mg mb news x t m0 dp un gd outer A₀ base h₀ L s Q E B (fr1 F e1) X T N hdp hun h1 (by omega) (by omega) (fun _ hh h' e vs tk' m' F' _ M' => hE hh h' e tk' m' F' (.inr (.inl ⟨vs, M'⟩))) (fun hn => absurd hk2 (hn k hk1))
theorem br_pwd {w : World} {hb : Heap} {v sv HF : Value} {rv le : Int} {b5 : Bool} (hN : ∀ h₀ L news, (∀ b o, hb.get? b = some o → h₀.get? b = some o) → NoInst w h₀ L news v "str" ∧ NoInst w h₀ L news v "bytes") : BodyRaise w hb v sv HF rv le b5 (.type "AssertionError") := by
  intro p loose mean mg mb dp un gd outer A₀ base h₀ L s Q E m0 news trv tle B F e X T N hkb hdp hun hE
  obtain ⟨e1, e2, e3, e4, e5, e6⟩ := e
  obtain ⟨n1, n2⟩ := hN h₀ L news hkb
  exact r0o w p loose mean mg mb news v m0 dp un gd outer A₀ base h₀ L s Q E B (fr1 F e1) X T N hdp hun n1 n2 (fun hh h' e tk' m' F' _ M' => hE hh h' e tk' m' F' (.inl ⟨_, rfl, M'⟩))
theorem fr4s {h₀ h : Heap} {L : Addr} {m : Str → Option Value} {v1 v2 v3 v4 : Value} (F : Fr h₀ L h (fun y => if y = Str.ofString "pwd" then some v1 else m y)) (h2 : m (Str.ofString "salt") = some v2) (h3 : m (Str.ofString "rounds") = some v3) (h4 : m (Str.ofString "least") = some v4) :
    Fr h₀ L h (fun y => if y = Str.ofString "pwd" then some v1 else if y = Str.ofString "salt" then some v2 else if y = Str.ofString "rounds" then some v3 else if y = Str.ofString "least" then some v4 else m y) := by
  refine fr_eq F fun y => ?_
  rcases Decidable.em (y = Str.ofString "pwd") with rfl | q1
  · rfl
  rcases Decidable.em (y = Str.ofString "salt") with rfl | q2
  · simp only [if_neg q1, h2]; rfl
  rcases Decidable.em (y = Str.ofString "rounds") with rfl | q3
  · simp only [if_neg q1, h3]; rfl
  rcases Decidable.em (y = Str.ofString "least") with rfl | q4
  · simp only [if_neg q1, h4]; rfl
  simp only [if_neg q1, if_neg q2, if_neg q3, if_neg q4]
theorem br_salt {w : World} {hb : Heap} {b : Array UInt8} {t : CbTok} {pk : List Int} {sv HF : Value} {rv le : Int} {b5 : Bool} (hp : KBw.bInts b = pk) (hl : pk.length ≤ 300) (h0 : ∀ k ∈ pk, k ≠ 0) (hN : ∀ h₀ L news, (∀ b o, hb.get? b = some o → h₀.get? b = some o) → NoInst w h₀ L news sv "str") : BodyRaise w hb (.bytes b t) sv HF rv le b5 (.type "AssertionError") := by
  intro p loose mean mg mb dp un gd outer A₀ base h₀ L s Q E m0 news trv tle B F e X T N hkb hdp hun hE
  obtain ⟨e1, e2, e3, e4, e5, e6⟩ := e
  have n1 := hN h₀ L news hkb
  refine r0b w p loose mean mg mb news b t pk m0 dp un gd outer A₀ base h₀ L s Q E B (fr1 F e1) X T N hdp hun hp hl (fun ⟨k, h1, h2⟩ => absurd h2 (h0 k h1)) (fun _ h2 tk2 F2 N2 => ?_)
  exact r3w w p loose mean mg mb news b t pk sv rv le trv tle m0 dp un gd outer A₀ base h₀ L _ Q E B (fr4s F2 e2 e3 e6) X T N2 hdp hun hp hl n1 (fun hh h' e tk' m' F' _ M' => hE hh h' e tk' m' F' (.inl ⟨_, rfl, M'⟩))
theorem br_bad {w : World} {hb : Heap} {b : Array UInt8} {t : CbTok} {pk : List Int} {xs : Str} {txs : Tok} {HF : Value} {rv le : Int} {b5 : Bool} (hp : KBw.bInts b = pk) (hl : pk.length ≤ 300) (h0 : ∀ k ∈ pk, k ≠ 0) (hasc : ∀ k ∈ xs.cps.toList, k < 128) (hxs : xs.cps.size ≤ 1000) (hc : le ≤ rv → rv ≤ 999999999 → 17 ≤ xs.cps.size) : BodyRaise w hb (.bytes b t) (.str xs txs) HF rv le b5 (.type "AssertionError") := by
  intro p loose mean mg mb dp un gd outer A₀ base h₀ L s Q E m0 news trv tle B F e X T N hkb hdp hun hE
  obtain ⟨e1, e2, e3, e4, e5, e6⟩ := e
  refine r0b w p loose mean mg mb news b t pk m0 dp un gd outer A₀ base h₀ L s Q E B (fr1 F e1) X T N hdp hun hp hl (fun ⟨k, h1, h2⟩ => absurd h2 (h0 k h1)) (fun _ h2 tk2 F2 N2 => ?_)
  have hln : (xs.cps.toList.map (fun n : Nat => (n : Int))).length = xs.cps.size := by rw [List.length_map, Array.length_toList]
  exact r3 w p loose mean mg mb HF news b t pk xs txs _ rv le trv tle b5 m0 dp un gd outer A₀ base h₀ L _ Q E B (frs6 F2 e2 e3 e4 e5 e6) X T N2 hdp hun hp hl hasc (by omega) rfl (by omega) (fun _ hh h' e tk' m' F' _ M' => hE hh h' e tk' m' F' (.inl ⟨_, rfl, M'⟩)) (fun q1 q2 q3 => by have := hc q1 q2; omega)
theorem fr3h {h₀ h : Heap} {L : Addr} {m : Str → Option Value} {v1 v2 v3 : Value} (F : Fr h₀ L h m) (h1 : m (Str.ofString "pwd") = some v1) (h2 : m (Str.ofString "salt") = some v2) (h3 : m (Str.ofString "hash_const") = some v3) :
    Fr h₀ L h (fun y => if y = Str.ofString "pwd" then some v1 else if y = Str.ofString "salt" then some v2 else if y = Str.ofString "hash_const" then some v3 else m y) := by
  refine fr_eq F fun y => ?_
  rcases Decidable.em (y = Str.ofString "pwd") with rfl | q1
  · rw [h1]; rfl
  rcases Decidable.em (y = Str.ofString "salt") with rfl | q2
  · rw [h2]; rfl
  rcases Decidable.em (y = Str.ofString "hash_const") with rfl | q3
  · rw [h3]; rfl
  simp only [if_neg q1, if_neg q2, if_neg q3]
theorem br_hash {w : World} {hb : Heap} {b : Array UInt8} {t : CbTok} {pk : List Int} {xs : Str} {txs : Tok} {rv le : Int} {b5 : Bool} (hp : KBw.bInts b = pk) (hl : pk.length ≤ 300) (h0 : ∀ k ∈ pk, k ≠ 0) (hasc : ∀ k ∈ xs.cps.toList, k < 128) (hxs : xs.cps.size ≤ 16) (hc1 : le ≤ rv) (hc2 : rv ≤ 999999999) : BodyRaise w hb (.bytes b t) (.str xs txs) (.ref 710) rv le b5 (.type "KeyError") := by
  intro p loose mean mg mb dp un gd outer A₀ base h₀ L s Q E m0 news trv tle B F e X T N hkb hdp hun hE
  obtain ⟨e1, e2, e3, e4, e5, e6⟩ := e
  refine r0b w p loose mean mg mb news b t pk m0 dp un gd outer A₀ base h₀ L s Q E B (fr1 F e1) X T N hdp hun hp hl (fun ⟨k, h1, h2⟩ => absurd h2 (h0 k h1)) (fun _ h2 tk2 F2 N2 => ?_)
  have hln : (xs.cps.toList.map (fun n : Nat => (n : Int))).length = xs.cps.size := by rw [List.length_map, Array.length_toList]
  refine r3 w p loose mean mg mb (.ref 710) news b t pk xs txs _ rv le trv tle b5 m0 dp un gd outer A₀ base h₀ L _ Q E B (frs6 F2 e2 e3 e4 e5 e6) X T N2 hdp hun hp hl hasc (by omega) rfl (by omega) (fun hq => by have := hq hc1 hc2; omega) (fun _ _ _ h3 tk3 bss tss t1 t2 m1 hbs F3 N3 => ?_)
  exact r10s w p loose mean mg mb news b t pk bss tss _ _ dp un gd outer A₀ base h₀ L _ Q E B (fr3h F3 rfl rfl rfl) X T N3 hdp hun hp hbs hl (by omega) hE
end
section
local macro_rules | `(tactic| omega) => `(tactic| lia)
section
open LCg
theorem ni_bytes {w : World} {h₀ : Heap} {L : Addr} {news : List (Addr × Obj)} {b : Array UInt8} {t : CbTok} : NoInst w h₀ L news (.bytes b t) "str" := fun A s m Q E F N h =>
  kia_one (K := []) kitx_bytes (fun _ _ e => by cases e) trivial (b := false) (by first | rfl | kernel_rfl) (by intro q; cases q) h
theorem ni_none_str {w : World} {h₀ : Heap} {L : Addr} {news : List (Addr × Obj)} : NoInst w h₀ L news .none "str" := fun A s m Q E F N h =>
  call_isinstance (isinstance_false_none (by decide +kernel) PySem.F.isi_meta_str (by rw [isSubtype_type]; kernel_rfl)) (h _)
theorem ni_none_bytes {w : World} {h₀ : Heap} {L : Addr} {news : List (Addr × Obj)} : NoInst w h₀ L news .none "bytes" := fun A s m Q E F N h =>
  call_isinstance (isinstance_false_none (by decide +kernel) PySem.F.isi_meta_bytes (by rw [isSubtype_type]; kernel_rfl)) (h _)
theorem ni_int_str {w : World} {h₀ : Heap} {L : Addr} {news : List (Addr × Obj)} {n : Int} {t : Tok} : NoInst w h₀ L news (.int n t) "str" := fun A s m Q E F N h => IsiPair.int_str (h _)
theorem ni_int_bytes {w : World} {h₀ : Heap} {L : Addr} {news : List (Addr × Obj)} {n : Int} {t : Tok} : NoInst w h₀ L news (.int n t) "bytes" := fun A s m Q E F N h => IsiPair.int_bytes (h _)
theorem ni_list_str {w : World} {h₀ : Heap} {L a : Addr} {o : Obj} {news : List (Addr × Obj)} (e : h₀.get? a = some o) (hc : o.cls = .type "list") : NoInst w h₀ L news (.ref a) "str" := fun A s m Q E F N h => IsiPair.list_str (F.keep _ _ e) hc (h _)
theorem ni_list_bytes {w : World} {h₀ : Heap} {L a : Addr} {o : Obj} {news : List (Addr × Obj)} (e : h₀.get? a = some o) (hc : o.cls = .type "list") : NoInst w h₀ L news (.ref a) "bytes" := fun A s m Q E F N h => IsiPair.list_bytes (F.keep _ _ e) hc (h _)
theorem ni_tuple_str {w : World} {h₀ : Heap} {L a : Addr} {o : Obj} {news : List (Addr × Obj)} (e : h₀.get? a = some o) (hc : o.cls = .type "tuple") : NoInst w h₀ L news (.ref a) "str" := fun A s m Q E F N h => IsiPair.tuple_str (F.keep _ _ e) hc (h _)
theorem ni_tuple_bytes {w : World} {h₀ : Heap} {L a : Addr} {o : Obj} {news : List (Addr × Obj)} (e : h₀.get? a = some o) (hc : o.cls = .type "tuple") : NoInst w h₀ L news (.ref a) "bytes" := fun A s m Q E F N h => IsiPair.tuple_bytes (F.keep _ _ e) hc (h _)
theorem lenS {prog : Program} {w : World} {A : Around} {E : Value → Shared → Prop} {s : Shared} {x : Str} {t : Tok} {Q : Value → Shared → Prop} (hx : x.cps.size ≤ 16777216) (h : ∀ t' k, Q (.int (x.cps.size : Int) t') { s with toks := k }) : wpAny (model prog w) A (call (.builtin "len") [.str x t]) Q E s :=
  PySem.P.len_str (by show ¬ ((x.cps.size : Int) ≥ 2 ^ 63); omega) (h _ _)
theorem addS {prog : Program} {w : World} {A : Around} {E : Value → Shared → Prop} {s : Shared} {x y : Str} {t u : Tok} {Q : Value → Shared → Prop} (hx : x.cps.size ≤ 1000) (hy : y.cps.size ≤ 1000) (h : ∀ t' k, Q (.str (x ++ y) t') { s with toks := k }) : wpAny (model prog w) A (binaryOp .Add (.str x t) (.str y u)) Q E s :=
  PyProof.Rows.add_str h (by show x.cps.size + y.cps.size ≤ sizeLine; rw [sizeLine_eq]; omega)
theorem rep_fold : ∀ (n : Nat) (acc : Array Nat), ((List.replicate n (#[46] : Array Nat)).foldl (· ++ ·) acc).toList = acc.toList ++ List.replicate n 46
  | 0, acc => by simp
  | n + 1, acc => by
    rw [List.replicate_succ, List.foldl_cons, rep_fold n, List.replicate_succ]
    simp
theorem mulDot {prog : Program} {w : World} {A : Around} {E : Value → Shared → Prop} {s : Shared} {n : Int} {t u : Tok} {Q : Value → Shared → Prop} (h1 : 1 ≤ n) (h2 : n ≤ 200) (h : ∀ (z : Str) t' k, z.cps.size = n.toNat → (∀ k ∈ z.cps.toList, k < 128) → Q (.str z t') { s with toks := k }) :
    wpAny (model prog w) A (binaryOp .Mult (.str (Str.ofString ".") t) (.int n u)) Q E s := by
  have e1 : (Str.ofString ".").cps = #[46] := rfl
  have e2 : (Str.ofString ".").length = 1 := rfl
  refine PySem.P.mul_str ?_ (fun _ _ => ?_) (fun _ _ => ?_) ?_
  · rw [decide_eq_false (by omega), decide_eq_false (by omega)]; rfl
  · rw [e2]
    have : (1 : Int) ≤ (2 ^ 63 - 1) / n := (Int.le_ediv_iff_mul_le (by omega)).mpr (by omega)
    omega
  · rw [e2]
    unfold Builtin.Str.tooLong
    exact decide_eq_false (by rw [sizeLine_eq]; omega)
  · rw [if_neg (by omega)]
    split
    · rename_i hn
      have hn1 : n = 1 := by
        rw [e2] at hn
        simpa using hn
      subst hn1
      exact h _ _ _ rfl (by decide)
    · have e3 : (⟨(List.replicate n.toNat (Str.ofString ".").cps).foldl (· ++ ·) #[]⟩ : Str).cps.toList = List.replicate n.toNat 46 := by
        show ((List.replicate n.toNat (Str.ofString ".").cps).foldl (· ++ ·) #[]).toList = _
        rw [e1, rep_fold]; simp
      have e4 : (⟨(List.replicate n.toNat (Str.ofString ".").cps).foldl (· ++ ·) #[]⟩ : Str).cps.size = n.toNat := by
        rw [← Array.length_toList, e3, List.length_replicate]
      refine ⟨?_, h _ _ _ e4 (fun k hk => ?_)⟩
      · show (⟨(List.replicate n.toNat (Str.ofString ".").cps).foldl (· ++ ·) #[]⟩ : Str).cps.size ≤ sizeLine
        rw [e4, sizeLine_eq]; omega
      · rw [e3] at hk
        rw [List.eq_of_mem_replicate hk]; decide
theorem slice_mem {x : Str} {l u : Option Int} : ∀ k ∈ (Txt.slice x l u).cps.toList, k ∈ x.cps.toList := by
  intro k hk
  unfold Txt.slice at hk
  split at hk
  · exact hk
  · simp only [List.mem_filterMap] at hk
    obtain ⟨i, _, hi⟩ := hk
    exact Array.mem_toList_iff.mpr (Array.mem_of_getElem? hi)
theorem app_mem {x y : Str} {k : Nat} : k ∈ (x ++ y).cps.toList ↔ k ∈ x.cps.toList ∨ k ∈ y.cps.toList := by
  show k ∈ (x.cps ++ y.cps).toList ↔ _
  simp
theorem app_size {x y : Str} : (x ++ y).cps.size = x.cps.size + y.cps.size := by
  show (x.cps ++ y.cps).size = _
  simp
end
section
theorem zw_Wr9_1 : True := by
  k_with_none
  k_with "exec Assign" => (k_here; (fail_if_success (with_reducible show wpAny _ _ _ (CutQ _) _ _)); (refine cutQ fun cutQ0 cutH0 => ?_))
  k_with "exec AugAssign" => (k_here; (fail_if_success (with_reducible show wpAny _ _ _ (CutQ _) _ _)); (refine cutQ fun cutQ0 cutH0 => ?_))
  k_with "exec Expr" => (k_here; (fail_if_success (with_reducible show wpAny _ _ _ (CutQ _) _ _)); (refine cutQ fun cutQ0 cutH0 => ?_))
  k_with "CutQ" => ((with_reducible rename (∀ f s', _ → CutQ _ f s') => cutH1); (refine cutH1 _ _ ?_); clear cutH1; (try dsimp only))
  trivial
open LCg
theorem zw_Wr9_2 : True := by
  k_with "compareOp Eq int int" => (k_here; first | (refine eqT (by omega) ?_) | (refine eqF (by omega) ?_))
  k_with "binaryOp Add int int" => (k_here; (refine addZ ?_); intro _ _)
  k_with "binaryOp Sub int int" => (k_here; (refine subZ ?_); intro _ _)
  k_with "binaryOp Mod int int" => (k_here; (refine modZ (by first | decide | omega) ?_); intro _ _)
  k_with "ite" => (k_here; first | with_reducible refine ite_tt ?_ | with_reducible refine ite_ff ?_ | (refine ite_pos (by with_reducible assumption) ?_) | (refine ite_neg (by with_reducible assumption) ?_) | (refine ite_pos (by omega) ?_) | (refine ite_neg (by omega) ?_) | (with_reducible refine split_dec ?_ ?_ <;> intro _))
  k_with "call ref" => (k_here; (with_reducible show wpAny _ _ (call (Value.ref 672) _) _ _ _); (refine Hold.out ?_))
  k_with "callWith ref" => (k_here; (with_reducible show wpAny _ _ (callWith _ (Value.ref 672) _ _ _) _ _ _); k_dflt (refine' callWith_K (by k_asm) (by k_is) ?_; k_whole))
  trivial
theorem wr_9 : ∀ (w : World) (p : Program) (loose : List Str) (mean : ExcName → Option Value) (mg mb : Str → Option Value) (tj : CbTok) (bs : Array UInt8) (tbs : CbTok) (pk : List Int) (xs : Str) (txs : Tok) (far : Int) (tf : CbTok)
  (dp un : Nat) (gd : Option (List Code)) (cn : Str) (cs : Scope) (a : Addr) (ccd : Value) (cl : List (Str × Addr)) (outer : List Env) (A₀ : Around) (base h₀ : Heap) (L : Addr) (m : Str → Option Value) (s : Shared) (Q E : Value → Shared → Prop)
  (B : Below A₀ base outer h₀) (F : Fr h₀ L s.heap m) (X : (KF w.params).In h₀) (T : Top p loose mean mg mb h₀) (hcs : cs.kind = .function) (hdp : dp + 50 < recursionLimit) (hun : un + 200 < cLine)
  (hbs : KBw.bInts bs = pk) (hpl : pk.length ≤ 104) (hpk : ∀ k ∈ pk, k ≠ 0) (hasc : ∀ k ∈ xs.cps.toList, k < 128) (hxs : xs.cps.size ≤ 16) (hf : 0 ≤ far)
  (hE : ∀ e h' tk', RaisedSN base s.heap (envX cn cs L a ccd cl :: outer) e (.type "KeyError") [] h' → s.heap.UpToSlots h' → E (.ref e) { s with heap := h', toks := tk' }),
  wpAny (model rw_iw0011_01.row.prog w) (ktrTop dp un gd cn cs L a ccd cl outer) (call (.ref 724) [.int 9 tj, .bytes bs tbs, .str xs txs, .int far tf]) Q E s := by
  k_fill
  intro w p loose mean mg mb tj bs tbs pk xs txs far tf dp un gd cn cs a ccd cl outer A₀ base h₀ L m s Q E B F X T hcs hdp hun hbs hpl hpk hasc hxs hf hE
  refine wpAny_call ?_
  k_dflt (refine' enterK (binds := [(Str.ofString "kind", .int 9 tj), (Str.ofString "secret", .bytes bs tbs), (Str.ofString "salt", .str xs txs), (Str.ofString "far", .int far tf)]) B F X T ?kA ?kF ?kK ?k6 ?k7 ?k8 ?k9 ?kB ?_ ?c2 ?c3 ?c4 ?c5; (case kA => exact rfl); (case kF => exact rfl); (case kK => assumption); (case k6 => k_is); (case k7 => k_is); (case k8 => ktr_room); (case k9 => first | exact BindsTo.of_eq rfl | exact binds_K (by k_in) rfl (by k_is) rfl rfl rfl); (case c5 => decide); (case kB => exact locs rfl); (case c2 => exact rfl); (case c3 => exact rfl); (case c4 => exact rfl); k_whole; clear B F X T; intro L' h' F' N' B' X' T'; (try dsimp only); (try k_lift B'); (try k_fold))
  k_steps
  (with_reducible rename Fr _ _ _ _ => F9)
  refine Hold.out (P := wpAny _ _ _ _ _ _) ?_
  refine c_e4 w _ _ _ _ _ _ _ _ _ _ (.type "KeyError") _ _ _ _ _ _ _ _ _ _ _ _ L' _ _ _ _ B' F9 X' T' rfl (by omega : dp + 1 + 40 < recursionLimit) (by omega : un + 3 + 150 < cLine) ?br (fun e h2 tk2 R2 U2 => ?_)
  case br => exact br_hash hbs (by omega) hpk hasc (by omega) (by omega) (by omega)
  exact leave_onX rfl B' F9 R2 U2 fun h3 R3 U3 => hE _ _ _ R3 U3
theorem wr_10 : ∀ (w : World) (p : Program) (loose : List Str) (mean : ExcName → Option Value) (mg mb : Str → Option Value) (tj : CbTok) (bs : Array UInt8) (tbs : CbTok) (pk : List Int) (xs : Str) (txs : Tok) (far : Int) (tf : CbTok)
  (dp un : Nat) (gd : Option (List Code)) (cn : Str) (cs : Scope) (a : Addr) (ccd : Value) (cl : List (Str × Addr)) (outer : List Env) (A₀ : Around) (base h₀ : Heap) (L : Addr) (m : Str → Option Value) (s : Shared) (Q E : Value → Shared → Prop)
  (B : Below A₀ base outer h₀) (F : Fr h₀ L s.heap m) (X : (KF w.params).In h₀) (T : Top p loose mean mg mb h₀) (hcs : cs.kind = .function) (hdp : dp + 50 < recursionLimit) (hun : un + 200 < cLine)
  (hbs : KBw.bInts bs = pk) (hpl : pk.length ≤ 104) (hpk : ∀ k ∈ pk, k ≠ 0) (hasc : ∀ k ∈ xs.cps.toList, k < 128) (hxs : xs.cps.size ≤ 16) (hf : 0 ≤ far)
  (hE : ∀ e h' tk', RaisedSN base s.heap (envX cn cs L a ccd cl :: outer) e (.type "KeyError") [] h' → s.heap.UpToSlots h' → E (.ref e) { s with heap := h', toks := tk' }),
  wpAny (model rw_iw0011_01.row.prog w) (ktrTop dp un gd cn cs L a ccd cl outer) (call (.ref 724) [.int 10 tj, .bytes bs tbs, .str xs txs, .int far tf]) Q E s := by
  k_fill
  intro w p loose mean mg mb tj bs tbs pk xs txs far tf dp un gd cn cs a ccd cl outer A₀ base h₀ L m s Q E B F X T hcs hdp hun hbs hpl hpk hasc hxs hf hE
  refine wpAny_call ?_
  k_dflt (refine' enterK (binds := [(Str.ofString "kind", .int 10 tj), (Str.ofString "secret", .bytes bs tbs), (Str.ofString "salt", .str xs txs), (Str.ofString "far", .int far tf)]) B F X T ?kA ?kF ?kK ?k6 ?k7 ?k8 ?k9 ?kB ?_ ?c2 ?c3 ?c4 ?c5; (case kA => exact rfl); (case kF => exact rfl); (case kK => assumption); (case k6 => k_is); (case k7 => k_is); (case k8 => ktr_room); (case k9 => first | exact BindsTo.of_eq rfl | exact binds_K (by k_in) rfl (by k_is) rfl rfl rfl); (case c5 => decide); (case kB => exact locs rfl); (case c2 => exact rfl); (case c3 => exact rfl); (case c4 => exact rfl); k_whole; clear B F X T; intro L' h' F' N' B' X' T'; (try dsimp only); (try k_lift B'); (try k_fold))
  have hfm : 0 ≤ far.fmod 999999000 ∧ far.fmod 999999000 < 999999000 := by rw [Int.fmod_eq_emod_of_nonneg _ (by decide)]; omega
  k_steps
  (with_reducible rename Fr _ _ _ _ => F9)
  refine Hold.out (P := wpAny _ _ _ _ _ _) ?_
  refine c_e4 w _ _ _ _ _ _ _ _ _ _ (.type "KeyError") _ _ _ _ _ _ _ _ _ _ _ _ L' _ _ _ _ B' F9 X' T' rfl (by omega : dp + 1 + 40 < recursionLimit) (by omega : un + 3 + 150 < cLine) ?br (fun e h2 tk2 R2 U2 => ?_)
  case br => exact br_hash hbs (by omega) hpk hasc (by omega) (by omega) (by omega)
  exact leave_onX rfl B' F9 R2 U2 fun h3 R3 U3 => hE _ _ _ R3 U3
theorem wr_11 : ∀ (w : World) (p : Program) (loose : List Str) (mean : ExcName → Option Value) (mg mb : Str → Option Value) (tj : CbTok) (bs : Array UInt8) (tbs : CbTok) (pk : List Int) (xs : Str) (txs : Tok) (far : Int) (tf : CbTok)
  (dp un : Nat) (gd : Option (List Code)) (cn : Str) (cs : Scope) (a : Addr) (ccd : Value) (cl : List (Str × Addr)) (outer : List Env) (A₀ : Around) (base h₀ : Heap) (L : Addr) (m : Str → Option Value) (s : Shared) (Q E : Value → Shared → Prop)
  (B : Below A₀ base outer h₀) (F : Fr h₀ L s.heap m) (X : (KF w.params).In h₀) (T : Top p loose mean mg mb h₀) (hcs : cs.kind = .function) (hdp : dp + 50 < recursionLimit) (hun : un + 200 < cLine)
  (hbs : KBw.bInts bs = pk) (hpl : pk.length ≤ 104) (hpk : ∀ k ∈ pk, k ≠ 0) (hasc : ∀ k ∈ xs.cps.toList, k < 128) (hxs : xs.cps.size ≤ 16) (hf : 0 ≤ far)
  (hE : ∀ e h' tk', RaisedSN base s.heap (envX cn cs L a ccd cl :: outer) e (.type "KeyError") [] h' → s.heap.UpToSlots h' → E (.ref e) { s with heap := h', toks := tk' }),
  wpAny (model rw_iw0011_01.row.prog w) (ktrTop dp un gd cn cs L a ccd cl outer) (call (.ref 724) [.int 11 tj, .bytes bs tbs, .str xs txs, .int far tf]) Q E s := by
  k_fill
  intro w p loose mean mg mb tj bs tbs pk xs txs far tf dp un gd cn cs a ccd cl outer A₀ base h₀ L m s Q E B F X T hcs hdp hun hbs hpl hpk hasc hxs hf hE
  refine wpAny_call ?_
  k_dflt (refine' enterK (binds := [(Str.ofString "kind", .int 11 tj), (Str.ofString "secret", .bytes bs tbs), (Str.ofString "salt", .str xs txs), (Str.ofString "far", .int far tf)]) B F X T ?kA ?kF ?kK ?k6 ?k7 ?k8 ?k9 ?kB ?_ ?c2 ?c3 ?c4 ?c5; (case kA => exact rfl); (case kF => exact rfl); (case kK => assumption); (case k6 => k_is); (case k7 => k_is); (case k8 => ktr_room); (case k9 => first | exact BindsTo.of_eq rfl | exact binds_K (by k_in) rfl (by k_is) rfl rfl rfl); (case c5 => decide); (case kB => exact locs rfl); (case c2 => exact rfl); (case c3 => exact rfl); (case c4 => exact rfl); k_whole; clear B F X T; intro L' h' F' N' B' X' T'; (try dsimp only); (try k_lift B'); (try k_fold))
  k_steps
  (with_reducible rename Fr _ _ _ _ => F9)
  refine Hold.out (P := wpAny _ _ _ _ _ _) ?_
  refine c_e5 w _ _ _ _ _ _ _ _ _ _ _ (.type "KeyError") _ _ _ _ _ _ _ _ _ _ _ _ L' _ _ _ _ B' F9 X' T' rfl (by omega : dp + 1 + 40 < recursionLimit) (by omega : un + 3 + 150 < cLine) ?br (fun e h2 tk2 R2 U2 => ?_)
  case br => exact br_hash hbs (by omega) hpk hasc (by omega) (by omega) (by omega)
  exact leave_onX rfl B' F9 R2 U2 fun h3 R3 U3 => hE _ _ _ R3 U3
theorem wr_5 : ∀ (w : World) (p : Program) (loose : List Str) (mean : ExcName → Option Value) (mg mb : Str → Option Value) (tj : CbTok) (bs : Array UInt8) (tbs : CbTok) (pk : List Int) (xs : Str) (txs : Tok) (far : Int) (tf : CbTok)
  (dp un : Nat) (gd : Option (List Code)) (cn : Str) (cs : Scope) (a : Addr) (ccd : Value) (cl : List (Str × Addr)) (outer : List Env) (A₀ : Around) (base h₀ : Heap) (L : Addr) (m : Str → Option Value) (s : Shared) (Q E : Value → Shared → Prop)
  (B : Below A₀ base outer h₀) (F : Fr h₀ L s.heap m) (X : (KF w.params).In h₀) (T : Top p loose mean mg mb h₀) (hcs : cs.kind = .function) (hdp : dp + 50 < recursionLimit) (hun : un + 200 < cLine)
  (hbs : KBw.bInts bs = pk) (hpl : pk.length ≤ 104) (hpk : ∀ k ∈ pk, k ≠ 0) (hasc : ∀ k ∈ xs.cps.toList, k < 128) (hxs : xs.cps.size ≤ 16) (hf : 0 ≤ far)
  (hE : ∀ e h' tk', RaisedSN base s.heap (envX cn cs L a ccd cl :: outer) e (.type "AssertionError") [] h' → s.heap.UpToSlots h' → E (.ref e) { s with heap := h', toks := tk' }),
  wpAny (model rw_iw0011_01.row.prog w) (ktrTop dp un gd cn cs L a ccd cl outer) (call (.ref 724) [.int 5 tj, .bytes bs tbs, .str xs txs, .int far tf]) Q E s := by
  k_fill
  intro w p loose mean mg mb tj bs tbs pk xs txs far tf dp un gd cn cs a ccd cl outer A₀ base h₀ L m s Q E B F X T hcs hdp hun hbs hpl hpk hasc hxs hf hE
  refine wpAny_call ?_
  k_dflt (refine' enterK (binds := [(Str.ofString "kind", .int 5 tj), (Str.ofString "secret", .bytes bs tbs), (Str.ofString "salt", .str xs txs), (Str.ofString "far", .int far tf)]) B F X T ?kA ?kF ?kK ?k6 ?k7 ?k8 ?k9 ?kB ?_ ?c2 ?c3 ?c4 ?c5; (case kA => exact rfl); (case kF => exact rfl); (case kK => assumption); (case k6 => k_is); (case k7 => k_is); (case k8 => ktr_room); (case k9 => first | exact BindsTo.of_eq rfl | exact binds_K (by k_in) rfl (by k_is) rfl rfl rfl); (case c5 => decide); (case kB => exact locs rfl); (case c2 => exact rfl); (case c3 => exact rfl); (case c4 => exact rfl); k_whole; clear B F X T; intro L' h' F' N' B' X' T'; (try dsimp only); (try k_lift B'); (try k_fold))
  k_steps
  (with_reducible rename Fr _ _ _ _ => F9)
  refine Hold.out (P := wpAny _ _ _ _ _ _) ?_
  refine c_e4 w _ _ _ _ _ _ _ _ _ _ (.type "AssertionError") _ _ _ _ _ _ _ _ _ _ _ _ L' _ _ _ _ B' F9 X' T' rfl (by omega : dp + 1 + 40 < recursionLimit) (by omega : un + 3 + 150 < cLine) ?br (fun e h2 tk2 R2 U2 => ?_)
  case br => exact br_bad hbs (by omega) hpk hasc (by omega) (by omega)
  exact leave_onX rfl B' F9 R2 U2 fun h3 R3 U3 => hE _ _ _ R3 U3
theorem wr_6 : ∀ (w : World) (p : Program) (loose : List Str) (mean : ExcName → Option Value) (mg mb : Str → Option Value) (tj : CbTok) (bs : Array UInt8) (tbs : CbTok) (pk : List Int) (xs : Str) (txs : Tok) (far : Int) (tf : CbTok)
  (dp un : Nat) (gd : Option (List Code)) (cn : Str) (cs : Scope) (a : Addr) (ccd : Value) (cl : List (Str × Addr)) (outer : List Env) (A₀ : Around) (base h₀ : Heap) (L : Addr) (m : Str → Option Value) (s : Shared) (Q E : Value → Shared → Prop)
  (B : Below A₀ base outer h₀) (F : Fr h₀ L s.heap m) (X : (KF w.params).In h₀) (T : Top p loose mean mg mb h₀) (hcs : cs.kind = .function) (hdp : dp + 50 < recursionLimit) (hun : un + 200 < cLine)
  (hbs : KBw.bInts bs = pk) (hpl : pk.length ≤ 104) (hpk : ∀ k ∈ pk, k ≠ 0) (hasc : ∀ k ∈ xs.cps.toList, k < 128) (hxs : xs.cps.size ≤ 16) (hf : 0 ≤ far)
  (hE : ∀ e h' tk', RaisedSN base s.heap (envX cn cs L a ccd cl :: outer) e (.type "AssertionError") [] h' → s.heap.UpToSlots h' → E (.ref e) { s with heap := h', toks := tk' }),
  wpAny (model rw_iw0011_01.row.prog w) (ktrTop dp un gd cn cs L a ccd cl outer) (call (.ref 724) [.int 6 tj, .bytes bs tbs, .str xs txs, .int far tf]) Q E s := by
  k_fill
  intro w p loose mean mg mb tj bs tbs pk xs txs far tf dp un gd cn cs a ccd cl outer A₀ base h₀ L m s Q E B F X T hcs hdp hun hbs hpl hpk hasc hxs hf hE
  refine wpAny_call ?_
  k_dflt (refine' enterK (binds := [(Str.ofString "kind", .int 6 tj), (Str.ofString "secret", .bytes bs tbs), (Str.ofString "salt", .str xs txs), (Str.ofString "far", .int far tf)]) B F X T ?kA ?kF ?kK ?k6 ?k7 ?k8 ?k9 ?kB ?_ ?c2 ?c3 ?c4 ?c5; (case kA => exact rfl); (case kF => exact rfl); (case kK => assumption); (case k6 => k_is); (case k7 => k_is); (case k8 => ktr_room); (case k9 => first | exact BindsTo.of_eq rfl | exact binds_K (by k_in) rfl (by k_is) rfl rfl rfl); (case c5 => decide); (case kB => exact locs rfl); (case c2 => exact rfl); (case c3 => exact rfl); (case c4 => exact rfl); k_whole; clear B F X T; intro L' h' F' N' B' X' T'; (try dsimp only); (try k_lift B'); (try k_fold))
  k_steps
  (with_reducible rename Fr _ _ _ _ => F9)
  refine Hold.out (P := wpAny _ _ _ _ _ _) ?_
  refine c_e6 w _ _ _ _ _ _ _ _ _ _ _ _ _ (.type "AssertionError") _ _ _ _ _ _ _ _ _ _ _ _ L' _ _ _ _ B' F9 X' T' rfl (by omega : dp + 1 + 40 < recursionLimit) (by omega : un + 3 + 150 < cLine) ?br (fun e h2 tk2 R2 U2 => ?_)
  case br => exact br_bad hbs (by omega) hpk hasc (by omega) (by omega)
  exact leave_onX rfl B' F9 R2 U2 fun h3 R3 U3 => hE _ _ _ R3 U3
theorem wr_7 : ∀ (w : World) (p : Program) (loose : List Str) (mean : ExcName → Option Value) (mg mb : Str → Option Value) (tj : CbTok) (bs : Array UInt8) (tbs : CbTok) (pk : List Int) (xs : Str) (txs : Tok) (far : Int) (tf : CbTok)
  (dp un : Nat) (gd : Option (List Code)) (cn : Str) (cs : Scope) (a : Addr) (ccd : Value) (cl : List (Str × Addr)) (outer : List Env) (A₀ : Around) (base h₀ : Heap) (L : Addr) (m : Str → Option Value) (s : Shared) (Q E : Value → Shared → Prop)
  (B : Below A₀ base outer h₀) (F : Fr h₀ L s.heap m) (X : (KF w.params).In h₀) (T : Top p loose mean mg mb h₀) (hcs : cs.kind = .function) (hdp : dp + 50 < recursionLimit) (hun : un + 200 < cLine)
  (hbs : KBw.bInts bs = pk) (hpl : pk.length ≤ 104) (hpk : ∀ k ∈ pk, k ≠ 0) (hasc : ∀ k ∈ xs.cps.toList, k < 128) (hxs : xs.cps.size ≤ 16) (hf : 0 ≤ far)
  (hE : ∀ e h' tk', RaisedSN base s.heap (envX cn cs L a ccd cl :: outer) e (.type "AssertionError") [] h' → s.heap.UpToSlots h' → E (.ref e) { s with heap := h', toks := tk' }),
  wpAny (model rw_iw0011_01.row.prog w) (ktrTop dp un gd cn cs L a ccd cl outer) (call (.ref 724) [.int 7 tj, .bytes bs tbs, .str xs txs, .int far tf]) Q E s := by
  k_fill
  intro w p loose mean mg mb tj bs tbs pk xs txs far tf dp un gd cn cs a ccd cl outer A₀ base h₀ L m s Q E B F X T hcs hdp hun hbs hpl hpk hasc hxs hf hE
  refine wpAny_call ?_
  k_dflt (refine' enterK (binds := [(Str.ofString "kind", .int 7 tj), (Str.ofString "secret", .bytes bs tbs), (Str.ofString "salt", .str xs txs), (Str.ofString "far", .int far tf)]) B F X T ?kA ?kF ?kK ?k6 ?k7 ?k8 ?k9 ?kB ?_ ?c2 ?c3 ?c4 ?c5; (case kA => exact rfl); (case kF => exact rfl); (case kK => assumption); (case k6 => k_is); (case k7 => k_is); (case k8 => ktr_room); (case k9 => first | exact BindsTo.of_eq rfl | exact binds_K (by k_in) rfl (by k_is) rfl rfl rfl); (case c5 => decide); (case kB => exact locs rfl); (case c2 => exact rfl); (case c3 => exact rfl); (case c4 => exact rfl); k_whole; clear B F X T; intro L' h' F' N' B' X' T'; (try dsimp only); (try k_lift B'); (try k_fold))
  k_steps
  (with_reducible rename Fr _ _ _ _ => F9)
  refine Hold.out (P := wpAny _ _ _ _ _ _) ?_
  refine c_e4 w _ _ _ _ _ _ _ _ _ _ (.type "AssertionError") _ _ _ _ _ _ _ _ _ _ _ _ L' _ _ _ _ B' F9 X' T' rfl (by omega : dp + 1 + 40 < recursionLimit) (by omega : un + 3 + 150 < cLine) ?br (fun e h2 tk2 R2 U2 => ?_)
  case br => exact br_bad hbs (by omega) hpk hasc (by omega) (by omega)
  exact leave_onX rfl B' F9 R2 U2 fun h3 R3 U3 => hE _ _ _ R3 U3
end
end
section
theorem zw_Wr3_1 : True := by
  k_with_none
  k_with "exec Assign" => (k_here; (fail_if_success (with_reducible show wpAny _ _ _ (CutQ _) _ _)); (refine cutQ fun cutQ0 cutH0 => ?_))
  k_with "exec AugAssign" => (k_here; (fail_if_success (with_reducible show wpAny _ _ _ (CutQ _) _ _)); (refine cutQ fun cutQ0 cutH0 => ?_))
  k_with "exec Expr" => (k_here; (fail_if_success (with_reducible show wpAny _ _ _ (CutQ _) _ _)); (refine cutQ fun cutQ0 cutH0 => ?_))
  k_with "CutQ" => ((with_reducible rename (∀ f s', _ → CutQ _ f s') => cutH1); (refine cutH1 _ _ ?_); clear cutH1; (try dsimp only))
  trivial
open LCg
theorem zw_Wr3_2 : True := by
  k_with "call ref" => (k_here; (with_reducible show wpAny _ _ (call (Value.ref _) _) _ _ _); (refine wpAny_call ?_); (try dsimp only [List.nil_append, List.cons_append]); k_dflt (refine' code_def (by k_asm) (by k_asm) (by k_asm) (by k_asm) (by k_asm) (by exact rfl) (by exact rfl) (by first | exact rfl | assumption) (by k_is) (by k_is) (by ktr_room) (by first | exact BindsTo.of_eq rfl | exact binds_K (by k_in) rfl (by k_is) rfl rfl rfl) (by exact locs rfl) ?_ (by exact rfl) (by exact rfl) (by exact rfl) (by decide); k_whole; intro g'ₘ560 L'ₘ560 h'ₘ560 FG'ₘ560 F'ₘ560 N'ₘ560 B'ₘ560 X'ₘ560 T'ₘ560; (try dsimp only); (try k_lift B'ₘ560); (try k_fold)))
  k_with "compareOp Eq int int" => (k_here; first | (refine eqT (by omega) ?_) | (refine eqF (by omega) ?_))
  k_with "binaryOp Add int int" => (k_here; (refine addZ ?_); intro _ _)
  k_with "binaryOp Mod int int" => (k_here; (refine modZ (by first | decide | omega) ?_); intro _ _)
  k_with "subscriptTail" => (k_here; (with_reducible show wpAny _ _ (subscriptTail _ _ (Value.bytes _ _) (Value.int _ _)) _ _ _); (refine itemZ (by first | (with_reducible assumption) | kba_ints) (by kba_size) (by omega) (by omega) ?_); intro _ _ kbaLoₘ778 kbaHiₘ778)
  k_with "binaryOp Add bytes bytes" => (k_here; (with_reducible show wpAny _ _ (binaryOp Operator.Add (Value.bytes _ _) (Value.bytes _ _)) _ _ _); (refine' KBa.add_K (by first | (with_reducible assumption) | exact KBw.ints_list _ | kba_ints2) (by first | (with_reducible assumption) | exact KBw.ints_list _ | kba_ints2) (by first | omega | (simp only [List.length_append, List.length_map, List.length_take, List.length_nil, List.length_cons]; omega) | kba_size) ?_); intro _ _ kbaAppₘab)
  k_with "ite" => (k_here; first | with_reducible refine ite_tt ?_ | with_reducible refine ite_ff ?_ | (refine ite_pos (by with_reducible assumption) ?_) | (refine ite_neg (by with_reducible assumption) ?_) | (refine ite_pos (by omega) ?_) | (refine ite_neg (by omega) ?_) | (with_reducible refine split_dec ?_ ?_ <;> intro _))
  k_with "call ref" => (k_here; (with_reducible show wpAny _ _ (call (Value.ref 672) _) _ _ _); (refine Hold.out ?_))
  k_with "callWith ref" => (k_here; (with_reducible show wpAny _ _ (callWith _ (Value.ref 672) _ _ _) _ _ _); k_dflt (refine' callWith_K (by k_asm) (by k_is) ?_; k_whole))
  k_with "getMethod str" => (k_here; (with_reducible show wpAny _ _ (getMethod (Value.str _ _) (Str.ofString "encode") _) _ _ _); (refine strMeth PySem.F.slot_str_encode PySem.F.type_str_encode ?_))
  k_with "call builtin:str.encode" => (k_here; (refine encode_ascii (by assumption) (by omega) ?_); intro _ _ _ uAscₘ363)
  trivial
theorem wr_3 : ∀ (w : World) (p : Program) (loose : List Str) (mean : ExcName → Option Value) (mg mb : Str → Option Value) (tj : CbTok) (bs : Array UInt8) (tbs : CbTok) (pk : List Int) (xs : Str) (txs : Tok) (far : Int) (tf : CbTok)
  (dp un : Nat) (gd : Option (List Code)) (cn : Str) (cs : Scope) (a : Addr) (ccd : Value) (cl : List (Str × Addr)) (outer : List Env) (A₀ : Around) (base h₀ : Heap) (L : Addr) (m : Str → Option Value) (s : Shared) (Q E : Value → Shared → Prop)
  (B : Below A₀ base outer h₀) (F : Fr h₀ L s.heap m) (X : (KF w.params).In h₀) (T : Top p loose mean mg mb h₀) (hcs : cs.kind = .function) (hdp : dp + 50 < recursionLimit) (hun : un + 200 < cLine)
  (hbs : KBw.bInts bs = pk) (hpl : pk.length ≤ 104) (hpk : ∀ k ∈ pk, k ≠ 0) (hasc : ∀ k ∈ xs.cps.toList, k < 128) (hxs : xs.cps.size ≤ 16) (hf : 0 ≤ far)
  (hE : ∀ e h' tk', RaisedSN base s.heap (envX cn cs L a ccd cl :: outer) e (.type "AssertionError") [] h' → s.heap.UpToSlots h' → E (.ref e) { s with heap := h', toks := tk' }),
  wpAny (model rw_iw0011_01.row.prog w) (ktrTop dp un gd cn cs L a ccd cl outer) (call (.ref 724) [.int 3 tj, .bytes bs tbs, .str xs txs, .int far tf]) Q E s := by
  k_fill
  intro w p loose mean mg mb tj bs tbs pk xs txs far tf dp un gd cn cs a ccd cl outer A₀ base h₀ L m s Q E B F X T hcs hdp hun hbs hpl hpk hasc hxs hf hE
  refine wpAny_call ?_
  k_dflt (refine' enterK (binds := [(Str.ofString "kind", .int 3 tj), (Str.ofString "secret", .bytes bs tbs), (Str.ofString "salt", .str xs txs), (Str.ofString "far", .int far tf)]) B F X T ?kA ?kF ?kK ?k6 ?k7 ?k8 ?k9 ?kB ?_ ?c2 ?c3 ?c4 ?c5; (case kA => exact rfl); (case kF => exact rfl); (case kK => assumption); (case k6 => k_is); (case k7 => k_is); (case k8 => ktr_room); (case k9 => first | exact BindsTo.of_eq rfl | exact binds_K (by k_in) rfl (by k_is) rfl rfl rfl); (case c5 => decide); (case kB => exact locs rfl); (case c2 => exact rfl); (case c3 => exact rfl); (case c4 => exact rfl); k_whole; clear B F X T; intro L' h' F' N' B' X' T'; (try dsimp only); (try k_lift B'); (try k_fold))
  k_steps
  · (with_reducible rename Fr _ _ _ _ => F9)
    (with_reducible rename News _ _ _ _ => N9)
    refine Hold.out (P := wpAny _ _ _ _ _ _) ?_
    refine c_e4 w _ _ _ _ _ _ _ _ _ _ (.type "AssertionError") _ _ _ _ _ _ _ _ _ _ _ _ L' _ _ _ _ B' F9 X' T' rfl (by omega : dp + 1 + 40 < recursionLimit) (by omega : un + 3 + 150 < cLine) ?br (fun e h2 tk2 R2 U2 => ?_)
    case br => exact br_salt hbs (by omega) hpk (fun _ _ _ _ => ni_bytes)
    exact leave_onX rfl B' F9 R2 U2 fun h3 R3 U3 => hE _ _ _ R3 U3
theorem wr_8 : ∀ (w : World) (p : Program) (loose : List Str) (mean : ExcName → Option Value) (mg mb : Str → Option Value) (tj : CbTok) (bs : Array UInt8) (tbs : CbTok) (pk : List Int) (xs : Str) (txs : Tok) (far : Int) (tf : CbTok)
  (dp un : Nat) (gd : Option (List Code)) (cn : Str) (cs : Scope) (a : Addr) (ccd : Value) (cl : List (Str × Addr)) (outer : List Env) (A₀ : Around) (base h₀ : Heap) (L : Addr) (m : Str → Option Value) (s : Shared) (Q E : Value → Shared → Prop)
  (B : Below A₀ base outer h₀) (F : Fr h₀ L s.heap m) (X : (KF w.params).In h₀) (T : Top p loose mean mg mb h₀) (hcs : cs.kind = .function) (hdp : dp + 50 < recursionLimit) (hun : un + 200 < cLine)
  (hbs : KBw.bInts bs = pk) (hpl : pk.length ≤ 104) (hpk : ∀ k ∈ pk, k ≠ 0) (hasc : ∀ k ∈ xs.cps.toList, k < 128) (hxs : xs.cps.size ≤ 16) (hf : 0 ≤ far)
  (hE : ∀ e h' tk', RaisedSN base s.heap (envX cn cs L a ccd cl :: outer) e (.type "AssertionError") [] h' → s.heap.UpToSlots h' → E (.ref e) { s with heap := h', toks := tk' }),
  wpAny (model rw_iw0011_01.row.prog w) (ktrTop dp un gd cn cs L a ccd cl outer) (call (.ref 724) [.int 8 tj, .bytes bs tbs, .str xs txs, .int far tf]) Q E s := by
  k_fill
  intro w p loose mean mg mb tj bs tbs pk xs txs far tf dp un gd cn cs a ccd cl outer A₀ base h₀ L m s Q E B F X T hcs hdp hun hbs hpl hpk hasc hxs hf hE
  refine wpAny_call ?_
  k_dflt (refine' enterK (binds := [(Str.ofString "kind", .int 8 tj), (Str.ofString "secret", .bytes bs tbs), (Str.ofString "salt", .str xs txs), (Str.ofString "far", .int far tf)]) B F X T ?kA ?kF ?kK ?k6 ?k7 ?k8 ?k9 ?kB ?_ ?c2 ?c3 ?c4 ?c5; (case kA => exact rfl); (case kF => exact rfl); (case kK => assumption); (case k6 => k_is); (case k7 => k_is); (case k8 => ktr_room); (case k9 => first | exact BindsTo.of_eq rfl | exact binds_K (by k_in) rfl (by k_is) rfl rfl rfl); (case c5 => decide); (case kB => exact locs rfl); (case c2 => exact rfl); (case c3 => exact rfl); (case c4 => exact rfl); k_whole; clear B F X T; intro L' h' F' N' B' X' T'; (try dsimp only); (try k_lift B'); (try k_fold))
  k_steps
  · (with_reducible rename Fr _ _ _ _ => F9)
    (with_reducible rename News _ _ _ _ => N9)
    refine Hold.out (P := wpAny _ _ _ _ _ _) ?_
    refine c_e4 w _ _ _ _ _ _ _ _ _ _ (.type "AssertionError") _ _ _ _ _ _ _ _ _ _ _ _ L' _ _ _ _ B' F9 X' T' rfl (by omega : dp + 1 + 40 < recursionLimit) (by omega : un + 3 + 150 < cLine) ?br (fun e h2 tk2 R2 U2 => ?_)
    case br => exact br_salt hbs (by omega) hpk (fun _ _ _ _ => ni_none_str)
    exact leave_onX rfl B' F9 R2 U2 fun h3 R3 U3 => hE _ _ _ R3 U3
  · (with_reducible rename Fr _ _ _ _ => F9)
    (with_reducible rename News _ _ _ _ => N9)
    refine Hold.out (P := wpAny _ _ _ _ _ _) ?_
    refine c_e4 w _ _ _ _ _ _ _ _ _ _ (.type "AssertionError") _ _ _ _ _ _ _ _ _ _ _ _ L' _ _ _ _ B' F9 X' T' rfl (by omega : dp + 1 + 40 < recursionLimit) (by omega : un + 3 + 150 < cLine) ?br (fun e h2 tk2 R2 U2 => ?_)
    case br => exact br_salt hbs (by omega) hpk (fun _ _ _ _ => ni_int_str)
    exact leave_onX rfl B' F9 R2 U2 fun h3 R3 U3 => hE _ _ _ R3 U3
  · (with_reducible rename Fr _ _ _ _ => F9)
    (with_reducible rename News _ _ _ _ => N9)
    refine Hold.out (P := wpAny _ _ _ _ _ _) ?_
    refine c_e4 w _ _ _ _ _ _ _ _ _ _ (.type "AssertionError") _ _ _ _ _ _ _ _ _ _ _ _ L' _ _ _ _ B' F9 X' T' rfl (by omega : dp + 1 + 40 < recursionLimit) (by omega : un + 3 + 150 < cLine) ?br (fun e h2 tk2 R2 U2 => ?_)
    case br => exact br_salt hbs (by omega) hpk (fun _ _ _ hk => ni_list_str (hk _ _ (N9 _ (.head _)).1) rfl)
    exact leave_onX rfl B' F9 R2 U2 fun h3 R3 U3 => hE _ _ _ R3 U3
  · (with_reducible rename Fr _ _ _ _ => F9)
    (with_reducible rename News _ _ _ _ => N9)
    refine Hold.out (P := wpAny _ _ _ _ _ _) ?_
    refine c_e4 w _ _ _ _ _ _ _ _ _ _ (.type "AssertionError") _ _ _ _ _ _ _ _ _ _ _ _ L' _ _ _ _ B' F9 X' T' rfl (by omega : dp + 1 + 40 < recursionLimit) (by omega : un + 3 + 150 < cLine) ?br (fun e h2 tk2 R2 U2 => ?_)
    case br => exact br_salt hbs (by omega) hpk (fun _ _ _ hk => ni_tuple_str (hk _ _ (N9 _ (.head _)).1) rfl)
    exact leave_onX rfl B' F9 R2 U2 fun h3 R3 U3 => hE _ _ _ R3 U3
theorem wr_4 : ∀ (w : World) (p : Program) (loose : List Str) (mean : ExcName → Option Value) (mg mb : Str → Option Value) (tj : CbTok) (bs : Array UInt8) (tbs : CbTok) (pk : List Int) (xs : Str) (txs : Tok) (far : Int) (tf : CbTok)
  (dp un : Nat) (gd : Option (List Code)) (cn : Str) (cs : Scope) (a : Addr) (ccd : Value) (cl : List (Str × Addr)) (outer : List Env) (A₀ : Around) (base h₀ : Heap) (L : Addr) (m : Str → Option Value) (s : Shared) (Q E : Value → Shared → Prop)
  (B : Below A₀ base outer h₀) (F : Fr h₀ L s.heap m) (X : (KF w.params).In h₀) (T : Top p loose mean mg mb h₀) (hcs : cs.kind = .function) (hdp : dp + 50 < recursionLimit) (hun : un + 200 < cLine)
  (hbs : KBw.bInts bs = pk) (hpl : pk.length ≤ 104) (hpk : ∀ k ∈ pk, k ≠ 0) (hasc : ∀ k ∈ xs.cps.toList, k < 128) (hxs : xs.cps.size ≤ 16) (hf : 0 ≤ far)
  (hE : ∀ e h' tk', RaisedSN base s.heap (envX cn cs L a ccd cl :: outer) e (.type "AssertionError") [] h' → s.heap.UpToSlots h' → E (.ref e) { s with heap := h', toks := tk' }),
  wpAny (model rw_iw0011_01.row.prog w) (ktrTop dp un gd cn cs L a ccd cl outer) (call (.ref 724) [.int 4 tj, .bytes bs tbs, .str xs txs, .int far tf]) Q E s := by
  k_fill
  intro w p loose mean mg mb tj bs tbs pk xs txs far tf dp un gd cn cs a ccd cl outer A₀ base h₀ L m s Q E B F X T hcs hdp hun hbs hpl hpk hasc hxs hf hE
  refine wpAny_call ?_
  k_dflt (refine' enterK (binds := [(Str.ofString "kind", .int 4 tj), (Str.ofString "secret", .bytes bs tbs), (Str.ofString "salt", .str xs txs), (Str.ofString "far", .int far tf)]) B F X T ?kA ?kF ?kK ?k6 ?k7 ?k8 ?k9 ?kB ?_ ?c2 ?c3 ?c4 ?c5; (case kA => exact rfl); (case kF => exact rfl); (case kK => assumption); (case k6 => k_is); (case k7 => k_is); (case k8 => ktr_room); (case k9 => first | exact BindsTo.of_eq rfl | exact binds_K (by k_in) rfl (by k_is) rfl rfl rfl); (case c5 => decide); (case kB => exact locs rfl); (case c2 => exact rfl); (case c3 => exact rfl); (case c4 => exact rfl); k_whole; clear B F X T; intro L' h' F' N' B' X' T'; (try dsimp only); (try k_lift B'); (try k_fold))
  k_steps
  · (with_reducible rename Fr _ _ _ _ => F9)
    (with_reducible rename News _ _ _ _ => N9)
    refine Hold.out (P := wpAny _ _ _ _ _ _) ?_
    refine c_e4 w _ _ _ _ _ _ _ _ _ _ (.type "AssertionError") _ _ _ _ _ _ _ _ _ _ _ _ L' _ _ _ _ B' F9 X' T' rfl (by omega : dp + 1 + 40 < recursionLimit) (by omega : un + 3 + 150 < cLine) ?br (fun e h2 tk2 R2 U2 => ?_)
    case br => exact br_pwd (fun _ _ _ _ => ⟨ni_none_str, ni_none_bytes⟩)
    exact leave_onX rfl B' F9 R2 U2 fun h3 R3 U3 => hE _ _ _ R3 U3
  · (with_reducible rename Fr _ _ _ _ => F9)
    (with_reducible rename News _ _ _ _ => N9)
    refine Hold.out (P := wpAny _ _ _ _ _ _) ?_
    refine c_e4 w _ _ _ _ _ _ _ _ _ _ (.type "AssertionError") _ _ _ _ _ _ _ _ _ _ _ _ L' _ _ _ _ B' F9 X' T' rfl (by omega : dp + 1 + 40 < recursionLimit) (by omega : un + 3 + 150 < cLine) ?br (fun e h2 tk2 R2 U2 => ?_)
    case br => exact br_pwd (fun _ _ _ _ => ⟨ni_int_str, ni_int_bytes⟩)
    exact leave_onX rfl B' F9 R2 U2 fun h3 R3 U3 => hE _ _ _ R3 U3
  · (with_reducible rename Fr _ _ _ _ => F9)
    (with_reducible rename News _ _ _ _ => N9)
    refine Hold.out (P := wpAny _ _ _ _ _ _) ?_
    refine c_e4 w _ _ _ _ _ _ _ _ _ _ (.type "AssertionError") _ _ _ _ _ _ _ _ _ _ _ _ L' _ _ _ _ B' F9 X' T' rfl (by omega : dp + 1 + 40 < recursionLimit) (by omega : un + 3 + 150 < cLine) ?br (fun e h2 tk2 R2 U2 => ?_)
    case br => exact br_pwd (fun _ _ _ hk => ⟨ni_list_str (hk _ _ (N9 _ (.head _)).1) rfl, ni_list_bytes (hk _ _ (N9 _ (.head _)).1) rfl⟩)
    exact leave_onX rfl B' F9 R2 U2 fun h3 R3 U3 => hE _ _ _ R3 U3
  · (with_reducible rename Fr _ _ _ _ => F9)
    (with_reducible rename News _ _ _ _ => N9)
    refine Hold.out (P := wpAny _ _ _ _ _ _) ?_
    refine c_e4 w _ _ _ _ _ _ _ _ _ _ (.type "AssertionError") _ _ _ _ _ _ _ _ _ _ _ _ L' _ _ _ _ B' F9 X' T' rfl (by omega : dp + 1 + 40 < recursionLimit) (by omega : un + 3 + 150 < cLine) ?br (fun e h2 tk2 R2 U2 => ?_)
    case br => exact br_pwd (fun _ _ _ hk => ⟨ni_tuple_str (hk _ _ (N9 _ (.head _)).1) rfl, ni_tuple_bytes (hk _ _ (N9 _ (.head _)).1) rfl⟩)
    exact leave_onX rfl B' F9 R2 U2 fun h3 R3 U3 => hE _ _ _ R3 U3
theorem wr_0 : ∀ (w : World) (p : Program) (loose : List Str) (mean : ExcName → Option Value) (mg mb : Str → Option Value) (tj : CbTok) (bs : Array UInt8) (tbs : CbTok) (pk : List Int) (xs : Str) (txs : Tok) (far : Int) (tf : CbTok)
  (dp un : Nat) (gd : Option (List Code)) (cn : Str) (cs : Scope) (a : Addr) (ccd : Value) (cl : List (Str × Addr)) (outer : List Env) (A₀ : Around) (base h₀ : Heap) (L : Addr) (m : Str → Option Value) (s : Shared) (Q E : Value → Shared → Prop)
  (B : Below A₀ base outer h₀) (F : Fr h₀ L s.heap m) (X : (KF w.params).In h₀) (T : Top p loose mean mg mb h₀) (hcs : cs.kind = .function) (hdp : dp + 50 < recursionLimit) (hun : un + 200 < cLine)
  (hbs : KBw.bInts bs = pk) (hpl : pk.length ≤ 104) (hpk : ∀ k ∈ pk, k ≠ 0) (hasc : ∀ k ∈ xs.cps.toList, k < 128) (hxs : xs.cps.size ≤ 16) (hf : 0 ≤ far)
  (hE : ∀ e h' tk', RaisedSN base s.heap (envX cn cs L a ccd cl :: outer) e (.ref 31) [] h' → s.heap.UpToSlots h' → E (.ref e) { s with heap := h', toks := tk' }),
  wpAny (model rw_iw0011_01.row.prog w) (ktrTop dp un gd cn cs L a ccd cl outer) (call (.ref 724) [.int 0 tj, .bytes bs tbs, .str xs txs, .int far tf]) Q E s := by
  k_fill
  intro w p loose mean mg mb tj bs tbs pk xs txs far tf dp un gd cn cs a ccd cl outer A₀ base h₀ L m s Q E B F X T hcs hdp hun hbs hpl hpk hasc hxs hf hE
  refine wpAny_call ?_
  k_dflt (refine' enterK (binds := [(Str.ofString "kind", .int 0 tj), (Str.ofString "secret", .bytes bs tbs), (Str.ofString "salt", .str xs txs), (Str.ofString "far", .int far tf)]) B F X T ?kA ?kF ?kK ?k6 ?k7 ?k8 ?k9 ?kB ?_ ?c2 ?c3 ?c4 ?c5; (case kA => exact rfl); (case kF => exact rfl); (case kK => assumption); (case k6 => k_is); (case k7 => k_is); (case k8 => ktr_room); (case k9 => first | exact BindsTo.of_eq rfl | exact binds_K (by k_in) rfl (by k_is) rfl rfl rfl); (case c5 => decide); (case kB => exact locs rfl); (case c2 => exact rfl); (case c3 => exact rfl); (case c4 => exact rfl); k_whole; clear B F X T; intro L' h' F' N' B' X' T'; (try dsimp only); (try k_lift B'); (try k_fold))
  k_steps
  · (with_reducible rename Fr _ _ _ _ => F9)
    (with_reducible rename News _ _ _ _ => N9)
    refine Hold.out (P := wpAny _ _ _ _ _ _) ?_
    refine c_e4 w _ _ _ _ _ _ _ _ _ _ (.ref 31) _ _ _ _ _ _ _ _ _ _ _ _ L' _ _ _ _ B' F9 X' T' rfl (by omega : dp + 1 + 40 < recursionLimit) (by omega : un + 3 + 150 < cLine) ?br (fun e h2 tk2 R2 U2 => ?_)
    case br => exact br_null (by assumption) (by simp only [List.length_append, List.length_take, List.length_drop, List.length_map, List.length_cons, List.length_nil]; omega) ⟨0, by simp, rfl⟩
    exact leave_onX rfl B' F9 R2 U2 fun h3 R3 U3 => hE _ _ _ R3 U3
end
section
local macro_rules | `(tactic| omega) => `(tactic| lia)
section
theorem zw_Wr1_1 : True := by
  k_with_none
  k_with "exec Assign" => (k_here; (fail_if_success (with_reducible show wpAny _ _ _ (CutQ _) _ _)); (refine cutQ fun cutQ0 cutH0 => ?_))
  k_with "exec AugAssign" => (k_here; (fail_if_success (with_reducible show wpAny _ _ _ (CutQ _) _ _)); (refine cutQ fun cutQ0 cutH0 => ?_))
  k_with "exec Expr" => (k_here; (fail_if_success (with_reducible show wpAny _ _ _ (CutQ _) _ _)); (refine cutQ fun cutQ0 cutH0 => ?_))
  k_with "CutQ" => ((with_reducible rename (∀ f s', _ → CutQ _ f s') => cutH1); (refine cutH1 _ _ ?_); clear cutH1; (try dsimp only))
  trivial
open LCg
theorem zw_Wr1_2 : True := by
  k_with "compareOp Eq int int" => (k_here; first | (refine eqT (by omega) ?_) | (refine eqF (by omega) ?_))
  k_with "binaryOp Add int int" => (k_here; (refine addZ ?_); intro _ _)
  k_with "binaryOp Sub int int" => (k_here; (refine subZ ?_); intro _ _)
  k_with "binaryOp Mod int int" => (k_here; (refine modZ (by first | decide | omega) ?_); intro _ _)
  k_with "subscriptTail" => (k_here; (with_reducible show wpAny _ _ (subscriptTail _ _ (Value.bytes _ _) (Value.int _ _)) _ _ _); (refine itemZ (by first | (with_reducible assumption) | kba_ints) (by kba_size) (by omega) (by omega) ?_); intro _ _ kbaLoₘ778 kbaHiₘ778)
  k_with "ite" => (k_here; first | with_reducible refine ite_tt ?_ | with_reducible refine ite_ff ?_ | (refine ite_pos (by with_reducible assumption) ?_) | (refine ite_neg (by with_reducible assumption) ?_) | (refine ite_pos (by omega) ?_) | (refine ite_neg (by omega) ?_) | (with_reducible refine split_dec ?_ ?_ <;> intro _))
  k_with "call ref" => (k_here; (with_reducible show wpAny _ _ (call (Value.ref 672) _) _ _ _); (refine Hold.out ?_))
  k_with "callWith ref" => (k_here; (with_reducible show wpAny _ _ (callWith _ (Value.ref 672) _ _ _) _ _ _); k_dflt (refine' callWith_K (by k_asm) (by k_is) ?_; k_whole))
  k_with "call builtin:len" => (k_here; (with_reducible show wpAny _ _ (call (Value.builtin "len") [Value.str _ _]) _ _ _); (refine lenS (by omega) ?_); intro _ _)
  k_with "binaryOp Add str str" => (k_here; (refine addS (by first | omega | (rw [app_size]; omega)) (by first | omega | (rw [app_size]; omega)) ?_); intro _ _)
  k_with "binaryOp Mult str int" => (k_here; (refine mulDot (by omega) (by omega) ?_); intro _ _ _ uZ1ₘ810 uZ2ₘ810)
  trivial
theorem wr_2 : ∀ (w : World) (p : Program) (loose : List Str) (mean : ExcName → Option Value) (mg mb : Str → Option Value) (tj : CbTok) (bs : Array UInt8) (tbs : CbTok) (pk : List Int) (xs : Str) (txs : Tok) (far : Int) (tf : CbTok)
  (dp un : Nat) (gd : Option (List Code)) (cn : Str) (cs : Scope) (a : Addr) (ccd : Value) (cl : List (Str × Addr)) (outer : List Env) (A₀ : Around) (base h₀ : Heap) (L : Addr) (m : Str → Option Value) (s : Shared) (Q E : Value → Shared → Prop)
  (B : Below A₀ base outer h₀) (F : Fr h₀ L s.heap m) (X : (KF w.params).In h₀) (T : Top p loose mean mg mb h₀) (hcs : cs.kind = .function) (hdp : dp + 50 < recursionLimit) (hun : un + 200 < cLine)
  (hbs : KBw.bInts bs = pk) (hpl : pk.length ≤ 104) (hpk : ∀ k ∈ pk, k ≠ 0) (hasc : ∀ k ∈ xs.cps.toList, k < 128) (hxs : xs.cps.size ≤ 16) (hf : 0 ≤ far)
  (hE : ∀ e h' tk', RaisedSN base s.heap (envX cn cs L a ccd cl :: outer) e (.type "AssertionError") [] h' → s.heap.UpToSlots h' → E (.ref e) { s with heap := h', toks := tk' }),
  wpAny (model rw_iw0011_01.row.prog w) (ktrTop dp un gd cn cs L a ccd cl outer) (call (.ref 724) [.int 2 tj, .bytes bs tbs, .str xs txs, .int far tf]) Q E s := by
  k_fill
  intro w p loose mean mg mb tj bs tbs pk xs txs far tf dp un gd cn cs a ccd cl outer A₀ base h₀ L m s Q E B F X T hcs hdp hun hbs hpl hpk hasc hxs hf hE
  refine wpAny_call ?_
  k_dflt (refine' enterK (binds := [(Str.ofString "kind", .int 2 tj), (Str.ofString "secret", .bytes bs tbs), (Str.ofString "salt", .str xs txs), (Str.ofString "far", .int far tf)]) B F X T ?kA ?kF ?kK ?k6 ?k7 ?k8 ?k9 ?kB ?_ ?c2 ?c3 ?c4 ?c5; (case kA => exact rfl); (case kF => exact rfl); (case kK => assumption); (case k6 => k_is); (case k7 => k_is); (case k8 => ktr_room); (case k9 => first | exact BindsTo.of_eq rfl | exact binds_K (by k_in) rfl (by k_is) rfl rfl rfl); (case c5 => decide); (case kB => exact locs rfl); (case c2 => exact rfl); (case c3 => exact rfl); (case c4 => exact rfl); k_whole; clear B F X T; intro L' h' F' N' B' X' T'; (try dsimp only); (try k_lift B'); (try k_fold))
  have hfm : 0 ≤ far.fmod 60 ∧ far.fmod 60 < 60 := by rw [Int.fmod_eq_emod_of_nonneg _ (by decide)]; omega
  k_steps
  · (with_reducible rename Fr _ _ _ _ => F9)
    (with_reducible rename News _ _ _ _ => N9)
    refine Hold.out (P := wpAny _ _ _ _ _ _) ?_
    refine c_e4 w _ _ _ _ _ _ _ _ _ _ (.type "AssertionError") _ _ _ _ _ _ _ _ _ _ _ _ L' _ _ _ _ B' F9 X' T' rfl (by omega : dp + 1 + 40 < recursionLimit) (by omega : un + 3 + 150 < cLine) ?br (fun e h2 tk2 R2 U2 => ?_)
    case br => exact br_bad hbs (by omega) hpk (fun k hk => by rcases app_mem.mp hk with hk | hk; exact hasc k hk; exact (by assumption : ∀ k ∈ _, k < 128) k hk) (by rw [app_size]; omega) (fun _ _ => by rw [app_size]; omega)
    exact leave_onX rfl B' F9 R2 U2 fun h3 R3 U3 => hE _ _ _ R3 U3
theorem wr_1 : ∀ (w : World) (p : Program) (loose : List Str) (mean : ExcName → Option Value) (mg mb : Str → Option Value) (tj : CbTok) (bs : Array UInt8) (tbs : CbTok) (pk : List Int) (xs : Str) (txs : Tok) (far : Int) (tf : CbTok)
  (dp un : Nat) (gd : Option (List Code)) (cn : Str) (cs : Scope) (a : Addr) (ccd : Value) (cl : List (Str × Addr)) (outer : List Env) (A₀ : Around) (base h₀ : Heap) (L : Addr) (m : Str → Option Value) (s : Shared) (Q E : Value → Shared → Prop)
  (B : Below A₀ base outer h₀) (F : Fr h₀ L s.heap m) (X : (KF w.params).In h₀) (T : Top p loose mean mg mb h₀) (hcs : cs.kind = .function) (hdp : dp + 50 < recursionLimit) (hun : un + 200 < cLine)
  (hbs : KBw.bInts bs = pk) (hpl : pk.length ≤ 104) (hpk : ∀ k ∈ pk, k ≠ 0) (hasc : ∀ k ∈ xs.cps.toList, k < 128) (hxs : xs.cps.size ≤ 16) (hf : 0 ≤ far)
  (hE : ∀ e h' tk', RaisedSN base s.heap (envX cn cs L a ccd cl :: outer) e (.ref 31) [] h' → s.heap.UpToSlots h' → E (.ref e) { s with heap := h', toks := tk' }),
  wpAny (model rw_iw0011_01.row.prog w) (ktrTop dp un gd cn cs L a ccd cl outer) (call (.ref 724) [.int 1 tj, .bytes bs tbs, .str xs txs, .int far tf]) Q E s := by
  k_fill
  intro w p loose mean mg mb tj bs tbs pk xs txs far tf dp un gd cn cs a ccd cl outer A₀ base h₀ L m s Q E B F X T hcs hdp hun hbs hpl hpk hasc hxs hf hE
  refine wpAny_call ?_
  k_dflt (refine' enterK (binds := [(Str.ofString "kind", .int 1 tj), (Str.ofString "secret", .bytes bs tbs), (Str.ofString "salt", .str xs txs), (Str.ofString "far", .int far tf)]) B F X T ?kA ?kF ?kK ?k6 ?k7 ?k8 ?k9 ?kB ?_ ?c2 ?c3 ?c4 ?c5; (case kA => exact rfl); (case kF => exact rfl); (case kK => assumption); (case k6 => k_is); (case k7 => k_is); (case k8 => ktr_room); (case k9 => first | exact BindsTo.of_eq rfl | exact binds_K (by k_in) rfl (by k_is) rfl rfl rfl); (case c5 => decide); (case kB => exact locs rfl); (case c2 => exact rfl); (case c3 => exact rfl); (case c4 => exact rfl); k_whole; clear B F X T; intro L' h' F' N' B' X' T'; (try dsimp only); (try k_lift B'); (try k_fold))
  have z1 : (Txt.slice (Str.ofString "ab") none (some (far.fmod 3))).cps.size ≤ 2 := Txt.slice_le _ _ _
  have z2 : (Txt.slice (Str.ofString "ab") (some (far.fmod 3)) none).cps.size ≤ 2 := Txt.slice_le _ _ _
  have z3 : (Str.ofString "\x00").cps.size = 1 := rfl
  have z4 : ∀ k ∈ ((Txt.slice (Str.ofString "ab") none (some (far.fmod 3)) ++ Str.ofString "\x00") ++ Txt.slice (Str.ofString "ab") (some (far.fmod 3)) none).cps.toList, k < 2048 := by
    intro k hk
    rcases app_mem.mp hk with hk | hk
    · rcases app_mem.mp hk with hk | hk
      · exact (by decide : ∀ k ∈ (Str.ofString "ab").cps.toList, k < 2048) k (slice_mem k hk)
      · exact (by decide : ∀ k ∈ (Str.ofString "\x00").cps.toList, k < 2048) k hk
    · exact (by decide : ∀ k ∈ (Str.ofString "ab").cps.toList, k < 2048) k (slice_mem k hk)
  have z5 : ∃ k ∈ utf8I ((Txt.slice (Str.ofString "ab") none (some (far.fmod 3)) ++ Str.ofString "\x00") ++ Txt.slice (Str.ofString "ab") (some (far.fmod 3)) none).cps.toList, k = 0 :=
    ⟨0, List.mem_flatMap.mpr ⟨0, app_mem.mpr (.inl (app_mem.mpr (.inr (by decide)))), by decide⟩, rfl⟩
  k_steps
  · (with_reducible rename Fr _ _ _ _ => F9)
    (with_reducible rename News _ _ _ _ => N9)
    refine Hold.out (P := wpAny _ _ _ _ _ _) ?_
    refine c_e5 w _ _ _ _ _ _ _ _ _ _ _ (.ref 31) _ _ _ _ _ _ _ _ _ _ _ _ L' _ _ _ _ B' F9 X' T' rfl (by omega : dp + 1 + 40 < recursionLimit) (by omega : un + 3 + 150 < cLine) ?br (fun e h2 tk2 R2 U2 => ?_)
    case br => exact br_nullt z4 (by rw [app_size, app_size]; omega) z5
    exact leave_onX rfl B' F9 R2 U2 fun h3 R3 U3 => hE _ _ _ R3 U3
end
section
theorem zw_An_1 : True := by
  k_with_none
  k_with "exec Assign" => (k_here; (fail_if_success (with_reducible show wpAny _ _ _ (CutQ _) _ _)); (refine cutQ fun cutQ0 cutH0 => ?_))
  k_with "exec AugAssign" => (k_here; (fail_if_success (with_reducible show wpAny _ _ _ (CutQ _) _ _)); (refine cutQ fun cutQ0 cutH0 => ?_))
  k_with "exec Expr" => (k_here; (fail_if_success (with_reducible show wpAny _ _ _ (CutQ _) _ _)); (refine cutQ fun cutQ0 cutH0 => ?_))
  k_with "CutQ" => ((with_reducible rename (∀ f s', _ → CutQ _ f s') => cutH1); (refine cutH1 _ _ ?_); clear cutH1; (try dsimp only))
  trivial
open LCg
def WrOk (w : World) (cls : Value) (args : List Value) : Prop :=
  ∀ (p : Program) (loose : List Str) (mean : ExcName → Option Value) (mg mb : Str → Option Value) (dp un : Nat) (gd : Option (List Code)) (cn : Str) (cs : Scope) (a : Addr) (ccd : Value) (cl : List (Str × Addr)) (outer : List Env) (A₀ : Around) (base h₀ : Heap) (L : Addr) (m : Str → Option Value) (s : Shared) (Q E : Value → Shared → Prop)
  (_ : Below A₀ base outer h₀) (_ : Fr h₀ L s.heap m) (_ : (KF w.params).In h₀) (_ : Top p loose mean mg mb h₀) (_ : cs.kind = .function) (_ : dp + 50 < recursionLimit) (_ : un + 200 < cLine)
  (_ : ∀ e h' tk', RaisedSN base s.heap (envX cn cs L a ccd cl :: outer) e cls [] h' → s.heap.UpToSlots h' → E (.ref e) { s with heap := h', toks := tk' }),
  wpAny (model rw_iw0011_01.row.prog w) (ktrTop dp un gd cn cs L a ccd cl outer) (call (.ref 724) args) Q E s
theorem dicts_one {h₀ h : Heap} {L : Addr} {m : Str → Option Value} {env : Env} (hf : env.frame = some L) (F : Fr h₀ L h m) : KtsDicts ([env].filterMap (·.frame)) h := by
  intro b hb
  rcases memX hf hb with rfl | hb
  · obtain ⟨o, es, ep, e, hd, _⟩ := F.ns
    exact ⟨o, es, ep, e, hd⟩
  · cases hb
theorem zw_An_2 : True := by
  k_with "call ref" => (k_here; (with_reducible show wpAny _ _ (call (Value.ref 724) _) _ _ _); (try dsimp only [List.nil_append, List.cons_append]); (rename Fr _ _ _ _ => uFₘ873); (rename WrOk _ _ _ => uWₘ873); k_dflt (refine' uWₘ873 _ _ _ _ _ _ _ _ _ _ _ _ _ _ _ _ _ _ _ _ _ _ (by k_asm) uFₘ873 (by k_asm) (by k_asm) (by first | exact rfl | assumption) (by ktr_room) (by ktr_units) ?_); intro e'ₘ873 h'ₘ873 tk'ₘ873 R'ₘ873 U'ₘ873)
  k_with "callWith ref" => (k_here; (with_reducible show wpAny _ _ (callWith _ (Value.ref 724) _ _ _) _ _ _); k_dflt (refine' callWith_K (by k_asm) (by k_is) ?_; k_whole))
  trivial
theorem ans_back {h₀ h g' h' : Heap} {L L' : Addr} {m mm : Str → Option Value} {env : Env} (hf : env.frame = some L) (F : Fr h₀ L h m) (T : KtsTurn ([env].filterMap (·.frame)) h g') (F' : Fr g' L' h' mm) : Fr h₀ L h' m ∧ ∀ news, News h₀ L h news → News h₀ L h' news := by
  have up : h.UpToSlots h' := fun b o e _ => by
    obtain ⟨sl, q⟩ := T.up e
    exact ⟨sl, F'.keep _ _ q⟩
  have keep : ∀ b o, b ≠ L → h.get? b = some o → h'.get? b = some o := fun b o hb e => F'.keep _ _ (T.other b o e fun hm => by
    rcases memX hf hm with q | q
    · exact hb q
    · cases q)
  refine ⟨⟨up.ns F.ns, fun b o e => keep b o (fun q => ?_) (F.keep b o e), F.above⟩, fun news N q hq => ⟨keep _ _ (N q hq).2.1 (N q hq).1, (N q hq).2⟩⟩
  rw [q, kts_self F] at e
  cases e
theorem ans_key : ∀ (w : World) (p : Program) (loose : List Str) (mean : ExcName → Option Value) (mg mb : Str → Option Value) (kv sv tv fv : Value)
  (dp un : Nat) (gd : Option (List Code)) (cn : Str) (cs : Scope) (a : Addr) (ccd : Value) (cl : List (Str × Addr)) (A₀ : Around) (base h₀ : Heap) (L : Addr) (m : Str → Option Value) (s : Shared) (Q E : Value → Shared → Prop)
  (B : Below A₀ base [] h₀) (F : Fr h₀ L s.heap m) (X : (KF w.params).In h₀) (T : Top p loose mean mg mb h₀) (XB : (KF w.params).In base) (TB : Top p loose mean mg mb base) (hcs : cs.kind = .function) (hdp : dp + 60 < recursionLimit) (hun : un + 250 < cLine)
  (hW : WrOk w (.type "KeyError") [kv, sv, tv, fv])
  (hret : ∀ h' tk' t, Fr h₀ L h' m → (∀ news, News h₀ L s.heap news → News h₀ L h' news) → Q (.str (Str.ofString "the hash is asked") t) { s with heap := h', toks := tk' }),
  wpAny (model rw_iw0011_01.row.prog w) (ktrTop dp un gd cn cs L a ccd cl []) (call (.ref 731) [kv, sv, tv, fv]) Q E s := by
  k_fill
  intro w p loose mean mg mb kv sv tv fv dp un gd cn cs a ccd cl A₀ base h₀ L m s Q E B F X T XB TB hcs hdp hun hW hret
  have D := dicts_one (env := envX cn cs L a ccd cl) rfl F
  have F0 := F
  refine wpAny_call ?_
  k_dflt (refine' enterK (binds := [(Str.ofString "kind", kv), (Str.ofString "secret", sv), (Str.ofString "salt", tv), (Str.ofString "far", fv)]) B F X T ?kA ?kF ?kK ?k6 ?k7 ?k8 ?k9 ?kB ?_ ?c2 ?c3 ?c4 ?c5; (case kA => exact rfl); (case kF => exact rfl); (case kK => assumption); (case k6 => k_is); (case k7 => k_is); (case k8 => ktr_room); (case k9 => first | exact BindsTo.of_eq rfl | exact binds_K (by k_in) rfl (by k_is) rfl rfl rfl); (case c5 => decide); (case kB => exact locs rfl); (case c2 => exact rfl); (case c3 => exact rfl); (case c4 => exact rfl); k_whole; clear B F X T; intro L' h' F' N' B' X' T'; (try dsimp only); (try k_lift B'); (try k_fold))
  have fin := fun (g' : Heap) (L' : Addr) (h' : Heap) (mm : Str → Option Value) => ans_back (g' := g') (L' := L') (h' := h') (mm := mm) (env := envX cn cs L a ccd cl) rfl F0
  clear F0
  k_steps
  (with_reducible rename Fr _ _ _ _ => F9)
  (with_reducible rename KtsTurn _ _ _ => T9)
  obtain ⟨q1, q2⟩ := fin _ _ _ _ T9 F9
  exact hret _ _ _ q1 q2
theorem ans_asr : ∀ (w : World) (p : Program) (loose : List Str) (mean : ExcName → Option Value) (mg mb : Str → Option Value) (kv sv tv fv : Value)
  (dp un : Nat) (gd : Option (List Code)) (cn : Str) (cs : Scope) (a : Addr) (ccd : Value) (cl : List (Str × Addr)) (A₀ : Around) (base h₀ : Heap) (L : Addr) (m : Str → Option Value) (s : Shared) (Q E : Value → Shared → Prop)
  (B : Below A₀ base [] h₀) (F : Fr h₀ L s.heap m) (X : (KF w.params).In h₀) (T : Top p loose mean mg mb h₀) (XB : (KF w.params).In base) (TB : Top p loose mean mg mb base) (hcs : cs.kind = .function) (hdp : dp + 60 < recursionLimit) (hun : un + 250 < cLine)
  (hW : WrOk w (.type "AssertionError") [kv, sv, tv, fv])
  (hret : ∀ h' tk' t, Fr h₀ L h' m → (∀ news, News h₀ L s.heap news → News h₀ L h' news) → Q (.str (Str.ofString "AssertionError") t) { s with heap := h', toks := tk' }),
  wpAny (model rw_iw0011_01.row.prog w) (ktrTop dp un gd cn cs L a ccd cl []) (call (.ref 731) [kv, sv, tv, fv]) Q E s := by
  k_fill
  intro w p loose mean mg mb kv sv tv fv dp un gd cn cs a ccd cl A₀ base h₀ L m s Q E B F X T XB TB hcs hdp hun hW hret
  have D := dicts_one (env := envX cn cs L a ccd cl) rfl F
  have F0 := F
  refine wpAny_call ?_
  k_dflt (refine' enterK (binds := [(Str.ofString "kind", kv), (Str.ofString "secret", sv), (Str.ofString "salt", tv), (Str.ofString "far", fv)]) B F X T ?kA ?kF ?kK ?k6 ?k7 ?k8 ?k9 ?kB ?_ ?c2 ?c3 ?c4 ?c5; (case kA => exact rfl); (case kF => exact rfl); (case kK => assumption); (case k6 => k_is); (case k7 => k_is); (case k8 => ktr_room); (case k9 => first | exact BindsTo.of_eq rfl | exact binds_K (by k_in) rfl (by k_is) rfl rfl rfl); (case c5 => decide); (case kB => exact locs rfl); (case c2 => exact rfl); (case c3 => exact rfl); (case c4 => exact rfl); k_whole; clear B F X T; intro L' h' F' N' B' X' T'; (try dsimp only); (try k_lift B'); (try k_fold))
  have fin := fun (g' : Heap) (L' : Addr) (h' : Heap) (mm : Str → Option Value) => ans_back (g' := g') (L' := L') (h' := h') (mm := mm) (env := envX cn cs L a ccd cl) rfl F0
  clear F0
  k_steps
  (with_reducible rename Fr _ _ _ _ => F9)
  (with_reducible rename KtsTurn _ _ _ => T9)
  obtain ⟨q1, q2⟩ := fin _ _ _ _ T9 F9
  exact hret _ _ _ q1 q2
theorem ans_pwd : ∀ (w : World) (p : Program) (loose : List Str) (mean : ExcName → Option Value) (mg mb : Str → Option Value) (kv sv tv fv : Value)
  (dp un : Nat) (gd : Option (List Code)) (cn : Str) (cs : Scope) (a : Addr) (ccd : Value) (cl : List (Str × Addr)) (A₀ : Around) (base h₀ : Heap) (L : Addr) (m : Str → Option Value) (s : Shared) (Q E : Value → Shared → Prop)
  (B : Below A₀ base [] h₀) (F : Fr h₀ L s.heap m) (X : (KF w.params).In h₀) (T : Top p loose mean mg mb h₀) (XB : (KF w.params).In base) (TB : Top p loose mean mg mb base) (hcs : cs.kind = .function) (hdp : dp + 60 < recursionLimit) (hun : un + 250 < cLine)
  (hW : WrOk w (.ref 31) [kv, sv, tv, fv])
  (hret : ∀ h' tk' t, Fr h₀ L h' m → (∀ news, News h₀ L s.heap news → News h₀ L h' news) → Q (.str (Str.ofString "PasswordValueError") t) { s with heap := h', toks := tk' }),
  wpAny (model rw_iw0011_01.row.prog w) (ktrTop dp un gd cn cs L a ccd cl []) (call (.ref 731) [kv, sv, tv, fv]) Q E s := by
  k_fill
  intro w p loose mean mg mb kv sv tv fv dp un gd cn cs a ccd cl A₀ base h₀ L m s Q E B F X T XB TB hcs hdp hun hW hret
  have D := dicts_one (env := envX cn cs L a ccd cl) rfl F
  have F0 := F
  refine wpAny_call ?_
  k_dflt (refine' enterK (binds := [(Str.ofString "kind", kv), (Str.ofString "secret", sv), (Str.ofString "salt", tv), (Str.ofString "far", fv)]) B F X T ?kA ?kF ?kK ?k6 ?k7 ?k8 ?k9 ?kB ?_ ?c2 ?c3 ?c4 ?c5; (case kA => exact rfl); (case kF => exact rfl); (case kK => assumption); (case k6 => k_is); (case k7 => k_is); (case k8 => ktr_room); (case k9 => first | exact BindsTo.of_eq rfl | exact binds_K (by k_in) rfl (by k_is) rfl rfl rfl); (case c5 => decide); (case kB => exact locs rfl); (case c2 => exact rfl); (case c3 => exact rfl); (case c4 => exact rfl); k_whole; clear B F X T; intro L' h' F' N' B' X' T'; (try dsimp only); (try k_lift B'); (try k_fold))
  have fin := fun (g' : Heap) (L' : Addr) (h' : Heap) (mm : Str → Option Value) => ans_back (g' := g') (L' := L') (h' := h') (mm := mm) (env := envX cn cs L a ccd cl) rfl F0
  clear F0
  k_steps
  (with_reducible rename Fr _ _ _ _ => F9)
  (with_reducible rename KtsTurn _ _ _ => T9)
  obtain ⟨q1, q2⟩ := fin _ _ _ _ T9 F9
  exact hret _ _ _ q1 q2
end
section
theorem zw_Le_1 : True := by
  k_with_none
  k_with "exec Assign" => (k_here; (fail_if_success (with_reducible show wpAny _ _ _ (CutQ _) _ _)); (refine cutQ fun cutQ0 cutH0 => ?_))
  k_with "exec AugAssign" => (k_here; (fail_if_success (with_reducible show wpAny _ _ _ (CutQ _) _ _)); (refine cutQ fun cutQ0 cutH0 => ?_))
  k_with "exec Expr" => (k_here; (fail_if_success (with_reducible show wpAny _ _ _ (CutQ _) _ _)); (refine cutQ fun cutQ0 cutH0 => ?_))
  k_with "CutQ" => ((with_reducible rename (∀ f s', _ → CutQ _ f s') => cutH1); (refine cutH1 _ _ ?_); clear cutH1; (try dsimp only))
  trivial
open LCg
theorem zw_Le_2 : True := by
  k_with "exec Assign cons ListComp" => (k_here; (rename Fr _ _ _ _ => uFₘ449); k_dflt (refine comp_A (F₀ := uFₘ449) (by rfl) (by with_unfolding_all rfl) (by with_unfolding_all rfl) (by decide) (by rfl) (by decide) (by rfl) (by rfl) (by rfl) ?_))
  k_with "exec Assign cons ListComp" => (k_here; (with_reducible show wpAny _ _ (exec (Stmt.Assign [Expr.Tuple _ _ _] _ _) _) _ _ _); k_dflt (refine Assign_Tuple ?_))
  k_with "eval Name" => (k_here; (with_reducible show wpAny _ _ (eval (Expr.Name _ _) (compEnvC _ _ _ _)) _ _ _); (rename News _ _ _ _ => uNₘ491); k_dflt (refine' kcf_cell uNₘ491 (by rfl) (by exact List.mem_cons_of_mem _ (List.mem_cons_of_mem _ (List.mem_cons_of_mem _ (by with_reducible assumption)))) (by with_reducible assumption) ?_))
  trivial
def ansOf (k : Int) : Str := if k < 2 then Str.ofString "PasswordValueError" else if k < 9 then Str.ofString "AssertionError" else Str.ofString "the hash is asked"
def isAns (k : Int) (y : Value) : Prop := ∃ t, y = .str (ansOf k) t
theorem wrok_0 {w : World} {tj : CbTok} {bs : Array UInt8} {tbs : CbTok} {pk : List Int} {xs : Str} {txs : Tok} {far : Int} {tf : CbTok} (hbs : KBw.bInts bs = pk) (hpl : pk.length ≤ 104) (hpk : ∀ k ∈ pk, k ≠ 0) (hasc : ∀ k ∈ xs.cps.toList, k < 128) (hxs : xs.cps.size ≤ 16) (hf : 0 ≤ far) : WrOk w (.ref 31) [.int 0 tj, .bytes bs tbs, .str xs txs, .int far tf] :=
  fun p loose mean mg mb dp un gd cn cs a ccd cl outer A₀ base h₀ L m s Q E B F X T c d u e => wr_0 w p loose mean mg mb tj bs tbs pk xs txs far tf dp un gd cn cs a ccd cl outer A₀ base h₀ L m s Q E B F X T c d u hbs hpl hpk hasc hxs hf e
theorem wrok_1 {w : World} {tj : CbTok} {bs : Array UInt8} {tbs : CbTok} {pk : List Int} {xs : Str} {txs : Tok} {far : Int} {tf : CbTok} (hbs : KBw.bInts bs = pk) (hpl : pk.length ≤ 104) (hpk : ∀ k ∈ pk, k ≠ 0) (hasc : ∀ k ∈ xs.cps.toList, k < 128) (hxs : xs.cps.size ≤ 16) (hf : 0 ≤ far) : WrOk w (.ref 31) [.int 1 tj, .bytes bs tbs, .str xs txs, .int far tf] :=
  fun p loose mean mg mb dp un gd cn cs a ccd cl outer A₀ base h₀ L m s Q E B F X T c d u e => wr_1 w p loose mean mg mb tj bs tbs pk xs txs far tf dp un gd cn cs a ccd cl outer A₀ base h₀ L m s Q E B F X T c d u hbs hpl hpk hasc hxs hf e
theorem wrok_2 {w : World} {tj : CbTok} {bs : Array UInt8} {tbs : CbTok} {pk : List Int} {xs : Str} {txs : Tok} {far : Int} {tf : CbTok} (hbs : KBw.bInts bs = pk) (hpl : pk.length ≤ 104) (hpk : ∀ k ∈ pk, k ≠ 0) (hasc : ∀ k ∈ xs.cps.toList, k < 128) (hxs : xs.cps.size ≤ 16) (hf : 0 ≤ far) : WrOk w (.type "AssertionError") [.int 2 tj, .bytes bs tbs, .str xs txs, .int far tf] :=
  fun p loose mean mg mb dp un gd cn cs a ccd cl outer A₀ base h₀ L m s Q E B F X T c d u e => wr_2 w p loose mean mg mb tj bs tbs pk xs txs far tf dp un gd cn cs a ccd cl outer A₀ base h₀ L m s Q E B F X T c d u hbs hpl hpk hasc hxs hf e
theorem wrok_3 {w : World} {tj : CbTok} {bs : Array UInt8} {tbs : CbTok} {pk : List Int} {xs : Str} {txs : Tok} {far : Int} {tf : CbTok} (hbs : KBw.bInts bs = pk) (hpl : pk.length ≤ 104) (hpk : ∀ k ∈ pk, k ≠ 0) (hasc : ∀ k ∈ xs.cps.toList, k < 128) (hxs : xs.cps.size ≤ 16) (hf : 0 ≤ far) : WrOk w (.type "AssertionError") [.int 3 tj, .bytes bs tbs, .str xs txs, .int far tf] :=
  fun p loose mean mg mb dp un gd cn cs a ccd cl outer A₀ base h₀ L m s Q E B F X T c d u e => wr_3 w p loose mean mg mb tj bs tbs pk xs txs far tf dp un gd cn cs a ccd cl outer A₀ base h₀ L m s Q E B F X T c d u hbs hpl hpk hasc hxs hf e
theorem wrok_4 {w : World} {tj : CbTok} {bs : Array UInt8} {tbs : CbTok} {pk : List Int} {xs : Str} {txs : Tok} {far : Int} {tf : CbTok} (hbs : KBw.bInts bs = pk) (hpl : pk.length ≤ 104) (hpk : ∀ k ∈ pk, k ≠ 0) (hasc : ∀ k ∈ xs.cps.toList, k < 128) (hxs : xs.cps.size ≤ 16) (hf : 0 ≤ far) : WrOk w (.type "AssertionError") [.int 4 tj, .bytes bs tbs, .str xs txs, .int far tf] :=
  fun p loose mean mg mb dp un gd cn cs a ccd cl outer A₀ base h₀ L m s Q E B F X T c d u e => wr_4 w p loose mean mg mb tj bs tbs pk xs txs far tf dp un gd cn cs a ccd cl outer A₀ base h₀ L m s Q E B F X T c d u hbs hpl hpk hasc hxs hf e
theorem wrok_5 {w : World} {tj : CbTok} {bs : Array UInt8} {tbs : CbTok} {pk : List Int} {xs : Str} {txs : Tok} {far : Int} {tf : CbTok} (hbs : KBw.bInts bs = pk) (hpl : pk.length ≤ 104) (hpk : ∀ k ∈ pk, k ≠ 0) (hasc : ∀ k ∈ xs.cps.toList, k < 128) (hxs : xs.cps.size ≤ 16) (hf : 0 ≤ far) : WrOk w (.type "AssertionError") [.int 5 tj, .bytes bs tbs, .str xs txs, .int far tf] :=
  fun p loose mean mg mb dp un gd cn cs a ccd cl outer A₀ base h₀ L m s Q E B F X T c d u e => wr_5 w p loose mean mg mb tj bs tbs pk xs txs far tf dp un gd cn cs a ccd cl outer A₀ base h₀ L m s Q E B F X T c d u hbs hpl hpk hasc hxs hf e
theorem wrok_6 {w : World} {tj : CbTok} {bs : Array UInt8} {tbs : CbTok} {pk : List Int} {xs : Str} {txs : Tok} {far : Int} {tf : CbTok} (hbs : KBw.bInts bs = pk) (hpl : pk.length ≤ 104) (hpk : ∀ k ∈ pk, k ≠ 0) (hasc : ∀ k ∈ xs.cps.toList, k < 128) (hxs : xs.cps.size ≤ 16) (hf : 0 ≤ far) : WrOk w (.type "AssertionError") [.int 6 tj, .bytes bs tbs, .str xs txs, .int far tf] :=
  fun p loose mean mg mb dp un gd cn cs a ccd cl outer A₀ base h₀ L m s Q E B F X T c d u e => wr_6 w p loose mean mg mb tj bs tbs pk xs txs far tf dp un gd cn cs a ccd cl outer A₀ base h₀ L m s Q E B F X T c d u hbs hpl hpk hasc hxs hf e
theorem wrok_7 {w : World} {tj : CbTok} {bs : Array UInt8} {tbs : CbTok} {pk : List Int} {xs : Str} {txs : Tok} {far : Int} {tf : CbTok} (hbs : KBw.bInts bs = pk) (hpl : pk.length ≤ 104) (hpk : ∀ k ∈ pk, k ≠ 0) (hasc : ∀ k ∈ xs.cps.toList, k < 128) (hxs : xs.cps.size ≤ 16) (hf : 0 ≤ far) : WrOk w (.type "AssertionError") [.int 7 tj, .bytes bs tbs, .str xs txs, .int far tf] :=
  fun p loose mean mg mb dp un gd cn cs a ccd cl outer A₀ base h₀ L m s Q E B F X T c d u e => wr_7 w p loose mean mg mb tj bs tbs pk xs txs far tf dp un gd cn cs a ccd cl outer A₀ base h₀ L m s Q E B F X T c d u hbs hpl hpk hasc hxs hf e
theorem wrok_8 {w : World} {tj : CbTok} {bs : Array UInt8} {tbs : CbTok} {pk : List Int} {xs : Str} {txs : Tok} {far : Int} {tf : CbTok} (hbs : KBw.bInts bs = pk) (hpl : pk.length ≤ 104) (hpk : ∀ k ∈ pk, k ≠ 0) (hasc : ∀ k ∈ xs.cps.toList, k < 128) (hxs : xs.cps.size ≤ 16) (hf : 0 ≤ far) : WrOk w (.type "AssertionError") [.int 8 tj, .bytes bs tbs, .str xs txs, .int far tf] :=
  fun p loose mean mg mb dp un gd cn cs a ccd cl outer A₀ base h₀ L m s Q E B F X T c d u e => wr_8 w p loose mean mg mb tj bs tbs pk xs txs far tf dp un gd cn cs a ccd cl outer A₀ base h₀ L m s Q E B F X T c d u hbs hpl hpk hasc hxs hf e
theorem wrok_9 {w : World} {tj : CbTok} {bs : Array UInt8} {tbs : CbTok} {pk : List Int} {xs : Str} {txs : Tok} {far : Int} {tf : CbTok} (hbs : KBw.bInts bs = pk) (hpl : pk.length ≤ 104) (hpk : ∀ k ∈ pk, k ≠ 0) (hasc : ∀ k ∈ xs.cps.toList, k < 128) (hxs : xs.cps.size ≤ 16) (hf : 0 ≤ far) : WrOk w (.type "KeyError") [.int 9 tj, .bytes bs tbs, .str xs txs, .int far tf] :=
  fun p loose mean mg mb dp un gd cn cs a ccd cl outer A₀ base h₀ L m s Q E B F X T c d u e => wr_9 w p loose mean mg mb tj bs tbs pk xs txs far tf dp un gd cn cs a ccd cl outer A₀ base h₀ L m s Q E B F X T c d u hbs hpl hpk hasc hxs hf e
theorem wrok_10 {w : World} {tj : CbTok} {bs : Array UInt8} {tbs : CbTok} {pk : List Int} {xs : Str} {txs : Tok} {far : Int} {tf : CbTok} (hbs : KBw.bInts bs = pk) (hpl : pk.length ≤ 104) (hpk : ∀ k ∈ pk, k ≠ 0) (hasc : ∀ k ∈ xs.cps.toList, k < 128) (hxs : xs.cps.size ≤ 16) (hf : 0 ≤ far) : WrOk w (.type "KeyError") [.int 10 tj, .bytes bs tbs, .str xs txs, .int far tf] :=
  fun p loose mean mg mb dp un gd cn cs a ccd cl outer A₀ base h₀ L m s Q E B F X T c d u e => wr_10 w p loose mean mg mb tj bs tbs pk xs txs far tf dp un gd cn cs a ccd cl outer A₀ base h₀ L m s Q E B F X T c d u hbs hpl hpk hasc hxs hf e
theorem wrok_11 {w : World} {tj : CbTok} {bs : Array UInt8} {tbs : CbTok} {pk : List Int} {xs : Str} {txs : Tok} {far : Int} {tf : CbTok} (hbs : KBw.bInts bs = pk) (hpl : pk.length ≤ 104) (hpk : ∀ k ∈ pk, k ≠ 0) (hasc : ∀ k ∈ xs.cps.toList, k < 128) (hxs : xs.cps.size ≤ 16) (hf : 0 ≤ far) : WrOk w (.type "KeyError") [.int 11 tj, .bytes bs tbs, .str xs txs, .int far tf] :=
  fun p loose mean mg mb dp un gd cn cs a ccd cl outer A₀ base h₀ L m s Q E B F X T c d u e => wr_11 w p loose mean mg mb tj bs tbs pk xs txs far tf dp un gd cn cs a ccd cl outer A₀ base h₀ L m s Q E B F X T c d u hbs hpl hpk hasc hxs hf e
theorem Made.twelve {ys : List Value} (h : Made isAns (rangeKs 0 12) ys) : ∃ t0 t1 t2 t3 t4 t5 t6 t7 t8 t9 t10 t11 : Tok, ys = [.str (Str.ofString "PasswordValueError") t0, .str (Str.ofString "PasswordValueError") t1, .str (Str.ofString "AssertionError") t2, .str (Str.ofString "AssertionError") t3, .str (Str.ofString "AssertionError") t4, .str (Str.ofString "AssertionError") t5, .str (Str.ofString "AssertionError") t6, .str (Str.ofString "AssertionError") t7, .str (Str.ofString "AssertionError") t8, .str (Str.ofString "the hash is asked") t9, .str (Str.ofString "the hash is asked") t10, .str (Str.ofString "the hash is asked") t11] := by
  rw [show rangeKs 0 12 = [0, 1, 2, 3, 4, 5, 6, 7, 8, 9, 10, 11] by decide] at h
  obtain ⟨_, _, e0, ⟨t0, h0⟩, h⟩ := h.peel
  obtain ⟨_, _, e1, ⟨t1, h1⟩, h⟩ := h.peel
  obtain ⟨_, _, e2, ⟨t2, h2⟩, h⟩ := h.peel
  obtain ⟨_, _, e3, ⟨t3, h3⟩, h⟩ := h.peel
  obtain ⟨_, _, e4, ⟨t4, h4⟩, h⟩ := h.peel
  obtain ⟨_, _, e5, ⟨t5, h5⟩, h⟩ := h.peel
  obtain ⟨_, _, e6, ⟨t6, h6⟩, h⟩ := h.peel
  obtain ⟨_, _, e7, ⟨t7, h7⟩, h⟩ := h.peel
  obtain ⟨_, _, e8, ⟨t8, h8⟩, h⟩ := h.peel
  obtain ⟨_, _, e9, ⟨t9, h9⟩, h⟩ := h.peel
  obtain ⟨_, _, e10, ⟨t10, h10⟩, h⟩ := h.peel
  obtain ⟨_, _, e11, ⟨t11, h11⟩, h⟩ := h.peel
  exact ⟨t0, t1, t2, t3, t4, t5, t6, t7, t8, t9, t10, t11, by rw [e0, e1, e2, e3, e4, e5, e6, e7, e8, e9, e10, e11, h.nil, h0, h1, h2, h3, h4, h5, h6, h7, h8, h9, h10, h11]; rfl⟩
theorem zw_Le_3 : True := by
  k_with "call ref" => (k_here; (with_reducible show wpAny _ _ (call (Value.ref 731) _) _ _ _); (refine Hold.out ?_))
  k_with "callWith ref" => (k_here; (with_reducible show wpAny _ _ (callWith _ (Value.ref 731) _ _ _) _ _ _); k_dflt (refine' callWith_K (by k_asm) (by k_is) ?_; k_whole))
  trivial
theorem lE : ∀ (w : World) (p : Program) (loose : List Str) (mean : ExcName → Option Value) (mg mb : Str → Option Value) (o1 o2 o3 o4 o5 o6 o7 : Obj) (bi : Int) (tb : Tok) (bs : Array UInt8) (tbs : CbTok) (pk : List Int) (cs : List Nat) (tcs : Tok) (ps1 ps2 ps3 : Array Value) (m4 : Str → Option Value)
  (dp un : Nat) (gd : Option (List Code)) (A₀ : Around) (base h₀ : Heap) (L : Addr) (s : Shared) (Q : Flow → Shared → Prop) (E : Value → Shared → Prop)
  (B : Below A₀ base [] h₀) (F : Fr h₀ L s.heap m4) (X : (KF w.params).In h₀) (T : Top p loose mean mg mb h₀) (XB : (KF w.params).In base) (TB : Top p loose mean mg mb base)
  (N : News h₀ L s.heap [(L + 1, o1), (L + 1 + 1, o2), (L + 1 + 1 + 1, o3), (L + 1 + 1 + 1 + 1, o4), (L + 1 + 1 + 1 + 1 + 1, o5), (L + 1 + 1 + 1 + 1 + 1 + 1, o6), (L + 1 + 1 + 1 + 1 + 1 + 1 + 1, o7), (123, tabObj ps1), (669, tabObj ps2), (733, tabObj ps3)]) (hdp : dp + 90 < recursionLimit) (hun : un + 400 < cLine)
  (hbs : KBw.bInts bs = pk) (hpl : pk.length ≤ 104) (hpk : ∀ k ∈ pk, k ≠ 0) (hcs : ∀ c ∈ cs, c < 128) (hcl : cs.length ≤ 16)
  (h2 : o2.data = .cell (some (.int bi tb))) (h4 : o4.data = .cell (some (.bytes bs tbs))) (h5 : o5.data = .cell (some (.str ⟨cs.toArray⟩ tcs))) (h123 : @LT.lt Nat _ 123 L) (h669 : @LT.lt Nat _ 669 L) (h733 : @LT.lt Nat _ 733 L)
  (hret : ∀ (h' : Heap) (tk' : Nat) (m' : Str → Option Value), Fr h₀ L h' m' → (∃ ps, h'.get? 123 = some (tabObj ps)) → (∃ ps, h'.get? 669 = some (tabObj ps)) → (∃ ps, h'.get? 733 = some (tabObj ps)) → Q (.ret (.bool true)) { s with heap := h', toks := tk' }),
  wpAny (model rw_iw0011_01.row.prog w) (lwA (KF w.params) L dp un gd []) (execs ((bodyAt (KF w.params) 736).drop 12) (lwE (KF w.params) L)) Q E s := by
  k_fill
  intro w p loose mean mg mb o1 o2 o3 o4 o5 o6 o7 bi tb bs tbs pk cs tcs ps1 ps2 ps3 m4 dp un gd A₀ base h₀ L s Q E B F X T XB TB N hdp hun hbs hpl hpk hcs hcl h2 h4 h5 h123 h669 h733 hret
  refine wpAny_execs_cons ?_
  k_with "CompW" => ((rename News _ _ _ _ => uN0); refine abs_news uN0 (fun nw hnw uN1 => ?_); (have m1 : (L + 1 + 1, o2) ∈ nw := by rw [hnw]; exact .tail _ (.head _)); (have m2 : (L + 1 + 1 + 1 + 1, o4) ∈ nw := by rw [hnw]; exact .tail _ (.tail _ (.tail _ (.head _)))); (have m3 : (L + 1 + 1 + 1 + 1 + 1, o5) ∈ nw := by rw [hnw]; exact .tail _ (.tail _ (.tail _ (.tail _ (.head _))))); clear uN0; ((rename Fr _ _ _ _ => uF); (rename News _ _ _ _ => uN); k_dflt (refine' CompW.range (isAns) ?c1 uF uN ?c2 ?c4 ?c5 ?c3 (fun k' t' I' oI' C' oC' D' m' ys' h' tk' E' hk' hlo' hhi' hC' hx' F' N' off' ne' => ?_) (fun ys' g' hm' D' h' tk' F' N' off' => ?_); (case c1 => exact rfl); (case c2 => assumption); (case c4 => first | decide | exact small_one (by omega) (by omega) (by omega) (by omega)); (case c5 => first | exact rangeSize_nat _ _ | rfl); (case c3 => omega)); (all_goals (try (simp only [LCg.Off3, and_true] at off'))); (all_goals (try dsimp only)); (all_goals (try k_fold))); rotate_left; (subst hnw; simp only [LCg.Off1, and_true] at off'; obtain ⟨q0, q1, q2, q3, q4, q5, q6, q7, q8, q9, q10, q11, uJ1⟩ := Made.twelve hm'; subst uJ1); rotate_left; clear hnw)
  k_steps
  · (with_reducible rename Fr _ _ _ _ => F9)
    (with_reducible rename News _ _ _ _ => N9)
    (with_reducible rename LCg.Off3 _ _ _ _ => off9)
    refine Hold.out (P := wpAny _ _ _ _ _ _) ?_
    have hfar : 0 ≤ (if bi < 0 then -bi else bi) := by split <;> omega
    have hasc : ∀ k ∈ (⟨cs.toArray⟩ : Str).cps.toList, k < 128 := fun k hk => hcs k (by simpa using hk)
    have hxs : (⟨cs.toArray⟩ : Str).cps.size ≤ 16 := hcl
    obtain rfl | rfl | rfl | rfl | rfl | rfl | rfl | rfl | rfl | rfl | rfl | rfl : k' = 0 ∨ k' = 1 ∨ k' = 2 ∨ k' = 3 ∨ k' = 4 ∨ k' = 5 ∨ k' = 6 ∨ k' = 7 ∨ k' = 8 ∨ k' = 9 ∨ k' = 10 ∨ k' = 11 := by omega
    · refine ans_pwd w p loose mean mg mb _ _ _ _ dp un gd _ _ _ _ _ A₀ base h₀ L m4 _ _ _ B F9 X T XB TB rfl (by omega) (by omega) (wrok_0 hbs hpl hpk hasc hxs hfar) (fun h2 tk2 t2 F2 N2 => ?_)
      exact ⟨_, _, nw, rfl, F2, N2 _ N9, off9, trivial, rfl, t2, rfl⟩
    · refine ans_pwd w p loose mean mg mb _ _ _ _ dp un gd _ _ _ _ _ A₀ base h₀ L m4 _ _ _ B F9 X T XB TB rfl (by omega) (by omega) (wrok_1 hbs hpl hpk hasc hxs hfar) (fun h2 tk2 t2 F2 N2 => ?_)
      exact ⟨_, _, nw, rfl, F2, N2 _ N9, off9, trivial, rfl, t2, rfl⟩
    · refine ans_asr w p loose mean mg mb _ _ _ _ dp un gd _ _ _ _ _ A₀ base h₀ L m4 _ _ _ B F9 X T XB TB rfl (by omega) (by omega) (wrok_2 hbs hpl hpk hasc hxs hfar) (fun h2 tk2 t2 F2 N2 => ?_)
      exact ⟨_, _, nw, rfl, F2, N2 _ N9, off9, trivial, rfl, t2, rfl⟩
    · refine ans_asr w p loose mean mg mb _ _ _ _ dp un gd _ _ _ _ _ A₀ base h₀ L m4 _ _ _ B F9 X T XB TB rfl (by omega) (by omega) (wrok_3 hbs hpl hpk hasc hxs hfar) (fun h2 tk2 t2 F2 N2 => ?_)
      exact ⟨_, _, nw, rfl, F2, N2 _ N9, off9, trivial, rfl, t2, rfl⟩
    · refine ans_asr w p loose mean mg mb _ _ _ _ dp un gd _ _ _ _ _ A₀ base h₀ L m4 _ _ _ B F9 X T XB TB rfl (by omega) (by omega) (wrok_4 hbs hpl hpk hasc hxs hfar) (fun h2 tk2 t2 F2 N2 => ?_)
      exact ⟨_, _, nw, rfl, F2, N2 _ N9, off9, trivial, rfl, t2, rfl⟩
    · refine ans_asr w p loose mean mg mb _ _ _ _ dp un gd _ _ _ _ _ A₀ base h₀ L m4 _ _ _ B F9 X T XB TB rfl (by omega) (by omega) (wrok_5 hbs hpl hpk hasc hxs hfar) (fun h2 tk2 t2 F2 N2 => ?_)
      exact ⟨_, _, nw, rfl, F2, N2 _ N9, off9, trivial, rfl, t2, rfl⟩
    · refine ans_asr w p loose mean mg mb _ _ _ _ dp un gd _ _ _ _ _ A₀ base h₀ L m4 _ _ _ B F9 X T XB TB rfl (by omega) (by omega) (wrok_6 hbs hpl hpk hasc hxs hfar) (fun h2 tk2 t2 F2 N2 => ?_)
      exact ⟨_, _, nw, rfl, F2, N2 _ N9, off9, trivial, rfl, t2, rfl⟩
    · refine ans_asr w p loose mean mg mb _ _ _ _ dp un gd _ _ _ _ _ A₀ base h₀ L m4 _ _ _ B F9 X T XB TB rfl (by omega) (by omega) (wrok_7 hbs hpl hpk hasc hxs hfar) (fun h2 tk2 t2 F2 N2 => ?_)
      exact ⟨_, _, nw, rfl, F2, N2 _ N9, off9, trivial, rfl, t2, rfl⟩
    · refine ans_asr w p loose mean mg mb _ _ _ _ dp un gd _ _ _ _ _ A₀ base h₀ L m4 _ _ _ B F9 X T XB TB rfl (by omega) (by omega) (wrok_8 hbs hpl hpk hasc hxs hfar) (fun h2 tk2 t2 F2 N2 => ?_)
      exact ⟨_, _, nw, rfl, F2, N2 _ N9, off9, trivial, rfl, t2, rfl⟩
    · refine ans_key w p loose mean mg mb _ _ _ _ dp un gd _ _ _ _ _ A₀ base h₀ L m4 _ _ _ B F9 X T XB TB rfl (by omega) (by omega) (wrok_9 hbs hpl hpk hasc hxs hfar) (fun h2 tk2 t2 F2 N2 => ?_)
      exact ⟨_, _, nw, rfl, F2, N2 _ N9, off9, trivial, rfl, t2, rfl⟩
    · refine ans_key w p loose mean mg mb _ _ _ _ dp un gd _ _ _ _ _ A₀ base h₀ L m4 _ _ _ B F9 X T XB TB rfl (by omega) (by omega) (wrok_10 hbs hpl hpk hasc hxs hfar) (fun h2 tk2 t2 F2 N2 => ?_)
      exact ⟨_, _, nw, rfl, F2, N2 _ N9, off9, trivial, rfl, t2, rfl⟩
    · refine ans_key w p loose mean mg mb _ _ _ _ dp un gd _ _ _ _ _ A₀ base h₀ L m4 _ _ _ B F9 X T XB TB rfl (by omega) (by omega) (wrok_11 hbs hpl hpk hasc hxs hfar) (fun h2 tk2 t2 F2 N2 => ?_)
      exact ⟨_, _, nw, rfl, F2, N2 _ N9, off9, trivial, rfl, t2, rfl⟩
  · (with_reducible rename Fr _ _ _ _ => F9)
    (with_reducible rename News _ _ _ _ => N9)
    exact hret _ _ _ F9 ⟨_, (N9 (123, tabObj ps1) (by simp)).1⟩ ⟨_, (N9 (669, tabObj ps2) (by simp)).1⟩ ⟨_, (N9 (733, tabObj ps3) (by simp)).1⟩
end
section
/-- the part of round k between the two -/
def midI (P S : List Int) (k : Nat) : List Int := (if 0 < k % 3 then S else []) ++ (if 0 < k % 7 then P else [])
theorem fmod_nat (k m : Nat) (h : 0 < m) : ((k : Int)).fmod (m : Int) = ((k % m : Nat) : Int) := by
  rw [Int.fmod_eq_emod_of_nonneg _ (by omega)]; rfl
theorem round_even {kind : Int} {sz : Nat} {P S x : List Int} (i : Nat) : roundI kind sz P S x ((2 * i : Nat) : Int) = hashI kind sz (x ++ (midI P S (2 * i) ++ P)) := by
  unfold roundI turnI
  rw [show (2 : Int) = ((2 : Nat) : Int) from rfl, show (3 : Int) = ((3 : Nat) : Int) from rfl, show (7 : Int) = ((7 : Nat) : Int) from rfl, fmod_nat _ 2 (by decide), fmod_nat _ 3 (by decide), fmod_nat _ 7 (by decide), if_neg (by omega), List.append_assoc]
  unfold midI
  congr 3
  by_cases h3 : 0 < 2 * i % 3 <;> by_cases h7 : 0 < 2 * i % 7
  · rw [if_pos h3, if_pos h7, if_pos (by omega), if_pos (by omega)]
  · rw [if_pos h3, if_neg h7, if_pos (by omega), if_neg (by omega)]
  · rw [if_neg h3, if_pos h7, if_neg (by omega), if_pos (by omega)]
  · rw [if_neg h3, if_neg h7, if_neg (by omega), if_neg (by omega)]
theorem round_odd {kind : Int} {sz : Nat} {P S x : List Int} (i : Nat) : roundI kind sz P S x ((2 * i + 1 : Nat) : Int) = hashI kind sz ((P ++ midI P S (2 * i + 1)) ++ x) := by
  unfold roundI turnI
  rw [show (2 : Int) = ((2 : Nat) : Int) from rfl, show (3 : Int) = ((3 : Nat) : Int) from rfl, show (7 : Int) = ((7 : Nat) : Int) from rfl, fmod_nat _ 2 (by decide), fmod_nat _ 3 (by decide), fmod_nat _ 7 (by decide), if_pos (by omega)]
  unfold midI
  congr 3
  by_cases h3 : 0 < (2 * i + 1) % 3 <;> by_cases h7 : 0 < (2 * i + 1) % 7
  · rw [if_pos h3, if_pos h7, if_pos (by omega), if_pos (by omega)]
  · rw [if_pos h3, if_neg h7, if_pos (by omega), if_neg (by omega)]
  · rw [if_neg h3, if_pos h7, if_neg (by omega), if_pos (by omega)]
  · rw [if_neg h3, if_neg h7, if_neg (by omega), if_neg (by omega)]
def prE (P S : List Int) (i : Nat) : List Int × List Int := (midI P S (2 * i) ++ P, P ++ midI P S (2 * i + 1))
/-- the state behind n rounds -/
def rdN (kind : Int) (sz : Nat) (P S da : List Int) : Nat → List Int
  | 0 => da
  | n + 1 => roundI kind sz P S (rdN kind sz P S da n) (n : Int)
theorem rdN_fold (kind : Int) (sz : Nat) (P S da : List Int) (n : Nat) : (rangeKs 0 n).foldl (roundI kind sz P S) da = rdN kind sz P S da n := by
  have e : rangeKs 0 n = (List.range n).map fun i : Nat => (i : Int) := by simp [rangeKs]
  rw [e]
  induction n with
  | zero => rfl
  | succ n ih =>
    have e2 : rangeKs 0 n = (List.range n).map fun i : Nat => (i : Int) := by simp [rangeKs]
    rw [List.range_succ, List.map_append, List.foldl_append, ih e2]
    rfl
theorem rdN_pair (kind : Int) (sz : Nat) (P S da : List Int) (i : Nat) : rdN kind sz P S da (2 * (i + 1)) = pairStep (hashI kind sz) (rdN kind sz P S da (2 * i)) (prE P S i) := by
  show roundI kind sz P S (roundI kind sz P S (rdN kind sz P S da (2 * i)) ((2 * i : Nat) : Int)) ((2 * i + 1 : Nat) : Int) = _
  rw [round_odd, round_even]
  rfl
theorem rdN_pairs (kind : Int) (sz : Nat) (P S da : List Int) (i : Nat) : ∀ n : Nat, rdN kind sz P S da (2 * (i + n)) = ((List.range n).map fun j => prE P S (i + j)).foldl (pairStep (hashI kind sz)) (rdN kind sz P S da (2 * i))
  | 0 => rfl
  | n + 1 => by
    rw [List.range_succ, List.map_append, List.foldl_append, ← rdN_pairs kind sz P S da i n]
    exact rdN_pair kind sz P S da (i + n)
theorem prE_per (P S : List Int) (b j : Nat) : prE P S (21 * b + j) = prE P S j := by
  unfold prE midI
  rw [show 2 * (21 * b + j) % 3 = 2 * j % 3 by omega, show 2 * (21 * b + j) % 7 = 2 * j % 7 by omega, show (2 * (21 * b + j) + 1) % 3 = (2 * j + 1) % 3 by omega, show (2 * (21 * b + j) + 1) % 7 = (2 * j + 1) % 7 by omega]
theorem pairs_per (P S : List Int) (b n : Nat) : ((List.range n).map fun j => prE P S (21 * b + j)) = (List.range n).map (prE P S) := List.map_congr_left fun j _ => prE_per P S b j
theorem blocks_rd (kind : Int) (sz : Nat) (P S da : List Int) : ∀ b : Nat, blocksI (hashI kind sz) ((List.range 21).map (prE P S)) b da = rdN kind sz P S da (42 * b)
  | 0 => rfl
  | b + 1 => by
    rw [blocksI, blocks_rd kind sz P S da b, show 42 * (b + 1) = 2 * (21 * b + 21) by omega, rdN_pairs, pairs_per, show 2 * (21 * b) = 42 * b by omega]
theorem rounds_rd (kind : Int) (sz : Nat) (P S da : List Int) (rn : Nat) : roundsI (hashI kind sz) ((List.range 21).map (prE P S)) rn da = (rangeKs 0 rn).foldl (roundI kind sz P S) da := by
  rw [rdN_fold]
  unfold roundsI
  rw [blocks_rd]
  have hq : rn = 42 * (rn / 42) + rn % 42 := by omega
  have ht : rn % 42 < 42 := Nat.mod_lt _ (by decide)
  generalize rn / 42 = b at *
  generalize rn % 42 = t at *
  subst hq
  have htake : ∀ n, n ≤ 21 → ((List.range 21).map (prE P S)).take n = (List.range n).map (prE P S) := fun n hn => by
    rw [← List.map_take, List.take_range, Nat.min_eq_left hn]
  unfold tailI
  by_cases h0 : t = 0
  · rw [if_pos h0, h0]; rfl
  rw [if_neg h0]
  have key : ((List.range (t / 2)).map (prE P S)).foldl (pairStep (hashI kind sz)) (rdN kind sz P S da (42 * b)) = rdN kind sz P S da (2 * (21 * b + t / 2)) := by
    rw [rdN_pairs, pairs_per, show 2 * (21 * b) = 42 * b by omega]
  by_cases h1 : t % 2 = 1
  · rw [if_pos h1, htake _ (by omega), key]
    have e : ((List.range 21).map (prE P S)).getD (t / 2) default = prE P S (t / 2) := by
      rw [List.getD_eq_getElem?_getD, List.getElem?_map, List.getElem?_range (by omega)]; rfl
    rw [e, ← prE_per P S b (t / 2)]
    have e2 : 42 * b + t = 2 * (21 * b + t / 2) + 1 := by omega
    rw [e2]
    show _ = roundI kind sz P S (rdN kind sz P S da (2 * (21 * b + t / 2))) ((2 * (21 * b + t / 2) : Nat) : Int)
    rw [round_even]
    rfl
  · rw [if_neg h1, htake _ (by omega), key]
    congr 1
    omega
end
end
section
def offs21 : List (Int × Int) := [(0, 3), (5, 1), (5, 3), (1, 2), (5, 1), (5, 3), (1, 3), (4, 1), (5, 3), (1, 3), (5, 0), (5, 3), (1, 3), (5, 1), (4, 3), (1, 3), (5, 1), (5, 2), (1, 3), (5, 1), (5, 3)]
theorem offs_eq (w : World) : offsOf (KF w.params) = offs21 := by kernel_rfl
def cA (k : Nat) : Nat := if 0 < k % 3 then (if 0 < k % 7 then 5 else 4) else if 0 < k % 7 then 1 else 0
def cB (k : Nat) : Nat := if 0 < k % 3 then (if 0 < k % 7 then 3 else 2) else if 0 < k % 7 then 1 else 0
theorem evI (P S : List Int) (k : Nat) : midI P S k ++ P = (permsI P S).getD (cA k) [] := by
  unfold midI cA
  by_cases h1 : 0 < k % 3 <;> by_cases h2 : 0 < k % 7 <;> simp only [h1, h2, if_true, if_false] <;> first | rfl | exact List.append_assoc .. | exact congrArg (· ++ P) (List.append_nil S)
theorem odI (P S : List Int) (k : Nat) : P ++ midI P S k = (permsI P S).getD (cB k) [] := by
  unfold midI cB
  by_cases h1 : 0 < k % 3 <;> by_cases h2 : 0 < k % 7 <;> simp only [h1, h2, if_true, if_false] <;> first | rfl | exact (List.append_assoc ..).symm | exact congrArg (P ++ ·) (List.append_nil S) | exact List.append_nil P
theorem prs_eq (w : World) (P S : List Int) : prsI (KF w.params) P S = (List.range 21).map (prE P S) := by
  unfold prsI
  rw [offs_eq, show offs21 = (List.range 21).map (fun i => ((cA (2 * i) : Int), (cB (2 * i + 1) : Int))) from by decide +kernel, List.map_map]
  refine List.map_congr_left fun i _ => ?_
  show ((permsI P S).getD (cA (2 * i)) [], (permsI P S).getD (cB (2 * i + 1)) []) = (midI P S (2 * i) ++ P, P ++ midI P S (2 * i + 1))
  rw [evI, odI]
theorem rep_row {ks : List Int} {n : Nat} (h : 0 < ks.length) : repI ks n = rowI ks n := by
  have hfl : ∀ (m j : Nat), j < m * ks.length → ((List.replicate m ks).flatten)[j]? = ks[j % ks.length]? := by
    intro m
    induction m with
    | zero => intro j hj; omega
    | succ m ih =>
      intro j hj
      rw [List.replicate_succ, List.flatten_cons]
      rcases Nat.lt_or_ge j ks.length with h1 | h1
      · rw [List.getElem?_append_left h1, Nat.mod_eq_of_lt h1]
      · rw [List.getElem?_append_right h1, ih (j - ks.length) (by rw [Nat.succ_mul] at hj; omega), ← Nat.mod_eq_sub_mod h1]
  apply List.ext_getElem?
  intro i
  rcases Nat.lt_or_ge i n with hi | hi
  · have hlen := repI_length (ks := ks) (n := n) h
    unfold repI at hlen ⊢
    rw [List.getElem?_take, if_pos hi, hfl _ _ (by
      have := hlen
      rw [List.length_take] at this
      have e : ((List.replicate (1 + ((n : Int) - 1).fdiv ks.length).toNat ks).flatten).length = (1 + ((n : Int) - 1).fdiv ks.length).toNat * ks.length := by simp
      rw [e] at this
      omega)]
    unfold rowI
    rw [List.getElem?_map, List.getElem?_range hi]
    show ks[i % ks.length]? = some (ks.getD (i % ks.length) 0)
    have h2 := Nat.mod_lt i h
    rw [List.getD_eq_getElem?_getD, List.getElem?_eq_getElem h2]
    rfl
  · rw [List.getElem?_eq_none (by rw [repI_length h]; exact hi), List.getElem?_eq_none (by simpa [rowI] using hi)]
end
section
local macro_rules | `(tactic| omega) => `(tactic| lia)
section
theorem last_eq (w : World) (ki : Int) (sz : Nat) (pk ss : List Int) (rn : Nat) (hsz : sz = 32 ∨ sz = 64) :
    roundsI (hashI ki sz) (prsI (KF w.params) (repI (hashI ki sz (manyI pk.length pk)) pk.length) (dsI (hashI ki sz) ss (hashI ki sz (begR (hashI ki sz) pk ss)))) rn (hashI ki sz (begR (hashI ki sz) pk ss)) = dueI ki sz pk ss rn := by
  have h0 : ∀ x, 0 < (hashI ki sz x).length := fun x => by rw [hashI_length]; omega
  have e1 : begR (hashI ki sz) pk ss = begI ki sz pk ss := by
    show pk ++ ss ++ repI (hashI ki sz (pk ++ ss ++ pk)) pk.length ++ _ = pk ++ ss ++ rowI (hashI ki sz (pk ++ ss ++ pk)) pk.length ++ _
    rw [rep_row (h0 _)]
  have e2 : repI (hashI ki sz (manyI pk.length pk)) pk.length = rowP ki sz pk := rep_row (h0 _)
  have e3 : ∀ da : List Int, dsI (hashI ki sz) ss da = rowS ki sz ss da := fun da => by
    show List.take ss.length (hashI ki sz (manyI (16 + da.getD 0 0).toNat ss)) = List.take (min ss.length (hashI ki sz (manyI (16 + da.getD 0 0 - 0).toNat ss)).length) (hashI ki sz (manyI (16 + da.getD 0 0 - 0).toNat ss))
    rw [Int.sub_zero]
    generalize hashI ki sz (manyI (16 + da.getD 0 0).toNat ss) = x
    exact List.take_eq_take_min
  rw [e1, e2, e3, prs_eq, rounds_rd]
  rfl
end
section
/-- the text of a row of six-bit numbers -/
def strOf (l : List Int) : Str := ⟨((l.map signI).map Int.toNat).toArray⟩
theorem strOf_app (a b : List Int) : strOf (a ++ b) = strOf a ++ strOf b := by
  show (⟨_⟩ : Str) = ⟨_⟩
  simp only [List.map_append, ← List.append_toArray]
  rfl
theorem dig_strOf (n : Int) (x : Int) (e : n % 64 = x) : dig n = strOf [x] := by
  have h : ∀ i : Nat, i < 64 → Txt.item (Str.ofString "./0123456789ABCDEFGHIJKLMNOPQRSTUVWXYZabcdefghijklmnopqrstuvwxyz") (i : Int) = strOf [(i : Int)] := by decide +kernel
  have h2 := Int.emod_nonneg n (show (64 : Int) ≠ 0 by decide)
  have h3 := Int.emod_lt_of_pos n (show (0 : Int) < 64 by decide)
  subst e
  have := h (n % 64).toNat (by omega)
  rw [Int.toNat_of_nonneg h2] at this
  unfold dig
  rw [Int.fmod_eq_emod_of_nonneg _ (by decide)]
  exact this
theorem d64 {x q r : Int} (e : x = q * 64 + r) (h0 : 0 ≤ r) (h1 : r < 64) : x / 64 = q ∧ x % 64 = r := by omega
theorem part64 (a : Int) : 0 ≤ a % 64 ∧ a % 64 < 64 := ⟨Int.emod_nonneg a (by decide), Int.emod_lt_of_pos a (by decide)⟩
theorem low_dig {q b r : Int} (h : 0 ≤ r ∧ r < 256) : q * 256 + r = (q * 4 + r / 64) * 64 + r % 64 := by
  have := Int.mul_ediv_add_emod r 64
  omega
theorem mid_dig {q b a : Int} (ha : 0 ≤ a ∧ a < 256) : 0 ≤ b % 16 * 4 + a / 64 ∧ b % 16 * 4 + a / 64 < 64 ∧ (q * 256 + b) * 4 + a / 64 = (q * 16 + b / 16) * 64 + (b % 16 * 4 + a / 64) := by
  omega
theorem top_dig {c b : Int} (hb : 0 ≤ b ∧ b < 256) : 0 ≤ c % 4 * 16 + b / 16 ∧ c % 4 * 16 + b / 16 < 64 ∧ c * 16 + b / 16 = c / 4 * 64 + (c % 4 * 16 + b / 16) := by
  omega
theorem four_dig {a b c X : Int} (ha : 0 ≤ a ∧ a < 256) (hb : 0 ≤ b ∧ b < 256) (hc : 0 ≤ c ∧ c < 256) (e : X = c * 65536 + b * 256 + a) : strOf (fourI a b c) = dig X ++ dig (X.fdiv 64) ++ dig ((X.fdiv 64).fdiv 64) ++ dig (((X.fdiv 64).fdiv 64).fdiv 64) := by
  simp only [Int.fdiv_eq_ediv_of_nonneg _ (show (0 : Int) ≤ 64 by decide)]
  have e0 : X = (c * 256 + b) * 256 + a := by rw [e]; omega
  obtain ⟨q1, r1⟩ := d64 (e0.trans (low_dig (b := 0) ha)) (part64 a).1 (part64 a).2
  obtain ⟨m1, m2, m3⟩ := mid_dig (q := c) (b := b) ha
  obtain ⟨q2, r2⟩ := d64 m3 m1 m2
  obtain ⟨t1, t2, t3⟩ := top_dig (c := c) hb
  obtain ⟨q3, r3⟩ := d64 t3 t1 t2
  have c4 : c / 4 % 64 = c / 4 := by omega
  rw [q1, q2, q3, dig_strOf X _ r1, dig_strOf _ _ r2, dig_strOf _ _ r3, dig_strOf _ _ c4, ← strOf_app, ← strOf_app, ← strOf_app]
  rfl
theorem two_dig {a b X : Int} (ha : 0 ≤ a ∧ a < 256) (hb : 0 ≤ b ∧ b < 256) (e : X = b * 256 + a) : strOf (encI [a, b]) = dig X ++ dig (X.fdiv 64) ++ dig ((X.fdiv 64).fdiv 64) := by
  simp only [Int.fdiv_eq_ediv_of_nonneg _ (show (0 : Int) ≤ 64 by decide)]
  obtain ⟨q1, r1⟩ := d64 (e.trans (low_dig (b := 0) ha)) (part64 a).1 (part64 a).2
  obtain ⟨m1, m2, m3⟩ := mid_dig (q := 0) (b := b) ha
  rw [Int.zero_mul, Int.zero_add, Int.zero_mul, Int.zero_add] at m3
  obtain ⟨q2, r2⟩ := d64 m3 m1 m2
  have c4 : b / 16 % 64 = b / 16 := by omega
  rw [q1, q2, dig_strOf X _ r1, dig_strOf _ _ r2, dig_strOf _ _ c4, ← strOf_app, ← strOf_app]
  rfl
theorem one_dig {a : Int} (ha : 0 ≤ a ∧ a < 256) : strOf (encI [a]) = dig a ++ dig (a.fdiv 64) := by
  simp only [Int.fdiv_eq_ediv_of_nonneg _ (show (0 : Int) ≤ 64 by decide)]
  rw [dig_strOf a (a % 64) (by omega), dig_strOf (a / 64) (a / 64) (by omega), ← strOf_app]
  rfl
theorem encI_app (r : List Int) : ∀ (n : Nat) (l : List Int), l.length = 3 * n → encI (l ++ r) = encI l ++ encI r
  | 0, l, h => by
    have : l = [] := List.length_eq_zero_iff.mp (by omega)
    subst this; rfl
  | n + 1, l, h => by
    match l, h with
    | a :: b :: c :: q, h =>
      simp only [List.cons_append, encI, List.append_assoc]
      rw [encI_app r n q (by simp only [List.length_cons] at h; omega)]
def triOff (tri : Nat → Int × Int × Int) : Nat → List Int
  | 0 => []
  | k + 1 => triOff tri k ++ [(tri k).2.2, (tri k).2.1, (tri k).1]
theorem triOff_length (tri : Nat → Int × Int × Int) : ∀ k, (triOff tri k).length = 3 * k
  | 0 => rfl
  | k + 1 => by rw [triOff, List.length_append, triOff_length tri k]; rfl
theorem getD_in {ks : List Int} (h : ∀ k ∈ ks, 0 ≤ k ∧ k < 256) (i : Nat) : 0 ≤ ks.getD i 0 ∧ ks.getD i 0 < 256 := by
  rw [List.getD_eq_getElem?_getD]
  rcases Nat.lt_or_ge i ks.length with hi | hi
  · rw [List.getElem?_eq_getElem hi]; exact h _ (List.getElem_mem hi)
  · rw [List.getElem?_eq_none hi]; exact ⟨by decide, by decide⟩
theorem sig_is {tri : Nat → Int × Int × Int} {ks : List Int} (h : ∀ k ∈ ks, 0 ≤ k ∧ k < 256) : ∀ k, strOf (encI (pickI ks (triOff tri k))) = sig tri ks k
  | 0 => rfl
  | k + 1 => by
    have hl : (pickI ks (triOff tri k)).length = 3 * k := by rw [List.length_map, triOff_length]
    rw [show pickI ks (triOff tri (k + 1)) = pickI ks (triOff tri k) ++ pickI ks [(tri k).2.2, (tri k).2.1, (tri k).1] from List.map_append, encI_app _ k _ hl, strOf_app, sig_is h k]
    show _ ++ strOf (encI [ks.getD (tri k).2.2.toNat 0, ks.getD (tri k).2.1.toNat 0, ks.getD (tri k).1.toNat 0]) = _
    rw [show encI [ks.getD (tri k).2.2.toNat 0, ks.getD (tri k).2.1.toNat 0, ks.getD (tri k).1.toNat 0] = fourI (ks.getD (tri k).2.2.toNat 0) (ks.getD (tri k).2.1.toNat 0) (ks.getD (tri k).1.toNat 0) from List.append_nil _]
    rw [four_dig (X := sgn ks (tri k).1 (tri k).2.1 (tri k).2.2) (getD_in h _) (getD_in h _) (getD_in h _) rfl, sig]
    simp only [Str.append_assoc]
theorem little_in : ∀ (n : Nat) (x : Int), ∀ k ∈ KTBy.little n x, 0 ≤ k ∧ k < 256
  | 0, _, k, h => by cases h
  | n + 1, x, k, h => by
    rcases List.mem_cons.mp h with rfl | h
    · exact ⟨Int.emod_nonneg _ (by decide), Int.emod_lt_of_pos _ (by decide)⟩
    · exact little_in n _ k h
theorem hashI_in (ki : Int) (n : Nat) (x : List Int) : ∀ k ∈ hashI ki n x, 0 ≤ k ∧ k < 256 := fun k hk => by unfold hashI at hk; exact little_in _ _ k (List.mem_reverse.mp hk)
theorem due_hash (ki : Int) (sz : Nat) (pk ss : List Int) (rn : Nat) : ∃ x, dueI ki sz pk ss rn = hashI ki sz x := by
  have key : ∀ (P S : List Int) (l : List Int) (x : List Int), ∃ y, l.foldl (roundI ki sz P S) (hashI ki sz x) = hashI ki sz y := by
    intro P S l
    induction l with
    | nil => exact fun x => ⟨x, rfl⟩
    | cons k l ih => exact fun x => ih _
  exact key _ _ _ _
theorem off256 (w : World) : offAt (KF w.params) 665 = triOff tri32 10 ++ [30, 31] := by kernel_rfl
theorem off512 (w : World) : offAt (KF w.params) 666 = triOff tri64 21 ++ [63] := by kernel_rfl
theorem told_due (w : World) (ki : Int) (sz : Nat) (pk ss : List Int) (rn : Nat) (hsz : sz = 32 ∨ sz = 64) :
    (⟨(toldI (KF w.params) (hashI ki sz) pk ss rn (offAt (KF w.params) (tpOf ((sz : Int) == 64)))).toArray⟩ : Str) = signsI (dueI ki sz pk ss rn) := by
  unfold toldI
  rw [last_eq w ki sz pk ss rn hsz]
  obtain ⟨x, hx⟩ := due_hash ki sz pk ss rn
  have hin := hashI_in ki sz x
  have hlen := hashI_length ki sz x
  rw [← hx] at hin hlen
  generalize dueI ki sz pk ss rn = ks at hin hlen
  rcases hsz with rfl | rfl
  · rw [show offAt (KF w.params) (tpOf (((32 : Nat) : Int) == 64)) = offAt (KF w.params) 665 from rfl, off256, show pickI ks (triOff tri32 10 ++ [30, 31]) = pickI ks (triOff tri32 10) ++ [ks.getD 30 0, ks.getD 31 0] from List.map_append]
    rw [encI_app _ 10 _ (by rw [List.length_map, triOff_length])]
    show strOf _ = _
    rw [strOf_app, sig_is hin, two_dig (X := ks.getD 31 0 * 256 + ks.getD 30 0) (getD_in hin _) (getD_in hin _) rfl, signsI, if_pos hlen, signs32]
    simp only [Str.append_assoc]
  · rw [show offAt (KF w.params) (tpOf (((64 : Nat) : Int) == 64)) = offAt (KF w.params) 666 from rfl, off512, show pickI ks (triOff tri64 21 ++ [63]) = pickI ks (triOff tri64 21) ++ [ks.getD 63 0] from List.map_append]
    rw [encI_app _ 21 _ (by rw [List.length_map, triOff_length])]
    show strOf _ = _
    rw [strOf_app, sig_is hin, one_dig (getD_in hin _), signsI, if_neg (by omega), signs64]
    simp only [Str.append_assoc]
end
section
open LCg
theorem lawRest : ∀ (w : World) (p : Program) (loose : List Str) (mean : ExcName → Option Value) (mg mb : Str → Option Value) (D : Addr) (nd : Nat) (ws : List Value) (ms : List Int) (o1 o2 o3 o4 o5 o6 o7 : Obj) (v4 v5 : Option Value) (bi ci ki : Int) (tb tc tk ts : Tok) (sz : Nat) (m1 : Str → Option Value)
  (dp un : Nat) (gd : Option (List Code)) (A₀ : Around) (base h₀ : Heap) (L : Addr) (s : Shared) (Q : Flow → Shared → Prop) (E : Value → Shared → Prop)
  (B : Below A₀ base [] h₀) (F : Fr h₀ L s.heap (fun y => if y = Str.ofString "c" then some (.int ci tc) else m1 y)) (X : (KF w.params).In h₀) (T : Top p loose mean mg mb h₀) (XB : (KF w.params).In base) (TB : Top p loose mean mg mb base)
  (N : News h₀ L s.heap [(D, listOf ws.toArray nd), (L + 1, o1), (L + 1 + 1, o2), (L + 1 + 1 + 1, o3), (L + 1 + 1 + 1 + 1, o4), (L + 1 + 1 + 1 + 1 + 1, o5), (L + 1 + 1 + 1 + 1 + 1 + 1, o6), (L + 1 + 1 + 1 + 1 + 1 + 1 + 1, o7), (123, tabObj #[]), (669, tabObj #[]), (733, tabObj #[])]) (hdp : dp + 90 < recursionLimit) (hun : un + 400 < cLine)
  (a1 : IntsAre ws ms) (a2 : ws.length ≤ 63) (a3 : 0 ≤ ki) (a4 : ki < 3) (a5 : sz = 32 ∨ sz = 64) (e2 : o2.data = .cell (some (.int bi tb))) (e3 : o3.data = .cell (some (.ref D))) (h4 : o4.data = .cell v4) (h5 : o5.data = .cell v5) (e6 : o6.data = .cell (some (.int ki tk))) (e7 : o7.data = .cell (some (.int (sz : Int) ts))) (a6 : @LT.lt Nat _ (L + 1 + 1 + 1 + 1 + 1 + 1 + 1) D) (hC : CodeHd h₀ 735 733) (h123 : @LT.lt Nat _ 123 L) (h669 : @LT.lt Nat _ 669 L) (h733 : @LT.lt Nat _ 733 L)
  (hret : ∀ (h' : Heap) (tk' : Nat) (gs' : Array GenState) (m' : Str → Option Value), GK s.gens gs' → Fr h₀ L h' m' → (∃ ps, h'.get? 123 = some (tabObj ps)) → (∃ ps, h'.get? 669 = some (tabObj ps)) → (∃ ps, h'.get? 733 = some (tabObj ps)) → Q (.ret (.bool true)) { s with heap := h', toks := tk', gens := gs' }),
  wpAny (model rw_iw0011_01.row.prog w) (lwA (KF w.params) L dp un gd []) (execs ((bodyAt (KF w.params) 736).drop 4) (lwE (KF w.params) L)) Q E s := by
  intro w p loose mean mg mb D nd ws ms o1 o2 o3 o4 o5 o6 o7 v4 v5 bi ci ki tb tc tk ts sz m1 dp un gd A₀ base h₀ L s Q E B F X T XB TB N hdp hun a1 a2 a3 a4 a5 e2 e3 h4 h5 e6 e7 a6 hC h123 h669 h733 hret
  refine lB w p loose mean mg mb D nd ws ms o1 o2 o3 o4 o5 o6 o7 v4 v5 bi ci ki tb tc tk ts sz m1 dp un gd [] A₀ base h₀ L _ Q E B F X T N (by omega) (by omega) a1 a2 e2 e3 h4 h5 e6 e7 a6 h123 h669 h733 ?_
  intro hB tkB bs tbs pk cs tcs trn rn p4 p5 m2 b1 b2 b3 b4 b5 b6 e4 e5 FB NB
  refine lC w p loose mean mg mb o1 o2 o3 p4 p5 o6 o7 ci tc bs tbs pk rn trn m2 dp un gd [] A₀ base h₀ L _ Q E B FB X T NB (by omega) (by omega) b1 b2 b3 e4 h123 h669 h733 ?_
  intro hC' tkC bs' tbs' pk' v q4 m3 c1 c2 c3 c4 f4 FC NC
  refine lD w p loose mean mg mb o1 o2 o3 q4 p5 o6 o7 bi ki tb tk ts sz bs' tbs' pk' v cs tcs rn trn m3 dp un gd [] A₀ base h₀ L _ Q E B FC X T NC (by omega) (by omega) c1 c2 c3 c4 b4 b5 b6 a3 a4 a5 e2 f4 e5 e6 e7 hC h123 h669 h733 (fun ss _ => told_due w ki sz pk' ss rn a5) ?_
  intro hD tkD gsD ps1 ps2 ps3 m4 hg FD ND
  refine lE w p loose mean mg mb o1 o2 o3 q4 p5 o6 o7 bi tb bs' tbs' pk' cs tcs ps1 ps2 ps3 m4 dp un gd A₀ base h₀ L _ Q E B FD X T XB TB ND hdp hun c1 c3 c4 b4 b5 e2 f4 e5 h123 h669 h733 ?_
  intro hE tkE mE FE t1 t2 t3
  exact hret hE tkE gsD mE hg FE t1 t2 t3
end
section
open PySem.Calls
theorem fin_forget : ∀ {g : GenState}, g.forget = .finished → g = .finished
  | .finished, _ => rfl
  | .fresh _, h => by cases h
  | .running, h => by cases h
  | .suspended .., h => by cases h
theorem gens_back {a b : Array GenState} (e : a.map GenState.forget = b.map GenState.forget) {i : Nat} (h : b[i]? = some .finished) : a[i]? = some .finished := by
  have e2 : (a.map GenState.forget)[i]? = some .finished := by rw [e, Array.getElem?_map, h]; rfl
  rw [Array.getElem?_map] at e2
  obtain ⟨g, h1, h2⟩ := Option.map_eq_some_iff.mp e2
  rw [h1, fin_forget h2]
theorem all_bare {g : Array GenState} (h : ∀ x ∈ g, match x with | .finished => True | _ => False) : ∀ x ∈ g, x.bare = true := fun x hx => by
  have := h x hx
  cases x <;> first | rfl | exact this.elim
theorem callF {c : ClaimW} {tree : List Value → Sem Fin} {w : World} {s : Shared} {free : Addr → Prop} {gens : Prop} {kept : Heap → Prop} (hz : s.asleep) (hfin : ∀ x ∈ s.gens, match x with | .finished => True | _ => False)
    (hspec : ∀ args, c.pre args = true → WData.layableAll args = true → ∀ ord : List DictEntry → List DictEntry, (∀ l, (ord l).Perm l) →
      ∃ vs s₁, layAllW c.records (classAt s.heap) w.params ord args s = some (vs, s₁) ∧
        wpAny (model c.prog w) callerA (tree vs) (fun fin s' => ∃ f, fin = .done f ∧ (c.Ends s args vs s₁ (.ok f) s' ∧ s'.os = s.os ∧ GK s₁.gens s'.gens ∧ kept s'.heap))
          (fun e s' => c.Ends s args vs s₁ (.error e) s' ∧ s'.os = s.os ∧ GK s₁.gens s'.gens ∧ kept s'.heap) s₁) :
    c.CallFrom (fun vs => ⟨tree vs, .builtin "claim.caller" {}, default, []⟩) w free gens kept s := by
  intro args hpre hlay ord hord
  obtain ⟨vs, s₁, hlaid, hcode⟩ := hspec args hpre hlay ord hord
  have hal := layAllW_rest _ _ _ hlaid
  have hg1 : s₁.gens = s.gens := hal.1
  have hb : ∀ x ∈ s₁.gens, x.bare = true := by rw [hg1]; exact all_bare hfin
  obtain ⟨k, r, s', s'', hrun, hsched, hfo, hcase, hos, hgk, hkp⟩ := thread_ends_bothG (prog := c.prog) (w := w) (t := tree vs) (s := s₁)
    (R := fun r s' => c.Ends s args vs s₁ r s' ∧ s'.os = s.os ∧ GK s₁.gens s'.gens ∧ kept s'.heap) (Shared.asleep_of_life hal.2.2.2 hz)
    (wpAny_mono hcode (by
      rintro fin s' ⟨f, e, h⟩
      exact ⟨f, e, h, leftWithCleanup_false_of_bare (h.2.2.1.1 hb)⟩) (by
      intro e s' h
      exact ⟨h, leftWithCleanup_false_of_bare (h.2.2.1.1 hb)⟩))
  obtain ⟨eh, _, _, eo, eg⟩ := Shared.forget_eq hfo
  have hcase := hcase.congr eh
  rw [← eh] at hkp
  rw [← eo] at hos
  have hlife : s'.heap.life = s.heap.life := (runN_life _ _ _ hrun).trans hal.2.2.2
  refine ⟨vs, s₁, hlaid, k, _, s', hsched, ?_, (fun _ i x hx => ?_), hkp, by rw [hlife], Shared.rest_eq hos⟩
  · rcases hcase with ⟨v, rfl, d1, d2, d3, d4, d5⟩ | ⟨e, ob, cls, rfl, d1, d2, d3, d4, d5⟩
    · exact .inl ⟨v, rfl, d1, d2, d3, fun b o y _ => d4 b o y, d5⟩
    · exact .inr ⟨e, ob, cls, rfl, d1, d2, d3, d4, fun b o y _ => d5 b o y⟩
  · have hx2 := hfin x (Array.mem_of_getElem? hx)
    obtain rfl : x = .finished := by cases x <;> first | rfl | exact hx2.elim
    exact gens_back eg (hgk.2 i (by rw [hg1]; exact hx))
theorem endsF {c : ClaimW} {s₀ s₁ s' : Shared} {args : List WData} {vs : List Value} {as : List Addr} {r : Result} (hsame : c.same = none) (hwi : c.within = []) (hi : ∀ a b, c.ident a b = true)
    (hrd : ReadsAllW c.records (classAt s₀.heap) s₁.heap vs args as) (hold : ∀ a ∈ as, ∃ o, s₁.heap.get? a = some o) (hos : s₁.os = s₀.os) (g : GoodWG c (classAt s₀.heap) (ExcName.means s₀.heap) args s₁ r s') : c.Ends s₀ args vs s₁ r s' ∧ s'.os = s₀.os := by
  obtain ⟨hcase, hK, hos', -⟩ := g
  refine ⟨?_, hos'.trans hos⟩
  rcases hcase with ⟨v, d, bs, rfl, h1, h2, h3, h4⟩ | ⟨e, ob, cls, rfl, h1, h2, h3, h4⟩
  · refine .inl ⟨v, rfl, h1, ⟨d, args, bs, as, h2, hrd.keepsK fun b o e hc => hK.get_of_cls e hc, h3, fun hu => ⟨(h4 hu).1, (h4 hu).2, fun a ha hb => ?_⟩, fun _ _ => hi _ _⟩, (fun i hi' => by rw [hsame] at hi'; cases hi'), (fun b o hb _ _ => hK.old b o hb), fun i hi' => by rw [hwi] at hi'; cases hi'⟩
    obtain ⟨o, ho⟩ := hold a hb
    rw [(h4 hu).2 a ha] at ho
    cases ho
  · exact .inr ⟨e, ob, cls, rfl, h1, h2, h3, h4, fun b o hb => hK.old b o hb⟩
/-- an open row whose top leaves ended generators, and whose call makes some more -/
theorem holdsF {r : OpenRow} {q : Program} {loose : List Str} {Xt : Shared → Bool} {XP : (Str → Option Value) → Heap → Prop} {α : Type} {Yf : Shared → α} {Ya : World → α} {YP : World → Heap → Prop} {d : DefRec} {kwd : List (Str × Expr)} {N : Nat}
    (left : LeftO r.prog q loose Xt Yf Ya N false) (hY : ∀ w s, Yf s = Ya w → YP w s.heap) (hYk : ∀ w h h', YP w h → (∀ b o, h.get? b = some o → h'.get? b = some o) → YP w h')
    (hX : ∀ s, Xt s = true → XP (s.heap.nsMap mainGlobals) s.heap) (hXk : ∀ mg h h', XP mg h → (∀ b o, h.get? b = some o → h'.get? b = some o) → XP mg h')
    (hdef : defOf q r.name = some (d, kwd)) (hp : r.prog.theDef r.name = some (d.params, d.body, d.scope)) (hk : kwWritten? d.params.kwonlyargs d.params.kw_defaults = some kwd) (hRf : ∀ s, Xt s = true → RecFacts r.records s.heap) (hwr : (!r.writes || r.records.isEmpty) = true)
    (k1 : r.wellSaid = true) (ok : (chainsOk q && opensWell r.prog && (frees r.toRowW && r.within.isEmpty)) = true) (hb : r.prog.bare) (hw : r.toRowW.promised)
    (walk : ∀ (w : World) (s₀ s₁ : Shared) (mg mb : Str → Option Value), Ground q loose r.records XP w s₀ mg mb s₁.heap → YP w s₁.heap → ∀ (a : Addr) (o : Obj) (pm cd doc dV kV : Value), s₁.heap.get? a = some o →
      o.data = .func { docDef d.name d.params d.body d.scope pm cd doc with defaults := dV, kwdefaults := kV } → s₁.heap.CodeRec cd d.name → Dflts mg s₁.heap d.params kwd dV kV → mg d.name = some (.ref a) → (∀ x ∈ s₁.gens, x.bare = true) →
      ∀ (args : List WData) (vals : List Value) (as : List Addr), r.toRowW.claim.pre args = true → WData.layableAll args = true → ReadsAllW r.records (classAt s₀.heap) s₁.heap vals args as → WellAll w.params s₁.heap vals args → (∀ a ∈ as, (a == sysModules) = false) → (∃ ord, layAllW r.records (classAt s₀.heap) w.params ord args s₀ = some (vals, s₁)) →
        wpAny (model r.prog w) callerA (PySem.call (.ref a) vals) (fun v s' => GoodWG r.toRowW.claim (classAt s₀.heap) (ExcName.means s₀.heap) args s₁ (.ok (.ret v)) s' ∧ GK s₁.gens s'.gens)
          (fun e s' => GoodWG r.toRowW.claim (classAt s₀.heap) (ExcName.means s₀.heap) args s₁ (.error e) s' ∧ GK s₁.gens s'.gens) s₁) : r.Holds := by
  obtain ⟨ok, k5⟩ := Bool.and_eq_true_iff.mp ok
  obtain ⟨hch, o1⟩ := Bool.and_eq_true_iff.mp ok
  obtain ⟨k5, k6⟩ := Bool.and_eq_true_iff.mp k5
  obtain ⟨hsame, hu, ha, hap, hm⟩ := frees_parts k5
  refine ⟨k1, hw, ⟨hb, o1, by show r.makers.map _ = []; rw [hm]; rfl⟩, hw.witness, fun w => ⟨(left.behind hX hch w).1, fun s' hs' => ?_⟩⟩
  obtain ⟨s₀, hf, hg0, s, hT, hz, hgens, hg, G00, y⟩ := (left.behind (XP := fun mg h => XP mg h ∧ RecFacts r.records h) (fun s hs => ⟨hX s hs, hRf s hs⟩) hch w).2 s' hs'
  have G0 : Ground q loose [] XP w s (s.heap.nsMap mainGlobals) (s.heap.nsMap builtinsNs) s.heap := ⟨G00.T, G00.B, G00.D, G00.TE, G00.TD, G00.W, G00.X.1, G00.cls, G00.has, G00.apart, G00.once, G00.K⟩
  have RF := G00.X.2
  refine ⟨s₀, hf, hg0, s, hT, fun n hn => ?_, RF.1, RF.2.1, ?_⟩
  · obtain rfl : n = r.name := by split at hn <;> simp_all
    exact pinned_of_view hg G0 hdef hp hk
  have hfin : ∀ x ∈ s.gens, match x with | .finished => True | _ => False := hT.2.2.2.2.2.2.2.2.2.1
  have G : Ground q loose r.records XP w s _ _ s.heap := RF.ground G0
  refine callF (c := r.toRowW.claim) (tree := fun vs => do match ← nsGet mainNs r.name with
      | some f => do ret (← PySem.call f vs)
      | none => unsupported "claim.caller:no-such-global") hz hfin fun args hpre hlay ord hord => ?_
  obtain ⟨⟨vs, s₁⟩, hlaid⟩ := Option.isSome_iff_exists.mp (layAllW_isSome (P := w.params) (ord := ord) G.has args r.args s (pre_splitW hpre).1)
  have keeps := layAllW_keeps _ _ _ hlaid
  have hal := layAllW_rest _ _ _ hlaid
  obtain ⟨as, hrd, hin, hold⟩ := reads_layAllW hord _ _ _ hlaid hlay s₁.heap (fun _ _ e => e)
  have G₁ := G.keeps hXk keeps
  have hi := ident_freeW hu ha hap
  have hwi : r.toRowW.claim.within = [] := List.isEmpty_iff.mp k6
  obtain ⟨a, o, pm, cd, doc, dV, kV, q1, q2, q3, q4, q5⟩ := G₁.fn hdef
  have hb1 : ∀ x ∈ s₁.gens, x.bare = true := by rw [show s₁.gens = s.gens from hal.1]; exact all_bare hfin
  have h := walk w s s₁ _ _ G₁ (hYk _ _ _ (hY w s y) keeps) a o pm cd doc dV kV q2 q3 q4 q5 (defOf_name hdef ▸ q1) hb1 args vs as hpre hlay hrd (well_layAllW hord args s _ hlaid _ fun _ _ e => e)
    (fun a ha => beq_eq_false_iff_ne.mpr fun e => by have := (hin.2.2 a ha).1; subst e; exact absurd G.low (Nat.not_lt.mpr this)) ⟨ord, hlaid⟩
  refine ⟨vs, s₁, hlaid, wpAny_bind (wpAny_nsGet G₁.T.g ?_)⟩
  rw [q1]
  refine wpAny_bind (wpAny_mono h (fun v s' g => wpAny_pure ?_) fun e s' g => ?_)
  · have z := endsF (c := r.toRowW.claim) hsame hwi hi hrd hold hal.2.2.1 g.1
    exact ⟨_, rfl, z.1, z.2, g.2, fun q => ⟨namesKept_of hT hg r.keeps keeps g.1.2.1.old, noTable hwr q⟩⟩
  · have z := endsF (c := r.toRowW.claim) hsame hwi hi hrd hold hal.2.2.1 g.1
    exact ⟨z.1, z.2, g.2, fun q => ⟨namesKept_of hT hg r.keeps keeps g.1.2.1.old, noTable hwr q⟩⟩
end
section
theorem zw_Lt_1 : True := by
  k_with_none
  k_with "exec Assign" => (k_here; (fail_if_success (with_reducible show wpAny _ _ _ (CutQ _) _ _)); (refine cutQ fun cutQ0 cutH0 => ?_))
  k_with "exec AugAssign" => (k_here; (fail_if_success (with_reducible show wpAny _ _ _ (CutQ _) _ _)); (refine cutQ fun cutQ0 cutH0 => ?_))
  k_with "exec Expr" => (k_here; (fail_if_success (with_reducible show wpAny _ _ _ (CutQ _) _ _)); (refine cutQ fun cutQ0 cutH0 => ?_))
  k_with "CutQ" => ((with_reducible rename (∀ f s', _ → CutQ _ f s') => cutH1); (refine cutH1 _ _ ?_); clear cutH1; (try dsimp only))
  trivial
open LCg PySem.Calls
section
variable {h : Heap} {sc : Addr} {vs : List Value} {n : Nat}
/-- the heap without the three tables and the script -/
abbrev bareH (h : Heap) (sc : Addr) : Heap := hideAll h [123, 669, 733, sc]
structure OnTop (h : Heap) (sc : Addr) (vs : List Value) (n : Nat) : Prop where
  tabs : ∀ P ∈ ([123, 669, 733] : List Addr), h.get? P = some (tabObj #[])
  script : h.get? sc = some (listOf vs.toArray n)
theorem OnTop.get (O : OnTop h sc vs n) {b : Addr} {o : Obj} (e : h.get? b = some o) (n1 : o ≠ tabObj #[]) (n2 : o ≠ listOf vs.toArray n) : (bareH h sc).get? b = some o := by
  refine hideAll_get _ e fun hm => ?_
  simp only [List.mem_cons, List.not_mem_nil, or_false] at hm
  rcases hm with rfl | rfl | rfl | rfl
  · exact n1 (Option.some.inj (e.symm.trans (O.tabs 123 (by simp))))
  · exact n1 (Option.some.inj (e.symm.trans (O.tabs 669 (by simp))))
  · exact n1 (Option.some.inj (e.symm.trans (O.tabs 733 (by simp))))
  · exact n2 (Option.some.inj (e.symm.trans O.script))
theorem OnTop.ns (O : OnTop h sc vs n) {a : Addr} {mm : Str → Option Value} (x : h.Ns a mm) : (bareH h sc).Ns a mm :=
  let ⟨o, es, ep, e, hd, r⟩ := x; ⟨o, es, ep, O.get e (fun q => by rw [q] at hd; cases hd) (fun q => by rw [q] at hd; cases hd), hd, r⟩
def noLists (K : Frag) : Bool := noTabs K && K.all fun p => match p.2.cls with
  | .type c => c != "list"
  | _ => true
theorem OnTop.K (O : OnTop h sc vs n) {K : Frag} (X : K.In h) (hK : noLists K = true) : K.In (bareH h sc) := fun a o e => by
  obtain ⟨k1, k2⟩ := Bool.and_eq_true_iff.mp hK
  refine O.get (X a o e) (fun q => ?_) fun q => ?_
  · have h2 := List.all_eq_true.mp k1 (a, o) (mem_of_lookupK e)
    subst q
    exact absurd (show false = true from h2) Bool.false_ne_true
  · have h2 := List.all_eq_true.mp k2 (a, o) (mem_of_lookupK e)
    subst q
    exact absurd (show ("list" != "list") = true from h2) (by decide)
theorem OnTop.top (O : OnTop h sc vs n) {p : Program} {loose : List Str} {mean : ExcName → Option Value} {mg mb : Str → Option Value} (T : Top p loose mean mg mb h) :
    Top topProg (loose ++ (recsOf p).map (·.name) ++ (litsOf p).map (·.1) ++ (clssOf p loose).map (·.name)) mean mg mb (bareH h sc) where
  g := O.ns T.g
  b := O.ns T.b
  nolimit := let ⟨mc, a, r⟩ := T.nolimit; ⟨mc, O.ns a, r⟩
  nodigits := let ⟨mc, a, r⟩ := T.nodigits; ⟨mc, O.ns a, r⟩
  fn := fun d hd => absurd (show d ∈ ([] : List DefRec) from hd) List.not_mem_nil
  own := fun o ho => absurd (show o ∈ ([] : List OwnSpec) from ho) List.not_mem_nil
  const := fun x d e => by cases (show (none : Option PyData) = some d from e)
  free := fun x h1 h2 _ _ _ => T.free x h1 (fun q => h2 (List.mem_append_left _ (List.mem_append_left _ (List.mem_append_left _ q))))
    (fun q => h2 (List.mem_append_left _ (List.mem_append_left _ (List.mem_append_right _ q)))) (fun q => h2 (List.mem_append_left _ (List.mem_append_right _ q))) fun q => h2 (List.mem_append_right _ q)
  builtins := T.builtins
  tab := fun d hd => absurd (show d ∈ ([] : List DefRec) from hd) List.not_mem_nil
  bmain := let ⟨bm, ob, a1, a2, a3, a4, r⟩ := T.bmain; ⟨bm, ob, a1, a2, O.get a3 (fun q => by rw [q] at a4; cases a4) (fun q => by
    rw [q] at a4
    have e5 : "list" = "module" := Value.type.inj a4
    exact absurd e5 (by decide)), a4, r⟩
  seer := fun e => absurd (show false = true from e) Bool.false_ne_true
theorem OnTop.codeHd (O : OnTop h sc vs n) {c P : Addr} (x : CodeHd h c P) : CodeHd (bareH h sc) c P := by
  obtain ⟨o, vs, file, tf, flags, tg, inF, text, tt, e1, r1, r2, r3, r4, r5, r6, r7, r8, hne⟩ := x
  exact ⟨o, vs, file, tf, flags, tg, inF, text, tt, O.get e1 (fun q => by rw [q] at r1; cases r1) (fun q => by rw [q] at r2; cases r2), r1, r2, r3, r4, r5, r6, r7, r8, hne⟩
theorem OnTop.fr (_O : OnTop h sc vs n) {L : Addr} {h₁ : Heap} {m : Str → Option Value} (F : Fr h L h₁ m) : Fr (bareH h sc) L h₁ m := ⟨F.ns, fun b o e => F.keep b o (of_hideAll _ e), Nat.le_trans (Nat.le_of_eq (hideAll_size _ _)) F.above⟩
theorem OnTop.news (O : OnTop h sc vs n) {L : Addr} {h₁ : Heap} {m : Str → Option Value} {news : List (Addr × Obj)} (F : Fr h L h₁ m) (N : News h L h₁ news) : News (bareH h sc) L h₁ ((sc, listOf vs.toArray n) :: (news ++ [(123, tabObj #[]), (669, tabObj #[]), (733, tabObj #[])])) := by
  have old : ∀ b o, h.get? b = some o → b ∈ ([123, 669, 733, sc] : List Addr) → (h₁.get? b = some o ∧ b ≠ L ∧ (bareH h sc).get? b = none) := fun b o e hm =>
    ⟨F.keep _ _ e, Nat.ne_of_lt (Nat.lt_of_lt_of_le (Heap.lt_size e) F.above), hideAll_none _ hm⟩
  intro q hq
  rcases List.mem_cons.mp hq with rfl | hq
  · exact old _ _ O.script (by simp)
  rcases List.mem_append.mp hq with hq | hq
  · refine ⟨(N q hq).1, (N q hq).2.1, ?_⟩
    cases e : (bareH h sc).get? q.1 with
    | none => rfl
    | some o => have := of_hideAll _ e; rw [(N q hq).2.2] at this; cases this
  · simp only [List.mem_cons, List.not_mem_nil, or_false] at hq
    rcases hq with rfl | rfl | rfl
    · exact old _ _ (O.tabs 123 (by simp)) (by simp)
    · exact old _ _ (O.tabs 669 (by simp)) (by simp)
    · exact old _ _ (O.tabs 733 (by simp)) (by simp)
end
section
variable {prog : Program} {w : World} {s : Shared} {K : Frag} {mg mb : Str → Option Value} {p : Program} {loose : List Str} {mean : ExcName → Option Value}
  {R : Result → Shared → Prop} {name qual : Str} {params : Arguments} {body : List Stmt} {scope : Scope} {dV kV doc pm cdv ct oc : Value} {an od : Option Addr} {osl : Array (Option Value)} {f : Addr} {args : Args} {binds : List (Str × Value)}
/-- a def with cells entered by the claim's caller -/
theorem enterTop (X₀ : K.In s.heap) (T : Top p loose mean mg mb s.heap)
    (ho : K.lookup f = some ⟨oc, od, .func (fnOf name qual params body scope dV kV doc pm an cdv ct), osl⟩) (hcd : codeIn K cdv qual = true) (hroom : callerA.depth < recursionLimit)
    (hbind : BindsTo s (fnOf name qual params body scope dV kV doc pm an cdv ct) args binds) (hkind : (binds.all fun y => scope.names.lookup y.1 == some .local || scope.names.lookup y.1 == some .cell) = true)
    (hnd : ((cellsFrom 0 scope.names []).map (·.1)).Nodup)
    (h : ∀ L' h₁ tk cells, Fr s.heap L' h₁ (bindL (envOfC qual scope L' f cdv).kindOf binds fun _ => none) → News s.heap L' h₁ cells →
      CellsAre (bindC (envOfC qual scope L' f cdv).kindOf binds fun _ => none) (cellsFrom (L' + 1) scope.names []) cells →
      wpAny (model prog w) (callerA.deeper (envOfC qual scope L' f cdv)) (execs body (envOfC qual scope L' f cdv))
        (fun fl s' => R (.ok (.ret (match fl with | .ret v => v | _ => .none))) s')
        (fun e s' => wpAny (model prog w) (callerA.deeper (envOfC qual scope L' f cdv)) (leaving (envOfC qual scope L' f cdv) e) (fun _ s'' => R (.error e) s'') (fun e' s'' => R (.error e') s'') s')
        { s with heap := h₁, toks := tk })
    (hco : scope.isCoroutine = false) (hgen : scope.isGenerator = false) (hk : scope.kind = .function) : codeAny (model prog w) callerA (.call (.ref f) args) R s := by
  refine codeAny_call_function hroom (X₀ _ _ ho) rfl hco hgen rfl (codeRec_of X₀ hcd) (hbind _ _ _ _ ?_)
  refine wpAny_newFunctionEnv_cells hk (kindsX hkind _) fun env' he s' x => ?_
  subst he
  refine ⟨T.nolimit.keeps x.toInCall.keep, codeAny_func ?_⟩
  obtain ⟨h₁, tk, rfl, _⟩ := x.done
  have hk₁ := x.toInCall.keep
  obtain ⟨cells, NC, Y⟩ := Cl.news (h₀ := s.heap) (Nat.le_refl _) fun n c hm => ⟨x.cell n c (lookup_of_mem_nodup (cellsFrom_names scope.names 0 (s.heap.objs.size + 1) [] [] rfl ▸ hnd) hm), x.above n c hm⟩
  exact h s.heap.objs.size h₁ tk cells ⟨x.toInCall.ns, hk₁, Nat.le_refl _⟩ (fun p hp => NC p hp) Y
end
theorem lawCall : ∀ (w : World) (p : Program) (loose : List Str) (mean : ExcName → Option Value) (mg mb : Str → Option Value) (sc : Addr) (nsc : Nat) (vs : List Value) (ns : List Int) (s : Shared) (R : Result → Shared → Prop)
    (T : Top p loose mean mg mb s.heap) (X : (KF w.params).In s.heap) (O : OnTop s.heap sc vs nsc) (hns : IntsAre vs ns) (hl : vs.length ≤ 63)
    (hret : ∀ (h' : Heap) (tk' : Nat) (gs' : Array GenState), GK s.gens gs' → (∀ b o, (ghostOf s.heap [(125, 123), (671, 669), (735, 733)]).get? b = some o → h'.get? b = some o) → (∃ ps, h'.get? 123 = some (tabObj ps)) → (∃ ps, h'.get? 669 = some (tabObj ps)) → (∃ ps, h'.get? 733 = some (tabObj ps)) →
      R (.ok (.ret (.bool true))) { s with heap := h', toks := tk', gens := gs' }),
    codeAny (model rw_iw0011_01.row.prog w) callerA (.call (.ref 736) ⟨[.ref sc], []⟩) R s := by
  k_fill
  intro w p loose mean mg mb sc nsc vs ns s R T X O hns hl hret
  k_dflt (refine' enterTop (binds := [(Str.ofString "script", .ref sc)]) X T ?k6 ?k7 ?k8 ?k9 ?kB ?kD ?_ ?c2 ?c3 ?c4; (case k6 => k_is); (case k7 => k_is); (case k8 => decide +kernel); (case k9 => first | exact BindsTo.of_eq rfl | exact binds_K (by k_in) rfl (by k_is) rfl rfl rfl); (case kB => exact rfl); (case kD => decide +kernel); (case c2 => exact rfl); (case c3 => exact rfl); (case c4 => exact rfl); k_whole; intro L' h' tk' cells' F' N' Y'; k_cells Y'; (try simp only [List.cons_append, List.nil_append] at N'); (try dsimp only))
  rename_i q7 q6 q5 q4 q3 q2 q1 d7 d6 d5 d4 d3 d2 d1
  have l123 : @LT.lt Nat _ 123 L' := Nat.lt_of_lt_of_le (Heap.lt_size (O.tabs 123 (by simp))) F'.above
  have l669 : @LT.lt Nat _ 669 L' := Nat.lt_of_lt_of_le (Heap.lt_size (O.tabs 669 (by simp))) F'.above
  have l733 : @LT.lt Nat _ 733 L' := Nat.lt_of_lt_of_le (Heap.lt_size (O.tabs 733 (by simp))) F'.above
  have lsc : @LT.lt Nat _ sc L' := Nat.lt_of_lt_of_le (Heap.lt_size O.script) F'.above
  have N0 : News s.heap L' h' [(L' + 1, q1), (L' + 1 + 1, q2), (L' + 1 + 1 + 1, q3), (L' + 1 + 1 + 1 + 1, q4), (L' + 1 + 1 + 1 + 1 + 1, q5), (L' + 1 + 1 + 1 + 1 + 1 + 1, q6), (L' + 1 + 1 + 1 + 1 + 1 + 1 + 1, q7)] := by
    intro q hq
    simp only [List.mem_cons, List.not_mem_nil, or_false] at hq
    rcases hq with rfl | rfl | rfl | rfl | rfl | rfl | rfl <;> exact N' _ (by simp)
  have N8 := O.news F' N0
  simp only [List.cons_append, List.nil_append] at N8
  have hT : TabsAt [(125, 123), (671, 669), (735, 733)] s.heap := by
    intro q hq
    simp only [List.mem_cons, List.not_mem_nil, or_false] at hq
    rcases hq with rfl | rfl | rfl
    · exact ⟨codeHd_of_K X (by kernel_rfl), O.tabs 123 (by simp)⟩
    · exact ⟨codeHd_of_K X (by kernel_rfl), O.tabs 669 (by simp)⟩
    · exact ⟨codeHd_of_K X (by kernel_rfl), O.tabs 733 (by simp)⟩
  have X8 := ghost_K hT X (by kernel_rfl)
  have T8 := ghost_top hT T
  have C8 := (ghost_code hT).2.2.1
  have hdp : callerA.depth + 1 + 90 < recursionLimit := by decide +kernel
  have hun : callerA.units + 3 + 400 < cLine := by decide +kernel
  refine lA w _ _ _ _ _ sc nsc vs ns q1 q2 q3 q4 q5 q6 q7 _ _ _ _ _ _ _ (callerA.depth + 1) (callerA.units + 3) (some []) [] callerA (bareH s.heap sc) (bareH s.heap sc) L' _ _ _ (below_caller _) (O.fr F') (O.K X (by kernel_rfl)) (O.top T) N8 (by omega) (by omega) d1 d2 d3 d4 d5 d6 d7 hns hl lsc l123 l669 l733 ?_
  intro hA tkA D nd ws ms p2 p3 p6 p7 bi ci ki tb tc tk ts sz m1 a0 a1 a2 a3 a4 a5 e2 e3 e6 e7 a6 FA NA
  have FG : Fr (ghostOf s.heap [(125, 123), (671, 669), (735, 733)]) L' hA (fun y => if y = Str.ofString "c" then some (.int ci tc) else m1 y) := by
    refine ⟨FA.ns, fun b o e => ?_, Nat.le_trans (Nat.le_of_eq (hideAll_size _ _)) F'.above⟩
    by_cases hb : b = sc
    · subst hb
      have := of_hideAll _ e
      rw [O.script] at this
      rw [← this]; exact a0
    · refine FA.keep b o (hideAll_get _ (of_hideAll _ e) fun hm => ?_)
      simp only [List.mem_cons, List.not_mem_nil, or_false] at hm
      have e2 := e
      rcases hm with rfl | rfl | rfl | hm
      · rw [hideAll_none _ (by simp)] at e; cases e
      · rw [hideAll_none _ (by simp)] at e; cases e
      · rw [hideAll_none _ (by simp)] at e; cases e
      · exact hb hm
  have NG : News (ghostOf s.heap [(125, 123), (671, 669), (735, 733)]) L' hA [(D, listOf ws.toArray nd), (L' + 1, q1), (L' + 1 + 1, p2), (L' + 1 + 1 + 1, p3), (L' + 1 + 1 + 1 + 1, q4), (L' + 1 + 1 + 1 + 1 + 1, q5), (L' + 1 + 1 + 1 + 1 + 1 + 1, p6), (L' + 1 + 1 + 1 + 1 + 1 + 1 + 1, p7), (123, tabObj #[]), (669, tabObj #[]), (733, tabObj #[])] := by
    intro q hq
    refine ⟨(NA q hq).1, (NA q hq).2.1, ?_⟩
    cases e : (ghostOf s.heap [(125, 123), (671, 669), (735, 733)]).get? q.1 with
    | none => rfl
    | some o =>
      exfalso
      have hn : q.1 = sc := by
        refine Classical.byContradiction fun hne => ?_
        have := hideAll_get [123, 669, 733, sc] (of_hideAll _ e) (fun hm => by
          simp only [List.mem_cons, List.not_mem_nil, or_false] at hm
          rcases hm with hm | hm | hm | hm
          · rw [hm, hideAll_none _ (by simp)] at e; cases e
          · rw [hm, hideAll_none _ (by simp)] at e; cases e
          · rw [hm, hideAll_none _ (by simp)] at e; cases e
          · exact hne hm)
        rw [(NA q hq).2.2] at this
        cases this
      simp only [List.mem_cons, List.not_mem_nil, or_false] at hq
      have z : ∀ b : Addr, b ∈ ([123, 669, 733] : List Addr) → (ghostOf s.heap [(125, 123), (671, 669), (735, 733)]).get? b = none := fun b hb => hideAll_none (h := s.heap) [123, 669, 733] hb
      have z1 := z 123 (by simp)
      have z2 := z 669 (by simp)
      have z3 := z 733 (by simp)
      rcases hq with rfl | rfl | rfl | rfl | rfl | rfl | rfl | rfl | rfl | rfl | rfl
      · exact absurd hn (Nat.ne_of_gt (by omega))
      · exact absurd hn (Nat.ne_of_gt (by omega))
      · exact absurd hn (Nat.ne_of_gt (by omega))
      · exact absurd hn (Nat.ne_of_gt (by omega))
      · exact absurd hn (Nat.ne_of_gt (by omega))
      · exact absurd hn (Nat.ne_of_gt (by omega))
      · exact absurd hn (Nat.ne_of_gt (by omega))
      · exact absurd hn (Nat.ne_of_gt (by omega))
      · rw [z1] at e; cases e
      · rw [z2] at e; cases e
      · rw [z3] at e; cases e
  refine lawRest w _ _ _ _ _ D nd ws ms q1 p2 p3 q4 q5 p6 p7 _ _ bi ci ki tb tc tk ts sz m1 (callerA.depth + 1) (callerA.units + 3) (some []) callerA _ _ L' _ _ _ (below_caller _) FG X8 T8 X8 T8 NG hdp hun a1 a2 a3 a4 a5 e2 e3 d4 d5 e6 e7 a6 C8 l123 l669 l733 ?_
  intro hE tkE gsE mE hg FE t1 t2 t3
  exact hret hE tkE gsE hg (fun b o e => FE.keep b o e) t1 t2 t3
end
section
open LCg PySem.Calls
abbrev prL : Program := rw_iw0011_01.row.toRowW.prog
theorem scriptObj {R : WRecords} {cl : Str → Option Addr} {P : Params} {ord : List DictEntry → List DictEntry} {s₀ s₁ : Shared} {ns : List Int} {a : Addr} {its : Array Value} (e : layAllW R cl P ord [ofPy (PyData.list (ns.map PyData.int))] s₀ = some ([.ref a], s₁)) (hL : s₁.heap.IsList a its) : s₁.heap.get? a = some { cls := .type "list", data := .seq its } := by
  simp only [ofPy, layAllW, layW] at e
  cases q : layAllW R cl P ord (ofPys (List.map PyData.int ns)) s₀ with
  | none => rw [q] at e; cases e
  | some r =>
    rw [q] at e
    simp only [Option.some.injEq, Prod.mk.injEq, List.cons.injEq, Value.ref.injEq] at e
    obtain ⟨⟨ea, _⟩, es⟩ := e
    have g : s₁.heap.get? a = some { cls := .type "list", data := .seq r.1.toArray } := by
      rw [← es, ← ea]
      exact Heap.get?_push_size _ rfl
    obtain ⟨o, ho, _, n, hd⟩ := hL
    rw [g] at ho
    cases ho
    simp only [Data.seq.injEq] at hd
    rw [g, hd.1]
theorem lawHolds (left : LeftO prL qv looseV (fun _ => true) hkK.obs hkK.val 25160 false) : rw_iw0011_01.Holds := by
  w_on
  refine holds_law (by kernel_rfl) fun said => ?_
  refine holdsF (q := qv) (loose := looseV) (Xt := fun _ => true) (XP := fun _ _ => True) (YP := hkK.says) left hkK.of hkK.keeps (fun _ _ => trivial) (fun _ _ _ _ _ => trivial) (by rfl) (by rfl) (by rfl) (fun s e => recFacts_nil rfl) (by rfl) (by assumption) (by decide +kernel) ⟨rfl, rfl, rfl, rfl, rfl, by decide +kernel⟩ ?hw ?_
  case hw => w_witness2
  intro w s₀ s₁ mg mb G Y fa o pm cd doc dV kV ho hd hcd hD hmg hb args vals as hpre hlay hrd hwl hlo hord
  have X : (KF w.params).In s₁.heap := Y.1
  have Y2 := Y.2
  have T := G.T
  clear Y
  have hfa : mg (Str.ofString "law") = some (.ref 736) := mg_of X T.g (by kernel_rfl)
  obtain rfl : fa = 736 := by
    have := hmg.symm.trans hfa
    cases this
    rfl
  clear hD hcd hd ho hmg hfa
  wrow_args hpre hlay hrd hwl hlo
  (with_reducible rename IntsAre _ _ => hI)
  (with_reducible rename Heap.IsList _ _ _ => hL)
  (with_reducible rename (¬ _ < _) => hc)
  rename_i ns _ _ _ _ _ _ _ sc vs _ _ _ _ _ _
  have hl := hI.length
  obtain ⟨ord, hord⟩ := hord
  have hsc := scriptObj hord hL
  have hT : TabsAt [(125, 123), (671, 669), (735, 733)] s₁.heap := by
    intro q hq
    simp only [List.mem_cons, List.not_mem_nil, or_false] at hq
    rcases hq with rfl | rfl | rfl
    · exact ⟨codeHd_of_K X (by kernel_rfl), Y2 123 (by simp)⟩
    · exact ⟨codeHd_of_K X (by kernel_rfl), Y2 669 (by simp)⟩
    · exact ⟨codeHd_of_K X (by kernel_rfl), Y2 733 (by simp)⟩
  refine wpAny_call (lawCall w _ _ _ _ _ sc 0 vs ns s₁ _ T X ⟨Y2, hsc⟩ hI (by omega) ?_)
  intro h' tk' gs' hg hk t1 t2 t3
  have grown : ∀ b ∈ ([(125, 123), (671, 669), (735, 733)] : List (Addr × Addr)).map (·.2), ∃ ps, h'.get? b = some (tabObj ps) := by
    intro b hb
    simp only [List.map_cons, List.map_nil, List.mem_cons, List.not_mem_nil, or_false] at hb
    rcases hb with rfl | rfl | rfl
    · exact t1
    · exact t2
    · exact t3
  refine ⟨⟨.inl ⟨.bool true, .bool true, [], rfl, fun _ => rfl, .bool _, by wrow_post, fun _ => ⟨List.nodup_nil, fun a ha => by cases ha⟩⟩, ⟨fun b o e => ?_, fun b o e => ?_⟩, rfl, hg.1 hb⟩, hg⟩
  · by_cases hm : b ∈ ([(125, 123), (671, 669), (735, 733)] : List (Addr × Addr)).map (·.2)
    · obtain ⟨q, hq, rfl⟩ := List.mem_map.mp hm
      obtain ⟨ps, hP⟩ := grown _ hm
      have e2 := (hT q hq).2
      rw [e] at e2
      cases e2
      exact .inr (.inl ⟨((hT q hq).1.tab (hT q hq).2).isCodeTable, rfl, #[], ps, rfl, by rw [Array.empty_append]; exact hP⟩)
    · exact .inl (hk b o (ghost_ne e hm))
  · by_cases hm : b ∈ ([(125, 123), (671, 669), (735, 733)] : List (Addr × Addr)).map (·.2)
    · obtain ⟨ps, hP⟩ := grown _ hm
      exact ⟨_, hP⟩
    · exact ⟨o, hk b o (ghost_ne e hm)⟩
end
end
end Mine
theorem PySem.Challenge.cw_iw0011_01_holds : PySem.Challenge.rw_iw0011_01.Holds := by
  exact Mine.lawHolds Mine.leftL
