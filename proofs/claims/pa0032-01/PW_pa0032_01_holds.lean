import PyProof.Rows.All
import Wide.All
import OpenK.AllK
import Wide.FinOn
import PySem.Challenge.RW_pa0032_01
open PySem PySem.W PyProof.Rows
set_option Elab.async false
set_option maxRecDepth 100000
set_option maxHeartbeats 8000000
namespace Mine
section
namespace Top9
open PySem.Calls
/-- the def that the program's statement i makes: its parts are the statement's own -/
noncomputable def fnO (i : Nat) (cls : Value) (globals : Addr) (dV kV md cd : Value) : Obj := match Challenge.pw_pa0032_01.main.body[i]? with
  | some (.FunctionDef name params body _ _ _ scope _ _ _) => { cls, data := .func { name, qualname := name, params, body := .stmts body, scope, globals, closure := [], defaults := dV, kwdefaults := kV, pyModule := md, code := cd } }
  | _ => { cls }
abbrev sO (s : String) : Str := Str.ofString s
abbrev nd := BT.node
abbrev nl := BT.nil
noncomputable abbrev o_43 (P : Params) : Obj := { cls := PySem.Value.type "tuple", data := PySem.Data.seq #[] }
noncomputable abbrev o_44 (P : Params) : Obj := { cls := PySem.Value.none, data := PySem.Data.fields #[] }
noncomputable abbrev o_45 (P : Params) : Obj := { cls := PySem.Value.type "code", data := PySem.Data.fields #[PySem.Value.str (sO "<module>") 182, PySem.Value.str (sO "<module>") 183, PySem.Value.str (sO "/claim/cut.py") 184, PySem.Value.int 1 0, PySem.Value.int 0 0, PySem.Value.int 0 0, PySem.Value.int 0 0, PySem.Value.int 0 0, PySem.Value.ref 11, PySem.Value.bool false, PySem.Value.int 181 0, PySem.Value.ref 12, PySem.Value.none, PySem.Value.none, PySem.Value.none, PySem.Value.none, PySem.Value.int 185 0, PySem.Value.int 1 0, PySem.Value.str (sO "/claim/cut.py") 186] }
noncomputable abbrev o_46 (P : Params) : Obj := { cls := PySem.Value.type "frame", slots := #[some (PySem.Value.ref 13), some (PySem.Value.ref 3), some (PySem.Value.ref 3), none, some (PySem.Value.str (sO "__main__") 164), none, some (PySem.Value.ref 0)] }
noncomputable abbrev o_49 (P : Params) : Obj := { cls := PySem.Value.type "dict", data := PySem.Data.dict #[{ hash := PySem.PyData.keyHash P (sO "__name__"), key := PySem.Value.str (sO "__name__") 165, val := PySem.Value.str (sO "binascii") 204 }, { hash := PySem.PyData.keyHash P (sO "__doc__"), key := PySem.Value.str (sO "__doc__") 166, val := PySem.Value.none }, { hash := PySem.PyData.keyHash P (sO "__package__"), key := PySem.Value.str (sO "__package__") 167, val := PySem.Value.none }, { hash := PySem.PyData.keyHash P (sO "__loader__"), key := PySem.Value.str (sO "__loader__") 168, val := PySem.Value.builtin "__main__.__loader__#opaque" }, { hash := PySem.PyData.keyHash P (sO "__spec__"), key := PySem.Value.str (sO "__spec__") 169, val := PySem.Value.none }, { hash := PySem.PyData.keyHash P (sO "__annotations__"), key := PySem.Value.str (sO "__annotations__") 170, val := PySem.Value.ref 6 }, { hash := PySem.PyData.keyHash P (sO "__builtins__"), key := PySem.Value.str (sO "__builtins__") 171, val := PySem.Value.ref 4 }, { hash := PySem.PyData.keyHash P (sO "__file__"), key := PySem.Value.str (sO "__file__") 173, val := PySem.Value.str (sO "/claim/cut.py") 172 }, { hash := PySem.PyData.keyHash P (sO "__cached__"), key := PySem.Value.str (sO "__cached__") 174, val := PySem.Value.none }, { hash := PySem.PyData.keyHash P (sO "_wall"), key := PySem.Value.str (sO "_wall") 193, val := PySem.Value.ref 21 }, { hash := PySem.PyData.keyHash P (sO "bytes_types"), key := PySem.Value.str (sO "bytes_types") 196, val := PySem.Value.ref 22 }, { hash := PySem.PyData.keyHash P (sO "_bytes_from_decode_data"), key := PySem.Value.str (sO "_bytes_from_decode_data") 203, val := PySem.Value.ref 29 }, { hash := PySem.PyData.keyHash P (sO "Error"), key := PySem.Value.str (sO "Error") 223, val := PySem.Value.ref 39 }, { hash := PySem.PyData.keyHash P (sO "_ascii_buffer"), key := PySem.Value.str (sO "_ascii_buffer") 231, val := PySem.Value.ref 49 }, { hash := PySem.PyData.keyHash P (sO "_buffer"), key := PySem.Value.str (sO "_buffer") 239, val := PySem.Value.ref 56 }, { hash := PySem.PyData.keyHash P (sO "_truth"), key := PySem.Value.str (sO "_truth") 247, val := PySem.Value.ref 63 }, { hash := PySem.PyData.keyHash P (sO "_B64"), key := PySem.Value.str (sO "_B64") 249, val := PySem.Value.bytes #[65, 66, 67, 68, 69, 70, 71, 72, 73, 74, 75, 76, 77, 78, 79, 80, 81, 82, 83, 84, 85, 86, 87, 88, 89, 90, 97, 98, 99, 100, 101, 102, 103, 104, 105, 106, 107, 108, 109, 110, 111, 112, 113, 114, 115, 116, 117, 118, 119, 120, 121, 122, 48, 49, 50, 51, 52, 53, 54, 55, 56, 57, 43, 47] 248 }] 17 }
noncomputable abbrev o_50 (P : Params) : Obj := { cls := PySem.Value.none, data := PySem.Data.fields #[PySem.Value.int 1 0, PySem.Value.int 0 0, PySem.Value.ref 20, PySem.Value.int 6 0, PySem.Value.int 0 0, PySem.Value.ref 28, PySem.Value.int 19 0, PySem.Value.int 0 0, PySem.Value.ref 35, PySem.Value.int 21 0, PySem.Value.int 0 0, PySem.Value.ref 48, PySem.Value.int 32 0, PySem.Value.int 0 0, PySem.Value.ref 55, PySem.Value.int 39 0, PySem.Value.int 0 0, PySem.Value.ref 62] }
noncomputable abbrev o_51 (P : Params) : Obj := { cls := PySem.Value.type "tuple", data := PySem.Data.seq #[] }
noncomputable abbrev o_52 (P : Params) : Obj := { cls := PySem.Value.none, data := PySem.Data.fields #[] }
noncomputable abbrev o_53 (P : Params) : Obj := { cls := PySem.Value.type "tuple", data := PySem.Data.seq #[PySem.Value.str (sO "k") 190] }
noncomputable abbrev o_54 (P : Params) : Obj := { cls := PySem.Value.type "tuple", data := PySem.Data.seq #[] }
noncomputable abbrev o_55 (_ : Params) : Obj := fnO 0 (PySem.Value.none) 0 (PySem.Value.none) (PySem.Value.none) (PySem.Value.none) (PySem.Value.none)
noncomputable abbrev o_56 (P : Params) : Obj := { cls := PySem.Value.type "code", data := PySem.Data.fields #[PySem.Value.str (sO "_wall") 187, PySem.Value.str (sO "_wall") 188, PySem.Value.str (sO "/claim/cut.py") 189, PySem.Value.int 1 0, PySem.Value.int 1 0, PySem.Value.int 0 0, PySem.Value.int 0 0, PySem.Value.int 3 0, PySem.Value.ref 15, PySem.Value.bool true, PySem.Value.int 181 0, PySem.Value.ref 16, PySem.Value.none, PySem.Value.ref 17, PySem.Value.ref 18, PySem.Value.ref 19, PySem.Value.int 191 0, PySem.Value.int 1 0, PySem.Value.str (sO "/claim/cut.py") 192] }
noncomputable abbrev o_57 (_ : Params) : Obj := fnO 0 (PySem.Value.type "function") 3 (PySem.Value.none) (PySem.Value.none) (PySem.Value.str (sO "__main__") 164) (PySem.Value.ref 20)
noncomputable abbrev o_58 (P : Params) : Obj := { cls := PySem.Value.type "tuple", data := PySem.Data.seq #[PySem.Value.type "bytes", PySem.Value.type "bytearray"] }
noncomputable abbrev o_59 (P : Params) : Obj := { cls := PySem.Value.type "tuple", data := PySem.Data.seq #[] }
noncomputable abbrev o_60 (P : Params) : Obj := { cls := PySem.Value.none, data := PySem.Data.fields #[] }
noncomputable abbrev o_61 (P : Params) : Obj := { cls := PySem.Value.type "tuple", data := PySem.Data.seq #[PySem.Value.str (sO "s") 200] }
noncomputable abbrev o_62 (P : Params) : Obj := { cls := PySem.Value.type "tuple", data := PySem.Data.seq #[] }
noncomputable abbrev o_63 (_ : Params) : Obj := fnO 3 (PySem.Value.none) 0 (PySem.Value.none) (PySem.Value.none) (PySem.Value.none) (PySem.Value.none)
noncomputable abbrev o_64 (P : Params) : Obj := { cls := PySem.Value.type "code", data := PySem.Data.fields #[PySem.Value.str (sO "_bytes_from_decode_data") 197, PySem.Value.str (sO "_bytes_from_decode_data") 198, PySem.Value.str (sO "/claim/cut.py") 199, PySem.Value.int 6 0, PySem.Value.int 1 0, PySem.Value.int 0 0, PySem.Value.int 0 0, PySem.Value.int 3 0, PySem.Value.ref 23, PySem.Value.bool true, PySem.Value.int 181 0, PySem.Value.ref 24, PySem.Value.none, PySem.Value.ref 25, PySem.Value.ref 26, PySem.Value.ref 27, PySem.Value.int 201 0, PySem.Value.int 6 0, PySem.Value.str (sO "/claim/cut.py") 202] }
noncomputable abbrev o_65 (_ : Params) : Obj := fnO 3 (PySem.Value.type "function") 3 (PySem.Value.none) (PySem.Value.none) (PySem.Value.str (sO "cpy313.base64") 194) (PySem.Value.ref 28)
noncomputable abbrev o_66 (P : Params) : Obj := { cls := PySem.Value.type "tuple", data := PySem.Data.seq #[PySem.Value.type "ValueError"] }
noncomputable abbrev o_67 (P : Params) : Obj := { cls := PySem.Value.type "builtin_function_or_method", data := PySem.Data.fields #[PySem.Value.builtin "type.__prepare__", PySem.Value.type "type"] }
noncomputable abbrev o_68 (P : Params) : Obj := { cls := PySem.Value.type "dict", data := PySem.Data.dict #[{ hash := PySem.PyData.keyHash P (sO "__module__"), key := PySem.Value.str (sO "__module__") 213, val := PySem.Value.str (sO "binascii") 204 }, { hash := PySem.PyData.keyHash P (sO "__qualname__"), key := PySem.Value.str (sO "__qualname__") 215, val := PySem.Value.str (sO "Error") 214 }, { hash := PySem.PyData.keyHash P (sO "__firstlineno__"), key := PySem.Value.str (sO "__firstlineno__") 217, val := PySem.Value.int 19 216 }, { hash := PySem.PyData.keyHash P (sO "__static_attributes__"), key := PySem.Value.str (sO "__static_attributes__") 218, val := PySem.Value.ref 37 }] 4 }
noncomputable abbrev o_69 (P : Params) : Obj := { cls := PySem.Value.type "tuple", data := PySem.Data.seq #[] }
noncomputable abbrev o_70 (P : Params) : Obj := { cls := PySem.Value.none, data := PySem.Data.fields #[] }
noncomputable abbrev o_71 (P : Params) : Obj := { cls := PySem.Value.type "code", data := PySem.Data.fields #[PySem.Value.str (sO "Error") 208, PySem.Value.str (sO "Error") 209, PySem.Value.str (sO "/claim/cut.py") 210, PySem.Value.int 19 0, PySem.Value.int 0 0, PySem.Value.int 0 0, PySem.Value.int 0 0, PySem.Value.int 0 0, PySem.Value.ref 33, PySem.Value.bool false, PySem.Value.int 181 0, PySem.Value.ref 34, PySem.Value.none, PySem.Value.none, PySem.Value.none, PySem.Value.none, PySem.Value.int 211 0, PySem.Value.int 19 0, PySem.Value.str (sO "/claim/cut.py") 212] }
noncomputable abbrev o_72 (P : Params) : Obj := { cls := PySem.Value.type "frame", slots := #[some (PySem.Value.ref 35), some (PySem.Value.ref 3), some (PySem.Value.ref 32), none, some (PySem.Value.str (sO "binascii") 204), none, some (PySem.Value.ref 0)] }
noncomputable abbrev o_73 (P : Params) : Obj := { cls := PySem.Value.type "tuple", data := PySem.Data.seq #[] }
noncomputable abbrev o_74 (P : Params) : Obj := { cls := PySem.Value.type "dict", data := PySem.Data.dict #[{ hash := PySem.PyData.keyHash P (sO "__module__"), key := PySem.Value.str (sO "__module__") 213, val := PySem.Value.str (sO "binascii") 204 }, { hash := PySem.PyData.keyHash P (sO "__firstlineno__"), key := PySem.Value.str (sO "__firstlineno__") 217, val := PySem.Value.int 19 216 }, { hash := PySem.PyData.keyHash P (sO "__static_attributes__"), key := PySem.Value.str (sO "__static_attributes__") 218, val := PySem.Value.ref 37 }, { hash := PySem.PyData.keyHash P (sO "__weakref__"), key := PySem.Value.str (sO "__weakref__") 220, val := PySem.Value.ref 40 }, { hash := PySem.PyData.keyHash P (sO "__doc__"), key := PySem.Value.str (sO "__doc__") 221, val := PySem.Value.none }] 3 }
noncomputable abbrev o_75 (P : Params) : Obj := { cls := PySem.Value.type "type", data := PySem.Data.cls { name := sO "Error", bases := [PySem.Value.type "ValueError"], mro := [PySem.Value.ref 39, PySem.Value.type "ValueError", PySem.Value.type "Exception", PySem.Value.type "BaseException", PySem.Value.type "object"], ns := 38, qualname := sO "Error" }, slots := #[some (PySem.Value.ref 30), none, some (PySem.Value.str (sO "Error") 206), some (PySem.Value.str (sO "Error") 214), some (PySem.Value.builtin "ValueError.__new__"), some (PySem.Value.bool true)] }
noncomputable abbrev o_76 (P : Params) : Obj := { cls := PySem.Value.type "getset_descriptor", data := PySem.Data.fields #[PySem.Value.str (sO "__weakref__") 219, PySem.Value.ref 39, PySem.Value.builtin "ExceptionGroup.__weakref__", PySem.Value.none] }
noncomputable abbrev o_77 (P : Params) : Obj := { cls := PySem.Value.type "super", data := PySem.Data.fields #[PySem.Value.ref 39, PySem.Value.ref 39, PySem.Value.ref 39] }
noncomputable abbrev o_78 (P : Params) : Obj := { cls := PySem.Value.type "builtin_function_or_method", data := PySem.Data.fields #[PySem.Value.builtin "object.__init_subclass__", PySem.Value.ref 39] }
noncomputable abbrev o_79 (P : Params) : Obj := { cls := PySem.Value.type "tuple", data := PySem.Data.seq #[] }
noncomputable abbrev o_80 (P : Params) : Obj := { cls := PySem.Value.none, data := PySem.Data.fields #[] }
noncomputable abbrev o_81 (P : Params) : Obj := { cls := PySem.Value.type "tuple", data := PySem.Data.seq #[PySem.Value.str (sO "data") 227, PySem.Value.str (sO "t") 228] }
noncomputable abbrev o_82 (P : Params) : Obj := { cls := PySem.Value.type "tuple", data := PySem.Data.seq #[] }
noncomputable abbrev o_83 (_ : Params) : Obj := fnO 6 (PySem.Value.none) 0 (PySem.Value.none) (PySem.Value.none) (PySem.Value.none) (PySem.Value.none)
noncomputable abbrev o_84 (P : Params) : Obj := { cls := PySem.Value.type "code", data := PySem.Data.fields #[PySem.Value.str (sO "_ascii_buffer") 224, PySem.Value.str (sO "_ascii_buffer") 225, PySem.Value.str (sO "/claim/cut.py") 226, PySem.Value.int 21 0, PySem.Value.int 1 0, PySem.Value.int 0 0, PySem.Value.int 0 0, PySem.Value.int 3 0, PySem.Value.ref 43, PySem.Value.bool true, PySem.Value.int 181 0, PySem.Value.ref 44, PySem.Value.none, PySem.Value.ref 45, PySem.Value.ref 46, PySem.Value.ref 47, PySem.Value.int 229 0, PySem.Value.int 21 0, PySem.Value.str (sO "/claim/cut.py") 230] }
noncomputable abbrev o_85 (_ : Params) : Obj := fnO 6 (PySem.Value.type "function") 3 (PySem.Value.none) (PySem.Value.none) (PySem.Value.str (sO "binascii") 204) (PySem.Value.ref 48)
noncomputable abbrev o_86 (P : Params) : Obj := { cls := PySem.Value.type "tuple", data := PySem.Data.seq #[] }
noncomputable abbrev o_87 (P : Params) : Obj := { cls := PySem.Value.none, data := PySem.Data.fields #[] }
noncomputable abbrev o_88 (P : Params) : Obj := { cls := PySem.Value.type "tuple", data := PySem.Data.seq #[PySem.Value.str (sO "data") 235, PySem.Value.str (sO "t") 236] }
noncomputable abbrev o_89 (P : Params) : Obj := { cls := PySem.Value.type "tuple", data := PySem.Data.seq #[] }
noncomputable abbrev o_90 (_ : Params) : Obj := fnO 7 (PySem.Value.none) 0 (PySem.Value.none) (PySem.Value.none) (PySem.Value.none) (PySem.Value.none)
noncomputable abbrev o_91 (P : Params) : Obj := { cls := PySem.Value.type "code", data := PySem.Data.fields #[PySem.Value.str (sO "_buffer") 232, PySem.Value.str (sO "_buffer") 233, PySem.Value.str (sO "/claim/cut.py") 234, PySem.Value.int 32 0, PySem.Value.int 1 0, PySem.Value.int 0 0, PySem.Value.int 0 0, PySem.Value.int 3 0, PySem.Value.ref 50, PySem.Value.bool true, PySem.Value.int 181 0, PySem.Value.ref 51, PySem.Value.none, PySem.Value.ref 52, PySem.Value.ref 53, PySem.Value.ref 54, PySem.Value.int 237 0, PySem.Value.int 32 0, PySem.Value.str (sO "/claim/cut.py") 238] }
noncomputable abbrev o_92 (_ : Params) : Obj := fnO 7 (PySem.Value.type "function") 3 (PySem.Value.none) (PySem.Value.none) (PySem.Value.str (sO "binascii") 204) (PySem.Value.ref 55)
noncomputable abbrev o_93 (P : Params) : Obj := { cls := PySem.Value.type "tuple", data := PySem.Data.seq #[] }
noncomputable abbrev o_94 (P : Params) : Obj := { cls := PySem.Value.none, data := PySem.Data.fields #[] }
noncomputable abbrev o_95 (P : Params) : Obj := { cls := PySem.Value.type "tuple", data := PySem.Data.seq #[PySem.Value.str (sO "x") 243, PySem.Value.str (sO "t") 244] }
noncomputable abbrev o_96 (P : Params) : Obj := { cls := PySem.Value.type "tuple", data := PySem.Data.seq #[] }
noncomputable abbrev o_97 (_ : Params) : Obj := fnO 8 (PySem.Value.none) 0 (PySem.Value.none) (PySem.Value.none) (PySem.Value.none) (PySem.Value.none)
noncomputable abbrev o_98 (P : Params) : Obj := { cls := PySem.Value.type "code", data := PySem.Data.fields #[PySem.Value.str (sO "_truth") 240, PySem.Value.str (sO "_truth") 241, PySem.Value.str (sO "/claim/cut.py") 242, PySem.Value.int 39 0, PySem.Value.int 1 0, PySem.Value.int 0 0, PySem.Value.int 0 0, PySem.Value.int 3 0, PySem.Value.ref 57, PySem.Value.bool true, PySem.Value.int 181 0, PySem.Value.ref 58, PySem.Value.none, PySem.Value.ref 59, PySem.Value.ref 60, PySem.Value.ref 61, PySem.Value.int 245 0, PySem.Value.int 39 0, PySem.Value.str (sO "/claim/cut.py") 246] }
noncomputable abbrev o_99 (_ : Params) : Obj := fnO 8 (PySem.Value.type "function") 3 (PySem.Value.none) (PySem.Value.none) (PySem.Value.str (sO "binascii") 204) (PySem.Value.ref 62)
noncomputable abbrev o_100 (P : Params) : Obj := { cls := PySem.Value.type "dict", data := PySem.Data.dict #[{ hash := PySem.PyData.keyHash P (sO "__name__"), key := PySem.Value.str (sO "__name__") 165, val := PySem.Value.str (sO "cpy313.traceback") 338 }, { hash := PySem.PyData.keyHash P (sO "__doc__"), key := PySem.Value.str (sO "__doc__") 166, val := PySem.Value.none }, { hash := PySem.PyData.keyHash P (sO "__package__"), key := PySem.Value.str (sO "__package__") 167, val := PySem.Value.none }, { hash := PySem.PyData.keyHash P (sO "__loader__"), key := PySem.Value.str (sO "__loader__") 168, val := PySem.Value.builtin "__main__.__loader__#opaque" }, { hash := PySem.PyData.keyHash P (sO "__spec__"), key := PySem.Value.str (sO "__spec__") 169, val := PySem.Value.none }, { hash := PySem.PyData.keyHash P (sO "__annotations__"), key := PySem.Value.str (sO "__annotations__") 170, val := PySem.Value.ref 6 }, { hash := PySem.PyData.keyHash P (sO "__builtins__"), key := PySem.Value.str (sO "__builtins__") 171, val := PySem.Value.ref 4 }, { hash := PySem.PyData.keyHash P (sO "__file__"), key := PySem.Value.str (sO "__file__") 173, val := PySem.Value.str (sO "/claim/cut.py") 172 }, { hash := PySem.PyData.keyHash P (sO "__cached__"), key := PySem.Value.str (sO "__cached__") 174, val := PySem.Value.none }, { hash := PySem.PyData.keyHash P (sO "_wall"), key := PySem.Value.str (sO "_wall") 193, val := PySem.Value.ref 21 }, { hash := PySem.PyData.keyHash P (sO "bytes_types"), key := PySem.Value.str (sO "bytes_types") 196, val := PySem.Value.ref 22 }, { hash := PySem.PyData.keyHash P (sO "_bytes_from_decode_data"), key := PySem.Value.str (sO "_bytes_from_decode_data") 203, val := PySem.Value.ref 29 }, { hash := PySem.PyData.keyHash P (sO "Error"), key := PySem.Value.str (sO "Error") 223, val := PySem.Value.ref 39 }, { hash := PySem.PyData.keyHash P (sO "_ascii_buffer"), key := PySem.Value.str (sO "_ascii_buffer") 231, val := PySem.Value.ref 49 }, { hash := PySem.PyData.keyHash P (sO "_buffer"), key := PySem.Value.str (sO "_buffer") 239, val := PySem.Value.ref 56 }, { hash := PySem.PyData.keyHash P (sO "_truth"), key := PySem.Value.str (sO "_truth") 247, val := PySem.Value.ref 63 }, { hash := PySem.PyData.keyHash P (sO "_B64"), key := PySem.Value.str (sO "_B64") 249, val := PySem.Value.bytes #[65, 66, 67, 68, 69, 70, 71, 72, 73, 74, 75, 76, 77, 78, 79, 80, 81, 82, 83, 84, 85, 86, 87, 88, 89, 90, 97, 98, 99, 100, 101, 102, 103, 104, 105, 106, 107, 108, 109, 110, 111, 112, 113, 114, 115, 116, 117, 118, 119, 120, 121, 122, 48, 49, 50, 51, 52, 53, 54, 55, 56, 57, 43, 47] 248 }, { hash := PySem.PyData.keyHash P (sO "_b64_value"), key := PySem.Value.str (sO "_b64_value") 256, val := PySem.Value.ref 70 }, { hash := PySem.PyData.keyHash P (sO "a2b_base64"), key := PySem.Value.str (sO "a2b_base64") 272, val := PySem.Value.ref 78 }, { hash := PySem.PyData.keyHash P (sO "b2a_base64"), key := PySem.Value.str (sO "b2a_base64") 286, val := PySem.Value.ref 86 }, { hash := PySem.PyData.keyHash P (sO "b64encode"), key := PySem.Value.str (sO "b64encode") 297, val := PySem.Value.ref 94 }, { hash := PySem.PyData.keyHash P (sO "b64decode"), key := PySem.Value.str (sO "b64decode") 306, val := PySem.Value.ref 102 }, { hash := PySem.PyData.keyHash P (sO "standard_b64encode"), key := PySem.Value.str (sO "standard_b64encode") 313, val := PySem.Value.ref 109 }, { hash := PySem.PyData.keyHash P (sO "_urlsafe_encode_translation"), key := PySem.Value.str (sO "_urlsafe_encode_translation") 318, val := PySem.Value.bytes #[0, 1, 2, 3, 4, 5, 6, 7, 8, 9, 10, 11, 12, 13, 14, 15, 16, 17, 18, 19, 20, 21, 22, 23, 24, 25, 26, 27, 28, 29, 30, 31, 32, 33, 34, 35, 36, 37, 38, 39, 40, 41, 42, 45, 44, 45, 46, 95, 48, 49, 50, 51, 52, 53, 54, 55, 56, 57, 58, 59, 60, 61, 62, 63, 64, 65, 66, 67, 68, 69, 70, 71, 72, 73, 74, 75, 76, 77, 78, 79, 80, 81, 82, 83, 84, 85, 86, 87, 88, 89, 90, 91, 92, 93, 94, 95, 96, 97, 98, 99, 100, 101, 102, 103, 104, 105, 106, 107, 108, 109, 110, 111, 112, 113, 114, 115, 116, 117, 118, 119, 120, 121, 122, 123, 124, 125, 126, 127, 128, 129, 130, 131, 132, 133, 134, 135, 136, 137, 138, 139, 140, 141, 142, 143, 144, 145, 146, 147, 148, 149, 150, 151, 152, 153, 154, 155, 156, 157, 158, 159, 160, 161, 162, 163, 164, 165, 166, 167, 168, 169, 170, 171, 172, 173, 174, 175, 176, 177, 178, 179, 180, 181, 182, 183, 184, 185, 186, 187, 188, 189, 190, 191, 192, 193, 194, 195, 196, 197, 198, 199, 200, 201, 202, 203, 204, 205, 206, 207, 208, 209, 210, 211, 212, 213, 214, 215, 216, 217, 218, 219, 220, 221, 222, 223, 224, 225, 226, 227, 228, 229, 230, 231, 232, 233, 234, 235, 236, 237, 238, 239, 240, 241, 242, 243, 244, 245, 246, 247, 248, 249, 250, 251, 252, 253, 254, 255] 317 }, { hash := PySem.PyData.keyHash P (sO "_urlsafe_decode_translation"), key := PySem.Value.str (sO "_urlsafe_decode_translation") 323, val := PySem.Value.bytes #[0, 1, 2, 3, 4, 5, 6, 7, 8, 9, 10, 11, 12, 13, 14, 15, 16, 17, 18, 19, 20, 21, 22, 23, 24, 25, 26, 27, 28, 29, 30, 31, 32, 33, 34, 35, 36, 37, 38, 39, 40, 41, 42, 43, 44, 43, 46, 47, 48, 49, 50, 51, 52, 53, 54, 55, 56, 57, 58, 59, 60, 61, 62, 63, 64, 65, 66, 67, 68, 69, 70, 71, 72, 73, 74, 75, 76, 77, 78, 79, 80, 81, 82, 83, 84, 85, 86, 87, 88, 89, 90, 91, 92, 93, 94, 47, 96, 97, 98, 99, 100, 101, 102, 103, 104, 105, 106, 107, 108, 109, 110, 111, 112, 113, 114, 115, 116, 117, 118, 119, 120, 121, 122, 123, 124, 125, 126, 127, 128, 129, 130, 131, 132, 133, 134, 135, 136, 137, 138, 139, 140, 141, 142, 143, 144, 145, 146, 147, 148, 149, 150, 151, 152, 153, 154, 155, 156, 157, 158, 159, 160, 161, 162, 163, 164, 165, 166, 167, 168, 169, 170, 171, 172, 173, 174, 175, 176, 177, 178, 179, 180, 181, 182, 183, 184, 185, 186, 187, 188, 189, 190, 191, 192, 193, 194, 195, 196, 197, 198, 199, 200, 201, 202, 203, 204, 205, 206, 207, 208, 209, 210, 211, 212, 213, 214, 215, 216, 217, 218, 219, 220, 221, 222, 223, 224, 225, 226, 227, 228, 229, 230, 231, 232, 233, 234, 235, 236, 237, 238, 239, 240, 241, 242, 243, 244, 245, 246, 247, 248, 249, 250, 251, 252, 253, 254, 255] 322 }, { hash := PySem.PyData.keyHash P (sO "urlsafe_b64encode"), key := PySem.Value.str (sO "urlsafe_b64encode") 330, val := PySem.Value.ref 116 }, { hash := PySem.PyData.keyHash P (sO "urlsafe_b64decode"), key := PySem.Value.str (sO "urlsafe_b64decode") 337, val := PySem.Value.ref 123 }, { hash := PySem.PyData.keyHash P (sO "_MAX_STRING_SIZE"), key := PySem.Value.str (sO "_MAX_STRING_SIZE") 341, val := PySem.Value.int 40 340 }, { hash := PySem.PyData.keyHash P (sO "_MOVE_COST"), key := PySem.Value.str (sO "_MOVE_COST") 343, val := PySem.Value.int 2 342 }, { hash := PySem.PyData.keyHash P (sO "_CASE_COST"), key := PySem.Value.str (sO "_CASE_COST") 345, val := PySem.Value.int 1 344 }, { hash := PySem.PyData.keyHash P (sO "_substitution_cost"), key := PySem.Value.str (sO "_substitution_cost") 353, val := PySem.Value.ref 130 }] 31 }
noncomputable abbrev o_101 (P : Params) : Obj := { cls := PySem.Value.none, data := PySem.Data.fields #[PySem.Value.int 1 0, PySem.Value.int 0 0, PySem.Value.ref 20, PySem.Value.int 6 0, PySem.Value.int 0 0, PySem.Value.ref 28, PySem.Value.int 19 0, PySem.Value.int 0 0, PySem.Value.ref 35, PySem.Value.int 21 0, PySem.Value.int 0 0, PySem.Value.ref 48, PySem.Value.int 32 0, PySem.Value.int 0 0, PySem.Value.ref 55, PySem.Value.int 39 0, PySem.Value.int 0 0, PySem.Value.ref 62, PySem.Value.int 45 0, PySem.Value.int 0 0, PySem.Value.ref 69, PySem.Value.int 57 0, PySem.Value.int 0 0, PySem.Value.ref 77, PySem.Value.int 111 0, PySem.Value.int 0 0, PySem.Value.ref 85, PySem.Value.int 134 0, PySem.Value.int 0 0, PySem.Value.ref 93, PySem.Value.int 140 0, PySem.Value.int 0 0, PySem.Value.ref 101, PySem.Value.int 147 0, PySem.Value.int 0 0, PySem.Value.ref 108, PySem.Value.int 151 0, PySem.Value.int 0 0, PySem.Value.ref 115, PySem.Value.int 153 0, PySem.Value.int 0 0, PySem.Value.ref 122, PySem.Value.int 161 0, PySem.Value.int 0 0, PySem.Value.ref 129] }
noncomputable abbrev o_102 (P : Params) : Obj := { cls := PySem.Value.type "tuple", data := PySem.Data.seq #[] }
noncomputable abbrev o_103 (P : Params) : Obj := { cls := PySem.Value.none, data := PySem.Data.fields #[] }
noncomputable abbrev o_104 (P : Params) : Obj := { cls := PySem.Value.type "tuple", data := PySem.Data.seq #[PySem.Value.str (sO "c") 253] }
noncomputable abbrev o_105 (P : Params) : Obj := { cls := PySem.Value.type "tuple", data := PySem.Data.seq #[] }
noncomputable abbrev o_106 (_ : Params) : Obj := fnO 10 (PySem.Value.none) 0 (PySem.Value.none) (PySem.Value.none) (PySem.Value.none) (PySem.Value.none)
noncomputable abbrev o_107 (P : Params) : Obj := { cls := PySem.Value.type "code", data := PySem.Data.fields #[PySem.Value.str (sO "_b64_value") 250, PySem.Value.str (sO "_b64_value") 251, PySem.Value.str (sO "/claim/cut.py") 252, PySem.Value.int 45 0, PySem.Value.int 1 0, PySem.Value.int 0 0, PySem.Value.int 0 0, PySem.Value.int 3 0, PySem.Value.ref 64, PySem.Value.bool true, PySem.Value.int 181 0, PySem.Value.ref 65, PySem.Value.none, PySem.Value.ref 66, PySem.Value.ref 67, PySem.Value.ref 68, PySem.Value.int 254 0, PySem.Value.int 45 0, PySem.Value.str (sO "/claim/cut.py") 255] }
noncomputable abbrev o_108 (_ : Params) : Obj := fnO 10 (PySem.Value.type "function") 3 (PySem.Value.none) (PySem.Value.none) (PySem.Value.str (sO "binascii") 204) (PySem.Value.ref 69)
noncomputable abbrev o_109 (P : Params) : Obj := { cls := PySem.Value.type "dict", data := PySem.Data.dict #[{ hash := PySem.PyData.keyHash P (sO "strict_mode"), key := PySem.Value.str (sO "strict_mode") 257, val := PySem.Value.bool false }] 1 }
noncomputable abbrev o_110 (P : Params) : Obj := { cls := PySem.Value.type "tuple", data := PySem.Data.seq #[] }
noncomputable abbrev o_111 (P : Params) : Obj := { cls := PySem.Value.none, data := PySem.Data.fields #[] }
noncomputable abbrev o_112 (P : Params) : Obj := { cls := PySem.Value.type "tuple", data := PySem.Data.seq #[PySem.Value.str (sO "data") 261, PySem.Value.str (sO "strict_mode") 262, PySem.Value.str (sO "ascii_data") 263, PySem.Value.str (sO "out") 264, PySem.Value.str (sO "quad_pos") 265, PySem.Value.str (sO "leftchar") 266, PySem.Value.str (sO "pads") 267, PySem.Value.str (sO "i") 268, PySem.Value.str (sO "this_ch") 269] }
noncomputable abbrev o_113 (P : Params) : Obj := { cls := PySem.Value.type "tuple", data := PySem.Data.seq #[] }
noncomputable abbrev o_114 (_ : Params) : Obj := fnO 11 (PySem.Value.none) 0 (PySem.Value.none) (PySem.Value.none) (PySem.Value.none) (PySem.Value.none)
noncomputable abbrev o_115 (P : Params) : Obj := { cls := PySem.Value.type "code", data := PySem.Data.fields #[PySem.Value.str (sO "a2b_base64") 258, PySem.Value.str (sO "a2b_base64") 259, PySem.Value.str (sO "/claim/cut.py") 260, PySem.Value.int 57 0, PySem.Value.int 1 0, PySem.Value.int 1 0, PySem.Value.int 1 0, PySem.Value.int 3 0, PySem.Value.ref 72, PySem.Value.bool true, PySem.Value.int 181 0, PySem.Value.ref 73, PySem.Value.none, PySem.Value.ref 74, PySem.Value.ref 75, PySem.Value.ref 76, PySem.Value.int 270 0, PySem.Value.int 57 0, PySem.Value.str (sO "/claim/cut.py") 271] }
noncomputable abbrev o_116 (_ : Params) : Obj := fnO 11 (PySem.Value.type "function") 3 (PySem.Value.none) (PySem.Value.ref 71) (PySem.Value.str (sO "binascii") 204) (PySem.Value.ref 77)
noncomputable abbrev o_117 (P : Params) : Obj := { cls := PySem.Value.type "dict", data := PySem.Data.dict #[{ hash := PySem.PyData.keyHash P (sO "newline"), key := PySem.Value.str (sO "newline") 273, val := PySem.Value.bool true }] 1 }
noncomputable abbrev o_118 (P : Params) : Obj := { cls := PySem.Value.type "tuple", data := PySem.Data.seq #[] }
noncomputable abbrev o_119 (P : Params) : Obj := { cls := PySem.Value.none, data := PySem.Data.fields #[] }
noncomputable abbrev o_120 (P : Params) : Obj := { cls := PySem.Value.type "tuple", data := PySem.Data.seq #[PySem.Value.str (sO "data") 277, PySem.Value.str (sO "newline") 278, PySem.Value.str (sO "bin_data") 279, PySem.Value.str (sO "out") 280, PySem.Value.str (sO "leftbits") 281, PySem.Value.str (sO "leftchar") 282, PySem.Value.str (sO "b") 283] }
noncomputable abbrev o_121 (P : Params) : Obj := { cls := PySem.Value.type "tuple", data := PySem.Data.seq #[] }
noncomputable abbrev o_122 (_ : Params) : Obj := fnO 12 (PySem.Value.none) 0 (PySem.Value.none) (PySem.Value.none) (PySem.Value.none) (PySem.Value.none)
noncomputable abbrev o_123 (P : Params) : Obj := { cls := PySem.Value.type "code", data := PySem.Data.fields #[PySem.Value.str (sO "b2a_base64") 274, PySem.Value.str (sO "b2a_base64") 275, PySem.Value.str (sO "/claim/cut.py") 276, PySem.Value.int 111 0, PySem.Value.int 1 0, PySem.Value.int 1 0, PySem.Value.int 1 0, PySem.Value.int 3 0, PySem.Value.ref 80, PySem.Value.bool true, PySem.Value.int 181 0, PySem.Value.ref 81, PySem.Value.none, PySem.Value.ref 82, PySem.Value.ref 83, PySem.Value.ref 84, PySem.Value.int 284 0, PySem.Value.int 111 0, PySem.Value.str (sO "/claim/cut.py") 285] }
noncomputable abbrev o_124 (_ : Params) : Obj := fnO 12 (PySem.Value.type "function") 3 (PySem.Value.none) (PySem.Value.ref 79) (PySem.Value.str (sO "binascii") 204) (PySem.Value.ref 85)
noncomputable abbrev o_125 (P : Params) : Obj := { cls := PySem.Value.type "tuple", data := PySem.Data.seq #[PySem.Value.none] }
noncomputable abbrev o_126 (P : Params) : Obj := { cls := PySem.Value.type "tuple", data := PySem.Data.seq #[] }
noncomputable abbrev o_127 (P : Params) : Obj := { cls := PySem.Value.none, data := PySem.Data.fields #[] }
noncomputable abbrev o_128 (P : Params) : Obj := { cls := PySem.Value.type "tuple", data := PySem.Data.seq #[PySem.Value.str (sO "s") 292, PySem.Value.str (sO "altchars") 293, PySem.Value.str (sO "encoded") 294] }
noncomputable abbrev o_129 (P : Params) : Obj := { cls := PySem.Value.type "tuple", data := PySem.Data.seq #[] }
noncomputable abbrev o_130 (_ : Params) : Obj := fnO 14 (PySem.Value.none) 0 (PySem.Value.none) (PySem.Value.none) (PySem.Value.none) (PySem.Value.none)
noncomputable abbrev o_131 (P : Params) : Obj := { cls := PySem.Value.type "code", data := PySem.Data.fields #[PySem.Value.str (sO "b64encode") 289, PySem.Value.str (sO "b64encode") 290, PySem.Value.str (sO "/claim/cut.py") 291, PySem.Value.int 134 0, PySem.Value.int 2 0, PySem.Value.int 0 0, PySem.Value.int 0 0, PySem.Value.int 3 0, PySem.Value.ref 88, PySem.Value.bool true, PySem.Value.int 181 0, PySem.Value.ref 89, PySem.Value.none, PySem.Value.ref 90, PySem.Value.ref 91, PySem.Value.ref 92, PySem.Value.int 295 0, PySem.Value.int 134 0, PySem.Value.str (sO "/claim/cut.py") 296] }
noncomputable abbrev o_132 (_ : Params) : Obj := fnO 14 (PySem.Value.type "function") 3 (PySem.Value.ref 87) (PySem.Value.none) (PySem.Value.str (sO "cpy313.base64") 287) (PySem.Value.ref 93)
noncomputable abbrev o_133 (P : Params) : Obj := { cls := PySem.Value.type "tuple", data := PySem.Data.seq #[PySem.Value.none, PySem.Value.bool false] }
noncomputable abbrev o_134 (P : Params) : Obj := { cls := PySem.Value.type "tuple", data := PySem.Data.seq #[] }
noncomputable abbrev o_135 (P : Params) : Obj := { cls := PySem.Value.none, data := PySem.Data.fields #[] }
noncomputable abbrev o_136 (P : Params) : Obj := { cls := PySem.Value.type "tuple", data := PySem.Data.seq #[PySem.Value.str (sO "s") 301, PySem.Value.str (sO "altchars") 302, PySem.Value.str (sO "validate") 303] }
noncomputable abbrev o_137 (P : Params) : Obj := { cls := PySem.Value.type "tuple", data := PySem.Data.seq #[] }
noncomputable abbrev o_138 (_ : Params) : Obj := fnO 15 (PySem.Value.none) 0 (PySem.Value.none) (PySem.Value.none) (PySem.Value.none) (PySem.Value.none)
noncomputable abbrev o_139 (P : Params) : Obj := { cls := PySem.Value.type "code", data := PySem.Data.fields #[PySem.Value.str (sO "b64decode") 298, PySem.Value.str (sO "b64decode") 299, PySem.Value.str (sO "/claim/cut.py") 300, PySem.Value.int 140 0, PySem.Value.int 3 0, PySem.Value.int 0 0, PySem.Value.int 0 0, PySem.Value.int 3 0, PySem.Value.ref 96, PySem.Value.bool true, PySem.Value.int 181 0, PySem.Value.ref 97, PySem.Value.none, PySem.Value.ref 98, PySem.Value.ref 99, PySem.Value.ref 100, PySem.Value.int 304 0, PySem.Value.int 140 0, PySem.Value.str (sO "/claim/cut.py") 305] }
noncomputable abbrev o_140 (_ : Params) : Obj := fnO 15 (PySem.Value.type "function") 3 (PySem.Value.ref 95) (PySem.Value.none) (PySem.Value.str (sO "cpy313.base64") 287) (PySem.Value.ref 101)
noncomputable abbrev o_141 (P : Params) : Obj := { cls := PySem.Value.type "tuple", data := PySem.Data.seq #[] }
noncomputable abbrev o_142 (P : Params) : Obj := { cls := PySem.Value.none, data := PySem.Data.fields #[] }
noncomputable abbrev o_143 (P : Params) : Obj := { cls := PySem.Value.type "tuple", data := PySem.Data.seq #[PySem.Value.str (sO "s") 310] }
noncomputable abbrev o_144 (P : Params) : Obj := { cls := PySem.Value.type "tuple", data := PySem.Data.seq #[] }
noncomputable abbrev o_145 (_ : Params) : Obj := fnO 16 (PySem.Value.none) 0 (PySem.Value.none) (PySem.Value.none) (PySem.Value.none) (PySem.Value.none)
noncomputable abbrev o_146 (P : Params) : Obj := { cls := PySem.Value.type "code", data := PySem.Data.fields #[PySem.Value.str (sO "standard_b64encode") 307, PySem.Value.str (sO "standard_b64encode") 308, PySem.Value.str (sO "/claim/cut.py") 309, PySem.Value.int 147 0, PySem.Value.int 1 0, PySem.Value.int 0 0, PySem.Value.int 0 0, PySem.Value.int 3 0, PySem.Value.ref 103, PySem.Value.bool true, PySem.Value.int 181 0, PySem.Value.ref 104, PySem.Value.none, PySem.Value.ref 105, PySem.Value.ref 106, PySem.Value.ref 107, PySem.Value.int 311 0, PySem.Value.int 147 0, PySem.Value.str (sO "/claim/cut.py") 312] }
noncomputable abbrev o_147 (_ : Params) : Obj := fnO 16 (PySem.Value.type "function") 3 (PySem.Value.none) (PySem.Value.none) (PySem.Value.str (sO "cpy313.base64") 287) (PySem.Value.ref 108)
noncomputable abbrev o_148 (P : Params) : Obj := { cls := PySem.Value.type "tuple", data := PySem.Data.seq #[] }
noncomputable abbrev o_149 (P : Params) : Obj := { cls := PySem.Value.none, data := PySem.Data.fields #[] }
noncomputable abbrev o_150 (P : Params) : Obj := { cls := PySem.Value.type "tuple", data := PySem.Data.seq #[PySem.Value.str (sO "s") 327] }
noncomputable abbrev o_151 (P : Params) : Obj := { cls := PySem.Value.type "tuple", data := PySem.Data.seq #[] }
noncomputable abbrev o_152 (_ : Params) : Obj := fnO 19 (PySem.Value.none) 0 (PySem.Value.none) (PySem.Value.none) (PySem.Value.none) (PySem.Value.none)
noncomputable abbrev o_153 (P : Params) : Obj := { cls := PySem.Value.type "code", data := PySem.Data.fields #[PySem.Value.str (sO "urlsafe_b64encode") 324, PySem.Value.str (sO "urlsafe_b64encode") 325, PySem.Value.str (sO "/claim/cut.py") 326, PySem.Value.int 151 0, PySem.Value.int 1 0, PySem.Value.int 0 0, PySem.Value.int 0 0, PySem.Value.int 3 0, PySem.Value.ref 110, PySem.Value.bool true, PySem.Value.int 181 0, PySem.Value.ref 111, PySem.Value.none, PySem.Value.ref 112, PySem.Value.ref 113, PySem.Value.ref 114, PySem.Value.int 328 0, PySem.Value.int 151 0, PySem.Value.str (sO "/claim/cut.py") 329] }
noncomputable abbrev o_154 (_ : Params) : Obj := fnO 19 (PySem.Value.type "function") 3 (PySem.Value.none) (PySem.Value.none) (PySem.Value.str (sO "cpy313.base64") 287) (PySem.Value.ref 115)
noncomputable abbrev o_155 (P : Params) : Obj := { cls := PySem.Value.type "tuple", data := PySem.Data.seq #[] }
noncomputable abbrev o_156 (P : Params) : Obj := { cls := PySem.Value.none, data := PySem.Data.fields #[] }
noncomputable abbrev o_157 (P : Params) : Obj := { cls := PySem.Value.type "tuple", data := PySem.Data.seq #[PySem.Value.str (sO "s") 334] }
noncomputable abbrev o_158 (P : Params) : Obj := { cls := PySem.Value.type "tuple", data := PySem.Data.seq #[] }
noncomputable abbrev o_159 (_ : Params) : Obj := fnO 20 (PySem.Value.none) 0 (PySem.Value.none) (PySem.Value.none) (PySem.Value.none) (PySem.Value.none)
noncomputable abbrev o_160 (P : Params) : Obj := { cls := PySem.Value.type "code", data := PySem.Data.fields #[PySem.Value.str (sO "urlsafe_b64decode") 331, PySem.Value.str (sO "urlsafe_b64decode") 332, PySem.Value.str (sO "/claim/cut.py") 333, PySem.Value.int 153 0, PySem.Value.int 1 0, PySem.Value.int 0 0, PySem.Value.int 0 0, PySem.Value.int 3 0, PySem.Value.ref 117, PySem.Value.bool true, PySem.Value.int 181 0, PySem.Value.ref 118, PySem.Value.none, PySem.Value.ref 119, PySem.Value.ref 120, PySem.Value.ref 121, PySem.Value.int 335 0, PySem.Value.int 153 0, PySem.Value.str (sO "/claim/cut.py") 336] }
noncomputable abbrev o_161 (_ : Params) : Obj := fnO 20 (PySem.Value.type "function") 3 (PySem.Value.none) (PySem.Value.none) (PySem.Value.str (sO "cpy313.base64") 287) (PySem.Value.ref 122)
noncomputable abbrev o_162 (P : Params) : Obj := { cls := PySem.Value.type "tuple", data := PySem.Data.seq #[] }
noncomputable abbrev o_163 (P : Params) : Obj := { cls := PySem.Value.none, data := PySem.Data.fields #[] }
noncomputable abbrev o_164 (P : Params) : Obj := { cls := PySem.Value.type "tuple", data := PySem.Data.seq #[PySem.Value.str (sO "ch_a") 349, PySem.Value.str (sO "ch_b") 350] }
noncomputable abbrev o_165 (P : Params) : Obj := { cls := PySem.Value.type "tuple", data := PySem.Data.seq #[] }
noncomputable abbrev o_166 (_ : Params) : Obj := fnO 25 (PySem.Value.none) 0 (PySem.Value.none) (PySem.Value.none) (PySem.Value.none) (PySem.Value.none)
noncomputable abbrev o_167 (P : Params) : Obj := { cls := PySem.Value.type "code", data := PySem.Data.fields #[PySem.Value.str (sO "_substitution_cost") 346, PySem.Value.str (sO "_substitution_cost") 347, PySem.Value.str (sO "/claim/cut.py") 348, PySem.Value.int 161 0, PySem.Value.int 2 0, PySem.Value.int 0 0, PySem.Value.int 0 0, PySem.Value.int 3 0, PySem.Value.ref 124, PySem.Value.bool true, PySem.Value.int 181 0, PySem.Value.ref 125, PySem.Value.none, PySem.Value.ref 126, PySem.Value.ref 127, PySem.Value.ref 128, PySem.Value.int 351 0, PySem.Value.int 161 0, PySem.Value.str (sO "/claim/cut.py") 352] }
noncomputable abbrev o_168 (_ : Params) : Obj := fnO 25 (PySem.Value.type "function") 3 (PySem.Value.none) (PySem.Value.none) (PySem.Value.str (sO "cpy313.traceback") 338) (PySem.Value.ref 129)
noncomputable abbrev o_169 (P : Params) : Obj := { cls := PySem.Value.type "dict", data := PySem.Data.dict #[{ hash := PySem.PyData.keyHash P (sO "__name__"), key := PySem.Value.str (sO "__name__") 165, val := PySem.Value.str (sO "law_pa0032_01") 374 }, { hash := PySem.PyData.keyHash P (sO "__doc__"), key := PySem.Value.str (sO "__doc__") 166, val := PySem.Value.none }, { hash := PySem.PyData.keyHash P (sO "__package__"), key := PySem.Value.str (sO "__package__") 167, val := PySem.Value.none }, { hash := PySem.PyData.keyHash P (sO "__loader__"), key := PySem.Value.str (sO "__loader__") 168, val := PySem.Value.builtin "__main__.__loader__#opaque" }, { hash := PySem.PyData.keyHash P (sO "__spec__"), key := PySem.Value.str (sO "__spec__") 169, val := PySem.Value.none }, { hash := PySem.PyData.keyHash P (sO "__annotations__"), key := PySem.Value.str (sO "__annotations__") 170, val := PySem.Value.ref 6 }, { hash := PySem.PyData.keyHash P (sO "__builtins__"), key := PySem.Value.str (sO "__builtins__") 171, val := PySem.Value.ref 4 }, { hash := PySem.PyData.keyHash P (sO "__file__"), key := PySem.Value.str (sO "__file__") 173, val := PySem.Value.str (sO "/claim/cut.py") 172 }, { hash := PySem.PyData.keyHash P (sO "__cached__"), key := PySem.Value.str (sO "__cached__") 174, val := PySem.Value.none }, { hash := PySem.PyData.keyHash P (sO "_wall"), key := PySem.Value.str (sO "_wall") 193, val := PySem.Value.ref 21 }, { hash := PySem.PyData.keyHash P (sO "bytes_types"), key := PySem.Value.str (sO "bytes_types") 196, val := PySem.Value.ref 22 }, { hash := PySem.PyData.keyHash P (sO "_bytes_from_decode_data"), key := PySem.Value.str (sO "_bytes_from_decode_data") 203, val := PySem.Value.ref 29 }, { hash := PySem.PyData.keyHash P (sO "Error"), key := PySem.Value.str (sO "Error") 223, val := PySem.Value.ref 39 }, { hash := PySem.PyData.keyHash P (sO "_ascii_buffer"), key := PySem.Value.str (sO "_ascii_buffer") 231, val := PySem.Value.ref 49 }, { hash := PySem.PyData.keyHash P (sO "_buffer"), key := PySem.Value.str (sO "_buffer") 239, val := PySem.Value.ref 56 }, { hash := PySem.PyData.keyHash P (sO "_truth"), key := PySem.Value.str (sO "_truth") 247, val := PySem.Value.ref 63 }, { hash := PySem.PyData.keyHash P (sO "_B64"), key := PySem.Value.str (sO "_B64") 249, val := PySem.Value.bytes #[65, 66, 67, 68, 69, 70, 71, 72, 73, 74, 75, 76, 77, 78, 79, 80, 81, 82, 83, 84, 85, 86, 87, 88, 89, 90, 97, 98, 99, 100, 101, 102, 103, 104, 105, 106, 107, 108, 109, 110, 111, 112, 113, 114, 115, 116, 117, 118, 119, 120, 121, 122, 48, 49, 50, 51, 52, 53, 54, 55, 56, 57, 43, 47] 248 }, { hash := PySem.PyData.keyHash P (sO "_b64_value"), key := PySem.Value.str (sO "_b64_value") 256, val := PySem.Value.ref 70 }, { hash := PySem.PyData.keyHash P (sO "a2b_base64"), key := PySem.Value.str (sO "a2b_base64") 272, val := PySem.Value.ref 78 }, { hash := PySem.PyData.keyHash P (sO "b2a_base64"), key := PySem.Value.str (sO "b2a_base64") 286, val := PySem.Value.ref 86 }, { hash := PySem.PyData.keyHash P (sO "b64encode"), key := PySem.Value.str (sO "b64encode") 297, val := PySem.Value.ref 94 }, { hash := PySem.PyData.keyHash P (sO "b64decode"), key := PySem.Value.str (sO "b64decode") 306, val := PySem.Value.ref 102 }, { hash := PySem.PyData.keyHash P (sO "standard_b64encode"), key := PySem.Value.str (sO "standard_b64encode") 313, val := PySem.Value.ref 109 }, { hash := PySem.PyData.keyHash P (sO "_urlsafe_encode_translation"), key := PySem.Value.str (sO "_urlsafe_encode_translation") 318, val := PySem.Value.bytes #[0, 1, 2, 3, 4, 5, 6, 7, 8, 9, 10, 11, 12, 13, 14, 15, 16, 17, 18, 19, 20, 21, 22, 23, 24, 25, 26, 27, 28, 29, 30, 31, 32, 33, 34, 35, 36, 37, 38, 39, 40, 41, 42, 45, 44, 45, 46, 95, 48, 49, 50, 51, 52, 53, 54, 55, 56, 57, 58, 59, 60, 61, 62, 63, 64, 65, 66, 67, 68, 69, 70, 71, 72, 73, 74, 75, 76, 77, 78, 79, 80, 81, 82, 83, 84, 85, 86, 87, 88, 89, 90, 91, 92, 93, 94, 95, 96, 97, 98, 99, 100, 101, 102, 103, 104, 105, 106, 107, 108, 109, 110, 111, 112, 113, 114, 115, 116, 117, 118, 119, 120, 121, 122, 123, 124, 125, 126, 127, 128, 129, 130, 131, 132, 133, 134, 135, 136, 137, 138, 139, 140, 141, 142, 143, 144, 145, 146, 147, 148, 149, 150, 151, 152, 153, 154, 155, 156, 157, 158, 159, 160, 161, 162, 163, 164, 165, 166, 167, 168, 169, 170, 171, 172, 173, 174, 175, 176, 177, 178, 179, 180, 181, 182, 183, 184, 185, 186, 187, 188, 189, 190, 191, 192, 193, 194, 195, 196, 197, 198, 199, 200, 201, 202, 203, 204, 205, 206, 207, 208, 209, 210, 211, 212, 213, 214, 215, 216, 217, 218, 219, 220, 221, 222, 223, 224, 225, 226, 227, 228, 229, 230, 231, 232, 233, 234, 235, 236, 237, 238, 239, 240, 241, 242, 243, 244, 245, 246, 247, 248, 249, 250, 251, 252, 253, 254, 255] 317 }, { hash := PySem.PyData.keyHash P (sO "_urlsafe_decode_translation"), key := PySem.Value.str (sO "_urlsafe_decode_translation") 323, val := PySem.Value.bytes #[0, 1, 2, 3, 4, 5, 6, 7, 8, 9, 10, 11, 12, 13, 14, 15, 16, 17, 18, 19, 20, 21, 22, 23, 24, 25, 26, 27, 28, 29, 30, 31, 32, 33, 34, 35, 36, 37, 38, 39, 40, 41, 42, 43, 44, 43, 46, 47, 48, 49, 50, 51, 52, 53, 54, 55, 56, 57, 58, 59, 60, 61, 62, 63, 64, 65, 66, 67, 68, 69, 70, 71, 72, 73, 74, 75, 76, 77, 78, 79, 80, 81, 82, 83, 84, 85, 86, 87, 88, 89, 90, 91, 92, 93, 94, 47, 96, 97, 98, 99, 100, 101, 102, 103, 104, 105, 106, 107, 108, 109, 110, 111, 112, 113, 114, 115, 116, 117, 118, 119, 120, 121, 122, 123, 124, 125, 126, 127, 128, 129, 130, 131, 132, 133, 134, 135, 136, 137, 138, 139, 140, 141, 142, 143, 144, 145, 146, 147, 148, 149, 150, 151, 152, 153, 154, 155, 156, 157, 158, 159, 160, 161, 162, 163, 164, 165, 166, 167, 168, 169, 170, 171, 172, 173, 174, 175, 176, 177, 178, 179, 180, 181, 182, 183, 184, 185, 186, 187, 188, 189, 190, 191, 192, 193, 194, 195, 196, 197, 198, 199, 200, 201, 202, 203, 204, 205, 206, 207, 208, 209, 210, 211, 212, 213, 214, 215, 216, 217, 218, 219, 220, 221, 222, 223, 224, 225, 226, 227, 228, 229, 230, 231, 232, 233, 234, 235, 236, 237, 238, 239, 240, 241, 242, 243, 244, 245, 246, 247, 248, 249, 250, 251, 252, 253, 254, 255] 322 }, { hash := PySem.PyData.keyHash P (sO "urlsafe_b64encode"), key := PySem.Value.str (sO "urlsafe_b64encode") 330, val := PySem.Value.ref 116 }, { hash := PySem.PyData.keyHash P (sO "urlsafe_b64decode"), key := PySem.Value.str (sO "urlsafe_b64decode") 337, val := PySem.Value.ref 123 }, { hash := PySem.PyData.keyHash P (sO "_MAX_STRING_SIZE"), key := PySem.Value.str (sO "_MAX_STRING_SIZE") 341, val := PySem.Value.int 40 340 }, { hash := PySem.PyData.keyHash P (sO "_MOVE_COST"), key := PySem.Value.str (sO "_MOVE_COST") 343, val := PySem.Value.int 2 342 }, { hash := PySem.PyData.keyHash P (sO "_CASE_COST"), key := PySem.Value.str (sO "_CASE_COST") 345, val := PySem.Value.int 1 344 }, { hash := PySem.PyData.keyHash P (sO "_substitution_cost"), key := PySem.Value.str (sO "_substitution_cost") 353, val := PySem.Value.ref 130 }, { hash := PySem.PyData.keyHash P (sO "_levenshtein_distance"), key := PySem.Value.str (sO "_levenshtein_distance") 373, val := PySem.Value.ref 137 }, { hash := PySem.PyData.keyHash P (sO "_law_figures"), key := PySem.Value.str (sO "_law_figures") 381, val := PySem.Value.ref 142 }, { hash := PySem.PyData.keyHash P (sO "_law_octets"), key := PySem.Value.str (sO "_law_octets") 390, val := PySem.Value.ref 149 }, { hash := PySem.PyData.keyHash P (sO "_law_signs"), key := PySem.Value.str (sO "_law_signs") 396, val := PySem.Value.ref 154 }, { hash := PySem.PyData.keyHash P (sO "_law_text"), key := PySem.Value.str (sO "_law_text") 402, val := PySem.Value.ref 159 }, { hash := PySem.PyData.keyHash P (sO "_law_strict"), key := PySem.Value.str (sO "_law_strict") 409, val := PySem.Value.ref 166 }, { hash := PySem.PyData.keyHash P (sO "_law_loose"), key := PySem.Value.str (sO "_law_loose") 416, val := PySem.Value.ref 173 }, { hash := PySem.PyData.keyHash P (sO "_law_same"), key := PySem.Value.str (sO "_law_same") 424, val := PySem.Value.ref 180 }, { hash := PySem.PyData.keyHash P (sO "_law_told"), key := PySem.Value.str (sO "_law_told") 435, val := PySem.Value.ref 187 }, { hash := PySem.PyData.keyHash P (sO "_law_far"), key := PySem.Value.str (sO "_law_far") 441, val := PySem.Value.ref 192 }, { hash := PySem.PyData.keyHash P (sO "_law_read"), key := PySem.Value.str (sO "_law_read") 447, val := PySem.Value.ref 197 }, { hash := PySem.PyData.keyHash P (sO "law"), key := PySem.Value.str (sO "law") 453, val := PySem.Value.ref 202 }] 43 }
noncomputable abbrev o_170 (P : Params) : Obj := { cls := PySem.Value.none, data := PySem.Data.fields #[PySem.Value.int 1 0, PySem.Value.int 0 0, PySem.Value.ref 20, PySem.Value.int 6 0, PySem.Value.int 0 0, PySem.Value.ref 28, PySem.Value.int 19 0, PySem.Value.int 0 0, PySem.Value.ref 35, PySem.Value.int 21 0, PySem.Value.int 0 0, PySem.Value.ref 48, PySem.Value.int 32 0, PySem.Value.int 0 0, PySem.Value.ref 55, PySem.Value.int 39 0, PySem.Value.int 0 0, PySem.Value.ref 62, PySem.Value.int 45 0, PySem.Value.int 0 0, PySem.Value.ref 69, PySem.Value.int 57 0, PySem.Value.int 0 0, PySem.Value.ref 77, PySem.Value.int 111 0, PySem.Value.int 0 0, PySem.Value.ref 85, PySem.Value.int 134 0, PySem.Value.int 0 0, PySem.Value.ref 93, PySem.Value.int 140 0, PySem.Value.int 0 0, PySem.Value.ref 101, PySem.Value.int 147 0, PySem.Value.int 0 0, PySem.Value.ref 108, PySem.Value.int 151 0, PySem.Value.int 0 0, PySem.Value.ref 115, PySem.Value.int 153 0, PySem.Value.int 0 0, PySem.Value.ref 122, PySem.Value.int 161 0, PySem.Value.int 0 0, PySem.Value.ref 129, PySem.Value.int 167 0, PySem.Value.int 0 0, PySem.Value.ref 136, PySem.Value.int 206 0, PySem.Value.int 0 0, PySem.Value.ref 141, PySem.Value.int 221 0, PySem.Value.int 0 0, PySem.Value.ref 148, PySem.Value.int 228 0, PySem.Value.int 0 0, PySem.Value.ref 153, PySem.Value.int 231 0, PySem.Value.int 0 0, PySem.Value.ref 158, PySem.Value.int 235 0, PySem.Value.int 0 0, PySem.Value.ref 165, PySem.Value.int 240 0, PySem.Value.int 0 0, PySem.Value.ref 172, PySem.Value.int 245 0, PySem.Value.int 0 0, PySem.Value.ref 179, PySem.Value.int 247 0, PySem.Value.int 0 0, PySem.Value.ref 186, PySem.Value.int 254 0, PySem.Value.int 0 0, PySem.Value.ref 191, PySem.Value.int 260 0, PySem.Value.int 0 0, PySem.Value.ref 196, PySem.Value.int 272 0, PySem.Value.int 0 0, PySem.Value.ref 201] }
noncomputable abbrev o_171 (P : Params) : Obj := { cls := PySem.Value.type "tuple", data := PySem.Data.seq #[] }
noncomputable abbrev o_172 (P : Params) : Obj := { cls := PySem.Value.none, data := PySem.Data.fields #[] }
noncomputable abbrev o_173 (P : Params) : Obj := { cls := PySem.Value.type "tuple", data := PySem.Data.seq #[PySem.Value.str (sO "a") 357, PySem.Value.str (sO "b") 358, PySem.Value.str (sO "max_cost") 359, PySem.Value.str (sO "pre") 360, PySem.Value.str (sO "post") 361, PySem.Value.str (sO "row") 362, PySem.Value.str (sO "result") 363, PySem.Value.str (sO "bindex") 364, PySem.Value.str (sO "bchar") 365, PySem.Value.str (sO "distance") 366, PySem.Value.str (sO "minimum") 367, PySem.Value.str (sO "index") 368, PySem.Value.str (sO "substitute") 369, PySem.Value.str (sO "insert_delete") 370] }
noncomputable abbrev o_174 (P : Params) : Obj := { cls := PySem.Value.type "tuple", data := PySem.Data.seq #[] }
noncomputable abbrev o_175 (_ : Params) : Obj := fnO 26 (PySem.Value.none) 0 (PySem.Value.none) (PySem.Value.none) (PySem.Value.none) (PySem.Value.none)
noncomputable abbrev o_176 (P : Params) : Obj := { cls := PySem.Value.type "code", data := PySem.Data.fields #[PySem.Value.str (sO "_levenshtein_distance") 354, PySem.Value.str (sO "_levenshtein_distance") 355, PySem.Value.str (sO "/claim/cut.py") 356, PySem.Value.int 167 0, PySem.Value.int 3 0, PySem.Value.int 0 0, PySem.Value.int 0 0, PySem.Value.int 3 0, PySem.Value.ref 131, PySem.Value.bool true, PySem.Value.int 181 0, PySem.Value.ref 132, PySem.Value.none, PySem.Value.ref 133, PySem.Value.ref 134, PySem.Value.ref 135, PySem.Value.int 371 0, PySem.Value.int 167 0, PySem.Value.str (sO "/claim/cut.py") 372] }
noncomputable abbrev o_177 (_ : Params) : Obj := fnO 26 (PySem.Value.type "function") 3 (PySem.Value.none) (PySem.Value.none) (PySem.Value.str (sO "cpy313.traceback") 338) (PySem.Value.ref 136)
noncomputable abbrev o_178 (P : Params) : Obj := { cls := PySem.Value.type "tuple", data := PySem.Data.seq #[] }
noncomputable abbrev o_179 (P : Params) : Obj := { cls := PySem.Value.none, data := PySem.Data.fields #[] }
noncomputable abbrev o_180 (_ : Params) : Obj := fnO 28 (PySem.Value.none) 0 (PySem.Value.none) (PySem.Value.none) (PySem.Value.none) (PySem.Value.none)
noncomputable abbrev o_181 (P : Params) : Obj := { cls := PySem.Value.type "code", data := PySem.Data.fields #[PySem.Value.str (sO "_law_figures") 376, PySem.Value.str (sO "_law_figures") 377, PySem.Value.str (sO "/claim/cut.py") 378, PySem.Value.int 206 0, PySem.Value.int 1 0, PySem.Value.int 0 0, PySem.Value.int 0 0, PySem.Value.int 3 0, PySem.Value.ref 138, PySem.Value.bool true, PySem.Value.int 181 0, PySem.Value.ref 139, PySem.Value.none, PySem.Value.none, PySem.Value.none, PySem.Value.ref 140, PySem.Value.int 379 0, PySem.Value.int 206 0, PySem.Value.str (sO "/claim/cut.py") 380] }
noncomputable abbrev o_182 (_ : Params) : Obj := fnO 28 (PySem.Value.type "function") 3 (PySem.Value.none) (PySem.Value.none) (PySem.Value.str (sO "law_pa0032_01") 374) (PySem.Value.ref 141)
noncomputable abbrev o_183 (P : Params) : Obj := { cls := PySem.Value.type "tuple", data := PySem.Data.seq #[] }
noncomputable abbrev o_184 (P : Params) : Obj := { cls := PySem.Value.none, data := PySem.Data.fields #[] }
noncomputable abbrev o_185 (P : Params) : Obj := { cls := PySem.Value.type "tuple", data := PySem.Data.seq #[PySem.Value.str (sO "figures") 385, PySem.Value.str (sO "octets") 386, PySem.Value.str (sO "place") 387] }
noncomputable abbrev o_186 (P : Params) : Obj := { cls := PySem.Value.type "tuple", data := PySem.Data.seq #[] }
noncomputable abbrev o_187 (_ : Params) : Obj := fnO 29 (PySem.Value.none) 0 (PySem.Value.none) (PySem.Value.none) (PySem.Value.none) (PySem.Value.none)
noncomputable abbrev o_188 (P : Params) : Obj := { cls := PySem.Value.type "code", data := PySem.Data.fields #[PySem.Value.str (sO "_law_octets") 382, PySem.Value.str (sO "_law_octets") 383, PySem.Value.str (sO "/claim/cut.py") 384, PySem.Value.int 221 0, PySem.Value.int 1 0, PySem.Value.int 0 0, PySem.Value.int 0 0, PySem.Value.int 3 0, PySem.Value.ref 143, PySem.Value.bool true, PySem.Value.int 181 0, PySem.Value.ref 144, PySem.Value.none, PySem.Value.ref 145, PySem.Value.ref 146, PySem.Value.ref 147, PySem.Value.int 388 0, PySem.Value.int 221 0, PySem.Value.str (sO "/claim/cut.py") 389] }
noncomputable abbrev o_189 (_ : Params) : Obj := fnO 29 (PySem.Value.type "function") 3 (PySem.Value.none) (PySem.Value.none) (PySem.Value.str (sO "law_pa0032_01") 374) (PySem.Value.ref 148)
noncomputable abbrev o_190 (P : Params) : Obj := { cls := PySem.Value.type "tuple", data := PySem.Data.seq #[] }
noncomputable abbrev o_191 (P : Params) : Obj := { cls := PySem.Value.none, data := PySem.Data.fields #[] }
noncomputable abbrev o_192 (_ : Params) : Obj := fnO 30 (PySem.Value.none) 0 (PySem.Value.none) (PySem.Value.none) (PySem.Value.none) (PySem.Value.none)
noncomputable abbrev o_193 (P : Params) : Obj := { cls := PySem.Value.type "code", data := PySem.Data.fields #[PySem.Value.str (sO "_law_signs") 391, PySem.Value.str (sO "_law_signs") 392, PySem.Value.str (sO "/claim/cut.py") 393, PySem.Value.int 228 0, PySem.Value.int 2 0, PySem.Value.int 0 0, PySem.Value.int 0 0, PySem.Value.int 3 0, PySem.Value.ref 150, PySem.Value.bool true, PySem.Value.int 181 0, PySem.Value.ref 151, PySem.Value.none, PySem.Value.none, PySem.Value.none, PySem.Value.ref 152, PySem.Value.int 394 0, PySem.Value.int 228 0, PySem.Value.str (sO "/claim/cut.py") 395] }
noncomputable abbrev o_194 (_ : Params) : Obj := fnO 30 (PySem.Value.type "function") 3 (PySem.Value.none) (PySem.Value.none) (PySem.Value.str (sO "law_pa0032_01") 374) (PySem.Value.ref 153)
noncomputable abbrev o_195 (P : Params) : Obj := { cls := PySem.Value.type "tuple", data := PySem.Data.seq #[] }
noncomputable abbrev o_196 (P : Params) : Obj := { cls := PySem.Value.none, data := PySem.Data.fields #[] }
noncomputable abbrev o_197 (_ : Params) : Obj := fnO 31 (PySem.Value.none) 0 (PySem.Value.none) (PySem.Value.none) (PySem.Value.none) (PySem.Value.none)
noncomputable abbrev o_198 (P : Params) : Obj := { cls := PySem.Value.type "code", data := PySem.Data.fields #[PySem.Value.str (sO "_law_text") 397, PySem.Value.str (sO "_law_text") 398, PySem.Value.str (sO "/claim/cut.py") 399, PySem.Value.int 231 0, PySem.Value.int 1 0, PySem.Value.int 0 0, PySem.Value.int 0 0, PySem.Value.int 3 0, PySem.Value.ref 155, PySem.Value.bool true, PySem.Value.int 181 0, PySem.Value.ref 156, PySem.Value.none, PySem.Value.none, PySem.Value.none, PySem.Value.ref 157, PySem.Value.int 400 0, PySem.Value.int 231 0, PySem.Value.str (sO "/claim/cut.py") 401] }
noncomputable abbrev o_199 (_ : Params) : Obj := fnO 31 (PySem.Value.type "function") 3 (PySem.Value.none) (PySem.Value.none) (PySem.Value.str (sO "law_pa0032_01") 374) (PySem.Value.ref 158)
noncomputable abbrev o_200 (P : Params) : Obj := { cls := PySem.Value.type "tuple", data := PySem.Data.seq #[] }
noncomputable abbrev o_201 (P : Params) : Obj := { cls := PySem.Value.none, data := PySem.Data.fields #[] }
noncomputable abbrev o_202 (P : Params) : Obj := { cls := PySem.Value.type "tuple", data := PySem.Data.seq #[PySem.Value.str (sO "text") 406] }
noncomputable abbrev o_203 (P : Params) : Obj := { cls := PySem.Value.type "tuple", data := PySem.Data.seq #[] }
noncomputable abbrev o_204 (_ : Params) : Obj := fnO 32 (PySem.Value.none) 0 (PySem.Value.none) (PySem.Value.none) (PySem.Value.none) (PySem.Value.none)
noncomputable abbrev o_205 (P : Params) : Obj := { cls := PySem.Value.type "code", data := PySem.Data.fields #[PySem.Value.str (sO "_law_strict") 403, PySem.Value.str (sO "_law_strict") 404, PySem.Value.str (sO "/claim/cut.py") 405, PySem.Value.int 235 0, PySem.Value.int 1 0, PySem.Value.int 0 0, PySem.Value.int 0 0, PySem.Value.int 3 0, PySem.Value.ref 160, PySem.Value.bool true, PySem.Value.int 181 0, PySem.Value.ref 161, PySem.Value.none, PySem.Value.ref 162, PySem.Value.ref 163, PySem.Value.ref 164, PySem.Value.int 407 0, PySem.Value.int 235 0, PySem.Value.str (sO "/claim/cut.py") 408] }
noncomputable abbrev o_206 (_ : Params) : Obj := fnO 32 (PySem.Value.type "function") 3 (PySem.Value.none) (PySem.Value.none) (PySem.Value.str (sO "law_pa0032_01") 374) (PySem.Value.ref 165)
noncomputable abbrev o_207 (P : Params) : Obj := { cls := PySem.Value.type "tuple", data := PySem.Data.seq #[] }
noncomputable abbrev o_208 (P : Params) : Obj := { cls := PySem.Value.none, data := PySem.Data.fields #[] }
noncomputable abbrev o_209 (P : Params) : Obj := { cls := PySem.Value.type "tuple", data := PySem.Data.seq #[PySem.Value.str (sO "text") 413] }
noncomputable abbrev o_210 (P : Params) : Obj := { cls := PySem.Value.type "tuple", data := PySem.Data.seq #[] }
noncomputable abbrev o_211 (_ : Params) : Obj := fnO 33 (PySem.Value.none) 0 (PySem.Value.none) (PySem.Value.none) (PySem.Value.none) (PySem.Value.none)
noncomputable abbrev o_212 (P : Params) : Obj := { cls := PySem.Value.type "code", data := PySem.Data.fields #[PySem.Value.str (sO "_law_loose") 410, PySem.Value.str (sO "_law_loose") 411, PySem.Value.str (sO "/claim/cut.py") 412, PySem.Value.int 240 0, PySem.Value.int 1 0, PySem.Value.int 0 0, PySem.Value.int 0 0, PySem.Value.int 3 0, PySem.Value.ref 167, PySem.Value.bool true, PySem.Value.int 181 0, PySem.Value.ref 168, PySem.Value.none, PySem.Value.ref 169, PySem.Value.ref 170, PySem.Value.ref 171, PySem.Value.int 414 0, PySem.Value.int 240 0, PySem.Value.str (sO "/claim/cut.py") 415] }
noncomputable abbrev o_213 (_ : Params) : Obj := fnO 33 (PySem.Value.type "function") 3 (PySem.Value.none) (PySem.Value.none) (PySem.Value.str (sO "law_pa0032_01") 374) (PySem.Value.ref 172)
noncomputable abbrev o_214 (P : Params) : Obj := { cls := PySem.Value.type "tuple", data := PySem.Data.seq #[] }
noncomputable abbrev o_215 (P : Params) : Obj := { cls := PySem.Value.none, data := PySem.Data.fields #[] }
noncomputable abbrev o_216 (P : Params) : Obj := { cls := PySem.Value.type "tuple", data := PySem.Data.seq #[PySem.Value.str (sO "found") 420, PySem.Value.str (sO "due") 421] }
noncomputable abbrev o_217 (P : Params) : Obj := { cls := PySem.Value.type "tuple", data := PySem.Data.seq #[] }
noncomputable abbrev o_218 (_ : Params) : Obj := fnO 34 (PySem.Value.none) 0 (PySem.Value.none) (PySem.Value.none) (PySem.Value.none) (PySem.Value.none)
noncomputable abbrev o_219 (P : Params) : Obj := { cls := PySem.Value.type "code", data := PySem.Data.fields #[PySem.Value.str (sO "_law_same") 417, PySem.Value.str (sO "_law_same") 418, PySem.Value.str (sO "/claim/cut.py") 419, PySem.Value.int 245 0, PySem.Value.int 2 0, PySem.Value.int 0 0, PySem.Value.int 0 0, PySem.Value.int 3 0, PySem.Value.ref 174, PySem.Value.bool true, PySem.Value.int 181 0, PySem.Value.ref 175, PySem.Value.none, PySem.Value.ref 176, PySem.Value.ref 177, PySem.Value.ref 178, PySem.Value.int 422 0, PySem.Value.int 245 0, PySem.Value.str (sO "/claim/cut.py") 423] }
noncomputable abbrev o_220 (_ : Params) : Obj := fnO 34 (PySem.Value.type "function") 3 (PySem.Value.none) (PySem.Value.none) (PySem.Value.str (sO "law_pa0032_01") 374) (PySem.Value.ref 179)
noncomputable abbrev o_221 (P : Params) : Obj := { cls := PySem.Value.type "tuple", data := PySem.Data.seq #[] }
noncomputable abbrev o_222 (P : Params) : Obj := { cls := PySem.Value.none, data := PySem.Data.fields #[] }
noncomputable abbrev o_223 (P : Params) : Obj := { cls := PySem.Value.type "tuple", data := PySem.Data.seq #[PySem.Value.str (sO "one") 428, PySem.Value.str (sO "other") 429, PySem.Value.str (sO "bound") 430, PySem.Value.str (sO "due") 431, PySem.Value.str (sO "told") 432] }
noncomputable abbrev o_224 (P : Params) : Obj := { cls := PySem.Value.type "tuple", data := PySem.Data.seq #[] }
noncomputable abbrev o_225 (_ : Params) : Obj := fnO 35 (PySem.Value.none) 0 (PySem.Value.none) (PySem.Value.none) (PySem.Value.none) (PySem.Value.none)
noncomputable abbrev o_226 (P : Params) : Obj := { cls := PySem.Value.type "code", data := PySem.Data.fields #[PySem.Value.str (sO "_law_told") 425, PySem.Value.str (sO "_law_told") 426, PySem.Value.str (sO "/claim/cut.py") 427, PySem.Value.int 247 0, PySem.Value.int 4 0, PySem.Value.int 0 0, PySem.Value.int 0 0, PySem.Value.int 3 0, PySem.Value.ref 181, PySem.Value.bool true, PySem.Value.int 181 0, PySem.Value.ref 182, PySem.Value.none, PySem.Value.ref 183, PySem.Value.ref 184, PySem.Value.ref 185, PySem.Value.int 433 0, PySem.Value.int 247 0, PySem.Value.str (sO "/claim/cut.py") 434] }
noncomputable abbrev o_227 (_ : Params) : Obj := fnO 35 (PySem.Value.type "function") 3 (PySem.Value.none) (PySem.Value.none) (PySem.Value.str (sO "law_pa0032_01") 374) (PySem.Value.ref 186)
noncomputable abbrev o_228 (P : Params) : Obj := { cls := PySem.Value.type "tuple", data := PySem.Data.seq #[] }
noncomputable abbrev o_229 (P : Params) : Obj := { cls := PySem.Value.none, data := PySem.Data.fields #[] }
noncomputable abbrev o_230 (_ : Params) : Obj := fnO 36 (PySem.Value.none) 0 (PySem.Value.none) (PySem.Value.none) (PySem.Value.none) (PySem.Value.none)
noncomputable abbrev o_231 (P : Params) : Obj := { cls := PySem.Value.type "code", data := PySem.Data.fields #[PySem.Value.str (sO "_law_far") 436, PySem.Value.str (sO "_law_far") 437, PySem.Value.str (sO "/claim/cut.py") 438, PySem.Value.int 254 0, PySem.Value.int 5 0, PySem.Value.int 0 0, PySem.Value.int 0 0, PySem.Value.int 3 0, PySem.Value.ref 188, PySem.Value.bool true, PySem.Value.int 181 0, PySem.Value.ref 189, PySem.Value.none, PySem.Value.none, PySem.Value.none, PySem.Value.ref 190, PySem.Value.int 439 0, PySem.Value.int 254 0, PySem.Value.str (sO "/claim/cut.py") 440] }
noncomputable abbrev o_232 (_ : Params) : Obj := fnO 36 (PySem.Value.type "function") 3 (PySem.Value.none) (PySem.Value.none) (PySem.Value.str (sO "law_pa0032_01") 374) (PySem.Value.ref 191)
noncomputable abbrev o_233 (P : Params) : Obj := { cls := PySem.Value.type "tuple", data := PySem.Data.seq #[] }
noncomputable abbrev o_234 (P : Params) : Obj := { cls := PySem.Value.none, data := PySem.Data.fields #[] }
noncomputable abbrev o_235 (_ : Params) : Obj := fnO 37 (PySem.Value.none) 0 (PySem.Value.none) (PySem.Value.none) (PySem.Value.none) (PySem.Value.none)
noncomputable abbrev o_236 (P : Params) : Obj := { cls := PySem.Value.type "code", data := PySem.Data.fields #[PySem.Value.str (sO "_law_read") 442, PySem.Value.str (sO "_law_read") 443, PySem.Value.str (sO "/claim/cut.py") 444, PySem.Value.int 260 0, PySem.Value.int 5 0, PySem.Value.int 0 0, PySem.Value.int 0 0, PySem.Value.int 3 0, PySem.Value.ref 193, PySem.Value.bool true, PySem.Value.int 181 0, PySem.Value.ref 194, PySem.Value.none, PySem.Value.none, PySem.Value.none, PySem.Value.ref 195, PySem.Value.int 445 0, PySem.Value.int 260 0, PySem.Value.str (sO "/claim/cut.py") 446] }
noncomputable abbrev o_237 (_ : Params) : Obj := fnO 37 (PySem.Value.type "function") 3 (PySem.Value.none) (PySem.Value.none) (PySem.Value.str (sO "law_pa0032_01") 374) (PySem.Value.ref 196)
noncomputable abbrev o_238 (P : Params) : Obj := { cls := PySem.Value.type "tuple", data := PySem.Data.seq #[] }
noncomputable abbrev o_239 (P : Params) : Obj := { cls := PySem.Value.none, data := PySem.Data.fields #[] }
noncomputable abbrev o_240 (_ : Params) : Obj := fnO 38 (PySem.Value.none) 0 (PySem.Value.none) (PySem.Value.none) (PySem.Value.none) (PySem.Value.none)
noncomputable abbrev o_241 (P : Params) : Obj := { cls := PySem.Value.type "code", data := PySem.Data.fields #[PySem.Value.str (sO "law") 448, PySem.Value.str (sO "law") 449, PySem.Value.str (sO "/claim/cut.py") 450, PySem.Value.int 272 0, PySem.Value.int 1 0, PySem.Value.int 0 0, PySem.Value.int 0 0, PySem.Value.int 3 0, PySem.Value.ref 198, PySem.Value.bool true, PySem.Value.int 181 0, PySem.Value.ref 199, PySem.Value.none, PySem.Value.none, PySem.Value.none, PySem.Value.ref 200, PySem.Value.int 451 0, PySem.Value.int 272 0, PySem.Value.str (sO "/claim/cut.py") 452] }
noncomputable abbrev o_242 (_ : Params) : Obj := fnO 38 (PySem.Value.type "function") 3 (PySem.Value.none) (PySem.Value.none) (PySem.Value.str (sO "law_pa0032_01") 374) (PySem.Value.ref 201)
noncomputable abbrev tree_47 (P : Params) : BT := nd (boot_o_0 P) (nd (boot_o_1 P) (nd (boot_o_3 P) (nd (boot_o_7 P) nl nl) (nd (o_43 P) nl nl)) (nd (boot_o_5 P) (nd (boot_o_9 P) nl nl) (nd (o_45 P) nl nl))) (nd (boot_o_2 P) (nd (boot_o_4 P) (nd (boot_o_8 P) nl nl) (nd (o_44 P) nl nl)) (nd (boot_o_6 P) (nd (boot_o_10 P) nl nl) (nd (o_46 P) nl nl)))
noncomputable abbrev tree_99 (P : Params) : BT := nd (boot_o_0 P) (nd (boot_o_1 P) (nd (o_49 P) (nd (boot_o_7 P) (nd (o_51 P) (nd (o_67 P) (nd (o_99 P) nl nl) nl) (nd (o_83 P) nl nl)) (nd (o_59 P) (nd (o_75 P) nl nl) (nd (o_91 P) nl nl))) (nd (o_43 P) (nd (o_55 P) (nd (o_71 P) nl nl) (nd (o_87 P) nl nl)) (nd (o_63 P) (nd (o_79 P) nl nl) (nd (o_95 P) nl nl)))) (nd (boot_o_5 P) (nd (boot_o_9 P) (nd (o_53 P) (nd (o_69 P) nl nl) (nd (o_85 P) nl nl)) (nd (o_61 P) (nd (o_77 P) nl nl) (nd (o_93 P) nl nl))) (nd (o_45 P) (nd (o_57 P) (nd (o_73 P) nl nl) (nd (o_89 P) nl nl)) (nd (o_65 P) (nd (o_81 P) nl nl) (nd (o_97 P) nl nl))))) (nd (boot_o_2 P) (nd (boot_o_4 P) (nd (boot_o_8 P) (nd (o_52 P) (nd (o_68 P) nl nl) (nd (o_84 P) nl nl)) (nd (o_60 P) (nd (o_76 P) nl nl) (nd (o_92 P) nl nl))) (nd (o_50 P) (nd (o_56 P) (nd (o_72 P) nl nl) (nd (o_88 P) nl nl)) (nd (o_64 P) (nd (o_80 P) nl nl) (nd (o_96 P) nl nl)))) (nd (boot_o_6 P) (nd (boot_o_10 P) (nd (o_54 P) (nd (o_70 P) nl nl) (nd (o_86 P) nl nl)) (nd (o_62 P) (nd (o_78 P) nl nl) (nd (o_94 P) nl nl))) (nd (o_46 P) (nd (o_58 P) (nd (o_74 P) nl nl) (nd (o_90 P) nl nl)) (nd (o_66 P) (nd (o_82 P) nl nl) (nd (o_98 P) nl nl)))))
noncomputable abbrev tree_168 (P : Params) : BT := nd (boot_o_0 P) (nd (boot_o_1 P) (nd (o_100 P) (nd (boot_o_7 P) (nd (o_51 P) (nd (o_67 P) (nd (o_99 P) (nd (o_165 P) nl nl) nl) (nd (o_133 P) nl nl)) (nd (o_83 P) (nd (o_117 P) nl nl) (nd (o_149 P) nl nl))) (nd (o_59 P) (nd (o_75 P) (nd (o_109 P) nl nl) (nd (o_141 P) nl nl)) (nd (o_91 P) (nd (o_125 P) nl nl) (nd (o_157 P) nl nl)))) (nd (o_43 P) (nd (o_55 P) (nd (o_71 P) (nd (o_105 P) nl nl) (nd (o_137 P) nl nl)) (nd (o_87 P) (nd (o_121 P) nl nl) (nd (o_153 P) nl nl))) (nd (o_63 P) (nd (o_79 P) (nd (o_113 P) nl nl) (nd (o_145 P) nl nl)) (nd (o_95 P) (nd (o_129 P) nl nl) (nd (o_161 P) nl nl))))) (nd (boot_o_5 P) (nd (boot_o_9 P) (nd (o_53 P) (nd (o_69 P) (nd (o_103 P) (nd (o_167 P) nl nl) nl) (nd (o_135 P) nl nl)) (nd (o_85 P) (nd (o_119 P) nl nl) (nd (o_151 P) nl nl))) (nd (o_61 P) (nd (o_77 P) (nd (o_111 P) nl nl) (nd (o_143 P) nl nl)) (nd (o_93 P) (nd (o_127 P) nl nl) (nd (o_159 P) nl nl)))) (nd (o_45 P) (nd (o_57 P) (nd (o_73 P) (nd (o_107 P) nl nl) (nd (o_139 P) nl nl)) (nd (o_89 P) (nd (o_123 P) nl nl) (nd (o_155 P) nl nl))) (nd (o_65 P) (nd (o_81 P) (nd (o_115 P) nl nl) (nd (o_147 P) nl nl)) (nd (o_97 P) (nd (o_131 P) nl nl) (nd (o_163 P) nl nl)))))) (nd (boot_o_2 P) (nd (boot_o_4 P) (nd (boot_o_8 P) (nd (o_52 P) (nd (o_68 P) (nd (o_102 P) (nd (o_166 P) nl nl) nl) (nd (o_134 P) nl nl)) (nd (o_84 P) (nd (o_118 P) nl nl) (nd (o_150 P) nl nl))) (nd (o_60 P) (nd (o_76 P) (nd (o_110 P) nl nl) (nd (o_142 P) nl nl)) (nd (o_92 P) (nd (o_126 P) nl nl) (nd (o_158 P) nl nl)))) (nd (o_101 P) (nd (o_56 P) (nd (o_72 P) (nd (o_106 P) nl nl) (nd (o_138 P) nl nl)) (nd (o_88 P) (nd (o_122 P) nl nl) (nd (o_154 P) nl nl))) (nd (o_64 P) (nd (o_80 P) (nd (o_114 P) nl nl) (nd (o_146 P) nl nl)) (nd (o_96 P) (nd (o_130 P) nl nl) (nd (o_162 P) nl nl))))) (nd (boot_o_6 P) (nd (boot_o_10 P) (nd (o_54 P) (nd (o_70 P) (nd (o_104 P) (nd (o_168 P) nl nl) nl) (nd (o_136 P) nl nl)) (nd (o_86 P) (nd (o_120 P) nl nl) (nd (o_152 P) nl nl))) (nd (o_62 P) (nd (o_78 P) (nd (o_112 P) nl nl) (nd (o_144 P) nl nl)) (nd (o_94 P) (nd (o_128 P) nl nl) (nd (o_160 P) nl nl)))) (nd (o_46 P) (nd (o_58 P) (nd (o_74 P) (nd (o_108 P) nl nl) (nd (o_140 P) nl nl)) (nd (o_90 P) (nd (o_124 P) nl nl) (nd (o_156 P) nl nl))) (nd (o_66 P) (nd (o_82 P) (nd (o_116 P) nl nl) (nd (o_148 P) nl nl)) (nd (o_98 P) (nd (o_132 P) nl nl) (nd (o_164 P) nl nl))))))
noncomputable abbrev tree_242 (P : Params) : BT := nd (boot_o_0 P) (nd (boot_o_1 P) (nd (o_169 P) (nd (boot_o_7 P) (nd (o_51 P) (nd (o_67 P) (nd (o_99 P) (nd (o_165 P) nl nl) (nd (o_231 P) nl nl)) (nd (o_133 P) (nd (o_199 P) nl nl) nl)) (nd (o_83 P) (nd (o_117 P) (nd (o_183 P) nl nl) nl) (nd (o_149 P) (nd (o_215 P) nl nl) nl))) (nd (o_59 P) (nd (o_75 P) (nd (o_109 P) (nd (o_175 P) nl nl) (nd (o_239 P) nl nl)) (nd (o_141 P) (nd (o_207 P) nl nl) nl)) (nd (o_91 P) (nd (o_125 P) (nd (o_191 P) nl nl) nl) (nd (o_157 P) (nd (o_223 P) nl nl) nl)))) (nd (o_43 P) (nd (o_55 P) (nd (o_71 P) (nd (o_105 P) (nd (o_171 P) nl nl) (nd (o_235 P) nl nl)) (nd (o_137 P) (nd (o_203 P) nl nl) nl)) (nd (o_87 P) (nd (o_121 P) (nd (o_187 P) nl nl) nl) (nd (o_153 P) (nd (o_219 P) nl nl) nl))) (nd (o_63 P) (nd (o_79 P) (nd (o_113 P) (nd (o_179 P) nl nl) nl) (nd (o_145 P) (nd (o_211 P) nl nl) nl)) (nd (o_95 P) (nd (o_129 P) (nd (o_195 P) nl nl) nl) (nd (o_161 P) (nd (o_227 P) nl nl) nl))))) (nd (boot_o_5 P) (nd (boot_o_9 P) (nd (o_53 P) (nd (o_69 P) (nd (o_103 P) (nd (o_167 P) nl nl) (nd (o_233 P) nl nl)) (nd (o_135 P) (nd (o_201 P) nl nl) nl)) (nd (o_85 P) (nd (o_119 P) (nd (o_185 P) nl nl) nl) (nd (o_151 P) (nd (o_217 P) nl nl) nl))) (nd (o_61 P) (nd (o_77 P) (nd (o_111 P) (nd (o_177 P) nl nl) (nd (o_241 P) nl nl)) (nd (o_143 P) (nd (o_209 P) nl nl) nl)) (nd (o_93 P) (nd (o_127 P) (nd (o_193 P) nl nl) nl) (nd (o_159 P) (nd (o_225 P) nl nl) nl)))) (nd (o_45 P) (nd (o_57 P) (nd (o_73 P) (nd (o_107 P) (nd (o_173 P) nl nl) (nd (o_237 P) nl nl)) (nd (o_139 P) (nd (o_205 P) nl nl) nl)) (nd (o_89 P) (nd (o_123 P) (nd (o_189 P) nl nl) nl) (nd (o_155 P) (nd (o_221 P) nl nl) nl))) (nd (o_65 P) (nd (o_81 P) (nd (o_115 P) (nd (o_181 P) nl nl) nl) (nd (o_147 P) (nd (o_213 P) nl nl) nl)) (nd (o_97 P) (nd (o_131 P) (nd (o_197 P) nl nl) nl) (nd (o_163 P) (nd (o_229 P) nl nl) nl)))))) (nd (boot_o_2 P) (nd (boot_o_4 P) (nd (boot_o_8 P) (nd (o_52 P) (nd (o_68 P) (nd (o_102 P) (nd (o_166 P) nl nl) (nd (o_232 P) nl nl)) (nd (o_134 P) (nd (o_200 P) nl nl) nl)) (nd (o_84 P) (nd (o_118 P) (nd (o_184 P) nl nl) nl) (nd (o_150 P) (nd (o_216 P) nl nl) nl))) (nd (o_60 P) (nd (o_76 P) (nd (o_110 P) (nd (o_176 P) nl nl) (nd (o_240 P) nl nl)) (nd (o_142 P) (nd (o_208 P) nl nl) nl)) (nd (o_92 P) (nd (o_126 P) (nd (o_192 P) nl nl) nl) (nd (o_158 P) (nd (o_224 P) nl nl) nl)))) (nd (o_170 P) (nd (o_56 P) (nd (o_72 P) (nd (o_106 P) (nd (o_172 P) nl nl) (nd (o_236 P) nl nl)) (nd (o_138 P) (nd (o_204 P) nl nl) nl)) (nd (o_88 P) (nd (o_122 P) (nd (o_188 P) nl nl) nl) (nd (o_154 P) (nd (o_220 P) nl nl) nl))) (nd (o_64 P) (nd (o_80 P) (nd (o_114 P) (nd (o_180 P) nl nl) nl) (nd (o_146 P) (nd (o_212 P) nl nl) nl)) (nd (o_96 P) (nd (o_130 P) (nd (o_196 P) nl nl) nl) (nd (o_162 P) (nd (o_228 P) nl nl) nl))))) (nd (boot_o_6 P) (nd (boot_o_10 P) (nd (o_54 P) (nd (o_70 P) (nd (o_104 P) (nd (o_168 P) nl nl) (nd (o_234 P) nl nl)) (nd (o_136 P) (nd (o_202 P) nl nl) nl)) (nd (o_86 P) (nd (o_120 P) (nd (o_186 P) nl nl) nl) (nd (o_152 P) (nd (o_218 P) nl nl) nl))) (nd (o_62 P) (nd (o_78 P) (nd (o_112 P) (nd (o_178 P) nl nl) (nd (o_242 P) nl nl)) (nd (o_144 P) (nd (o_210 P) nl nl) nl)) (nd (o_94 P) (nd (o_128 P) (nd (o_194 P) nl nl) nl) (nd (o_160 P) (nd (o_226 P) nl nl) nl)))) (nd (o_46 P) (nd (o_58 P) (nd (o_74 P) (nd (o_108 P) (nd (o_174 P) nl nl) (nd (o_238 P) nl nl)) (nd (o_140 P) (nd (o_206 P) nl nl) nl)) (nd (o_90 P) (nd (o_124 P) (nd (o_190 P) nl nl) nl) (nd (o_156 P) (nd (o_222 P) nl nl) nl))) (nd (o_66 P) (nd (o_82 P) (nd (o_116 P) (nd (o_182 P) nl nl) nl) (nd (o_148 P) (nd (o_214 P) nl nl) nl)) (nd (o_98 P) (nd (o_132 P) (nd (o_198 P) nl nl) nl) (nd (o_164 P) (nd (o_230 P) nl nl) nl))))))
noncomputable abbrev heap_46 (P : Params) : Heap := ⟨⟨[boot_o_0 P, boot_o_1 P, boot_o_2 P, boot_o_3 P, boot_o_4 P, boot_o_5 P, boot_o_6 P, boot_o_7 P, boot_o_8 P, boot_o_9 P, boot_o_10 P, o_43 P, o_44 P, o_45 P, o_46 P]⟩, {}⟩
noncomputable abbrev heap_243 (P : Params) : Heap := ⟨⟨[boot_o_0 P, boot_o_1 P, boot_o_2 P, o_169 P, boot_o_4 P, boot_o_5 P, boot_o_6 P, boot_o_7 P, boot_o_8 P, boot_o_9 P, boot_o_10 P, o_43 P, o_170 P, o_45 P, o_46 P, o_51 P, o_52 P, o_53 P, o_54 P, o_55 P, o_56 P, o_57 P, o_58 P, o_59 P, o_60 P, o_61 P, o_62 P, o_63 P, o_64 P, o_65 P, o_66 P, o_67 P, o_68 P, o_69 P, o_70 P, o_71 P, o_72 P, o_73 P, o_74 P, o_75 P, o_76 P, o_77 P, o_78 P, o_79 P, o_80 P, o_81 P, o_82 P, o_83 P, o_84 P, o_85 P, o_86 P, o_87 P, o_88 P, o_89 P, o_90 P, o_91 P, o_92 P, o_93 P, o_94 P, o_95 P, o_96 P, o_97 P, o_98 P, o_99 P, o_102 P, o_103 P, o_104 P, o_105 P, o_106 P, o_107 P, o_108 P, o_109 P, o_110 P, o_111 P, o_112 P, o_113 P, o_114 P, o_115 P, o_116 P, o_117 P, o_118 P, o_119 P, o_120 P, o_121 P, o_122 P, o_123 P, o_124 P, o_125 P, o_126 P, o_127 P, o_128 P, o_129 P, o_130 P, o_131 P, o_132 P, o_133 P, o_134 P, o_135 P, o_136 P, o_137 P, o_138 P, o_139 P, o_140 P, o_141 P, o_142 P, o_143 P, o_144 P, o_145 P, o_146 P, o_147 P, o_148 P, o_149 P, o_150 P, o_151 P, o_152 P, o_153 P, o_154 P, o_155 P, o_156 P, o_157 P, o_158 P, o_159 P, o_160 P, o_161 P, o_162 P, o_163 P, o_164 P, o_165 P, o_166 P, o_167 P, o_168 P, o_171 P, o_172 P, o_173 P, o_174 P, o_175 P, o_176 P, o_177 P, o_178 P, o_179 P, o_180 P, o_181 P, o_182 P, o_183 P, o_184 P, o_185 P, o_186 P, o_187 P, o_188 P, o_189 P, o_190 P, o_191 P, o_192 P, o_193 P, o_194 P, o_195 P, o_196 P, o_197 P, o_198 P, o_199 P, o_200 P, o_201 P, o_202 P, o_203 P, o_204 P, o_205 P, o_206 P, o_207 P, o_208 P, o_209 P, o_210 P, o_211 P, o_212 P, o_213 P, o_214 P, o_215 P, o_216 P, o_217 P, o_218 P, o_219 P, o_220 P, o_221 P, o_222 P, o_223 P, o_224 P, o_225 P, o_226 P, o_227 P, o_228 P, o_229 P, o_230 P, o_231 P, o_232 P, o_233 P, o_234 P, o_235 P, o_236 P, o_237 P, o_238 P, o_239 P, o_240 P, o_241 P, o_242 P]⟩, {}⟩

abbrev PW : Program := Challenge.pw_pa0032_01
abbrev bd9 : List Stmt := behindTheImports PW
abbrev ev9 : Env := { scope := PW.main.scope, locals := mainNs, globals := mainNs, cells := [], code := .ref 13, frame := some 14 }
abbrev cE9 : Code := .body bd9 ev9
abbrev p0 : Pos := ⟨0, 0, 0, 0⟩
abbrev p1 : Pos := ⟨44, 0, 44, 4⟩
abbrev p2 : Pos := ⟨161, 0, 166, 21⟩
abbrev p3 : Pos := ⟨272, 0, 280, 105⟩
abbrev B9 : List Frame := [topFrame p0]
abbrev an9 : Option Value := some (.ref 6)
noncomputable abbrev st1 : List Stmt := bd9.take 10
noncomputable abbrev st2 : List Stmt := (bd9.drop 10).take 16
noncomputable abbrev st3 : List Stmt := (bd9.drop 26).take 13
noncomputable abbrev S47 (w : World) (os : OsState) : SharedT := ⟨tree_47 w.params, 15, {}, ⟨[]⟩, {}, 187, os⟩
noncomputable abbrev S99 (w : World) (os : OsState) : SharedT := ⟨tree_99 w.params, 64, {}, ⟨[]⟩, {}, 250, os⟩
noncomputable abbrev S168 (w : World) (os : OsState) : SharedT := ⟨tree_168 w.params, 131, {}, ⟨[]⟩, {}, 354, os⟩
noncomputable abbrev S242 (w : World) (os : OsState) : SharedT := ⟨tree_242 w.params, 203, {}, ⟨[]⟩, {}, 454, os⟩
theorem boot_e : opening PW = plainProg PW.main.scope.names := by kernel_rfl
theorem boot_f : ∀ s, fenceModules? PW s = some s := fun s => by kernel_rfl
theorem t_size (w : World) : ((boot_heap w.params).isNs mainGlobals && (Array.mk [] : Array GenState).size == 0, (boot_heap w.params).objs.size, (boot_heap w.params).nsMap mainGlobals "__annotations__") = (true, 11, an9) := by kernel_rfl
theorem t_pre (w : World) : (fun os => topGo treeTable PW w 11 an9 12 ⟨boot_heap w.params, ⟨[]⟩, boot_drawn, boot_toks, os⟩ (topStub PW)) = fun os => some (⟨heap_46 w.params, ⟨[]⟩, {}, 187, os⟩, ⟨denote treeTable cE9, cE9, p0, B9⟩) := by kernel_rfl
theorem t_block (w : World) : (fun os => segRun treeTable PW w 11 an9 1 1 ⟨heap_46 w.params, ⟨[]⟩, {}, 187, os⟩ (blockOf bd9 ev9 cE9 p0 B9)) = fun os => some (.next, (S47 w os).abs, cE9, p0) := by kernel_rfl
theorem t_1 (w : World) : (fun os => segRunT treeTable PW w 11 an9 1 378 (S47 w os) (piecesOf st1 ev9 cE9 p0 B9)) = fun os => some (.next, S99 w os, cE9, p1) := by kernel_rfl
theorem t_2 (w : World) : (fun os => segRunT treeTable PW w 11 an9 1 386 (S99 w os) (piecesOf st2 ev9 cE9 p1 B9)) = fun os => some (.next, S168 w os, cE9, p2) := by kernel_rfl
theorem t_3 (w : World) : (fun os => segRunT treeTable PW w 11 an9 1 360 (S168 w os) (piecesOf st3 ev9 cE9 p2 B9)) = fun os => some (.next, S242 w os, cE9, p3) := by kernel_rfl
theorem t_fin (w : World) : (fun os => topRun treeTable PW w 11 an9 2 (S242 w os).abs ⟨doneF .next, cE9, p3, B9⟩) = fun os => some ⟨heap_243 w.params, ⟨[]⟩, {}, 454, os⟩ := by kernel_rfl
theorem t_body : bd9 = st1 ++ (st2 ++ (st3 ++ [])) := by kernel_rfl
theorem t_rest (w : World) (os : OsState) : topRun treeTable PW w 11 an9 (378 + (386 + (360 + 2))) (S47 w os).abs (restOf (st1 ++ (st2 ++ (st3 ++ []))) ev9 cE9 p0 B9) = some ⟨heap_243 w.params, ⟨[]⟩, {}, 454, os⟩ :=
  piece_app (segRun_of (congrFun (t_1 w) os)) (piece_app (segRun_of (congrFun (t_2 w) os)) (piece_app (segRun_of (congrFun (t_3 w) os)) (piece_nil (congrFun (t_fin w) os))))
theorem t_run (w : World) (os : OsState) : topRun treeTable PW w 11 an9 (12 + (1 + (378 + (386 + (360 + 2))))) ⟨boot_heap w.params, ⟨[]⟩, boot_drawn, boot_toks, os⟩ (topStub PW) = some ⟨heap_243 w.params, ⟨[]⟩, {}, 454, os⟩ := by
  have h := t_rest w os
  rw [← t_body] at h
  exact go_top (congrFun (t_pre w) os) (piece_block (congrFun (t_block w) os) h)
theorem t_left {q : Program} {loose : List Str} {Xt : Shared → Bool} {α : Type} {Yf : Shared → α} {Ya : World → α} {g0 : Bool}
    (h : ∀ w : World, (fun os => ((staticsOk (importedModules PW.main.body) (boot_heap w.params) (heap_243 w.params) && namesBound PW (heap_243 w.params) && gensDone ⟨heap_243 w.params, ⟨[]⟩, {}, 454, os⟩ && laidKept (boot_heap w.params) (heap_243 w.params)),
        openSeen q loose (importedModules PW.main.body) Xt g0 ⟨heap_243 w.params, ⟨[]⟩, {}, 454, os⟩, Yf ⟨heap_243 w.params, ⟨[]⟩, {}, 454, os⟩)) = fun _ => (true, openGood q loose, Ya w)) :
    LeftO PW q loose Xt Yf Ya 2368 g0 :=
  LeftO.of_pieces (boot_open boot_e rfl boot_f) t_size t_run rfl h
end Top9
open Top9
local macro_rules | `(tactic| refine $h:ident $args*) => do
  if h.getId == ``PySem.W.holds_open then `(tactic| (refine' $h:ident $args*; case' hl => (refine t_left (fun w => ?_); kernel_rfl))) else Lean.Macro.throwUnsupported
open_top hd for PySem.Challenge.rw_pa0032_01
end
local macro_rules | `(tactic| walk_at $s:str) => `(tactic| k_extra $(Lean.Syntax.mkStrLit ("my " ++ s.getString)))
local macro_rules | `(tactic| kst_same) => `(tactic| k_extra "same")
local macro_rules | `(tactic| ksw_same) => `(tactic| k_extra "same2")
section
open PySem.Calls
noncomputable abbrev LO : List Str := looseW hd.view_39 [Str.ofString "bytes_types", Str.ofString "a2b_base64", Str.ofString "b2a_base64", Str.ofString "b64encode", Str.ofString "b64decode", Str.ofString "_urlsafe_encode_translation", Str.ofString "_urlsafe_decode_translation"]
noncomputable abbrev PR : Program := Challenge.rw_pa0032_01.row.prog

/-- entering a def whose caller's objects it does not turn: all that stands is its ground -/
theorem enter {w : World} {A A₀ : Around} {s : Shared} {L : Addr} {h₀ base : Heap} {m mg mb : Str → Option Value} {mean : ExcName → Option Value}
    {env : Env} {outer : List Env} {R : Result → Shared → Prop} {name qual : Str} {params : Arguments} {body : List Stmt} {scope : Scope} {dV kV doc pm cdv ct oc : Value} {an od : Option Addr} {osl : Array (Option Value)} {f : Addr} {args : Args} {binds : List (Str × Value)}
    (B : Below A₀ base outer h₀) (F : Fr h₀ L s.heap m) (X₀ : (hd.heap_39 w.params).In h₀) (T : Top hd.view_39 LO mean mg mb h₀) (hA : A.frames = some (env :: outer)) (hf : env.frame = some L) (hke : env.scope.kind = .function)
    (ho : (hd.heap_39 w.params).lookup f = some ⟨oc, od, .func (fnOf name qual params body scope dV kV doc pm an cdv ct), osl⟩) (hcd : codeIn (hd.heap_39 w.params) cdv qual = true) (hroom : A.depth < recursionLimit)
    (hbind : BindsTo s (fnOf name qual params body scope dV kV doc pm an cdv ct) args binds) (hloc : ∀ y ∈ binds, scope.names.lookup y.1 = some .local)
    (h : ∀ g L' h₁, g = s.heap → Fr h₀ L g m → Fr g L' h₁ (fun y => binds.reverse.lookup y) → News g L' h₁ [] → Below A base (env :: outer) g → (hd.heap_39 w.params).In g → Top hd.view_39 LO mean mg mb g →
      wpAny (model PR w) (A.deeper (envOf qual scope L' f cdv)) (execs body (envOf qual scope L' f cdv))
        (fun fl s' => LeaveK h₀ L m g R (match fl with | .ret v => v | _ => .none) s')
        (fun e s' => wpAny (model PR w) (A.deeper (envOf qual scope L' f cdv)) (leaving (envOf qual scope L' f cdv) e) (fun _ s'' => R (.error e) s'') (fun e' s'' => R (.error e') s'') s')
        { s with heap := h₁, toks := s.toks + binds.length })
    (hco : scope.isCoroutine = false) (hgen : scope.isGenerator = false) (hk : scope.kind = .function)
    (hcell : ∀ x ∈ scope.names, x.2 ≠ .cell) : codeAny (model PR w) A (.call (.ref f) args) R s := by
  obtain ⟨FG, BG, st, lv⟩ := groundX (R := R) B F (News.nil (h := s.heap)) hA hf hke
  have X := X₀.keeps F.keep
  refine codeAny_call_def (fd := fnOf name qual params body scope dV kV doc pm an cdv ct) (body := body) (binds := binds) hroom (X _ _ ho) rfl (T.nolimit.keeps F.keep) (codeRec_of X hcd) rfl hbind hcell hloc (fun h₁ hns hk₁ => ?_) hco hgen hk
  exact wpAny_mono (h _ s.heap.objs.size h₁ rfl FG ⟨hns, fun b o e => hk₁ b o e, Nat.le_refl _⟩ News.nil BG X (T.keeps F.keep)) (fun fl s' hl => lv _ _ hl) fun _ _ y => y

/-- what a call of the def at f says: it hands back r with P r, and all that stood stands -/
def Says (w : World) (mean : ExcName → Option Value) (mg mb : Str → Option Value) (f : Addr) (k : Nat) (Pre : Heap → Prop) (vs : List Value) (kw : List (Str × Value)) (P : Heap → Heap → Value → Prop) : Prop :=
  ∀ (dp un : Nat) (gd : Option (List Code)) (cn : Str) (cs : Scope) (a : Addr) (ccd : Value) (cl : List (Str × Addr)) (outer : List Env) (A₀ : Around) (base h₀ : Heap) (L : Addr) (m : Str → Option Value) (s : Shared) (Q E : Value → Shared → Prop),
    Below A₀ base outer h₀ → Fr h₀ L s.heap m → (hd.heap_39 w.params).In h₀ → Top hd.view_39 LO mean mg mb h₀ → cs.kind = .function → dp + k < recursionLimit → un + 8 * k < cLine → Pre s.heap →
    (∀ r h' tk', s.heap.StaysIn h' → P s.heap h' r → Q r { s with heap := h', toks := tk' }) →
    wpAny (model PR w) (ktrTop dp un gd cn cs L a ccd cl outer) (call (.ref f) vs kw) Q E s

theorem use {w : World} {mean : ExcName → Option Value} {mg mb : Str → Option Value} {f : Addr} {k : Nat} {Pre : Heap → Prop} {vs : List Value} {kw : List (Str × Value)} {P : Heap → Heap → Value → Prop}
    {dp un : Nat} {gd : Option (List Code)} {cn : Str} {cs : Scope} {a : Addr} {ccd : Value} {cl : List (Str × Addr)} {outer : List Env} {A₀ : Around} {base h₀ : Heap} {L : Addr} {m : Str → Option Value} {news : List (Addr × Obj)} {s : Shared} {Q E : Value → Shared → Prop}
    (C : Says w mean mg mb f k Pre vs kw P) (B : Below A₀ base outer h₀) (F : Fr h₀ L s.heap m) (X : (hd.heap_39 w.params).In h₀) (N : News h₀ L s.heap news) (T : Top hd.view_39 LO mean mg mb h₀) (hk : cs.kind = .function) (hd : dp + k < recursionLimit) (hu : un + 8 * k < cLine) (hp : Pre s.heap)
    (ret : ∀ r h' tk', Fr h₀ L h' m → News h₀ L h' news → s.heap.StaysIn h' → P s.heap h' r → Q r { s with heap := h', toks := tk' }) :
    wpAny (model PR w) (ktrTop dp un gd cn cs L a ccd cl outer) (call (.ref f) vs kw) Q E s :=
  C _ _ _ _ _ _ _ _ _ _ _ _ _ _ _ _ _ B F X T hk hd hu hp fun r h' tk' st p => ret r h' tk' (F.keeps st) (N.grown st) st p

theorem kept9 {g h' : Heap} {s : Shared} {L' : Addr} {m' : Str → Option Value} (hg : g = s.heap) (F : Fr g L' h' m') : s.heap.StaysIn h' := hg ▸ F.keep
theorem exInt {a b : Int} {t : Tok} (h : a = b) : ∃ t', Value.int a t = Value.int b t' := ⟨t, by rw [h]⟩
theorem exStr {a b : Str} {t : Tok} (h : a = b) : ∃ t', Value.str a t = Value.str b t' := ⟨t, by rw [h]⟩
theorem exBytes {a b : Array UInt8} {t : Tok} (h : a = b) : ∃ t', Value.bytes a t = Value.bytes b t' := ⟨t, by rw [h]⟩
end
section
open PySem.Calls Builtin

theorem forIn_two {σ : Type} (n : Nat) (a b : σ) (body : Nat → σ → Sem (ForInStep σ)) (h1 : ∀ i, body i a = pure (.yield b)) (h2 : ∀ i, body i b = pure (.done b)) (k : Nat) :
    forIn (List.range' k (n + 1)) a body = (pure b : Sem σ) := by
  rw [List.range'_succ, List.forIn_cons, h1]
  show forIn (List.range' (k + 1) n) b body = pure b
  cases n with
  | zero => rfl
  | succ n => rw [List.range'_succ, List.forIn_cons, h2]; rfl
theorem foldl_bytes (l : List Nat) : ∀ acc : Array UInt8, l.foldl (fun acc y => acc ++ ([y.toUInt8] : List UInt8).toArray) acc = acc ++ (l.map (·.toUInt8)).toArray := by
  induction l with
  | nil => intro acc; simp
  | cons c r ih => intro acc; rw [List.foldl_cons, ih]; simp
theorem for_two {σ ρ : Type} {m n : Nat} (hm : m = n + 1) {a b : σ} {body : Nat → σ → Sem (ForInStep σ)} (h1 : ∀ i, body i a = pure (.yield b)) (h2 : ∀ i, body i b = pure (.done b)) {k : σ → Sem ρ} {r : Sem ρ} (hk : k b = r) :
    ((forIn [:m] a fun i s => body i s) >>= k) = r := by
  subst hm
  rw [Std.Legacy.Range.forIn_eq_forIn_range']
  have e : [:n + 1].size = n + 1 := by simp [Std.Legacy.Range.size]
  rw [e]
  show (forIn (List.range' 0 (n + 1)) a body >>= k) = r
  rw [forIn_two n a b body h1 h2]
  exact hk
theorem for_none {σ ρ : Type} {m : Nat} (hm : m = 0) {a : σ} {body : Nat → σ → Sem (ForInStep σ)} {k : σ → Sem ρ} {r : Sem ρ} (hk : k a = r) : ((forIn [:m] a fun i s => body i s) >>= k) = r := by
  subst hm
  rw [Std.Legacy.Range.forIn_eq_forIn_range']
  exact hk
theorem narrow_ascii (id : String) (self : Value) (x : PySem.Str) (h : ∀ c ∈ x.cps.toList, c < 128) (hz : x.length ≤ sizeLine) : _codecs.encodeNarrow id _codecs.asciiCodec none self x = pure (x.cps.map (·.toUInt8)) := by
  have hbad : ∀ c ∈ x.cps, _codecs.asciiCodec.bad c = false := fun c hc => by
    have := h c (Array.mem_toList_iff.mpr hc)
    show decide (c ≥ 128) = false
    simp; omega
  rcases Nat.eq_zero_or_pos x.cps.size with hc | hc
  · have e : x.cps = #[] := Array.eq_empty_of_size_eq_zero hc
    refine for_none (m := x.length) hc ?_
    show (pure (#[] : Array UInt8) : Sem (Array UInt8)) = _
    rw [e]
    simp
  · obtain ⟨n, hn'⟩ : ∃ n, x.cps.size = n + 1 := ⟨x.cps.size - 1, by omega⟩
    have hfi : Array.findIdx? _codecs.asciiCodec.bad x.cps = none := by
      rw [Array.findIdx?_eq_none_iff]; exact hbad
    have hout : Array.foldl (fun acc y => acc ++ (_codecs.asciiCodec.bytesOf y).toArray) #[] x.cps = x.cps.map (·.toUInt8) := by
      show Array.foldl (fun acc y => acc ++ ([y.toUInt8] : List UInt8).toArray) #[] x.cps = _
      rw [← Array.foldl_toList, foldl_bytes, ← Array.toList_map, Array.toArray_toList, Array.empty_append]
    have e0 : x.cps[0]? = some (x.cps[0]'(by omega)) := Array.getElem?_eq_getElem (by omega)
    have b0 := hbad (x.cps[0]'(by omega)) (Array.getElem_mem _)
    have e2 : x.cps[x.cps.size]? = none := by simp
    have e1 : ¬ (x.cps.map (·.toUInt8)).size > sizeLine := by
      rw [Array.size_map]; exact Nat.not_lt.mpr hz
    refine for_two (m := x.length) (n := n) (a := ((0, #[], {}) : Nat × Array UInt8 × _codecs.Faults)) (b := (x.cps.size, x.cps.map (·.toUInt8), {})) hn' (fun i => ?_) (fun i => ?_) rfl
    · refine (if_neg (Nat.not_lt_zero _)).trans ?_
      rw [show x.cps[((0, (#[] : Array UInt8), ({} : _codecs.Faults)) : Nat × Array UInt8 × _codecs.Faults).1]? = some (x.cps[0]'(by omega)) from e0]
      refine (if_pos (by rw [b0]; rfl)).trans ?_
      refine congrArg (fun z => pure (ForInStep.yield z)) ?_
      have ex : x.cps.extract 0 = x.cps := Array.extract_size
      show (0 + (Array.findIdx? _codecs.asciiCodec.bad (x.cps.extract 0)).getD (x.cps.extract 0).size, Array.foldl (fun acc y => acc ++ (_codecs.asciiCodec.bytesOf y).toArray) #[] ((x.cps.extract 0).extract 0 ((Array.findIdx? _codecs.asciiCodec.bad (x.cps.extract 0)).getD (x.cps.extract 0).size)), ({} : _codecs.Faults)) = _
      rw [ex, hfi]
      show (0 + x.cps.size, Array.foldl (fun acc y => acc ++ (_codecs.asciiCodec.bytesOf y).toArray) #[] (x.cps.extract 0 x.cps.size), ({} : _codecs.Faults)) = _
      rw [Array.extract_size, hout, Nat.zero_add]
    · refine (if_neg e1).trans ?_
      rw [show x.cps[((x.cps.size, x.cps.map (·.toUInt8), ({} : _codecs.Faults)) : Nat × Array UInt8 × _codecs.Faults).1]? = none from e2]

theorem road_ascii {id : String} {self : Value} {x : PySem.Str} : _codecs.encodeRoad id self x (PySem.Str.ofString "ascii") none = (_codecs.encodeNarrow id _codecs.asciiCodec none self x >>= fun r => mkBytes r) := by kernel_rfl
theorem encode_eq (x : PySem.Str) (t u : Tok) : «str.encode» ⟨[.str x t, .str (PySem.Str.ofString "ascii") u], []⟩ = (_codecs.encodeRoad "str.encode" (.str x t) x (PySem.Str.ofString "ascii") none >>= fun v => ret v) := by kernel_rfl
theorem meets_encode (x : PySem.Str) (t u : Tok) (h : ∀ c ∈ x.cps.toList, c < 128) (hz : x.length ≤ sizeLine) :
    Meets («str.encode» ⟨[.str x t, .str (PySem.Str.ofString "ascii") u], []⟩) (fun _ R s => R (.ok (.ret (.bytes (x.cps.map (·.toUInt8)) s.toks))) { s with toks := s.toks + 1 }) := by
  refine .of_wp fun prog w A R s hS => ?_
  rw [encode_eq, road_ascii, narrow_ascii _ _ _ h hz]
  exact wpAny_bind (wpAny_bind (wpAny_pure (wpAny_mkBytes (wpAny_pure ⟨_, rfl, hS⟩) (by rw [Array.size_map]; exact hz))))
section
variable {prog : Program} {w : World} {M : Model} {A : Around} {E : Value → Shared → Prop} {s : Shared} {x : PySem.Str} {b tb : Array UInt8} {t u : Tok}
theorem encode {Q : Value → Shared → Prop} (h : ∀ c ∈ x.cps.toList, c < 128) (hz : x.length ≤ sizeLine) (hq : ∀ t' k, Q (.bytes (x.cps.map (·.toUInt8)) t') { s with toks := k }) :
    wpAny (model prog w) A (call (.builtin "str.encode") [.str x t, .str (PySem.Str.ofString "ascii") u]) Q E s :=
  call_meets F.slot_str_encode (typeIs_str _ _ _) F.entry_str_encode (F.args_str_encode_2 _ _) (meets_encode x t u h hz) (hq _ _)
theorem method_encode {pl : Sem Bool} {Q : Value × List Value → Shared → Prop} (h : Q (.builtin "str.encode", [.str x t]) s) : wpAny M A (getMethod (.str x t) "encode" pl) Q E s := by
  with_reducible exact GM.of (.str x t) (typeIs_str _ _ _) F.slot_str_encode F.type_str_encode GM.noRef h

theorem slot_translate : Slot "bytes" "translate" "bytes.translate" :=
  .of (owner := "bytes") (n := "translate") (by rw [typeLookup_type, builtinLookup_eq_fast]; kernel_rfl) (by decide +kernel) (by decide +kernel) (by decide +kernel)
    (by first | exact .inl (by decide +kernel) | exact .inr (by decide +kernel)) (by rw [isSubtype_type]; kernel_rfl)
theorem type_translate : typeOf (.builtin "bytes.translate") = pure (.type "method_descriptor") := by show builtinType _ = _; rw [builtinType_eq_fast]; kernel_rfl
theorem entry_translate : entryFor table "bytes.translate" = some Builtin.«bytes.translate» := entryFor_of_tree (by kernel_rfl)
theorem args_translate (a c : Value) : argsOk "bytes.translate" ⟨[a, c], []⟩ := by
  unfold argsOk; kernel_rfl
theorem method_translate {pl : Sem Bool} {Q : Value × List Value → Shared → Prop} (h : Q (.builtin "bytes.translate", [.bytes b t]) s) : wpAny M A (getMethod (.bytes b t) "translate" pl) Q E s := by
  with_reducible exact KBd.method_of (.bytes b t) (typeIs_bytes _ _ _) slot_translate type_translate KBd.noRef h
end
def trans (tb b : Array UInt8) : Array UInt8 := b.map fun c => tb.getD c.toNat c
theorem meets_translate (b tb : Array UInt8) (t u : Tok) (h : tb.size = 256) (hz : b.size ≤ sizeLine) :
    Meets («bytes.translate» ⟨[.bytes b t, .bytes tb u], []⟩) (fun _ R s => ∀ t' k, R (.ok (.ret (.bytes (trans tb b) t'))) { s with toks := k }) := by
  refine .of_wp fun prog w A R s hS => ?_
  show wpAny _ _ (Bytes.bytesLike _ (.bytes tb u) >>= fun r => _) _ _ s
  refine wpAny_bind (wpAny_of_eq KBd.like_eq ?_)
  have e1 : (tb.size != 256) = false := by rw [h]; rfl
  simp only [e1]
  have e2 : (b.filter fun x => !(#[] : Array UInt8).contains x) = b := by
    rw [Array.filter_eq_self]; intro a _; simp
  show wpAny _ _ (if (Array.map (fun c => tb.getD c.toNat c) (b.filter fun x => !(#[] : Array UInt8).contains x) == b) = true then _ else _) _ _ s
  rw [e2]
  by_cases e3 : (Array.map (fun c => tb.getD c.toNat c) b == b) = true
  · rw [if_pos e3]
    have e4 : trans tb b = b := eq_of_beq e3
    rw [e4] at hS
    refine wpAny_bind (wpAny_rule ?_)
    show wpAny _ _ (typeOf (.bytes b t) >>= fun r => _) _ _ s
    refine wpAny_bind (wpAny_typeOf (typeIs_bytes s b t) ?_)
    exact wpAny_pure ⟨_, rfl, hS t s.toks⟩
  · rw [if_neg e3]
    exact wpAny_bind (wpAny_mkBytes (wpAny_pure ⟨_, rfl, hS _ _⟩) (by rw [Array.size_map]; exact hz))
theorem translate {prog : Program} {w : World} {A : Around} {E : Value → Shared → Prop} {s : Shared} {b tb : Array UInt8} {t u : Tok} {Q : Value → Shared → Prop} (h : tb.size = 256) (hz : b.size ≤ sizeLine) (hq : ∀ t' k, Q (.bytes (trans tb b) t') { s with toks := k }) :
    wpAny (model prog w) A (call (.builtin "bytes.translate") [.bytes b t, .bytes tb u]) Q E s :=
  call_meets slot_translate (typeIs_bytes _ _ _) entry_translate (args_translate _ _) (meets_translate b tb t u h hz) hq
end
section
open PySem.Calls Builtin LCg

/-- the end of a turn that only makes things: what stood stands -/
def Pend (s : Shared) (h : Heap) (R : Value → Prop) (y : Value) (s' : Shared) : Prop := ∃ h' tk', s' = { s with heap := h', toks := tk' } ∧ h.StaysIn h' ∧ R y
theorem Pend.mk {s : Shared} {h h' : Heap} {tk' : Nat} {R : Value → Prop} {y : Value} (st : h.StaysIn h') (r : R y) : Pend s h R y { s with heap := h', toks := tk' } := ⟨h', tk', rfl, st, r⟩

section
variable {prog : Program} {w : World} {A : Around} {E : Value → Shared → Prop} {s : Shared} {h₀ : Heap} {L : Addr} {m : PySem.Str → Option Value} {env : Env} {elt ct iter : Expr} {x : PySem.Str} {px pos : Pos} {scope : Scope} {cl : List (PySem.Str × Addr)} {news : List (Addr × Obj)} {n : Nat} {P : Nat → Value → Prop} {Fin : List Value → List (Addr × Obj) → Prop} {S : List (Addr × Obj) → Prop}

theorem rest_U (hS : S news) (Rel : Nat → List Value → Prop)
    (turn : ∀ i v ys I oI C oC D m₂ h tk (E' : Value → Shared → Prop), i < n → P i v → Rel i ys → NsObj oC m₂ → m₂ x = some v → Fr h₀ L h m → News h₀ L h ((I, oI) :: (C, oC) :: (D, lst ys) :: news) →
      wpAny (model prog w) A (eval elt (compEnvC scope cl C env)) (Pend s h fun y => Rel (i + 1) (ys ++ [y])) E' { s with heap := h, toks := tk })
    (fin : ∀ ys, Rel n ys → Fin ys news) : ∀ k i ys, i + k = n → Rel i ys → CompRest prog w A h₀ L m env elt x scope cl s S P Fin k i ys news := by
  intro k
  induction k with
  | zero =>
    intro i ys hi hr
    have e : i = n := by lia
    subst e
    exact CompRest.zero (fin ys hr)
  | succ k ih =>
    intro i ys hi hr
    refine CompRest.succ ?_
    intro v I oI C oC D m₂ h tk E' hv hC hx F N off ne
    refine wpAny_mono (turn i v ys I oI C oC D m₂ h tk E' (by lia) hv hr hC hx F N) (fun y s₂ hq => ?_) fun _ _ e => e
    obtain ⟨h', tk', e, st, hr'⟩ := hq
    exact ⟨h', tk', news, e, F.keeps st, N.grown st, off, hS, ih (i + 1) _ (by lia) hr'⟩

theorem rest_T (hS : S news) (Rel : Nat → List Value → Prop)
    (turn : ∀ i v ys I oI C oC D m₂ h tk (E' : Value → Shared → Prop), i < n → P i v → Rel i ys → NsObj oC m₂ → m₂ x = some v → Fr h₀ L h m → News h₀ L h ((I, oI) :: (C, oC) :: (D, lst ys) :: news) →
      wpAny (model prog w) A (isTrue ct (compEnvC scope cl C env) (eval ct (compEnvC scope cl C env))) (fun ok s' => if ok = true then
        wpAny (model prog w) A (eval elt (compEnvC scope cl C env)) (Pend s h fun y => Rel (i + 1) (ys ++ [y])) E' s'
        else Pend s h (fun _ => Rel (i + 1) ys) Value.none s') E' { s with heap := h, toks := tk })
    (fin : ∀ ys, Rel n ys → Fin ys news) : ∀ k i ys, i + k = n → Rel i ys → LCt.CompRestT prog w A h₀ L m env ct elt x scope cl s S P Fin k i ys news := by
  intro k
  induction k with
  | zero =>
    intro i ys hi hr
    have e : i = n := by lia
    subst e
    exact LCt.CompRestT.zero (fin ys hr)
  | succ k ih =>
    intro i ys hi hr
    refine LCt.CompRestT.succ ?_
    intro v I oI C oC D m₂ h tk E' hv hC hx F N off ne
    refine wpAny_mono (turn i v ys I oI C oC D m₂ h tk E' (by lia) hv hr hC hx F N) (fun ok s₂ hq => ?_) fun _ _ e => e
    cases ok with
    | true =>
      simp only [if_true] at hq ⊢
      refine wpAny_mono hq (fun y s₃ hq => ?_) fun _ _ e => e
      obtain ⟨h', tk', e, st, hr'⟩ := hq
      exact ⟨h', tk', news, e, F.keeps st, N.grown st, off, hS, ih (i + 1) _ (by lia) hr'⟩
    | false =>
      simp only [Bool.false_eq_true, if_false] at hq ⊢
      obtain ⟨h', tk', e, st, hr'⟩ := hq
      exact ⟨h', tk', news, e, F.keeps st, N.grown st, off, hS, ih (i + 1) _ (by lia) hr'⟩

/-- [elt for x in (bytes)] -/
theorem compB {b : Array UInt8} {t : Tok} {Q : Value → Shared → Prop} (Rel : Nat → List Value → Prop) (hh : A.handled = none) (F : Fr h₀ L s.heap m) (N : News h₀ L s.heap news)
    (hclos : closureFor scope env = pure cl) (hcell : ∀ y ∈ scope.names, y.2 ≠ .cell) (hkind : scope.kind = .function)
    (hnames : ∀ y ∈ scope.names, y.2 = .local → scope.names.lookup y.1 = some .local) (hx : scope.names.lookup x = some .local)
    (hi : wpAny (model prog w) A (eval iter env) (fun xv s₁ => xv = .bytes b t ∧ s₁ = s) E s) (hsz : b.size ≤ sizeLine) (h0 : Rel 0 [])
    (turn : ∀ s₂ i (c : UInt8) u ys I oI C oC D m₂ h tk (E' : Value → Shared → Prop), b[i]? = some c → 0 ≤ (c.toNat : Int) → (c.toNat : Int) < 256 → Rel i ys → NsObj oC m₂ → m₂ x = some (.int (c.toNat : Int) u) → Fr h₀ L h m → News h₀ L h ((I, oI) :: (C, oC) :: (D, lst ys) :: news) →
      wpAny (model prog w) A (eval elt (compEnvC scope cl C env)) (Pend s₂ h fun y => Rel (i + 1) (ys ++ [y])) E' { s₂ with heap := h, toks := tk })
    (fin : ∀ D ys h tk, Rel b.size ys → Fr h₀ L h m → News h₀ L h ((D, lst ys) :: news) → Q (.ref D) { s with heap := h, toks := tk })
    (hs : ∀ x, foldedSetIterable iter env x = pure x := by intro _; rfl) :
    wpAny (model prog w) A (eval (.ListComp elt [⟨.Name x px, iter, [], 0⟩] scope pos) env) Q E s := by
  rw [eval_ListComp]
  refine wpAny_comprehension_free (use := none) rfl hs hclos hkind hnames (wpAny_mono hi (fun xv s₁ h₁ => ?_) fun _ _ e => e)
  obtain ⟨rfl, rfl⟩ := h₁
  refine KBw.pyIter_bytes ?_
  have up : ∀ b' o, s₁.heap.get? b' = some o → (s₁.heap.push { cls := .type "bytes_iterator", data := .fields #[.bytes b t, .int 0 0] }).get? b' = some o := fun b o e => Heap.get?_push_of_some _ e
  refine block_U (S := fun _ => True) (Fin := fun ys nw => nw = news ∧ Rel b.size ys) (KBw.walks hh s₁.heap.objs.size b t) hsz (fun i h st => by obtain ⟨o, e, _⟩ := st; exact ⟨o, e⟩) (fun i h h' o nw st e e' _ _ _ => by obtain ⟨o', q, r⟩ := st; rw [e] at q; cases q; exact ⟨o, e', r⟩) hcell hkind hx ⟨_, Heap.get?_push_size _ rfl, rfl, rfl⟩ (fun b hb => ?_)
    (F.keeps up) (N.grown up) (Nat.ne_of_lt F.ns.lt) (next_is_new F) (fun p hp => Nat.ne_of_lt (Heap.lt_size (N p hp).1)) trivial (rest_U trivial Rel (fun i v ys I oI C oC D m₂ h tk E' _ hv => by obtain ⟨c, u, hc, rfl⟩ := hv; exact turn _ i c u ys I oI C oC D m₂ h tk E' hc (by lia) (by have := c.toNat_lt; lia)) (fun ys hr => ⟨rfl, hr⟩) _ 0 [] (by lia) h0) ?_
  · rw [List.mem_singleton.mp hb]
    show s₁.heap.objs.size < (s₁.heap.push _).objs.size
    rw [Heap.size_push]; exact Nat.lt_succ_self _
  · intro D C h tk m' ys news' F' N' o1 hn hC₀ hD₀ hCL hDL hCD offC fin'
    obtain ⟨rfl, hr⟩ := fin'
    refine ⟨m', hn, fun h'' hs'' => fin D ys h'' tk hr (F'.change hs'' hCL hC₀) (fun p hp => ?_)⟩
    refine ⟨hs''.extBut _ _ ?_ (N' p hp).1, (N' p hp).2⟩
    rcases List.mem_cons.mp hp with rfl | hp
    · exact Ne.symm hCD
    · exact offC p hp

/-- [elt for x in (text) if ct] -/
theorem compT {z : PySem.Str} {t : Tok} {Q : Value → Shared → Prop} (Rel : Nat → List Value → Prop) (hh : A.handled = none) (F : Fr h₀ L s.heap m) (N : News h₀ L s.heap news)
    (hclos : closureFor scope env = pure cl) (hcell : ∀ y ∈ scope.names, y.2 ≠ .cell) (hkind : scope.kind = .function)
    (hnames : ∀ y ∈ scope.names, y.2 = .local → scope.names.lookup y.1 = some .local) (hx : scope.names.lookup x = some .local)
    (hi : wpAny (model prog w) A (eval iter env) (fun xv s₁ => xv = .str z t ∧ s₁ = s) E s) (ha : z.cps.all (· < 128) = true) (hsz : z.cps.size ≤ sizeLine) (h0 : Rel 0 [])
    (turn : ∀ s₂ i (c : Nat) u ys I oI C oC D m₂ h tk (E' : Value → Shared → Prop), z.cps[i]? = some c → Rel i ys → NsObj oC m₂ → m₂ x = some (.str ⟨#[c]⟩ u) → Fr h₀ L h m → News h₀ L h ((I, oI) :: (C, oC) :: (D, lst ys) :: news) →
      wpAny (model prog w) A (isTrue ct (compEnvC scope cl C env) (eval ct (compEnvC scope cl C env))) (fun ok s' => if ok = true then
        wpAny (model prog w) A (eval elt (compEnvC scope cl C env)) (Pend s₂ h fun y => Rel (i + 1) (ys ++ [y])) E' s'
        else Pend s₂ h (fun _ => Rel (i + 1) ys) Value.none s') E' { s₂ with heap := h, toks := tk })
    (fin : ∀ D ys h tk, Rel z.cps.size ys → Fr h₀ L h m → News h₀ L h ((D, lst ys) :: news) → Q (.ref D) { s with heap := h, toks := tk })
    (hs : ∀ x, foldedSetIterable iter env x = pure x := by intro _; rfl) :
    wpAny (model prog w) A (eval (.ListComp elt [⟨.Name x px, iter, [ct], 0⟩] scope pos) env) Q E s := by
  rw [eval_ListComp]
  refine wpAny_comprehension_free (use := none) rfl hs hclos hkind hnames (wpAny_mono hi (fun xv s₁ h₁ => ?_) fun _ _ e => e)
  obtain ⟨rfl, rfl⟩ := h₁
  refine wpAny_pyIter_ascii ha ?_
  have up : ∀ b' o, s₁.heap.get? b' = some o → (s₁.heap.push { cls := .type "str_ascii_iterator", data := .fields #[.str z t, .int 0 0] }).get? b' = some o := fun b o e => Heap.get?_push_of_some _ e
  refine LCt.block_T (S := fun _ => True) (Fin := fun ys nw => nw = news ∧ Rel z.cps.size ys) (Walks.strAscii hh s₁.heap.objs.size z t) hsz (fun i h st => by obtain ⟨o, e, _⟩ := st; exact ⟨o, e⟩) (fun i h h' o nw st e e' _ _ _ => by obtain ⟨o', q, r⟩ := st; rw [e] at q; cases q; exact ⟨o, e', r⟩) hcell hkind hx ⟨_, Heap.get?_push_size _ rfl, rfl, rfl⟩ (fun b hb => ?_)
    (F.keeps up) (N.grown up) (Nat.ne_of_lt F.ns.lt) (next_is_new F) (fun p hp => Nat.ne_of_lt (Heap.lt_size (N p hp).1)) trivial (rest_T trivial Rel (fun i v ys I oI C oC D m₂ h tk E' _ hv => by obtain ⟨c, u, hc, rfl⟩ := hv; exact turn _ i c u ys I oI C oC D m₂ h tk E' hc) (fun ys hr => ⟨rfl, hr⟩) _ 0 [] (by lia) h0) ?_
  · rw [List.mem_singleton.mp hb]
    show s₁.heap.objs.size < (s₁.heap.push _).objs.size
    rw [Heap.size_push]; exact Nat.lt_succ_self _
  · intro D C h tk m' ys news' F' N' o1 hn hC₀ hD₀ hCL hDL hCD offC fin'
    obtain ⟨rfl, hr⟩ := fin'
    refine ⟨m', hn, fun h'' hs'' => fin D ys h'' tk hr (F'.change hs'' hCL hC₀) (fun p hp => ?_)⟩
    refine ⟨hs''.extBut _ _ ?_ (N' p hp).1, (N' p hp).2⟩
    rcases List.mem_cons.mp hp with rfl | hp
    · exact Ne.symm hCD
    · exact offC p hp
end
end
section
open PySem.Calls Builtin
section
variable {prog : Program} {w : World} {A : Around} {E : Value → Shared → Prop} {s : Shared} {Q : Value → Shared → Prop} {x y r n : Int} {t u : Tok}
theorem andW (e : Builtin.bitAnd x y = r) (h : ∀ t' k, Q (.int r t') { s with toks := k }) : wpAny (model prog w) A (binaryOp .BitAnd (.int x t) (.int y u)) Q E s := and_int (by rw [e]; exact h _ _)
theorem and_low (k : Nat) (a b : Int) (h0 : 0 ≤ b) (h1 : b < 2 ^ k) : Builtin.bitAnd (a * 2 ^ k) b = 0 := by
  have e : Builtin.bitAnd b (2 ^ k - 1) = b := by rw [kbt_mask]; exact Int.emod_eq_of_lt h0 h1
  induction k generalizing a b with
  | zero =>
    have : b = 0 := by simp at h1; lia
    subst this
    rw [bitAnd_comm]
    have := bitAnd_range (a * 2 ^ 0) (y := 0) (Int.le_refl 0)
    rw [bitAnd_comm]; lia
  | succ k ih =>
    rw [kbt_halves]
    have hp : (2 : Int) ^ (k + 1) = 2 * 2 ^ k := by rw [Int.pow_succ, Int.mul_comm]
    have e1 : a * 2 ^ (k + 1) / 2 = a * 2 ^ k := by rw [hp, ← Int.mul_assoc, Int.mul_comm a 2, Int.mul_assoc]; exact Int.mul_ediv_cancel_left _ (by decide)
    have e2 : a * 2 ^ (k + 1) % 2 = 0 := by rw [hp, ← Int.mul_assoc, Int.mul_comm a 2, Int.mul_assoc]; exact Int.mul_emod_right _ _
    rw [e1, e2, ih a (b / 2) (by lia) (by lia) (by rw [kbt_mask]; exact Int.emod_eq_of_lt (by lia) (by lia))]
    simp
theorem or_low (k : Nat) {a b : Int} (h0 : 0 ≤ b) (h1 : b < 2 ^ k) : Builtin.bitOr (a * 2 ^ k) b = a * 2 ^ k + b := by
  rw [bitOr_and, and_low k a b h0 h1]; lia
theorem orW (e : Builtin.bitOr x y = r) (h : ∀ t' k, Q (.int r t') { s with toks := k }) : wpAny (model prog w) A (binaryOp .BitOr (.int x t) (.int y u)) Q E s := or_int (by rw [e]; exact h _ _)
theorem shlW (k : Nat) (e : n = (k : Int)) (hk : k ≤ 64) (hx0 : 0 ≤ x) (hx : x < 1000000) (h : ∀ t' k', Q (.int (x * 2 ^ k) t') { s with toks := k' }) : wpAny (model prog w) A (binaryOp .LShift (.int x t) (.int n u)) Q E s := by
  subst e
  refine lshift_int_small (by lia) (by lia) (by lia) ?_
  rw [Int.toNat_natCast]
  exact h _ _
theorem shrW (k : Nat) (e : n = (k : Int)) (h : ∀ t' k', Q (.int (x / 2 ^ k) t') { s with toks := k' }) : wpAny (model prog w) A (binaryOp .RShift (.int x t) (.int n u)) Q E s := by
  subst e
  refine rshift_int (by lia) ?_
  rw [Int.toNat_natCast, Int.fdiv_eq_ediv_of_nonneg _ (Int.le_of_lt (kbt_pos k))]
  exact h _ _
theorem bytesW {l L : Addr} {h₀ : Heap} {news : List (Addr × Obj)} {vs : List Value} {ns : List Int} {c : Nat} {m : PySem.Str → Option Value} (F : Fr h₀ L s.heap m) (N : News h₀ L s.heap news) (hm : (l, W.listOf vs.toArray c) ∈ news) (hi : IntsAre vs ns) (hr : ∀ n ∈ ns, 0 ≤ n ∧ n < 256) (hz : ns.length ≤ 5000000) (hh : A.handled = none)
    (h : ∀ h' t' k, Fr h₀ L h' m → News h₀ L h' news → Q (.bytes (byteArr ns) t') { s with heap := h', toks := k }) : wpAny (model prog w) A (call (.type "bytes") [.ref l]) Q E s := by
  refine call_bytes_ints (vs := vs) ⟨_, (N _ hm).1, rfl, _, rfl⟩ hi hr (by rw [hi.length, PySem.sizeLine_eq]; lia) hh ?_
  intro h' t' k hk
  exact h h' t' k (F.keeps hk) (N.grown hk)
theorem itemW {b : Array UInt8} {ks : List Int} {i : Int} {ui : Tok} {value slice : Expr} (hk : KBw.bInts b = ks) (hfit : ks.length ≤ 1000) (h0 : 0 ≤ i) (h1 : i < (ks.length : Int)) (h : ∀ t' k, Q (.int (ks.getD i.toNat 0) t') { s with toks := k })
    (hs : subscripted slice false (.bytes b t) (.int i ui) = operate [.bytes b t, .int i ui] (getItem (.bytes b t) (.int i ui)) := by with_unfolding_all rfl)
    (ht : ∀ r, letTemporaryGo value (.bytes b t) r = pure () := by intro _; with_unfolding_all rfl) : wpAny (model prog w) A (subscriptTail value slice (.bytes b t) (.int i ui)) Q E s :=
  KBw.item_K hk (by lia) h0 h1 (fun t' k _ _ => h t' k) hs ht
end
end
section
open PySem.Calls Builtin
/-! whole expressions over ints in one step (EvI, EvC), and the statements over them -/
theorem stored_sub {big small : List Str} {z : Str} (h : big.contains z = false) (hs : small.all (fun y => big.contains y) = true) : ¬ small.contains z = true := by
  intro e
  have h1 := List.all_eq_true.mp hs z (List.contains_iff_mem.mp e)
  rw [h] at h1
  exact Bool.false_ne_true h1
section
variable {prog : Program} {w : World} {A : Around} {env : Env} {h : Heap} {M : Model} {l r e : Expr} {pos pos' : Pos} {a b c : Int}

/-- the expression reads as the int a, at any state over the heap h, and makes no object -/
structure EvI (M : Model) (A : Around) (env : Env) (h : Heap) (e : Expr) (a : Int) : Prop where
  run : ∀ (s : Shared) (Q E : Value → Shared → Prop), s.heap = h → (∀ t k, Q (.int a t) { s with toks := k }) → wpAny M A (eval e env) Q E s
/-- the test reads as P -/
structure EvC (M : Model) (A : Around) (env : Env) (h : Heap) (e : Expr) (P : Prop) : Prop where
  run : ∀ (s : Shared) (Q : Bool → Shared → Prop) (E : Value → Shared → Prop), s.heap = h → (∀ k, P → Q true { s with toks := k }) → (∀ k, ¬ P → Q false { s with toks := k }) → wpAny M A (PySem.isTrue e env (eval e env)) Q E s
/-- the tests, one after the other, read as P -/
structure EvL (M : Model) (A : Around) (env : Env) (h : Heap) (es : List Expr) (P : Prop) : Prop where
  run : ∀ (s : Shared) (Q : Bool → Shared → Prop) (E : Value → Shared → Prop) (whole : Sem Value) (pos : Pos), s.heap = h → (∀ k, P → Q true { s with toks := k }) → (∀ k, ¬ P → Q false { s with toks := k }) → wpAny M A (PySem.isTrue (.BoolOp .And es pos) env whole) Q E s

theorem EvI.use {hp : Heap} {g9 : Array GenState} {d9 : Drawn} {k9 : Nat} {o9 : OsState} {Q E : Value → Shared → Prop} (x : EvI M A env hp e a) (k : ∀ t k, Q (.int a t) ⟨hp, g9, d9, k, o9⟩) : wpAny M A (eval e env) Q E ⟨hp, g9, d9, k9, o9⟩ := x.run _ Q E rfl k
theorem EvI.eq {a' : Int} (x : EvI M A env h e a) (q : a = a') : EvI M A env h e a' := q ▸ x
theorem EvI.const {i : Int} {k : Nat} : EvI M A env h (.Constant (.int i) k pos) i := ⟨fun _ _ _ _ kk => wpAny_Constant_int (kk _ _)⟩
theorem EvI.name {h₀ : Heap} {m : Str → Option Value} {x : Str} {t : Tok} (F : Fr h₀ env.locals h m) (hv : m x = some (.int a t))
    (hk : env.scope.kind = .function := by rfl) (hx : env.kindOf x = some .local := by rfl) (hd : (x == ("__debug__" : Str)) = false := by decide) : EvI M A env h (.Name x pos) a := by
  refine ⟨fun s Q E q k => ?_⟩
  subst q
  exact wpAny_Name (wpAny_loadName_local hk hx F.ns hv (k t s.toks)) hd
theorem EvI.bin {op : Operator} (hop : ∀ (s : Shared) (Q E : Value → Shared → Prop) (t u : Tok), (∀ t' k, Q (.int c t') { s with toks := k }) → wpAny M A (binaryOp op (.int a t) (.int b u)) Q E s) (x : EvI M A env h l a) (y : EvI M A env h r b) : EvI M A env h (.BinOp l op r pos) c :=
  ⟨fun s _ E q k => wpAny_BinOp (x.run s _ E q fun t _ => y.run _ _ E q fun u _ => hop _ _ E t u fun t' k' => k t' k')⟩
theorem EvI.add (x : EvI (model prog w) A env h l a) (y : EvI (model prog w) A env h r b) : EvI (model prog w) A env h (.BinOp l .Add r pos) (a + b) := .bin (fun _ _ _ _ _ k => add_int (k _ _)) x y
theorem EvI.sub (x : EvI (model prog w) A env h l a) (y : EvI (model prog w) A env h r b) : EvI (model prog w) A env h (.BinOp l .Sub r pos) (a - b) := .bin (fun _ _ _ _ _ k => sub_int (k _ _)) x y
theorem EvI.mul (x : EvI (model prog w) A env h l a) (y : EvI (model prog w) A env h r b) (q : IntMulOk a b) : EvI (model prog w) A env h (.BinOp l .Mult r pos) (a * b) := .bin (fun _ _ _ _ _ k => mul_int (k _ _) q) x y
theorem EvI.and3 {k : Nat} (x : EvI (model prog w) A env h l a) : EvI (model prog w) A env h (.BinOp l .BitAnd (.Constant (.int 3) k pos') pos) (a % 4) := .bin (fun _ _ _ _ _ k => andW (bitAnd_m2 _) k) x .const
theorem EvI.and15 {k : Nat} (x : EvI (model prog w) A env h l a) : EvI (model prog w) A env h (.BinOp l .BitAnd (.Constant (.int 15) k pos') pos) (a % 16) := .bin (fun _ _ _ _ _ k => andW (bitAnd_m4 _) k) x .const
theorem EvI.and63 {k : Nat} (x : EvI (model prog w) A env h l a) : EvI (model prog w) A env h (.BinOp l .BitAnd (.Constant (.int 63) k pos') pos) (a % 64) := .bin (fun _ _ _ _ _ k => andW (bitAnd_m6 _) k) x .const
theorem EvI.and65535 {k : Nat} (x : EvI (model prog w) A env h l a) : EvI (model prog w) A env h (.BinOp l .BitAnd (.Constant (.int 65535) k pos') pos) (a % 65536) := .bin (fun _ _ _ _ _ k => andW (bitAnd_m16 _) k) x .const
theorem EvI.shl {n : Int} (k : Nat) (x : EvI (model prog w) A env h l a) (y : EvI (model prog w) A env h r n) (e : n = (k : Int)) (hk : k ≤ 64) (h0 : 0 ≤ a) (h1 : a < 1000000) : EvI (model prog w) A env h (.BinOp l .LShift r pos) (a * 2 ^ k) := .bin (fun _ _ _ _ _ kk => shlW k e hk h0 h1 kk) x y
theorem EvI.shr {n : Int} (k : Nat) (x : EvI (model prog w) A env h l a) (y : EvI (model prog w) A env h r n) (e : n = (k : Int)) : EvI (model prog w) A env h (.BinOp l .RShift r pos) (a / 2 ^ k) := .bin (fun _ _ _ _ _ kk => shrW k e kk) x y
theorem EvI.shl2 {k : Nat} (x : EvI (model prog w) A env h l a) (h0 : 0 ≤ a) (h1 : a < 1000000) : EvI (model prog w) A env h (.BinOp l .LShift (.Constant (.int 2) k pos') pos) (a * 2 ^ 2) := .shl 2 x .const rfl (by decide) h0 h1
theorem EvI.shl4 {k : Nat} (x : EvI (model prog w) A env h l a) (h0 : 0 ≤ a) (h1 : a < 1000000) : EvI (model prog w) A env h (.BinOp l .LShift (.Constant (.int 4) k pos') pos) (a * 2 ^ 4) := .shl 4 x .const rfl (by decide) h0 h1
theorem EvI.shl6 {k : Nat} (x : EvI (model prog w) A env h l a) (h0 : 0 ≤ a) (h1 : a < 1000000) : EvI (model prog w) A env h (.BinOp l .LShift (.Constant (.int 6) k pos') pos) (a * 2 ^ 6) := .shl 6 x .const rfl (by decide) h0 h1
theorem EvI.shl8 {k : Nat} (x : EvI (model prog w) A env h l a) (h0 : 0 ≤ a) (h1 : a < 1000000) : EvI (model prog w) A env h (.BinOp l .LShift (.Constant (.int 8) k pos') pos) (a * 2 ^ 8) := .shl 8 x .const rfl (by decide) h0 h1
theorem EvI.shr2 {k : Nat} (x : EvI (model prog w) A env h l a) : EvI (model prog w) A env h (.BinOp l .RShift (.Constant (.int 2) k pos') pos) (a / 2 ^ 2) := .shr 2 x .const rfl
theorem EvI.shr4 {k : Nat} (x : EvI (model prog w) A env h l a) : EvI (model prog w) A env h (.BinOp l .RShift (.Constant (.int 4) k pos') pos) (a / 2 ^ 4) := .shr 4 x .const rfl
theorem EvI.or {k : Nat} (x : EvI (model prog w) A env h l (a * 2 ^ k)) (y : EvI (model prog w) A env h r b) (h0 : 0 ≤ b) (h1 : b < 2 ^ k) : EvI (model prog w) A env h (.BinOp l .BitOr r pos) (a * 2 ^ k + b) := .bin (fun _ _ _ _ _ kk => orW (or_low k h0 h1) kk) x y

theorem noMarks {op : CmpOp} (h1 : (op == .In || op == .NotIn) = false) (r : Expr) : behindInMarks op r = false := by
  cases r with
  | Set elts k p => show (k == 0 && (op == .In || op == .NotIn) && elts.all (constantsAlone 8)) = false; rw [h1, Bool.and_false, Bool.false_and]
  | _ => rfl
theorem EvC.cmp {op : CmpOp} {p : Bool} {P : Prop} (hp : p = true ↔ P) (hop : ∀ (s : Shared) (Q E : Value → Shared → Prop) (t u : Tok), Q (.bool p) s → wpAny M A (compareOp op (.int a t) (.int b u)) Q E s) (hm : behindInMarks op r = false) (x : EvI M A env h l a) (y : EvI M A env h r b) : EvC M A env h (.Compare l [op] [r] pos) P := by
  refine ⟨fun s Q E q kt kf => ?_⟩
  refine wpAny_isTrue_Compare1 (x.run s _ E q fun t _ => y.run _ _ E q fun u _ => hop _ _ E t u (wpAny_truthy_bool ?_)) hm
  cases p with
  | true => exact kt _ (hp.mp rfl)
  | false => exact kf _ (fun z => Bool.noConfusion (hp.mpr z))
theorem EvC.lt (x : EvI (model prog w) A env h l a) (y : EvI (model prog w) A env h r b) : EvC (model prog w) A env h (.Compare l [.Lt] [r] pos) (a < b) := .cmp (by simp) (fun _ _ _ _ _ k => lt_int k) (noMarks rfl r) x y
theorem EvC.le (x : EvI (model prog w) A env h l a) (y : EvI (model prog w) A env h r b) : EvC (model prog w) A env h (.Compare l [.LtE] [r] pos) (a ≤ b) := .cmp (by simp) (fun _ _ _ _ _ k => le_int k) (noMarks rfl r) x y
theorem EvC.gt (x : EvI (model prog w) A env h l a) (y : EvI (model prog w) A env h r b) : EvC (model prog w) A env h (.Compare l [.Gt] [r] pos) (b < a) := .cmp (by simp) (fun _ _ _ _ _ k => gt_int k) (noMarks rfl r) x y
theorem EvC.ge (x : EvI (model prog w) A env h l a) (y : EvI (model prog w) A env h r b) : EvC (model prog w) A env h (.Compare l [.GtE] [r] pos) (b ≤ a) := .cmp (by simp) (fun _ _ _ _ _ k => ge_int k) (noMarks rfl r) x y
theorem EvC.eq (x : EvI (model prog w) A env h l a) (y : EvI (model prog w) A env h r b) : EvC (model prog w) A env h (.Compare l [.Eq] [r] pos) (a = b) := .cmp (by simp) (fun _ _ _ _ _ k => eq_int k) (noMarks rfl r) x y
theorem EvC.ne (x : EvI (model prog w) A env h l a) (y : EvI (model prog w) A env h r b) : EvC (model prog w) A env h (.Compare l [.NotEq] [r] pos) (a ≠ b) := .cmp (by simp) (fun _ _ _ _ _ k => ne_int k) (noMarks rfl r) x y
theorem EvC.not {P : Prop} (x : EvC M A env h e P) : EvC M A env h (.UnaryOp .Not e pos) (¬ P) := ⟨fun s Q E q kt kf => isTrue_not (x.run s (fun c s' => Q (!c) s') E q (fun k p => kf k fun z => z p) (fun k p => kt k p))⟩
theorem EvC.nameI {x : Str} (y : EvI (model prog w) A env h (.Name x pos) a) : EvC (model prog w) A env h (.Name x pos) (a ≠ 0) := by
  refine ⟨fun s Q E q kt kf => ?_⟩
  refine isTrue_plain (y.run s _ E q fun t k => truthy_int ?_)
  by_cases z : a = 0
  · rw [show (a != 0) = false by simp [z]]; exact kf _ (fun n => n z)
  · rw [show (a != 0) = true by simp [z]]; exact kt _ z
theorem EvC.nameB {h₀ : Heap} {m : Str → Option Value} {x : Str} {p : Bool} (F : Fr h₀ env.locals h m) (hv : m x = some (.bool p))
    (hk : env.scope.kind = .function := by rfl) (hx : env.kindOf x = some .local := by rfl) (hd : (x == ("__debug__" : Str)) = false := by decide) : EvC M A env h (.Name x pos) (p = true) := by
  refine ⟨fun s Q E q kt kf => ?_⟩
  subst q
  refine isTrue_plain (wpAny_Name (wpAny_loadName_local hk hx F.ns hv (wpAny_truthy_bool ?_)) hd)
  cases p with
  | true => exact kt s.toks rfl
  | false => exact kf s.toks (fun z => Bool.noConfusion z)
theorem EvL.nil : EvL M A env h [] True := ⟨fun _ _ _ _ _ _ kt _ => isTrue_and_nil (kt _ trivial)⟩
theorem EvL.cons {es : List Expr} {P R : Prop} (x : EvC M A env h e P) (y : EvL M A env h es R) : EvL M A env h (e :: es) (P ∧ R) := by
  refine ⟨fun s Q E whole pos q kt kf => ?_⟩
  refine isTrue_and (x.run s _ E q (fun k p => ?_) (fun k p => ?_))
  · rw [if_pos rfl]
    exact y.run _ Q E whole pos q (fun k' z => kt k' ⟨p, z⟩) (fun k' z => kf k' fun n => z n.2)
  · rw [if_neg Bool.false_ne_true]
    exact kf k fun n => p n.1
theorem EvL.one {P : Prop} (x : EvC M A env h e P) : EvL M A env h [e] P := by
  refine ⟨fun s Q E whole pos q kt kf => ?_⟩
  refine isTrue_and (x.run s _ E q (fun k p => ?_) (fun k p => ?_))
  · rw [if_pos rfl]
    exact isTrue_and_nil (kt _ p)
  · rw [if_neg Bool.false_ne_true]
    exact kf k p
theorem EvC.and {es : List Expr} {P : Prop} (x : EvL M A env h es P) : EvC M A env h (.BoolOp .And es pos) P := ⟨fun s Q E q kt kf => x.run s Q E _ _ q kt kf⟩
theorem EvC.lele {e3 : Expr} (x : EvI (model prog w) A env h l a) (y : EvI (model prog w) A env h r b) (z : EvI (model prog w) A env h e3 c) : EvC (model prog w) A env h (.Compare l [.LtE, .LtE] [r, e3] pos) (a ≤ b ∧ b ≤ c) := by
  refine ⟨fun s Q E q kt kf => ?_⟩
  refine isTrue_chain (x.run s _ E q fun t _ => test_link (y.run _ _ E q fun u _ => le_int (wpAny_truthy_bool ?_))) (noMarks rfl e3)
  by_cases p : a ≤ b
  · rw [show decide (a ≤ b) = true by simp [p], if_pos rfl]
    refine test_last (z.run _ _ E q fun v _ => le_int (wpAny_truthy_bool ?_))
    by_cases p' : b ≤ c
    · rw [show decide (b ≤ c) = true by simp [p']]; exact kt _ ⟨p, p'⟩
    · rw [show decide (b ≤ c) = false by simp [p']]; exact kf _ fun n => p' n.2
  · rw [show decide (a ≤ b) = false by simp [p], if_neg Bool.false_ne_true]
    exact kf _ fun n => p n.1
end
section
variable {prog : Program} {w : World} {A : Around} {env : Env} {h : Heap} {M : Model} {E : Value → Shared → Prop} {s : Shared} {hp : Heap} {g9 : Array GenState} {d9 : Drawn} {k9 : Nat} {o9 : OsState} {h₀ : Heap} {m : Str → Option Value} {x : Str} {news : List (Addr × Obj)} {Q : Flow → Shared → Prop} {rest body orelse : List Stmt} {value test : Expr} {pos pos' p1 p2 : Pos} {a b c : Int}
theorem letA {A0 : Around} (k : let e1 := env; let A1 := A0.deeper e1; wpAny M A1 (execs body e1) Q E s) : wpAny M (A0.deeper env) (execs body env) Q E s := k
theorem storeM {Q : Unit → Shared → Prop} {v : Value} (F : Fr h₀ env.locals hp m) (N : News h₀ env.locals hp news)
    (k : ∀ h' tk, let m1 := fun y => if y = x then some v else m y; Fr h₀ env.locals h' m1 → News h₀ env.locals h' news → Q () ⟨h', g9, d9, tk, o9⟩)
    (hk : env.scope.kind = .function := by rfl) (hx : env.kindOf x = some .local := by rfl) : wpAny M A (storeName env x v) Q E ⟨hp, g9, d9, k9, o9⟩ :=
  wpAny_storeName_local hx F.ns (fun h' hn hs => k h' _ (F.set hn hs) (N.set hs)) (by show (env.scope.kind == .class || (env.scope.kind == .module && env.locals != env.globals)) = false; rw [hk]; rfl)
/-- x = an int expression; the rest of the block -/
theorem stAssign (y : EvI M A env hp value a) (F : Fr h₀ env.locals hp m) (N : News h₀ env.locals hp news)
    (k : ∀ h' tk t, let m1 := fun y => if y = x then some (.int a t) else m y; Fr h₀ env.locals h' m1 → News h₀ env.locals h' news → wpAny M A (execs rest env) Q E ⟨h', g9, d9, tk, o9⟩)
    (hk : env.scope.kind = .function := by rfl) (hx : env.kindOf x = some .local := by rfl) (hs : swapsWith value (some (.Name x pos')) pos.line env = pure false := by rfl) :
    wpAny M A (execs (.Assign [.Name x pos'] value pos :: rest) env) Q E ⟨hp, g9, d9, k9, o9⟩ := by
  refine wpAny_execs_cons (wpAny_Assign_Name (y.run _ _ E rfl fun t tk => ?_) hs)
  refine storeM (m := m) (news := news) F N (fun h' tk' => ?_) hk hx
  intro m9 F' N'
  exact k h' tk' t F' N'
/-- x op= an int expression -/
theorem stAug {op : Operator} {t0 : Tok} (hv : m x = some (.int a t0)) (hop : ∀ (s : Shared) (Q E : Value → Shared → Prop) (t u : Tok), (∀ t' k, Q (.int c t') { s with toks := k }) → wpAny M A (inplaceOp op (.int a t) (.int b u)) Q E s)
    (y : EvI M A env hp value b) (F : Fr h₀ env.locals hp m) (N : News h₀ env.locals hp news)
    (k : ∀ h' tk t, let m1 := fun y => if y = x then some (.int c t) else m y; Fr h₀ env.locals h' m1 → News h₀ env.locals h' news → wpAny M A (execs rest env) Q E ⟨h', g9, d9, tk, o9⟩)
    (hk : env.scope.kind = .function := by rfl) (hx : env.kindOf x = some .local := by rfl) :
    wpAny M A (execs (.AugAssign (.Name x pos') op value pos :: rest) env) Q E ⟨hp, g9, d9, k9, o9⟩ := by
  refine wpAny_execs_cons (wpAny_AugAssign_Name (wpAny_loadName_local hk hx F.ns hv (y.run _ _ E rfl fun u tk => ?_)))
  refine hop _ _ E t0 u fun t' tk' => ?_
  refine storeM (m := m) (news := news) F N (fun h' tk2 => ?_) hk hx
  intro m9 F' N'
  exact k h' tk2 t' F' N'
theorem stAdd {t0 : Tok} (hv : m x = some (.int a t0)) (y : EvI (model prog w) A env hp value b) (F : Fr h₀ env.locals hp m) (N : News h₀ env.locals hp news)
    (k : ∀ h' tk t, let m1 := fun y => if y = x then some (.int (a + b) t) else m y; Fr h₀ env.locals h' m1 → News h₀ env.locals h' news → wpAny (model prog w) A (execs rest env) Q E ⟨h', g9, d9, tk, o9⟩)
    (hk : env.scope.kind = .function := by rfl) (hx : env.kindOf x = some .local := by rfl) :
    wpAny (model prog w) A (execs (.AugAssign (.Name x pos') .Add value pos :: rest) env) Q E ⟨hp, g9, d9, k9, o9⟩ := stAug hv (fun _ _ _ _ _ k => iadd_int (k _ _)) y F N k hk hx
theorem stSub {t0 : Tok} (hv : m x = some (.int a t0)) (y : EvI (model prog w) A env hp value b) (F : Fr h₀ env.locals hp m) (N : News h₀ env.locals hp news)
    (k : ∀ h' tk t, let m1 := fun y => if y = x then some (.int (a - b) t) else m y; Fr h₀ env.locals h' m1 → News h₀ env.locals h' news → wpAny (model prog w) A (execs rest env) Q E ⟨h', g9, d9, tk, o9⟩)
    (hk : env.scope.kind = .function := by rfl) (hx : env.kindOf x = some .local := by rfl) :
    wpAny (model prog w) A (execs (.AugAssign (.Name x pos') .Sub value pos :: rest) env) Q E ⟨hp, g9, d9, k9, o9⟩ := stAug hv (fun _ _ _ _ _ k => isub_int (k _ _)) y F N k hk hx
/-- x.append(an int expression) -/
theorem stAppend {D : Addr} {pl : Sem Bool} {its : Array Value} {n : Nat} {news' : Tok → List (Addr × Obj)} (F : Fr h₀ env.locals hp m) (hv : m x = some (.ref D)) (N : News h₀ env.locals hp news) (hm : (D, W.listOf its n) ∈ news) (y : EvI (model prog w) A env hp value a)
    (U : ∀ t, Upd D (W.listOf its n) (W.listOf (its.push (.int a t)) (n + 1)) news (news' t)) (hz : its.size ≤ sizeLine)
    (k : ∀ h' tk t, Fr h₀ env.locals h' m → News h₀ env.locals h' (news' t) → wpAny (model prog w) A (execs rest env) Q E ⟨h', g9, d9, tk, o9⟩)
    (hk : env.scope.kind = .function := by rfl) (hx : env.kindOf x = some .local := by rfl) (hd : (x == ("__debug__" : Str)) = false := by decide)
    (i1 : interactive env = false := by rfl) (i2 : swapsWith (.Call (.Attribute (.Name x p1) (Str.ofString "append") p2) [value] [] pos') none pos.line env = pure false := by rfl)
    (i3 : starEach [value] env = [(false, eval value env)] := by rfl)
    (i4 : eval (.Call (.Attribute (.Name x p1) (Str.ofString "append") p2) [value] [] pos') env = (do
      let ov ← eval (.Name x p1) env
      standAt p2.atName
      let (f, first) ← holding [ov] (getMethod ov (Str.ofString "append") pl)
      callWith pos' f first (backTo pos' (starEach [value] env)) []) := by rfl) :
    wpAny (model prog w) A (execs (.Expr (.Call (.Attribute (.Name x p1) (Str.ofString "append") p2) [value] [] pos') pos :: rest) env) Q E ⟨hp, g9, d9, k9, o9⟩ := by
  refine wpAny_execs_cons (wpAny_Expr (MethodCall_ (wpAny_Name (wpAny_loadName_local hk hx F.ns hv ?_) hd) i4) i1 i2)
  refine listMethod_K N hm PySem.F.slot_list_append PySem.F.type_list_append ?_
  refine callWith_method1 (args_cons (y.run _ _ E rfl fun t tk => ?_) i3) i3 rfl
  refine args_nil ?_
  exact append_K (s := ⟨hp, g9, d9, tk, o9⟩) F N (U t) (fun h' F' N' => k h' tk t F' N') hz
/-- if, with nothing else: what follows is walked behind both -/
theorem stIf0 {P : Prop} (y : EvC M A env hp test P)
    (k1 : ∀ tk, P → wpAny M A (execs body env) (fun f s' => match f with | .next => wpAny M A (execs rest env) Q E s' | f => Q f s') E ⟨hp, g9, d9, tk, o9⟩)
    (k2 : ∀ tk, ¬ P → wpAny M A (execs rest env) Q E ⟨hp, g9, d9, tk, o9⟩) : wpAny M A (execs (.If test body [] pos :: rest) env) Q E ⟨hp, g9, d9, k9, o9⟩ := by
  refine wpAny_execs_cons (wpAny_If (y.run _ _ E rfl (fun tk p => ?_) (fun tk p => ?_)))
  · rw [if_pos rfl]; exact k1 tk p
  · rw [if_neg Bool.false_ne_true]; exact wpAny_execs_nil (k2 tk p)
theorem stIf {P : Prop} (y : EvC M A env hp test P)
    (k : let Q1 : Flow → Shared → Prop := fun f s' => match f with | .next => wpAny M A (execs rest env) Q E s' | f => Q f s'; (∀ tk, P → wpAny M A (execs body env) Q1 E ⟨hp, g9, d9, tk, o9⟩) ∧ (∀ tk, ¬ P → wpAny M A (execs orelse env) Q1 E ⟨hp, g9, d9, tk, o9⟩)) : wpAny M A (execs (.If test body orelse pos :: rest) env) Q E ⟨hp, g9, d9, k9, o9⟩ := by
  refine wpAny_execs_cons (wpAny_If (y.run _ _ E rfl (fun tk p => ?_) (fun tk p => ?_)))
  · rw [if_pos rfl]; exact k.1 tk p
  · rw [if_neg Bool.false_ne_true]; exact k.2 tk p
theorem EvC.use {P : Prop} {Q : Bool → Shared → Prop} (y : EvC M A env hp test P) (k1 : ∀ tk, P → Q true ⟨hp, g9, d9, tk, o9⟩) (k2 : ∀ tk, ¬ P → Q false ⟨hp, g9, d9, tk, o9⟩) : wpAny M A (PySem.isTrue test env (eval test env)) Q E ⟨hp, g9, d9, k9, o9⟩ := y.run _ Q E rfl k1 k2
theorem EvC.yes {P : Prop} {Q : Bool → Shared → Prop} (y : EvC M A env hp test P) (p : P) (k1 : ∀ tk, Q true ⟨hp, g9, d9, tk, o9⟩) : wpAny M A (PySem.isTrue test env (eval test env)) Q E ⟨hp, g9, d9, k9, o9⟩ := y.run _ Q E rfl (fun tk _ => k1 tk) (fun _ n => absurd p n)
theorem EvC.no {P : Prop} {Q : Bool → Shared → Prop} (y : EvC M A env hp test P) (p : ¬ P) (k2 : ∀ tk, Q false ⟨hp, g9, d9, tk, o9⟩) : wpAny M A (PySem.isTrue test env (eval test env)) Q E ⟨hp, g9, d9, k9, o9⟩ := y.run _ Q E rfl (fun _ n => absurd n p) (fun tk _ => k2 tk)
end
section
variable {M : Model} {A : Around} {env : Env} {E : Value → Shared → Prop} {h₀ : Heap} {m : Str → Option Value}
/-- the arguments are local names -/
inductive ArgV (m : Str → Option Value) (env : Env) : List Expr → List Value → Prop
  | nil : ArgV m env [] []
  | name {x : Str} {p : Pos} {v : Value} {es : List Expr} {vs : List Value} (hv : m x = some v) (hx : env.kindOf x = some .local) (hd : (x == ("__debug__" : Str)) = false) (r : ArgV m env es vs) : ArgV m env (.Name x p :: es) (v :: vs)
theorem ArgV.run {es : List Expr} {vs : List Value} {pos : Pos} {s : Shared} (hk : env.scope.kind = .function) (F : Fr h₀ env.locals s.heap m) (a : ArgV m env es vs) : ∀ {Q : List Value → Shared → Prop}, Q vs s → wpAny M A (spliced (backTo pos (starEach es env))) Q E s := by
  induction a with
  | nil => intro Q q; exact args_nil q
  | name hv hx hd r ih => intro Q q; exact args_cons (wpAny_Name (wpAny_loadName_local hk hx F.ns hv (ih q)) hd) rfl
/-- a call of a def of the written part, its arguments local names: to the contract at once -/
theorem evCall {s : Shared} {K : Frag} {L ad : Addr} {mg mb : Str → Option Value} {cn : Str} {cs : Scope} {ccd : Value} {cl : List (Str × Addr)} {p : Program} {loose : List Str} {fn : Str} {p1 pos : Pos} {f : Value} {e1 : Expr} {es : List Expr} {vs : List Value} {Q : Value → Shared → Prop}
    (he : env = envX cn cs L ad ccd cl) (F : Fr h₀ L s.heap m) (X : K.In h₀) (T : TopRead p loose mg mb h₀) (e : nsIn K mainGlobals fn = some (some f)) (kp : keepIn K f = true) (ha : ArgV m env (e1 :: es) vs) (h : wpAny M A (call f vs) Q E s)
    (hk : cs.kind = .function) (hx : (envX cn cs L ad ccd cl).kindOf fn = some .globalImplicit) (hd : (fn == ("__debug__" : Str)) = false)
    (hc : eval (.Call (.Name fn p1) (e1 :: es) [] pos) env = (do
      let g ← eval (.Name fn p1) env
      callWith pos g [] (backTo pos (starEach (e1 :: es) env)) (backToKw pos (keywordEach [] env))))
    (hb : (backTo pos (starEach es env)).any (fun x => x.1) = false) :
    wpAny M A (eval (.Call (.Name fn p1) (e1 :: es) [] pos) env) Q E s := by
  subst he
  refine Call_ (nameX_K F X T e ?_ hk hx hd) hc
  have h1 : starEach (e1 :: es) (envX cn cs L ad ccd cl) = (false, eval e1 (envX cn cs L ad ccd cl)) :: starEach es (envX cn cs L ad ccd cl) := by cases ha; rfl
  exact callWith_K X kp (ha.run hk F ⟨X.keeps F.keep, h⟩) h1 hb
end
end
section
open PySem.Calls
/-- at a turn's end: the letters' objects and the own ones stand in the ledger -/
theorem in_one {α : Type} {x : α} {b : List α} : ∀ p ∈ [x], p ∈ x :: b := fun _ h => List.mem_singleton.mp h ▸ .head _
theorem in_tail {α : Type} {x : α} {b : List α} : ∀ p ∈ b, p ∈ x :: b := fun _ h => .tail _ h
theorem in_app {α : Type} {x : α} {a b : List α} : ∀ p ∈ x :: a, p ∈ x :: (a ++ b) := fun _ h => List.mem_append_left b h
theorem in_own {α : Type} {x : α} {a b : List α} : ∀ p ∈ b, p ∈ x :: (a ++ b) := fun _ h => .tail _ (List.mem_append_right a h)
section
variable {prog : Program} {w : World} {A : Around} {E : Value → Shared → Prop} {s : Shared} {env : Env} {h₀ : Heap} {x : Str} {body : List Stmt} {Q : Flow → Shared → Prop}
/-- a loop over a range by steps -/
theorem kst_step {σ : Type} {r : Addr} {a₀ b₀ st : Int} {t₀ u₀ v₀ : Tok} {n : Nat} {m₀ : Str → Option Value} (Led : σ → List (Addr × Obj)) (ps : σ → List (Str × Value)) (Facts : σ → Prop) (stored : List Str) (P : List Int → σ → Prop) (c₀ : σ)
    (hh : A.handled = none) (hr : IsRange s.heap r a₀ b₀ st t₀ u₀ v₀) (hsmall : Builtin.Range.small a₀ b₀ st = true) (hn : Builtin.Range.rangeSize a₀ b₀ st = (n : Int)) (F : Fr h₀ env.locals s.heap m₀) (N : News h₀ env.locals s.heap (Led c₀)) (hf : Facts c₀) (hk : ∀ p ∈ ps c₀, m₀ p.1 = some p.2) (hp : P [] c₀)
    (turn : ∀ (c : σ) (pre : List Int) (k : Int) t (u : Str → Option Value) h tk own, k = a₀ + (pre.length : Int) * st → pre.length < n → OwnOff own ((Led c₀).map (·.1)) → Facts c → P pre c →
      Fr h₀ env.locals h (fun y => if y = x then some (.int k t) else kstB (fun z => if stored.contains z then u z else m₀ z) (ps c) y) → News h₀ env.locals h (Led c ++ own) →
      wpAny (model prog w) A (execs body env) (InvPostN h₀ env.locals (KstS Led ps Facts x stored m₀ P (pre ++ [(pre.length : Int)])) own ((Led c₀).map (·.1)) { s with heap := h, toks := tk } Q) E { s with heap := h, toks := tk })
    (done : ∀ (c : σ) (pre : List Int) (u : Str → Option Value) h tk, pre.length = n → Facts c → P pre c → Fr h₀ env.locals h (fun y => if y = x then u y else kstB (fun z => if stored.contains z then u z else m₀ z) (ps c) y) → News h₀ env.locals h (Led c) → Q .next { s with heap := h, toks := tk }) :
    wpAny (model prog w) A (pyIter (.ref r)) (fun it s₂ => LoopAtV prog w A h₀ env x body Q E it s₂) E s := by
  refine wpAny_pyIter_range hr hsmall ?_
  have W : Walks prog w A s.heap.objs.size [s.heap.objs.size] [s.heap.objs.size] n (fun i v => i < n ∧ ∃ t, v = .int (a₀ + i * st) t)
      (fun i h => IsRangeIter h s.heap.objs.size (a₀ + (i : Nat) * st) ((n : Int) - (i : Nat)) st) := (Walks.range hh _ a₀ st n).bound
  refine loop_invN (fun i m nx => KstS Led ps Facts x stored m₀ P ((rangeKs 0 n).take i) m nx) W ?_ ?_ ?_ ?_ (by show IsRangeIter _ _ _ _ _; rw [hn]; simpa using Heap.get?_push_size _ rfl) (F.push _) (fun p hp => ⟨Heap.get?_push_of_some _ (N p hp).1, (N p hp).2⟩) ⟨c₀, rfl, hf, hk, fun _ _ _ _ => rfl, by simpa using hp⟩ ?_ ?_
  · intro hm
    exact absurd F.ns.lt ((List.mem_singleton.mp hm) ▸ Nat.lt_irrefl _)
  · intro b hb
    rw [List.mem_singleton.mp hb]
    exact next_is_new F
  · intro p hp hI
    exact absurd (Heap.lt_size (N p hp).1) ((List.mem_singleton.mp hI) ▸ Nat.lt_irrefl _)
  · intro p hp hI
    exact absurd (Heap.lt_size (N p hp).1) ((List.mem_singleton.mp hI) ▸ Nat.lt_irrefl _)
  · rintro i v m₁ nx h tk own hi ⟨_, t, rfl⟩ _ hoff ⟨c, rfl, hf', h1, h2, hp'⟩ F₁ N₁
    have hk' : (rangeKs 0 n)[i]? = some ((i : Int)) := by simp [rangeKs, hi]
    have hlen : ((rangeKs 0 n).take i).length = i := by rw [List.length_take, rangeKs_length]; lia
    have hs : (rangeKs 0 n).take (i + 1) = (rangeKs 0 n).take i ++ [(((rangeKs 0 n).take i).length : Int)] := by rw [hlen, List.take_add_one, hk']; rfl
    rw [hs]
    exact turn c _ _ t m₁ h tk own (by rw [hlen]) (by rw [hlen]; exact hi) hoff hf' hp' (kst_fr h1 h2 F₁) N₁
  · rintro m₁ nx h tk ⟨c, rfl, hf', h1, h2, hp'⟩ F₁ N₁
    have hl : ((rangeKs 0 n).take n).length = n := by rw [List.length_take, rangeKs_length]; lia
    exact done c _ m₁ h tk hl hf' hp' (kst_frOut h1 h2 F₁) N₁
end
section
variable {prog : Program} {w : World} {A : Around} {E : Value → Shared → Prop} {s : Shared} {Q : Value → Shared → Prop}
theorem getD_at {ns : List Int} {i : Nat} (h : i < ns.length) : ns[i]? = some (ns.getD i 0) := by
  rw [List.getElem?_eq_getElem h, List.getD_eq_getElem?_getD, List.getElem?_eq_getElem h]; rfl
theorem getD_bound {ns : List Int} {i : Nat} (h : i < ns.length) (hb : ∀ n ∈ ns, 0 ≤ n ∧ n < 64) : 0 ≤ ns.getD i 0 ∧ ns.getD i 0 < 64 := hb _ (List.mem_of_getElem? (getD_at h))
theorem itemL {l : Addr} {vs : List Value} {ns : List Int} {i : Int} {u : Tok} {value slice : PySem.Expr} (hl : s.heap.IsList l vs.toArray) (hi : IntsAre vs ns) (hb : ∀ n ∈ ns, 0 ≤ n ∧ n < 64) (h0 : 0 ≤ i) (h1 : i < (ns.length : Int)) (hz : ns.length ≤ 1000000)
    (h : ∀ t, 0 ≤ ns.getD i.toNat 0 → ns.getD i.toNat 0 < 64 → Q (.int (ns.getD i.toNat 0) t) s)
    (hs : subscripted slice false (.ref l) (.int i u) = operate [.ref l, .int i u] (getItem (.ref l) (.int i u)) := by with_unfolding_all rfl) :
    wpAny (model prog w) A (subscriptTail value slice (.ref l) (.int i u)) Q E s := by
  have hlt : i.toNat < ns.length := by lia
  obtain ⟨t, ht⟩ := hi.get i.toNat _ (getD_at hlt)
  have b := getD_bound hlt hb
  exact tail_any hl.typeIs slot_list_getitem.lookup (wpAny_getItem_list hl h0 (by lia) (by simpa using ht) (h t b.1 b.2)) hs
section
variable {q b k : Int} {t u : Tok}
theorem pow_small : ∀ j : Nat, j ≤ 3 → (1 : Int) ≤ 128 ^ j ∧ (128 : Int) ^ j ≤ 2097152 := by decide
theorem powW (h0 : 0 ≤ k) (h3 : k ≤ 3) (h : ∀ d t' k', 1 ≤ d → d ≤ 2097152 → Q (.int d t') { s with toks := k' }) : wpAny (model prog w) A (binaryOp .Pow (.int 128 t) (.int k u)) Q E s := by
  have b := pow_small k.toNat (by lia)
  exact pow_int_small h0 (by lia) (by decide) (h _ _ _ b.1 b.2)
theorem log_small : ∀ n : Nat, n ≤ 2097152 → n.log2 < 9000 := by
  intro n hn
  rcases Nat.eq_zero_or_pos n with h | h
  · subst h; decide
  · exact (Nat.log2_lt (by lia)).mpr (Nat.lt_of_le_of_lt hn (Nat.lt_of_lt_of_le (by decide : 2097152 < 2 ^ 22) (Nat.pow_le_pow_right (by decide) (by decide))))
theorem fdivW (h0 : 1 ≤ b) (h1 : b ≤ 2097152) (h : ∀ r t' k', Q (.int r t') { s with toks := k' }) : wpAny (model prog w) A (binaryOp .FloorDiv (.int q t) (.int b u)) Q E s :=
  floordiv_int (by omega) (h _ _ _) (Or.inl (PyProof.noPylong_of_log2 (log_small _ (by omega))))
theorem modW (n : Int) (h0 : 0 < n) (h1 : n ≤ 2097152) (h : ∀ r t' k', 0 ≤ r → r < n → Q (.int r t') { s with toks := k' }) : wpAny (model prog w) A (binaryOp .Mod (.int q t) (.int n u)) Q E s := by
  have e : q.fmod n = q % n := Int.fmod_eq_emod_of_nonneg _ (by lia)
  exact mod_int' (by lia) (h _ _ _ (by rw [e]; exact Int.emod_nonneg _ (by lia)) (by rw [e]; exact Int.emod_lt_of_pos _ h0))
end
end
end
section
open PySem.Calls Builtin
/-! more int expressions in one step: floor division, remainder, product by a written number, an item of a list of figures -/
section
variable {prog : Program} {w : World} {A : Around} {env : Env} {h : Heap} {l r e : Expr} {pos pos' p1 : Pos} {a b n : Int} {k : Nat}
theorem EvI.fdivc (x : EvI (model prog w) A env h l a) (h0 : 1 ≤ n) (h1 : n ≤ 2097152) : EvI (model prog w) A env h (.BinOp l .FloorDiv (.Constant (.int n) k pos') pos) (a.fdiv n) :=
  .bin (fun _ _ _ _ _ kk => floordiv_int (by omega) (kk _ _) (Or.inl (PyProof.noPylong_of_log2 (log_small _ (by omega))))) x .const
theorem EvI.modc (x : EvI (model prog w) A env h l a) (h0 : 1 ≤ n) : EvI (model prog w) A env h (.BinOp l .Mod (.Constant (.int n) k pos') pos) (a.fmod n) := .bin (fun _ _ _ _ _ kk => mod_int' (by omega) (kk _ _)) x .const
theorem EvI.mulc (x : EvI (model prog w) A env h l a) (h0 : IntMulOk a n) : EvI (model prog w) A env h (.BinOp l .Mult (.Constant (.int n) k pos') pos) (a * n) := .mul x .const h0
theorem EvI.mode (x : EvI (model prog w) A env h l a) (h0 : 1 ≤ n) : EvI (model prog w) A env h (.BinOp l .Mod (.Constant (.int n) k pos') pos) (a % n) := .eq (.modc x h0) (Int.fmod_eq_emod_of_nonneg _ (by omega))
theorem EvI.mulk {b : Int} (y : EvI (model prog w) A env h r b) (h0 : IntMulOk n b) : EvI (model prog w) A env h (.BinOp (.Constant (.int n) k pos') .Mult r pos) (n * b) := .mul .const y h0
/-- a floor division by a power of 128 with an exponent from 0 to 3 -/
theorem EvI.fdivp (x : EvI (model prog w) A env h l a) (y : EvI (model prog w) A env h r b) (h0 : 0 ≤ b) (h3 : b ≤ 3) : EvI (model prog w) A env h (.BinOp l .FloorDiv (.BinOp (.Constant (.int 128) k pos') .Pow r p1) pos) (a.fdiv (128 ^ b.toNat)) := by
  have d := pow_small b.toNat (by omega)
  refine .bin (b := 128 ^ b.toNat) (fun _ _ _ _ _ kk => floordiv_int (by omega) (kk _ _) (Or.inl (PyProof.noPylong_of_log2 (log_small _ (by omega))))) x ?_
  exact .bin (fun _ _ _ _ _ kk => pow_int_small h0 (by omega) (by decide) (kk _ _)) .const y
theorem EvI.item {h₀ : Heap} {m : Str → Option Value} {x : Str} {la : Addr} {vs : List Value} {ns : List Int} {i : Int} (F : Fr h₀ env.locals h m) (hv : m x = some (.ref la)) (hl : h.IsList la vs.toArray) (I : IntsAre vs ns) (hb : ∀ n ∈ ns, 0 ≤ n ∧ n < 64)
    (y : EvI (model prog w) A env h e i) (h0 : 0 ≤ i) (h1 : i < (ns.length : Int)) (hz : ns.length ≤ 1000000)
    (hk : env.scope.kind = .function := by rfl) (hx : env.kindOf x = some .local := by rfl) (hd : (x == ("__debug__" : Str)) = false := by decide)
    (hs : ∀ u, subscripted e false (.ref la) (.int i u) = operate [.ref la, .int i u] (getItem (.ref la) (.int i u)) := by intro _; with_unfolding_all rfl) :
    EvI (model prog w) A env h (.Subscript (.Name x p1) e pos) (ns.getD i.toNat 0) := by
  refine ⟨fun s Q E q kk => ?_⟩
  subst q
  refine Subscript_ (wpAny_Name (wpAny_loadName_local hk hx F.ns hv (y.run _ _ E rfl fun u t2 => ?_)) hd)
  exact itemL (s := { s with toks := t2 }) hl I hb h0 h1 hz (fun t _ _ => kk t t2) (hs u)
end
end
section
/-! the plain law, part 1: encoding octets as figures -/
def b64s : List Int := [65, 66, 67, 68, 69, 70, 71, 72, 73, 74, 75, 76, 77, 78, 79, 80, 81, 82, 83, 84, 85, 86, 87, 88, 89, 90, 97, 98, 99, 100, 101, 102, 103, 104, 105, 106, 107, 108, 109, 110, 111, 112, 113, 114, 115, 116, 117, 118, 119, 120, 121, 122, 48, 49, 50, 51, 52, 53, 54, 55, 56, 57, 43, 47]
def sgn (i : Int) : Int := b64s.getD i.toNat 0
noncomputable def encL : List Int → List Int
  | b0 :: b1 :: b2 :: r => b0 / 4 :: (b0 % 4 * 16 + b1 / 16) :: (b1 % 16 * 4 + b2 / 64) :: b2 % 64 :: encL r
  | [b0, b1] => [b0 / 4, b0 % 4 * 16 + b1 / 16]
  | [b0] => [b0 / 4]
  | [] => []
theorem encL_snoc (b : Int) : ∀ pre : List Int,
    (pre.length % 3 = 0 → encL (pre ++ [b]) = encL pre ++ [b / 4]) ∧
    (pre.length % 3 = 1 → encL (pre ++ [b]) = encL pre ++ [pre.getLastD 0 % 4 * 16 + b / 16]) ∧
    (pre.length % 3 = 2 → encL (pre ++ [b]) = encL pre ++ [pre.getLastD 0 % 16 * 4 + b / 64, b % 64])
  | [] => ⟨fun _ => rfl, fun h => by simp at h, fun h => by simp at h⟩
  | [b0] => ⟨fun h => by simp at h, fun _ => rfl, fun h => by simp at h⟩
  | [b0, b1] => ⟨fun h => by simp at h, fun h => by simp at h, fun _ => rfl⟩
  | b0 :: b1 :: b2 :: r => by
    have ih := encL_snoc b r
    have hl : (b0 :: b1 :: b2 :: r).length % 3 = r.length % 3 := by simp only [List.length_cons]; lia
    have e : ∀ x, encL (b0 :: b1 :: b2 :: (r ++ x)) = b0 / 4 :: (b0 % 4 * 16 + b1 / 16) :: (b1 % 16 * 4 + b2 / 64) :: b2 % 64 :: encL (r ++ x) := fun _ => rfl
    have e0 : encL (b0 :: b1 :: b2 :: r) = b0 / 4 :: (b0 % 4 * 16 + b1 / 16) :: (b1 % 16 * 4 + b2 / 64) :: b2 % 64 :: encL r := rfl
    have gl : ∀ x y : Int, r ≠ [] → (b0 :: b1 :: b2 :: r).getLastD 0 = r.getLastD 0 := fun _ _ hr => by
      cases r with
      | nil => exact absurd rfl hr
      | cons c q => simp [List.getLastD]
    rw [hl, e0]
    simp only [List.cons_append]
    refine ⟨fun h => ?_, fun h => ?_, fun h => ?_⟩
    · rw [e, ih.1 h]
    · have hr : r ≠ [] := by rintro rfl; simp at h
      rw [e, ih.2.1 h, gl 0 0 hr]
    · have hr : r ≠ [] := by rintro rfl; simp at h
      rw [e, ih.2.2 h, gl 0 0 hr]
theorem encL_len : ∀ l : List Int, (encL l).length ≤ 2 * l.length
  | [] => by simp [encL]
  | [_] => by simp [encL]
  | [_, _] => by simp [encL]
  | b0 :: b1 :: b2 :: r => by
    have := encL_len r
    simp only [encL, List.length_cons]
    lia
def InvB (pre : List Int) (lc lb : Int) (out : List Int) : Prop := 0 ≤ lc ∧ lc ≤ 65535 ∧ lb = 2 * ((pre.length : Int) % 3) ∧ (pre ≠ [] → lc % 256 = pre.getLastD 0) ∧ out.length ≤ 2 * pre.length ∧ out = (encL pre).map sgn
theorem invB0 : InvB [] 0 0 [] := by refine ⟨by lia, by lia, by simp, by simp, by simp, rfl⟩
theorem lastD_snoc (pre : List Int) (b : Int) : (pre ++ [b]).getLastD 0 = b := by simp [List.getLastD_eq_getLast?]
theorem lc_next (lc b : Int) (h0 : 0 ≤ b) (h1 : b < 256) : 0 ≤ (lc * 2 ^ 8 + b) % 65536 ∧ (lc * 2 ^ 8 + b) % 65536 ≤ 65535 ∧ (lc * 2 ^ 8 + b) % 65536 % 256 = b := by lia
theorem invB_turn {pre : List Int} {b lc lb lb' : Int} {out new : List Int} (h0 : 0 ≤ b) (h1 : b < 256) (hb : lb' = 2 * (((pre.length : Int) + 1) % 3)) (ho : out = (encL pre).map sgn) (hn : (encL (pre ++ [b])).map sgn = (encL pre).map sgn ++ new) : InvB (pre ++ [b]) ((lc * 2 ^ 8 + b) % 65536) lb' (out ++ new) := by
  have n := lc_next lc b h0 h1
  refine ⟨n.1, n.2.1, by simp only [List.length_append, List.length_singleton]; lia, fun _ => by rw [lastD_snoc]; exact n.2.2, ?_, by rw [hn, ho]⟩
  rw [ho, ← hn, List.length_map]
  exact encL_len _
theorem word_mod {lc b p : Int} (h0 : 0 ≤ b) (h1 : b < 256) (hp : lc % 256 = p) : (lc * 2 ^ 8 + b) % 65536 = p * 256 + b := by lia
theorem div_mid (p b c d : Int) (hc : c ≠ 0) (h : 256 = d * c) : (p * 256 + b) / c = p * d + b / c := by
  rw [h, ← Int.mul_assoc, Int.add_comm, Int.add_mul_ediv_right _ _ hc, Int.add_comm]
theorem word_2 {lc b : Int} (h0 : 0 ≤ b) (h1 : b < 256) : (lc * 2 ^ 8 + b) % 65536 / 2 ^ 2 % 64 = b / 4 := by
  rw [word_mod h0 h1 rfl, div_mid _ b (2 ^ 2) 64 (by decide) rfl]
  have a1 : 0 ≤ b / 4 := Int.ediv_nonneg h0 (by decide)
  have a2 : b / 4 < 64 := Int.ediv_lt_of_lt_mul (by decide) h1
  show (lc % 256 * 64 + b / 4) % 64 = _
  generalize b / 4 = y at *
  clear h0 h1
  lia
theorem word_4 {lc b p : Int} (h0 : 0 ≤ b) (h1 : b < 256) (hp : lc % 256 = p) : (lc * 2 ^ 8 + b) % 65536 / 2 ^ 4 % 64 = p % 4 * 16 + b / 16 := by
  rw [word_mod h0 h1 hp, div_mid _ b (2 ^ 4) 16 (by decide) rfl]
  have a1 : 0 ≤ b / 16 := Int.ediv_nonneg h0 (by decide)
  have a2 : b / 16 < 16 := Int.ediv_lt_of_lt_mul (by decide) h1
  show (p * 16 + b / 16) % 64 = _
  generalize b / 16 = y at *
  clear h0 h1 hp
  lia
theorem word_6 {lc b p : Int} (h0 : 0 ≤ b) (h1 : b < 256) (hp : lc % 256 = p) : (lc * 2 ^ 8 + b) % 65536 / 2 ^ 6 % 64 = p % 16 * 4 + b / 64 := by
  rw [word_mod h0 h1 hp, div_mid _ b (2 ^ 6) 4 (by decide) rfl]
  have a1 : 0 ≤ b / 64 := Int.ediv_nonneg h0 (by decide)
  have a2 : b / 64 < 4 := Int.ediv_lt_of_lt_mul (by decide) h1
  show (p * 4 + b / 64) % 64 = _
  generalize b / 64 = y at *
  clear h0 h1 hp
  lia
theorem word_0 {lc b : Int} (h0 : 0 ≤ b) (h1 : b < 256) : (lc * 2 ^ 8 + b) % 65536 / 2 ^ 0 % 64 = b % 64 := by
  rw [word_mod h0 h1 rfl]
  show (lc % 256 * 256 + b) / 1 % 64 = _
  rw [Int.ediv_one]
  generalize lc % 256 = y
  lia
theorem invB1 {pre : List Int} {b lc : Int} {out : List Int} (h0 : 0 ≤ b) (h1 : b < 256) (i3 : 0 = 2 * ((pre.length : Int) % 3)) (i6 : out = (encL pre).map sgn) :
    InvB (pre ++ [b]) ((lc * 2 ^ 8 + b) % 65536) (0 + 8 - 6) (out ++ [b64s.getD ((lc * 2 ^ 8 + b) % 65536 / 2 ^ 2 % 64).toNat 0]) := by
  refine invB_turn (lb := 0) h0 h1 (by lia) i6 ?_
  rw [(encL_snoc b pre).1 (by lia), List.map_append]
  show _ ++ [sgn (b / 4)] = _ ++ [sgn ((lc * 2 ^ 8 + b) % 65536 / 2 ^ 2 % 64)]
  rw [word_2 h0 h1]
theorem invB2 {pre : List Int} {b lc : Int} {out : List Int} (h0 : 0 ≤ b) (h1 : b < 256) (i3 : 2 = 2 * ((pre.length : Int) % 3)) (i4 : pre ≠ [] → lc % 256 = pre.getLastD 0) (i6 : out = (encL pre).map sgn) :
    InvB (pre ++ [b]) ((lc * 2 ^ 8 + b) % 65536) (2 + 8 - 6) (out ++ [b64s.getD ((lc * 2 ^ 8 + b) % 65536 / 2 ^ 4 % 64).toNat 0]) := by
  have hr : pre ≠ [] := by rintro rfl; simp at i3
  have i4 := i4 hr
  refine invB_turn (lb := 0) h0 h1 (by lia) i6 ?_
  rw [(encL_snoc b pre).2.1 (by lia), List.map_append]
  show _ ++ [sgn (pre.getLastD 0 % 4 * 16 + b / 16)] = _ ++ [sgn ((lc * 2 ^ 8 + b) % 65536 / 2 ^ 4 % 64)]
  rw [word_4 h0 h1 i4]
theorem invB3 {pre : List Int} {b lc : Int} {out : List Int} (h0 : 0 ≤ b) (h1 : b < 256) (i3 : 4 = 2 * ((pre.length : Int) % 3)) (i4 : pre ≠ [] → lc % 256 = pre.getLastD 0) (i6 : out = (encL pre).map sgn) :
    InvB (pre ++ [b]) ((lc * 2 ^ 8 + b) % 65536) (4 + 8 - 6 - 6) (out ++ [b64s.getD ((lc * 2 ^ 8 + b) % 65536 / 2 ^ 6 % 64).toNat 0] ++ [b64s.getD ((lc * 2 ^ 8 + b) % 65536 / 2 ^ 0 % 64).toNat 0]) := by
  have hr : pre ≠ [] := by rintro rfl; simp at i3
  have i4 := i4 hr
  rw [List.append_assoc]
  refine invB_turn (lb := 0) h0 h1 (by lia) i6 ?_
  rw [(encL_snoc b pre).2.2 (by lia), List.map_append]
  show _ ++ [sgn (pre.getLastD 0 % 16 * 4 + b / 64), sgn (b % 64)] = _ ++ [sgn ((lc * 2 ^ 8 + b) % 65536 / 2 ^ 6 % 64), sgn ((lc * 2 ^ 8 + b) % 65536 / 2 ^ 0 % 64)]
  rw [word_6 h0 h1 i4, word_0 h0 h1]
theorem b64s_in (i : Nat) : 0 ≤ b64s.getD i 0 ∧ b64s.getD i 0 < 256 := by
  by_cases h : i < 64
  · exact (by decide : ∀ i, i < 64 → 0 ≤ b64s.getD i 0 ∧ b64s.getD i 0 < 256) i h
  · have : b64s.getD i 0 = 0 := by
      rw [List.getD_eq_getElem?_getD, List.getElem?_eq_none (by show 64 ≤ i; lia)]; rfl
    lia
theorem sgn_in {l : List Int} : ∀ n ∈ l.map sgn, 0 ≤ n ∧ n < 256 := by
  intro n hn
  obtain ⟨i, _, rfl⟩ := List.mem_map.mp hn
  exact b64s_in _
end
section
/-! the plain law, part 2: decoding codes -/
def b64v (c : Int) : Int := if 65 ≤ c ∧ c ≤ 90 then c - 65 else if 97 ≤ c ∧ c ≤ 122 then c - 71 else if 48 ≤ c ∧ c ≤ 57 then c + 4 else if c = 43 then 62 else if c = 47 then 63 else 64
theorem b64v_in (c : Int) : 0 ≤ b64v c ∧ b64v c ≤ 64 := by
  unfold b64v
  repeat' split
  all_goals lia
/-- the figures of the codes that are figures -/
def figs (l : List Int) : List Int := (l.map b64v).filter (fun v => decide (v < 64))
theorem figs_snoc_in {pre : List Int} {n : Int} (h : b64v n < 64) : figs (pre ++ [n]) = figs pre ++ [b64v n] := by
  simp [figs, List.filter_append, h]
theorem figs_snoc_out {pre : List Int} {n : Int} (h : 64 ≤ b64v n) : figs (pre ++ [n]) = figs pre := by
  have : ¬ b64v n < 64 := by lia
  simp [figs, List.filter_append, this]
theorem figs_len (l : List Int) : (figs l).length ≤ l.length := by
  unfold figs
  exact Nat.le_trans (List.length_filter_le _ _) (by simp)
/-- the octets of figures, as far as they are whole -/
noncomputable def decL : List Int → List Int
  | f0 :: f1 :: f2 :: f3 :: r => (f0 * 4 + f1 / 16) :: (f1 % 16 * 16 + f2 / 4) :: (f2 % 4 * 64 + f3) :: decL r
  | [f0, f1, f2] => [f0 * 4 + f1 / 16, f1 % 16 * 16 + f2 / 4]
  | [f0, f1] => [f0 * 4 + f1 / 16]
  | [_] => []
  | [] => []
/-- what is left over -/
noncomputable def leftL : List Int → Int
  | _ :: _ :: _ :: _ :: r => leftL r
  | [_, _, f2] => f2 % 4
  | [_, f1] => f1 % 16
  | [f0] => f0
  | [] => 0
theorem dec_snoc (v : Int) : ∀ l : List Int,
    (l.length % 4 = 0 → decL (l ++ [v]) = decL l ∧ leftL (l ++ [v]) = v ∧ leftL l = 0) ∧
    (l.length % 4 = 1 → decL (l ++ [v]) = decL l ++ [leftL l * 4 + v / 16] ∧ leftL (l ++ [v]) = v % 16) ∧
    (l.length % 4 = 2 → decL (l ++ [v]) = decL l ++ [leftL l * 16 + v / 4] ∧ leftL (l ++ [v]) = v % 4) ∧
    (l.length % 4 = 3 → decL (l ++ [v]) = decL l ++ [leftL l * 64 + v] ∧ leftL (l ++ [v]) = 0)
  | [] => ⟨fun _ => ⟨rfl, rfl, rfl⟩, fun h => by simp at h, fun h => by simp at h, fun h => by simp at h⟩
  | [f0] => ⟨fun h => by simp at h, fun _ => ⟨rfl, rfl⟩, fun h => by simp at h, fun h => by simp at h⟩
  | [f0, f1] => ⟨fun h => by simp at h, fun h => by simp at h, fun _ => ⟨rfl, rfl⟩, fun h => by simp at h⟩
  | [f0, f1, f2] => ⟨fun h => by simp at h, fun h => by simp at h, fun h => by simp at h, fun _ => ⟨rfl, rfl⟩⟩
  | f0 :: f1 :: f2 :: f3 :: r => by
    have ih := dec_snoc v r
    have hl : (f0 :: f1 :: f2 :: f3 :: r).length % 4 = r.length % 4 := by simp only [List.length_cons]; lia
    have e : ∀ x, decL (f0 :: f1 :: f2 :: f3 :: x) = (f0 * 4 + f1 / 16) :: (f1 % 16 * 16 + f2 / 4) :: (f2 % 4 * 64 + f3) :: decL x := fun _ => rfl
    have e' : ∀ x, leftL (f0 :: f1 :: f2 :: f3 :: x) = leftL x := fun _ => rfl
    rw [hl]
    simp only [List.cons_append]
    rw [e, e, e', e']
    refine ⟨fun h => ?_, fun h => ?_, fun h => ?_, fun h => ?_⟩
    · obtain ⟨a, b, c⟩ := ih.1 h; rw [a, b, c]; exact ⟨rfl, rfl, rfl⟩
    · obtain ⟨a, b⟩ := ih.2.1 h; rw [a, b]; exact ⟨rfl, rfl⟩
    · obtain ⟨a, b⟩ := ih.2.2.1 h; rw [a, b]; exact ⟨rfl, rfl⟩
    · obtain ⟨a, b⟩ := ih.2.2.2 h; rw [a, b]; exact ⟨rfl, rfl⟩
theorem left_in : ∀ l : List Int, (∀ v ∈ l, 0 ≤ v ∧ v < 64) → 0 ≤ leftL l ∧ leftL l < 64 ∧ (l.length % 4 = 2 → leftL l < 16) ∧ (l.length % 4 = 3 → leftL l < 4)
  | [], _ => by simp [leftL]
  | [f0], h => by have := h f0 (by simp); simp [leftL]; lia
  | [f0, f1], h => by simp [leftL]; lia
  | [f0, f1, f2], h => by simp [leftL]; lia
  | f0 :: f1 :: f2 :: f3 :: r, h => by
    have ih := left_in r fun v hv => h v (by simp [hv])
    have hl : (f0 :: f1 :: f2 :: f3 :: r).length % 4 = r.length % 4 := by simp only [List.length_cons]; lia
    rw [hl]
    exact ih
theorem dec_in : ∀ l : List Int, (∀ v ∈ l, 0 ≤ v ∧ v < 64) → ∀ n ∈ decL l, 0 ≤ n ∧ n < 256
  | [], _ => by simp [decL]
  | [f0], _ => by simp [decL]
  | [f0, f1], h => by have := h f0 (by simp); have := h f1 (by simp); simp [decL]; lia
  | [f0, f1, f2], h => by have := h f0 (by simp); have := h f1 (by simp); have := h f2 (by simp); simp [decL]; lia
  | f0 :: f1 :: f2 :: f3 :: r, h => by
    have ih := dec_in r fun v hv => h v (by simp [hv])
    have h0 := h f0 (by simp); have h1 := h f1 (by simp); have h2 := h f2 (by simp); have h3 := h f3 (by simp)
    intro n hn
    simp only [decL, List.mem_cons] at hn
    rcases hn with rfl | rfl | rfl | hn
    · lia
    · lia
    · lia
    · exact ih n hn
theorem dec_len : ∀ l : List Int, (decL l).length ≤ l.length
  | [] => by simp [decL]
  | [_] => by simp [decL]
  | [_, _] => by simp [decL]
  | [_, _, _] => by simp [decL]
  | _ :: _ :: _ :: _ :: r => by have := dec_len r; simp only [decL, List.length_cons]; lia
theorem figs_in (l : List Int) : ∀ v ∈ figs l, 0 ≤ v ∧ v < 64 := by
  intro v hv
  obtain ⟨h1, h2⟩ := List.mem_filter.mp hv
  obtain ⟨c, _, rfl⟩ := List.mem_map.mp h1
  exact ⟨(b64v_in c).1, by simpa using h2⟩
/-- between the turns -/
def InvD (pre : List Int) (qp lc : Int) (out : List Int) : Prop := qp = ((figs pre).length % 4 : Nat) ∧ lc = leftL (figs pre) ∧ out = decL (figs pre)
theorem invD0 : InvD [] 0 0 [] := ⟨rfl, rfl, rfl⟩
theorem InvD.bounds {pre : List Int} {qp lc : Int} {out : List Int} (h : InvD pre qp lc out) : 0 ≤ qp ∧ qp ≤ 3 ∧ 0 ≤ lc ∧ lc < 64 ∧ out.length ≤ pre.length := by
  obtain ⟨h1, h2, h3⟩ := h
  have := left_in (figs pre) (figs_in pre)
  have h4 := dec_len (figs pre)
  have h5 := figs_len pre
  rw [h3]
  lia
theorem InvD.qp {pre : List Int} {qp lc : Int} {out : List Int} (h : InvD pre qp lc out) : qp = ((figs pre).length % 4 : Nat) := h.1
theorem InvD.out {pre : List Int} {qp lc : Int} {out : List Int} (h : InvD pre qp lc out) : out = decL (figs pre) := h.2.2
theorem invD_skip {pre : List Int} {n qp lc : Int} {out : List Int} (h : InvD pre qp lc out) (hn : 64 ≤ b64v n) : InvD (pre ++ [n]) qp lc out := by
  unfold InvD at *
  rw [figs_snoc_out hn]; exact h
section
variable {pre : List Int} {n qp lc : Int} {out : List Int}
theorem len1 (v : Int) (l : List Int) : (l ++ [v]).length = l.length + 1 := by simp
theorem invD_0 (h : InvD pre qp lc out) (hn : b64v n < 64) (hq : qp = 0) : InvD (pre ++ [n]) 1 (b64v n) out := by
  obtain ⟨h1, h2, h3⟩ := h
  have d := (dec_snoc (b64v n) (figs pre)).1 (by lia)
  unfold InvD
  rw [figs_snoc_in hn, d.1, d.2.1, len1]
  exact ⟨by lia, rfl, h3⟩
theorem invD_1 (h : InvD pre qp lc out) (hn : b64v n < 64) (hq : qp = 1) : InvD (pre ++ [n]) 2 (b64v n % 16) (out ++ [lc * 2 ^ 2 + b64v n / 2 ^ 4]) := by
  obtain ⟨h1, h2, h3⟩ := h
  have d := (dec_snoc (b64v n) (figs pre)).2.1 (by lia)
  unfold InvD
  rw [figs_snoc_in hn, d.1, d.2, len1, h2, h3]
  exact ⟨by lia, rfl, rfl⟩
theorem invD_2 (h : InvD pre qp lc out) (hn : b64v n < 64) (hq : qp = 2) : InvD (pre ++ [n]) 3 (b64v n % 4) (out ++ [lc * 2 ^ 4 + b64v n / 2 ^ 2]) := by
  obtain ⟨h1, h2, h3⟩ := h
  have d := (dec_snoc (b64v n) (figs pre)).2.2.1 (by lia)
  unfold InvD
  rw [figs_snoc_in hn, d.1, d.2, len1, h2, h3]
  exact ⟨by lia, rfl, rfl⟩
theorem invD_3 (h : InvD pre qp lc out) (hn : b64v n < 64) (h0 : ¬ qp = 0) (h1 : ¬ qp = 1) (h2 : ¬ qp = 2) : InvD (pre ++ [n]) 0 0 (out ++ [lc * 2 ^ 6 + b64v n]) := by
  have b := h.bounds
  obtain ⟨g1, g2, g3⟩ := h
  have d := (dec_snoc (b64v n) (figs pre)).2.2.2 (by lia)
  unfold InvD
  rw [figs_snoc_in hn, d.1, d.2, len1, g2, g3]
  exact ⟨by lia, rfl, rfl⟩
end
end
section
/-! the plain law, part 3: the octets of figures, four by four -/
theorem dec_four (a b c d : Int) : ∀ l : List Int, l.length % 4 = 0 → decL (l ++ [a, b, c, d]) = decL l ++ [a * 4 + b / 16, b % 16 * 16 + c / 4, c % 4 * 64 + d]
  | [], _ => rfl
  | [_], h => by simp at h
  | [_, _], h => by simp at h
  | [_, _, _], h => by simp at h
  | f0 :: f1 :: f2 :: f3 :: r, h => by
    have hl : r.length % 4 = 0 := by simp only [List.length_cons] at h; lia
    have ih := dec_four a b c d r hl
    show decL (f0 :: f1 :: f2 :: f3 :: (r ++ [a, b, c, d])) = _
    simp only [decL, ih, List.cons_append]
theorem take_four {ns : List Int} {k : Nat} (h : k + 4 ≤ ns.length) : ns.take (k + 4) = ns.take k ++ [ns.getD k 0, ns.getD (k + 1) 0, ns.getD (k + 2) 0, ns.getD (k + 3) 0] := by
  have at_ : ∀ j, j < ns.length → ns[j]? = some (ns.getD j 0) := fun j hj => by
    rw [List.getElem?_eq_getElem hj, List.getD_eq_getElem?_getD, List.getElem?_eq_getElem hj]; rfl
  rw [show k + 4 = k + 1 + 1 + 1 + 1 from rfl, List.take_add_one, List.take_add_one, List.take_add_one, List.take_add_one, at_ k (by lia), at_ (k + 1) (by lia), at_ (k + 1 + 1) (by lia), at_ (k + 1 + 1 + 1) (by lia)]
  simp
/-- between the turns of the octets' loop -/
def InvO (ns : List Int) (i : Nat) (out : List Int) : Prop := out = decL (ns.take (4 * i)) ∧ out.length ≤ 4 * i
theorem invO0 (ns : List Int) : InvO ns 0 [] := ⟨by simp [decL], by simp⟩
theorem invO_turn {ns : List Int} {i n : Nat} {out : List Int} {k : Int} (h : InvO ns i out) (hn : 4 * n = ns.length) (hi : i < n) (hk : k = 0 + (i : Int) * 4) :
    InvO ns (i + 1) (out ++ [ns.getD k.toNat 0 * 4 + ns.getD (k + 1).toNat 0 / 16] ++ [ns.getD (k + 1).toNat 0 % 16 * 16 + ns.getD (k + 2).toNat 0 / 4] ++ [ns.getD (k + 2).toNat 0 % 4 * 64 + ns.getD (k + 3).toNat 0]) := by
  obtain ⟨h1, h2⟩ := h
  have e0 : k.toNat = 4 * i := by lia
  have e1 : (k + 1).toNat = 4 * i + 1 := by lia
  have e2 : (k + 2).toNat = 4 * i + 2 := by lia
  have e3 : (k + 3).toNat = 4 * i + 3 := by lia
  rw [e0, e1, e2, e3]
  refine ⟨?_, by simp only [List.length_append, List.length_singleton]; lia⟩
  rw [show 4 * (i + 1) = 4 * i + 4 by lia, take_four (by lia), dec_four _ _ _ _ _ (by rw [List.length_take]; lia), h1]
  simp
theorem invO_turnF {ns pre : List Int} {n : Nat} {out : List Int} {k z : Int} (h : InvO ns pre.length out) (hn : 4 * n = ns.length) (hi : pre.length < n) (hk : k = 0 + (pre.length : Int) * 4) :
    InvO ns (pre ++ [z]).length (out ++ [ns.getD k.toNat 0 * 4 + (ns.getD (k + 1).toNat 0).fdiv 16] ++ [(ns.getD (k + 1).toNat 0).fmod 16 * 16 + (ns.getD (k + 2).toNat 0).fdiv 4] ++ [(ns.getD (k + 2).toNat 0).fmod 4 * 64 + ns.getD (k + 3).toNat 0]) := by
  rw [List.length_append, List.length_singleton]
  simp only [Int.fdiv_eq_ediv_of_nonneg _ (show (0 : Int) ≤ 16 by decide), Int.fdiv_eq_ediv_of_nonneg _ (show (0 : Int) ≤ 4 by decide), Int.fmod_eq_emod_of_nonneg _ (show (0 : Int) ≤ 16 by decide), Int.fmod_eq_emod_of_nonneg _ (show (0 : Int) ≤ 4 by decide)]
  exact invO_turn h hn hi hk
theorem InvO.len {ns : List Int} {i : Nat} {out : List Int} (h : InvO ns i out) : out.length ≤ 4 * i := h.2
theorem invO_end {ns : List Int} {n : Nat} {out : List Int} (h : InvO ns n out) (hn : 4 * n = ns.length) : out = decL ns := by
  rw [h.1, hn, List.take_length]
end
section
/-! the plain law, part 4: the distance as it is reckoned -/
def low (c : Nat) : Nat := if 65 ≤ c ∧ c ≤ 90 then c + 32 else c
def cost (c d : Nat) : Int := if c = d then 0 else if low c = low d then 1 else 2
theorem cost_in (c d : Nat) : 0 ≤ cost c d ∧ cost c d ≤ 2 := by
  unfold cost
  repeat' split
  all_goals lia
/-- the cells: i signs of b, j signs of a -/
noncomputable def cell (a b : List Nat) : Nat → Nat → Int
  | 0, j => 2 * (j : Int)
  | i + 1, 0 => 2 * ((i : Int) + 1)
  | i + 1, j + 1 => min (min (if j = 0 then 2 * (i : Int) else cell a b (i + 1) j) (cell a b i (j + 1)) + 2) (cell a b i j + cost (b.getD i 0) (a.getD j 0))
theorem cell_zero (a b : List Nat) : ∀ i, cell a b i 0 = 2 * (i : Int)
  | 0 => by rw [cell]
  | i + 1 => by rw [cell]; omega
def big : Int := 9223372036854775807
/-- the row while row i + 1 is made, j places done -/
noncomputable def rowAt (a b : List Nat) (i j : Nat) : List Int := (List.range a.length).map fun t => if t < j then cell a b (i + 1) (t + 1) else cell a b i (t + 1)
noncomputable def resAt (a b : List Nat) (i j : Nat) : Int := if j = 0 then 2 * (i : Int) else cell a b (i + 1) j
noncomputable def minAt (a b : List Nat) (i : Nat) : Nat → Int
  | 0 => big
  | j + 1 => min (minAt a b i j) (cell a b (i + 1) (j + 1))
theorem rowAt_len (a b : List Nat) (i j : Nat) : (rowAt a b i j).length = a.length := by simp [rowAt]
theorem rowAt_get {a b : List Nat} {i j : Nat} (h : j < a.length) : (rowAt a b i j).getD j 0 = cell a b i (j + 1) := by
  simp [rowAt, List.getD_eq_getElem?_getD, h]
theorem rowAt_set {a b : List Nat} {i j : Nat} : (rowAt a b i j).set j (cell a b (i + 1) (j + 1)) = rowAt a b i (j + 1) := by
  apply List.ext_getElem?
  intro t
  rw [List.getElem?_set]
  unfold rowAt
  by_cases h : t < a.length
  · by_cases e : j = t
    · subst e; simp [h]
    · simp only [if_neg e, List.getElem?_map, List.getElem?_range h, Option.map_some]
      congr 1
      by_cases h1 : t < j
      · rw [if_pos h1, if_pos (by lia)]
      · rw [if_neg h1, if_neg (by lia)]
  · by_cases e : j = t
    · subst e; simp [h]
    · simp [e, h]
theorem rowAt_next (a b : List Nat) (i : Nat) : rowAt a b i a.length = rowAt a b (i + 1) 0 := by
  unfold rowAt
  refine List.map_congr_left fun t ht => ?_
  rw [List.mem_range] at ht
  rw [if_pos ht, if_neg (by lia)]
theorem rowAt_first (a b : List Nat) : rowAt a b 0 0 = (List.range a.length).map fun (t : Nat) => 2 * ((t : Int) + 1) := by
  unfold rowAt
  refine List.map_congr_left fun t _ => ?_
  rw [if_neg (by lia), cell]
  lia
/-- one step of the inner loop -/
theorem cell_next (a b : List Nat) (i j : Nat) : min (min (resAt a b i j) (cell a b i (j + 1)) + 2) (cell a b i j + cost (b.getD i 0) (a.getD j 0)) = cell a b (i + 1) (j + 1) := by
  rw [cell]; rfl
/-- rows 1 to i were not pruned -/
def Kept (a b : List Nat) (mx : Int) (i : Nat) : Prop := ∀ t, t < i → minAt a b t a.length ≤ mx
/-- what the rest of the reckoning gives -/
def Dp (a b : List Nat) (mx r : Int) : Prop := (Kept a b mx b.length ∧ r = cell a b b.length a.length) ∨ (∃ i, i < b.length ∧ mx < minAt a b i a.length ∧ r = mx + 1)
def Core (A B : List Nat) (mx r : Int) : Prop :=
  ((A = [] ∨ B = []) ∧ r = 2 * ((A.length : Int) + B.length)) ∨
  (A ≠ [] ∧ B ≠ [] ∧ ∃ a b, ((a = A ∧ b = B ∧ A.length ≤ B.length) ∨ (a = B ∧ b = A ∧ B.length < A.length)) ∧ ((mx < ((b.length : Int) - a.length) * 2 ∧ r = mx + 1) ∨ Dp a b mx r))
/-- what the whole says -/
def Lev (A B : List Nat) (mx r : Int) : Prop := (A = B → r = 0) ∧ (A ≠ B → ∃ P S A' B', A = P ++ A' ++ S ∧ B = P ++ B' ++ S ∧ Core A' B' mx r)
theorem lev_same {A B : List Nat} (mx : Int) (h : A = B) : Lev A B mx 0 := ⟨fun _ => rfl, fun n => absurd h n⟩
theorem lev_core {A B P S A' B' : List Nat} {mx r : Int} (hn : ¬ A = B) (ha : A = P ++ A' ++ S) (hb : B = P ++ B' ++ S) (h : Core A' B' mx r) : Lev A B mx r := ⟨fun e => absurd e hn, fun _ => ⟨P, S, A', B', ha, hb, h⟩⟩
end
section
/-! the plain law, part 5: the distance is D -/
theorem cell_up (a b : List Nat) (i j : Nat) : cell a b (i + 1) (j + 1) ≤ cell a b i (j + 1) + 2 := by rw [cell]; lia
theorem cell_diag (a b : List Nat) (i j : Nat) : cell a b (i + 1) (j + 1) ≤ cell a b i j + cost (b.getD i 0) (a.getD j 0) := by rw [cell]; omega
theorem cell_left (a b : List Nat) (i j : Nat) : cell a b (i + 1) (j + 1) ≤ resAt a b i j + 2 := by rw [cell]; unfold resAt; lia
theorem cell_ge {a b : List Nat} {i j : Nat} {z : Int} (h1 : z ≤ resAt a b i j + 2) (h2 : z ≤ cell a b i (j + 1) + 2) (h3 : z ≤ cell a b i j + cost (b.getD i 0) (a.getD j 0)) : z ≤ cell a b (i + 1) (j + 1) := by
  rw [cell]; unfold resAt at h1; omega
theorem minAt_le (a b : List Nat) (i : Nat) : ∀ j t, t < j → minAt a b i j ≤ cell a b (i + 1) (t + 1)
  | 0, t, h => by lia
  | j + 1, t, h => by
    rw [minAt]
    by_cases e : t = j
    · subst e; lia
    · have := minAt_le a b i j t (by lia); lia
theorem minAt_big (a b : List Nat) (i : Nat) : ∀ j, minAt a b i j ≤ big
  | 0 => by rw [minAt]; lia
  | j + 1 => by have := minAt_big a b i j; rw [minAt]; lia
theorem minAt_ge {a b : List Nat} {i : Nat} {z : Int} (hz : z ≤ big) : ∀ j, (∀ t, t < j → z ≤ cell a b (i + 1) (t + 1)) → z ≤ minAt a b i j
  | 0, _ => by rw [minAt]; exact hz
  | j + 1, h => by
    have h1 := minAt_ge hz j fun t ht => h t (by lia)
    have h2 := h j (by lia)
    rw [minAt]; lia
theorem cell_one (a b : List Nat) (i : Nat) : cell a b (i + 1) 1 ≤ 2 * ((i : Int) + 1) := by
  have := cell_left a b i 0
  unfold resAt at this
  rw [if_pos rfl] at this
  simp only [Nat.zero_add] at this
  lia
theorem row_mono (a b : List Nat) (i : Nat) : ∀ t, t < a.length → minAt a b i a.length ≤ cell a b (i + 1 + 1) (t + 1)
  | 0, h => by
    have m1 := minAt_le a b i a.length 0 h
    have c1 := cell_one a b i
    refine cell_ge ?_ ?_ ?_
    · unfold resAt; rw [if_pos rfl]; simp only [Nat.zero_add] at m1 ⊢; lia
    · simp only [Nat.zero_add] at m1 ⊢; lia
    · have := cost_in (b.getD (i + 1) 0) (a.getD 0 0)
      rw [cell_zero]
      simp only [Nat.zero_add] at m1
      lia
  | t + 1, h => by
    have ih := row_mono a b i t (by lia)
    have m1 := minAt_le a b i a.length (t + 1) h
    have m2 := minAt_le a b i a.length t (by lia)
    refine cell_ge ?_ ?_ ?_
    · unfold resAt; rw [if_neg (by lia)]; lia
    · lia
    · have := cost_in (b.getD (i + 1) 0) (a.getD (t + 1) 0)
      lia
theorem min_mono (a b : List Nat) (i : Nat) : ∀ d, minAt a b i a.length ≤ minAt a b (i + d) a.length
  | 0 => Int.le_refl _
  | d + 1 => by
    have h1 := min_mono a b i d
    have h2 : minAt a b (i + d) a.length ≤ minAt a b (i + (d + 1)) a.length := minAt_ge (minAt_big _ _ _ _) _ fun t ht => row_mono a b (i + d) t ht
    omega
theorem min_final {a b : List Nat} {i : Nat} (h : i < b.length) (ha : 0 < a.length) : minAt a b i a.length ≤ cell a b b.length a.length := by
  have h1 := min_mono a b i (b.length - 1 - i)
  rw [show i + (b.length - 1 - i) = b.length - 1 by lia] at h1
  have h2 := minAt_le a b (b.length - 1) a.length (a.length - 1) (by lia)
  rw [show b.length - 1 + 1 = b.length by lia, show a.length - 1 + 1 = a.length by lia] at h2
  lia
theorem dp_dist {a b : List Nat} {mx r : Int} (ha : 0 < a.length) (h : Dp a b mx r) : (cell a b b.length a.length ≤ mx → r = cell a b b.length a.length) ∧ (mx < cell a b b.length a.length → mx < r) := by
  rcases h with ⟨_, h⟩ | ⟨i, hi, hm, h⟩
  · lia
  · have := min_final hi ha; lia
/-- what is asked of the strings: stripped in any way, the distance is D -/
def Far (A B : List Nat) (D : Int) : Prop := ∀ P S A' B', A = P ++ A' ++ S → B = P ++ B' ++ S →
  ((A' = [] ∨ B' = []) → 2 * ((A'.length : Int) + B'.length) = D) ∧
  (A' ≠ [] → B' ≠ [] → ∀ a b, ((a = A' ∧ b = B' ∧ A'.length ≤ B'.length) ∨ (a = B' ∧ b = A' ∧ B'.length < A'.length)) → cell a b b.length a.length = D ∧ ((b.length : Int) - a.length) * 2 ≤ D)
theorem lev_far {A B : List Nat} {mx r D : Int} (h : Lev A B mx r) (hne : A ≠ B) (hf : Far A B D) : (D ≤ mx → r = D) ∧ (mx < D → mx < r) := by
  obtain ⟨P, S, A', B', hA, hB, hc⟩ := h.2 hne
  obtain ⟨f1, f2⟩ := hf P S A' B' hA hB
  rcases hc with ⟨h0, hr⟩ | ⟨n1, n2, a, b, hab, hr⟩
  · have := f1 h0; lia
  · obtain ⟨g1, g2⟩ := f2 n1 n2 a b hab
    have ha : 0 < a.length := by
      rcases hab with ⟨rfl, _, _⟩ | ⟨rfl, _, _⟩
      · exact List.length_pos_iff.mpr n1
      · exact List.length_pos_iff.mpr n2
    rcases hr with ⟨hm, hr⟩ | hr
    · lia
    · have := dp_dist ha hr
      rw [g1] at this
      exact this
/-! a shorter one that is part of a longer one -/
theorem sub_snoc {x y : Nat} {l m : List Nat} (h : (l ++ [x]).Sublist (m ++ [y])) : (l ++ [x]).Sublist m ∨ (x = y ∧ l.Sublist m) := by
  have h' := List.reverse_sublist.mpr h
  simp only [List.reverse_append, List.reverse_cons, List.reverse_nil, List.nil_append, List.singleton_append] at h'
  cases h' with
  | cons _ h1 =>
    left
    have := List.reverse_sublist.mpr h1
    simpa using this
  | cons_cons _ h2 => right; exact ⟨rfl, List.reverse_sublist.mp h2⟩
theorem getD_some {l : List Nat} {i : Nat} (h : i < l.length) : l[i]? = some (l.getD i 0) := by
  rw [List.getElem?_eq_getElem h, List.getD_eq_getElem?_getD, List.getElem?_eq_getElem h]; rfl
theorem take_snoc {l : List Nat} {i : Nat} (h : i < l.length) : l.take (i + 1) = l.take i ++ [l.getD i 0] := by
  rw [List.take_add_one, getD_some h]; rfl
theorem cost_self (c : Nat) : cost c c = 0 := by simp [cost]
theorem cell_sub (a b : List Nat) : ∀ i j : Nat, i ≤ b.length → j ≤ a.length → (a.take j).Sublist (b.take i) → cell a b i j ≤ 2 * ((i : Int) - j)
  | 0, j, _, hj, h => by
    have := h.length_le
    rw [List.length_take, List.length_take] at this
    have : j = 0 := by lia
    subst this
    rw [cell]; lia
  | i + 1, 0, _, _, _ => by rw [cell]; lia
  | i + 1, j + 1, hi, hj, h => by
    rw [take_snoc (by lia), take_snoc (by lia)] at h
    rcases sub_snoc h with h1 | ⟨h1, h2⟩
    · rw [← take_snoc (by lia)] at h1
      have := cell_sub a b i (j + 1) (by lia) hj h1
      have := cell_up a b i j
      lia
    · have := cell_sub a b i j (by lia) (by lia) h2
      have c := cell_diag a b i j
      rw [h1, cost_self] at c
      lia
theorem cell_len (a b : List Nat) : ∀ i j : Nat, 2 * ((i : Int) - j) ≤ cell a b i j
  | 0, j => by rw [cell]; lia
  | i + 1, 0 => by rw [cell]; lia
  | i + 1, j + 1 => by
    refine cell_ge ?_ ?_ ?_
    · unfold resAt
      split
      · lia
      · have := cell_len a b (i + 1) j; lia
    · have := cell_len a b i (j + 1); lia
    · have := cell_len a b i j
      have := cost_in (b.getD i 0) (a.getD j 0)
      lia
termination_by i j => i + j
theorem cell_exact {a b : List Nat} (h : a.Sublist b) : cell a b b.length a.length = 2 * ((b.length : Int) - a.length) := by
  have h1 := cell_len a b b.length a.length
  have h2 := cell_sub a b b.length a.length (Nat.le_refl _) (Nat.le_refl _) (by rw [List.take_length, List.take_length]; exact h)
  lia
theorem far_sub {A B : List Nat} {D : Int} (h : A.Sublist B) (hd : 2 * ((B.length : Int) - A.length) = D) : Far A B D ∧ Far B A D := by
  have key : ∀ P S A' B' : List Nat, A = P ++ A' ++ S → B = P ++ B' ++ S → A'.Sublist B' ∧ (B.length : Int) - A.length = B'.length - A'.length := by
    intro P S A' B' hA hB
    constructor
    · rw [hA, hB, List.append_assoc, List.append_assoc] at h
      exact (List.append_sublist_append_right S).mp ((List.append_sublist_append_left P).mp h)
    · rw [hA, hB]; simp only [List.length_append]; lia
  constructor
  · intro P S A' B' hA hB
    obtain ⟨k1, k2⟩ := key P S A' B' hA hB
    have k3 := k1.length_le
    refine ⟨fun h0 => ?_, fun n1 n2 a b hab => ?_⟩
    · rcases h0 with rfl | rfl
      · simp only [List.length_nil] at *; lia
      · have : A'.length = 0 := by simp only [List.length_nil] at k3; lia
        simp only [List.length_nil] at *; lia
    · rcases hab with ⟨rfl, rfl, _⟩ | ⟨rfl, rfl, h3⟩
      · rw [cell_exact k1]; lia
      · lia
  · intro P S B' A' hB hA
    obtain ⟨k1, k2⟩ := key P S A' B' hA hB
    have k3 := k1.length_le
    refine ⟨fun h0 => ?_, fun n1 n2 a b hab => ?_⟩
    · rcases h0 with rfl | rfl
      · have : A'.length = 0 := by simp only [List.length_nil] at k3; lia
        simp only [List.length_nil] at *; lia
      · simp only [List.length_nil] at *; lia
    · rcases hab with ⟨rfl, rfl, h3⟩ | ⟨rfl, rfl, h3⟩
      · have e := List.Sublist.eq_of_length k1 (by lia)
        subst e
        rw [cell_exact (List.Sublist.refl _)]; lia
      · rw [cell_exact k1]; lia
/-! two of one length that part just at the signs of one -/
/-- signs that stand in a alone and cost 2 against every other sign -/
def cnt (p : Nat → Bool) (l : List Nat) : Int := ((l.filter p).length : Int)
theorem cnt_snoc (p : Nat → Bool) (l : List Nat) (x : Nat) : cnt p (l ++ [x]) = cnt p l + if p x then 1 else 0 := by
  unfold cnt
  rw [List.filter_append, List.length_append]
  by_cases h : p x = true
  · simp [h]
  · simp [h]
theorem cell_cnt (a b : List Nat) (p : Nat → Bool) (hp : ∀ x ∈ a, p x = true → ∀ y ∈ b, cost y x = 2) : ∀ i j, i ≤ b.length → j ≤ a.length → 2 * cnt p (a.take j) ≤ cell a b i j
  | 0, j, _, hj => by
    rw [cell]
    have : (a.take j |>.filter p).length ≤ j := Nat.le_trans (List.length_filter_le _ _) (by rw [List.length_take]; lia)
    unfold cnt
    lia
  | i + 1, 0, _, _ => by rw [cell]; simp [cnt]; lia
  | i + 1, j + 1, hi, hj => by
    have e : cnt p (a.take (j + 1)) = cnt p (a.take j) + if p (a.getD j 0) then 1 else 0 := by rw [take_snoc (by lia), cnt_snoc]
    have e1 : cnt p (a.take (j + 1)) ≤ cnt p (a.take j) + 1 := by rw [e]; split <;> lia
    refine cell_ge ?_ ?_ ?_
    · unfold resAt
      split
      · rename_i h0
        subst h0
        simp [cnt] at e1 ⊢
        lia
      · have := cell_cnt a b p hp (i + 1) j hi (by lia); lia
    · have := cell_cnt a b p hp i (j + 1) (by lia) hj; lia
    · have h1 := cell_cnt a b p hp i j (by lia) (by lia)
      have h2 := cost_in (b.getD i 0) (a.getD j 0)
      by_cases h : p (a.getD j 0) = true
      · have h3 := hp (a.getD j 0) (List.mem_of_getElem? (getD_some (by lia))) h (b.getD i 0) (List.mem_of_getElem? (getD_some (by lia)))
        lia
      · rw [if_neg h] at e; lia
termination_by i j => i + j
theorem cell_same (a b : List Nat) (p : Nat → Bool) (hq : ∀ t, t < a.length → p (a.getD t 0) = false → a.getD t 0 = b.getD t 0) : ∀ i, i ≤ a.length → cell a b i i ≤ 2 * cnt p (a.take i)
  | 0, _ => by rw [cell]; simp [cnt]
  | i + 1, hi => by
    have e : cnt p (a.take (i + 1)) = cnt p (a.take i) + if p (a.getD i 0) then 1 else 0 := by rw [take_snoc (by lia), cnt_snoc]
    have ih := cell_same a b p hq i (by lia)
    have c := cell_diag a b i i
    have h2 := cost_in (b.getD i 0) (a.getD i 0)
    by_cases h : p (a.getD i 0) = true
    · rw [if_pos h] at e; lia
    · have h3 := hq i (by lia) (by simpa using h)
      rw [h3, cost_self] at c
      rw [if_neg h] at e; lia
theorem cnt_app (p : Nat → Bool) (l m : List Nat) : cnt p (l ++ m) = cnt p l + cnt p m := by
  unfold cnt; rw [List.filter_append, List.length_append]; lia
theorem cnt_none {p : Nat → Bool} {l : List Nat} (h : ∀ x ∈ l, p x = false) : cnt p l = 0 := by
  unfold cnt
  rw [List.filter_eq_nil_iff.mpr (fun x hx => by simp [h x hx])]; rfl
theorem far_same {A B : List Nat} {D : Int} (p : Nat → Bool) (hl : A.length = B.length) (hn : ∀ y ∈ B, p y = false) (hp : ∀ x ∈ A, p x = true → ∀ y ∈ B, cost y x = 2)
    (hq : ∀ t, t < A.length → p (A.getD t 0) = false → A.getD t 0 = B.getD t 0) (hd : 2 * cnt p A = D) : Far A B D := by
  intro P S A' B' hA hB
  have l1 : A'.length = B'.length := by rw [hA, hB] at hl; simp only [List.length_append] at hl; lia
  have c1 : cnt p A = cnt p A' := by
    rw [hA, cnt_app, cnt_app, cnt_none (l := P) (fun x hx => hn x (by rw [hB]; simp [hx])), cnt_none (l := S) (fun x hx => hn x (by rw [hB]; simp [hx]))]
    lia
  have q1 : ∀ t, t < A'.length → p (A'.getD t 0) = false → A'.getD t 0 = B'.getD t 0 := by
    intro t ht h
    have ga : A.getD (P.length + t) 0 = A'.getD t 0 := by
      rw [hA, List.getD_eq_getElem?_getD, List.getD_eq_getElem?_getD, List.getElem?_append_left (by simp; lia), List.getElem?_append_right (by lia), Nat.add_sub_cancel_left]
    have gb : B.getD (P.length + t) 0 = B'.getD t 0 := by
      rw [hB, List.getD_eq_getElem?_getD, List.getD_eq_getElem?_getD, List.getElem?_append_left (by simp; lia), List.getElem?_append_right (by lia), Nat.add_sub_cancel_left]
    rw [← ga, ← gb]
    exact hq _ (by rw [hA]; simp; lia) (by rw [ga]; exact h)
  refine ⟨fun h0 => ?_, fun n1 n2 a b hab => ?_⟩
  · have e1 : A' = [] := by
      rcases h0 with h | h
      · exact h
      · rw [h] at l1; exact List.length_eq_zero_iff.mp l1
    rw [← hd, c1, l1.symm, e1]
    simp [cnt]
  · rcases hab with ⟨rfl, rfl, _⟩ | ⟨rfl, rfl, h3⟩
    · have h1 := cell_cnt a b p (fun x hx h y hy => hp x (by rw [hA]; simp [hx]) h y (by rw [hB]; simp [hy])) b.length a.length (Nat.le_refl _) (Nat.le_refl _)
      have h2 := cell_same a b p q1 a.length (Nat.le_refl _)
      rw [List.take_length] at h1 h2
      have l2 := l1
      rw [← l1] at h1 ⊢
      rw [← hd, c1]
      have : (0 : Int) ≤ cnt p a := Int.natCast_nonneg _
      lia
    · lia
end
section
open PySem.Calls
theorem fill : hd.heap_39 = hd.heap_39 ∧ Challenge.rw_pa0032_01 = Challenge.rw_pa0032_01 := by
  k_with_none
  w_top off
  k_fill
  k_with "ev" => (repeat' (first | exact EvI.const | (refine' EvI.name ?enF_h1 ?enV_h1; (case enF_h1 => k_asm); (case enV_h1 => exact rfl)) | apply EvI.add | apply EvI.sub | apply EvI.and3 | apply EvI.and15 | apply EvI.and63 | apply EvI.and65535 | apply EvI.or | apply EvI.shl8 | apply EvI.shl2 | apply EvI.shl4 | apply EvI.shl6 | apply EvI.shr2 | apply EvI.shr4 | apply EvI.shr | exact (rfl : _ = ((0 : Nat) : Int)) | exact (rfl : _ = ((2 : Nat) : Int)) | exact (rfl : _ = ((4 : Nat) : Int)) | exact (rfl : _ = ((6 : Nat) : Int)) | k_extra "ev more" | ((fail_if_success (with_reducible show EvI _ _ _ _ _ _)); (fail_if_success (with_reducible show EvC _ _ _ _ _ _)); omega)))
  k_with "evc" => (repeat' (first | apply EvC.and | apply EvL.one | apply EvL.cons | apply EvC.not | apply EvC.lt | apply EvC.le | apply EvC.gt | apply EvC.ge | apply EvC.eq | apply EvC.ne | apply EvC.lele | (refine' EvC.nameB ?enG_h2 ?enW_h2; (case enG_h2 => k_asm); (case enW_h2 => exact rfl)) | apply EvC.nameI | (k_extra "ev"; done)))
  k_with "my storeName" => (k_here; k_dflt (refine' storeM ?zmF_h3 ?zmN_h3 ?_ ?zma_h3 ?zmb_h3; (case zmF_h3 => k_asm); (case zmN_h3 => k_asm); (case zma_h3 => rfl); (case zmb_h3 => rfl); k_whole; intro _ _ _ _ _; (try k_sweep)))
  k_with "ne9" => first | exact h91 | exact h92 (_, _) (.head _) | exact h92 (_, _) (.tail _ (.head _)) | exact h92 (_, _) (.tail _ (.tail _ (.head _))) | exact h92 (_, _) (.tail _ (.tail _ (.tail _ (.head _)))) | exact stored_sub h93 (by decide) | (intro e9; subst e9; exact absurd h93 (by decide))
  k_with "same" => (intro z9 h91 h92 h93; (repeat (first | (with_reducible exact rfl) | (refine (if_neg ?sn9_h5).trans ?_; (case sn9_h5 => k_extra "ne9")))); done)
  k_with "same2" => (intro z9 h92 h93; (repeat (first | (with_reducible exact rfl) | (refine (if_neg ?sn9_h6).trans ?_; (case sn9_h6 => k_extra "ne9")))); done)
  k_with "my eval BinOp" => (k_here; k_dflt (refine' EvI.use ?zex_h7 ?_; (case zex_h7 => k_extra "ev"); k_whole; intro _ _))
  k_with "argv" => (repeat' (first | exact ArgV.nil | (refine' ArgV.name ?anV_h8 ?anX_h8 ?anD_h8 ?_; (case anV_h8 => exact rfl); (case anX_h8 => exact rfl); (case anD_h8 => decide))))
  k_with "my eval Call" => (k_here; (with_reducible show wpAny _ _ (eval (Expr.Call (Expr.Name _ _) (_ :: _) [] _) _) _ _ _); k_dflt (refine' evCall ?ecE_h9 ?ecF_h9 ?ecX_h9 ?ecT_h9 ?ecK_h9 ?ecP_h9 ?ecA_h9 ?_ ?ecH_h9 ?ecI_h9 ?ecD_h9 ?ecC_h9 ?ecB_h9; (case ecE_h9 => exact rfl); (case ecF_h9 => k_asm); (case ecX_h9 => k_asm); (case ecT_h9 => k_asm); (case ecK_h9 => k_is); (case ecP_h9 => k_is); (case ecA_h9 => k_extra "argv"); (case ecH_h9 => rfl); (case ecI_h9 => rfl); (case ecD_h9 => decide); (case ecC_h9 => rfl); (case ecB_h9 => rfl); k_whole))
  k_with "my isTrue Compare" => (k_here; k_dflt (refine' EvC.use ?zcx_h10 ?_ ?_; (case zcx_h10 => k_extra "evc"); (all_goals (k_whole; intro _ _)); (all_goals first | contradiction | (law_purse 20000 => (exfalso; omega)) | skip)))
  k_with "my execs cons" => (k_here; first
    | ((with_reducible show wpAny _ _ (execs (Stmt.Assign [Expr.Name _ _] _ _ :: _) _) _ _ _); k_dflt (refine' stAssign ?zsx_h11 ?zsF_h11 ?zsN_h11 ?_ ?zsa_h11 ?zsb_h11 ?zsc_h11; (case zsx_h11 => k_extra "ev"); (case zsF_h11 => k_asm); (case zsN_h11 => k_asm); (case zsa_h11 => rfl); (case zsb_h11 => rfl); (case zsc_h11 => rfl); k_whole; intro _ _ _ _ _ _; (try k_sweep)))
    | ((with_reducible show wpAny _ _ (execs (Stmt.AugAssign (Expr.Name _ _) Operator.Add _ _ :: _) _) _ _ _); k_dflt (refine' stAdd ?zsv_h11 ?zsx_h11 ?zsF_h11 ?zsN_h11 ?_ ?zsa_h11 ?zsb_h11; (case zsF_h11 => k_asm); (case zsv_h11 => exact rfl); (case zsx_h11 => k_extra "ev"); (case zsN_h11 => k_asm); (case zsa_h11 => rfl); (case zsb_h11 => rfl); k_whole; intro _ _ _ _ _ _; (try k_sweep)))
    | ((with_reducible show wpAny _ _ (execs (Stmt.AugAssign (Expr.Name _ _) Operator.Sub _ _ :: _) _) _ _ _); k_dflt (refine' stSub ?zsv_h11 ?zsx_h11 ?zsF_h11 ?zsN_h11 ?_ ?zsa_h11 ?zsb_h11; (case zsF_h11 => k_asm); (case zsv_h11 => exact rfl); (case zsx_h11 => k_extra "ev"); (case zsN_h11 => k_asm); (case zsa_h11 => rfl); (case zsb_h11 => rfl); k_whole; intro _ _ _ _ _ _; (try k_sweep)))
    | ((with_reducible show wpAny _ _ (execs (Stmt.Expr (Expr.Call (Expr.Attribute (Expr.Name _ _) _ _) [_] [] _) _ :: _) _) _ _ _); k_dflt (refine' stAppend ?zpF_h11 ?zpv_h11 ?zpN_h11 ?zpm_h11 ?zpy_h11 ?zpU_h11 ?zpz_h11 ?_ ?zpa_h11 ?zpb_h11 ?zpc_h11 ?zpd_h11 ?zpe_h11 ?zpf_h11 ?zpg_h11; (case zpF_h11 => k_asm); (case zpv_h11 => exact rfl); (case zpN_h11 => k_asm); (case zpm_h11 => first | k_mem | k_memK | (with_unfolding_all k_mem)); (case zpy_h11 => k_extra "ev"); (case zpU_h11 => (intro _; k_upd)); (case zpz_h11 => size_fits); (case zpa_h11 => rfl); (case zpb_h11 => rfl); (case zpc_h11 => decide); (case zpd_h11 => rfl); (case zpe_h11 => rfl); (case zpf_h11 => rfl); (case zpg_h11 => rfl); k_whole; intro _ _ _ _ _; (try k_sweep)))
    | ((with_reducible show wpAny _ _ (execs (Stmt.If _ _ [] _ :: _) _) _ _ _); k_dflt (refine' stIf0 ?zix_h11 ?_ ?_; (case zix_h11 => k_extra "evc"); (all_goals (k_whole; intro _ _)); (all_goals first | contradiction | (law_purse 20000 => (exfalso; omega)) | skip)))
    | ((with_reducible show wpAny _ _ (execs (Stmt.If _ _ _ _ :: _) _) _ _ _); k_dflt (refine' stIf ?zjx_h11 ?_; (case zjx_h11 => k_extra "evc"); k_whole; intro _; refine ⟨?_, ?_⟩; (all_goals intro _ _); (all_goals first | contradiction | (law_purse 20000 => (exfalso; omega)) | skip)))
    | k_fold)
  k_with "call type:type" => (refine call_type_of (Tx := "bytes") rfl (by decide +kernel) ?_)
  exact ⟨rfl, rfl⟩
section
variable {w : World} {mean : ExcName → Option Value} {mg mb : Str → Option Value}

theorem c_b64_value (x : Int) (tk : Tok) : Says w mean mg mb 70 1 (fun _ => True) [.int x tk] [] (fun _ _ r => ∃ t, r = .int (b64v x) t) := by
  unfold Says
  intro dp un gd cn cs a ccd cl outer A₀ base h₀ L m s Q E B F X T hk hd hu hp hret
  refine wpAny_call ?_
  refine' enter (binds := [(Str.ofString "c", .int x tk)]) ?k1 ?k2 ?k3 ?k5 ?kA ?kF ?kK ?k6 ?k7 ?k8 ?k9 ?kB ?_ ?c2 ?c3 ?c4 ?c5; (case kA => exact rfl); (case kF => exact rfl); (case kK => assumption); (case k1 => k_asm); (case k2 => k_asm); (case k3 => k_asm); (case k5 => k_asm); (case k6 => k_is); (case k7 => k_is); (case k8 => ktr_room); (case k9 => first | exact BindsTo.of_eq rfl | exact binds_K (by k_in) rfl (by k_is) rfl rfl rfl | fail "BINDS"); (case c5 => decide); (case kB => exact locs rfl); (case c2 => exact rfl); (case c3 => exact rfl); (case c4 => exact rfl); k_whole; intro g' L' h' hg' FG' F' N' B' X' T'; (try dsimp only); (try k_lift B'); (try (refine letA ?_; intro env1 A1)); (try k_fold)
  k_steps
  all_goals (refine hret _ _ _ (kept9 hg' (by assumption)) (exInt ?_); unfold b64v; (repeat' split) <;> omega)

theorem c_truth (x : Bool) : Says w mean mg mb 63 1 (fun _ => True) [.bool x] [] (fun _ _ r => r = .bool x) := by
  unfold Says
  intro dp un gd cn cs a ccd cl outer A₀ base h₀ L m s Q E B F X T hk hd hu hp hret
  refine wpAny_call ?_
  refine' enter (binds := [(Str.ofString "x", .bool x)]) ?k1 ?k2 ?k3 ?k5 ?kA ?kF ?kK ?k6 ?k7 ?k8 ?k9 ?kB ?_ ?c2 ?c3 ?c4 ?c5; (case kA => exact rfl); (case kF => exact rfl); (case kK => assumption); (case k1 => k_asm); (case k2 => k_asm); (case k3 => k_asm); (case k5 => k_asm); (case k6 => k_is); (case k7 => k_is); (case k8 => ktr_room); (case k9 => first | exact BindsTo.of_eq rfl | exact binds_K (by k_in) rfl (by k_is) rfl rfl rfl | fail "BINDS"); (case c5 => decide); (case kB => exact locs rfl); (case c2 => exact rfl); (case c3 => exact rfl); (case c4 => exact rfl); k_whole; intro g' L' h' hg' FG' F' N' B' X' T'; (try dsimp only); (try k_lift B'); (try (refine letA ?_; intro env1 A1)); (try k_fold)
  k_steps
  all_goals (refine hret _ _ _ (kept9 hg' (by assumption)) ?_; simp_all)

theorem c_asciib (x : Array UInt8) (tk : Tok) : Says w mean mg mb 49 1 (fun _ => True) [.bytes x tk] [] (fun _ _ r => r = .bytes x tk) := by
  unfold Says
  intro dp un gd cn cs a ccd cl outer A₀ base h₀ L m s Q E B F X T hk hd hu hp hret
  refine wpAny_call ?_
  refine' enter (binds := [(Str.ofString "data", .bytes x tk)]) ?k1 ?k2 ?k3 ?k5 ?kA ?kF ?kK ?k6 ?k7 ?k8 ?k9 ?kB ?_ ?c2 ?c3 ?c4 ?c5; (case kA => exact rfl); (case kF => exact rfl); (case kK => assumption); (case k1 => k_asm); (case k2 => k_asm); (case k3 => k_asm); (case k5 => k_asm); (case k6 => k_is); (case k7 => k_is); (case k8 => ktr_room); (case k9 => first | exact BindsTo.of_eq rfl | exact binds_K (by k_in) rfl (by k_is) rfl rfl rfl | fail "BINDS"); (case c5 => decide); (case kB => exact locs rfl); (case c2 => exact rfl); (case c3 => exact rfl); (case c4 => exact rfl); k_whole; intro g' L' h' hg' FG' F' N' B' X' T'; (try dsimp only); (try k_lift B'); (try (refine letA ?_; intro env1 A1)); (try k_fold)
  k_steps
  all_goals (exact hret _ _ _ (kept9 hg' (by assumption)) rfl)

theorem c_buffer (x : Array UInt8) (tk : Tok) : Says w mean mg mb 56 1 (fun _ => True) [.bytes x tk] [] (fun _ _ r => r = .bytes x tk) := by
  unfold Says
  intro dp un gd cn cs a ccd cl outer A₀ base h₀ L m s Q E B F X T hk hd hu hp hret
  refine wpAny_call ?_
  refine' enter (binds := [(Str.ofString "data", .bytes x tk)]) ?k1 ?k2 ?k3 ?k5 ?kA ?kF ?kK ?k6 ?k7 ?k8 ?k9 ?kB ?_ ?c2 ?c3 ?c4 ?c5; (case kA => exact rfl); (case kF => exact rfl); (case kK => assumption); (case k1 => k_asm); (case k2 => k_asm); (case k3 => k_asm); (case k5 => k_asm); (case k6 => k_is); (case k7 => k_is); (case k8 => ktr_room); (case k9 => first | exact BindsTo.of_eq rfl | exact binds_K (by k_in) rfl (by k_is) rfl rfl rfl | fail "BINDS"); (case c5 => decide); (case kB => exact locs rfl); (case c2 => exact rfl); (case c3 => exact rfl); (case c4 => exact rfl); k_whole; intro g' L' h' hg' FG' F' N' B' X' T'; (try dsimp only); (try k_lift B'); (try (refine letA ?_; intro env1 A1)); (try k_fold)
  k_steps
  all_goals (exact hret _ _ _ (kept9 hg' (by assumption)) rfl)

theorem c_bfdd_bytes (x : Array UInt8) (tk : Tok) : Says w mean mg mb 29 1 (fun _ => True) [.bytes x tk] [] (fun _ _ r => r = .bytes x tk) := by
  unfold Says
  intro dp un gd cn cs a ccd cl outer A₀ base h₀ L m s Q E B F X T hk hd hu hp hret
  refine wpAny_call ?_
  refine' enter (binds := [(Str.ofString "s", .bytes x tk)]) ?k1 ?k2 ?k3 ?k5 ?kA ?kF ?kK ?k6 ?k7 ?k8 ?k9 ?kB ?_ ?c2 ?c3 ?c4 ?c5; (case kA => exact rfl); (case kF => exact rfl); (case kK => assumption); (case k1 => k_asm); (case k2 => k_asm); (case k3 => k_asm); (case k5 => k_asm); (case k6 => k_is); (case k7 => k_is); (case k8 => ktr_room); (case k9 => first | exact BindsTo.of_eq rfl | exact binds_K (by k_in) rfl (by k_is) rfl rfl rfl | fail "BINDS"); (case c5 => decide); (case kB => exact locs rfl); (case c2 => exact rfl); (case c3 => exact rfl); (case c4 => exact rfl); k_whole; intro g' L' h' hg' FG' F' N' B' X' T'; (try dsimp only); (try k_lift B'); (try (refine letA ?_; intro env1 A1)); (try k_fold)
  k_steps
  all_goals (exact hret _ _ _ (kept9 hg' (by assumption)) rfl)

theorem c_same_bb (x y : Array UInt8) (tk tl : Tok) : Says w mean mg mb 180 1 (fun _ => True) [.bytes x tk, .bytes y tl] [] (fun _ _ r => r = .bool (x.toList == y.toList)) := by
  unfold Says
  intro dp un gd cn cs a ccd cl outer A₀ base h₀ L m s Q E B F X T hk hd hu hp hret
  refine wpAny_call ?_
  refine' enter (binds := [(Str.ofString "found", .bytes x tk), (Str.ofString "due", .bytes y tl)]) ?k1 ?k2 ?k3 ?k5 ?kA ?kF ?kK ?k6 ?k7 ?k8 ?k9 ?kB ?_ ?c2 ?c3 ?c4 ?c5; (case kA => exact rfl); (case kF => exact rfl); (case kK => assumption); (case k1 => k_asm); (case k2 => k_asm); (case k3 => k_asm); (case k5 => k_asm); (case k6 => k_is); (case k7 => k_is); (case k8 => ktr_room); (case k9 => first | exact BindsTo.of_eq rfl | exact binds_K (by k_in) rfl (by k_is) rfl rfl rfl | fail "BINDS"); (case c5 => decide); (case kB => exact locs rfl); (case c2 => exact rfl); (case c3 => exact rfl); (case c4 => exact rfl); k_whole; intro g' L' h' hg' FG' F' N' B' X' T'; (try dsimp only); (try k_lift B'); (try (refine letA ?_; intro env1 A1)); (try k_fold)
  k_steps
  all_goals (exact hret _ _ _ (kept9 hg' (by assumption)) rfl)

def subc (x y : Str) : Int := if x = y then 0 else if Txt.lower x = Txt.lower y then 1 else 2
theorem c_subst (x y : Str) (tk tl : Tok) : Says w mean mg mb 130 1 (fun _ => x.length ≤ 1 ∧ y.length ≤ 1) [.str x tk, .str y tl] [] (fun _ _ r => ∃ t, r = .int (subc x y) t) := by
  unfold Says
  intro dp un gd cn cs a ccd cl outer A₀ base h₀ L m s Q E B F X T hk hd hu hp hret
  refine wpAny_call ?_
  refine' enter (binds := [(Str.ofString "ch_a", .str x tk), (Str.ofString "ch_b", .str y tl)]) ?k1 ?k2 ?k3 ?k5 ?kA ?kF ?kK ?k6 ?k7 ?k8 ?k9 ?kB ?_ ?c2 ?c3 ?c4 ?c5; (case kA => exact rfl); (case kF => exact rfl); (case kK => assumption); (case k1 => k_asm); (case k2 => k_asm); (case k3 => k_asm); (case k5 => k_asm); (case k6 => k_is); (case k7 => k_is); (case k8 => ktr_room); (case k9 => first | exact BindsTo.of_eq rfl | exact binds_K (by k_in) rfl (by k_is) rfl rfl rfl | fail "BINDS"); (case c5 => decide); (case kB => exact locs rfl); (case c2 => exact rfl); (case c3 => exact rfl); (case c4 => exact rfl); k_whole; intro g' L' h' hg' FG' F' N' B' X' T'; (try dsimp only); (try k_lift B'); (try (refine letA ?_; intro env1 A1)); (try k_fold)
  obtain ⟨hp1, hp2⟩ := hp
  k_with "call builtin:str.lower" => (refine SCL.lower (by omega) ?_; intro _)
  k_steps
  all_goals (refine hret _ _ _ (kept9 hg' (by assumption)) (exInt ?_); unfold subc; simp_all)
end
end
section
open PySem.Calls
theorem fill2 : hd.heap_39 = hd.heap_39 ∧ Challenge.rw_pa0032_01 = Challenge.rw_pa0032_01 := by
  k_with_none
  w_top off
  k_fill
  k_with "ev" => (repeat' (first | exact EvI.const | (refine' EvI.name ?enF_h1 ?enV_h1; (case enF_h1 => k_asm); (case enV_h1 => exact rfl)) | apply EvI.add | apply EvI.sub | apply EvI.and3 | apply EvI.and15 | apply EvI.and63 | apply EvI.and65535 | apply EvI.or | apply EvI.shl8 | apply EvI.shl2 | apply EvI.shl4 | apply EvI.shl6 | apply EvI.shr2 | apply EvI.shr4 | apply EvI.shr | exact (rfl : _ = ((0 : Nat) : Int)) | exact (rfl : _ = ((2 : Nat) : Int)) | exact (rfl : _ = ((4 : Nat) : Int)) | exact (rfl : _ = ((6 : Nat) : Int)) | k_extra "ev more" | ((fail_if_success (with_reducible show EvI _ _ _ _ _ _)); (fail_if_success (with_reducible show EvC _ _ _ _ _ _)); omega)))
  k_with "evc" => (repeat' (first | apply EvC.and | apply EvL.one | apply EvL.cons | apply EvC.not | apply EvC.lt | apply EvC.le | apply EvC.gt | apply EvC.ge | apply EvC.eq | apply EvC.ne | apply EvC.lele | (refine' EvC.nameB ?enG_h2 ?enW_h2; (case enG_h2 => k_asm); (case enW_h2 => exact rfl)) | apply EvC.nameI | (k_extra "ev"; done)))
  k_with "my storeName" => (k_here; k_dflt (refine' storeM ?zmF_h3 ?zmN_h3 ?_ ?zma_h3 ?zmb_h3; (case zmF_h3 => k_asm); (case zmN_h3 => k_asm); (case zma_h3 => rfl); (case zmb_h3 => rfl); k_whole; intro _ _ _ _ _; (try k_sweep)))
  k_with "ne9" => first | exact h91 | exact h92 (_, _) (.head _) | exact h92 (_, _) (.tail _ (.head _)) | exact h92 (_, _) (.tail _ (.tail _ (.head _))) | exact h92 (_, _) (.tail _ (.tail _ (.tail _ (.head _)))) | exact stored_sub h93 (by decide) | (intro e9; subst e9; exact absurd h93 (by decide))
  k_with "same" => (intro z9 h91 h92 h93; (repeat (first | (with_reducible exact rfl) | (refine (if_neg ?sn9_h5).trans ?_; (case sn9_h5 => k_extra "ne9")))); done)
  k_with "same2" => (intro z9 h92 h93; (repeat (first | (with_reducible exact rfl) | (refine (if_neg ?sn9_h6).trans ?_; (case sn9_h6 => k_extra "ne9")))); done)
  k_with "my eval BinOp" => (k_here; k_dflt (refine' EvI.use ?zex_h7 ?_; (case zex_h7 => k_extra "ev"); k_whole; intro _ _))
  k_with "argv" => (repeat' (first | exact ArgV.nil | (refine' ArgV.name ?anV_h8 ?anX_h8 ?anD_h8 ?_; (case anV_h8 => exact rfl); (case anX_h8 => exact rfl); (case anD_h8 => decide))))
  k_with "my eval Call" => (k_here; (with_reducible show wpAny _ _ (eval (Expr.Call (Expr.Name _ _) (_ :: _) [] _) _) _ _ _); k_dflt (refine' evCall ?ecE_h9 ?ecF_h9 ?ecX_h9 ?ecT_h9 ?ecK_h9 ?ecP_h9 ?ecA_h9 ?_ ?ecH_h9 ?ecI_h9 ?ecD_h9 ?ecC_h9 ?ecB_h9; (case ecE_h9 => exact rfl); (case ecF_h9 => k_asm); (case ecX_h9 => k_asm); (case ecT_h9 => k_asm); (case ecK_h9 => k_is); (case ecP_h9 => k_is); (case ecA_h9 => k_extra "argv"); (case ecH_h9 => rfl); (case ecI_h9 => rfl); (case ecD_h9 => decide); (case ecC_h9 => rfl); (case ecB_h9 => rfl); k_whole))
  k_with "my isTrue Compare" => (k_here; k_dflt (refine' EvC.use ?zcx_h10 ?_ ?_; (case zcx_h10 => k_extra "evc"); (all_goals (k_whole; intro _ _)); (all_goals first | contradiction | (law_purse 20000 => (exfalso; omega)) | skip)))
  k_with "my execs cons" => (k_here; first
    | ((with_reducible show wpAny _ _ (execs (Stmt.Assign [Expr.Name _ _] _ _ :: _) _) _ _ _); k_dflt (refine' stAssign ?zsx_h11 ?zsF_h11 ?zsN_h11 ?_ ?zsa_h11 ?zsb_h11 ?zsc_h11; (case zsx_h11 => k_extra "ev"); (case zsF_h11 => k_asm); (case zsN_h11 => k_asm); (case zsa_h11 => rfl); (case zsb_h11 => rfl); (case zsc_h11 => rfl); k_whole; intro _ _ _ _ _ _; (try k_sweep)))
    | ((with_reducible show wpAny _ _ (execs (Stmt.AugAssign (Expr.Name _ _) Operator.Add _ _ :: _) _) _ _ _); k_dflt (refine' stAdd ?zsv_h11 ?zsx_h11 ?zsF_h11 ?zsN_h11 ?_ ?zsa_h11 ?zsb_h11; (case zsF_h11 => k_asm); (case zsv_h11 => exact rfl); (case zsx_h11 => k_extra "ev"); (case zsN_h11 => k_asm); (case zsa_h11 => rfl); (case zsb_h11 => rfl); k_whole; intro _ _ _ _ _ _; (try k_sweep)))
    | ((with_reducible show wpAny _ _ (execs (Stmt.AugAssign (Expr.Name _ _) Operator.Sub _ _ :: _) _) _ _ _); k_dflt (refine' stSub ?zsv_h11 ?zsx_h11 ?zsF_h11 ?zsN_h11 ?_ ?zsa_h11 ?zsb_h11; (case zsF_h11 => k_asm); (case zsv_h11 => exact rfl); (case zsx_h11 => k_extra "ev"); (case zsN_h11 => k_asm); (case zsa_h11 => rfl); (case zsb_h11 => rfl); k_whole; intro _ _ _ _ _ _; (try k_sweep)))
    | ((with_reducible show wpAny _ _ (execs (Stmt.Expr (Expr.Call (Expr.Attribute (Expr.Name _ _) _ _) [_] [] _) _ :: _) _) _ _ _); k_dflt (refine' stAppend ?zpF_h11 ?zpv_h11 ?zpN_h11 ?zpm_h11 ?zpy_h11 ?zpU_h11 ?zpz_h11 ?_ ?zpa_h11 ?zpb_h11 ?zpc_h11 ?zpd_h11 ?zpe_h11 ?zpf_h11 ?zpg_h11; (case zpF_h11 => k_asm); (case zpv_h11 => exact rfl); (case zpN_h11 => k_asm); (case zpm_h11 => first | k_mem | k_memK | (with_unfolding_all k_mem)); (case zpy_h11 => k_extra "ev"); (case zpU_h11 => (intro _; k_upd)); (case zpz_h11 => size_fits); (case zpa_h11 => rfl); (case zpb_h11 => rfl); (case zpc_h11 => decide); (case zpd_h11 => rfl); (case zpe_h11 => rfl); (case zpf_h11 => rfl); (case zpg_h11 => rfl); k_whole; intro _ _ _ _ _; (try k_sweep)))
    | ((with_reducible show wpAny _ _ (execs (Stmt.If _ _ [] _ :: _) _) _ _ _); k_dflt (refine' stIf0 ?zix_h11 ?_ ?_; (case zix_h11 => k_extra "evc"); (all_goals (k_whole; intro _ _)); (all_goals first | contradiction | (law_purse 20000 => (exfalso; omega)) | skip)))
    | ((with_reducible show wpAny _ _ (execs (Stmt.If _ _ _ _ :: _) _) _ _ _); k_dflt (refine' stIf ?zjx_h11 ?_; (case zjx_h11 => k_extra "evc"); k_whole; intro _; refine ⟨?_, ?_⟩; (all_goals intro _ _); (all_goals first | contradiction | (law_purse 20000 => (exfalso; omega)) | skip)))
    | k_fold)
  k_with "my getMethod str" => (k_here; with_reducible refine method_encode ?_)
  k_with "my getMethod bytes" => (k_here; with_reducible refine method_translate ?_)
  exact ⟨rfl, rfl⟩
def one (c : Nat) : Str := ⟨#[c]⟩
def txt (l : List Nat) : Str := ⟨l.toArray⟩
theorem glued_ones (l : List Nat) : ∀ acc : Array Nat, (l.map one).foldl (fun acc p => acc ++ (Str.ofString "").cps ++ p.cps) acc = acc ++ l.toArray := by
  induction l with
  | nil => intro acc; simp
  | cons c r ih =>
    intro acc
    rw [List.map_cons, List.foldl_cons, ih]
    have e : (Str.ofString "").cps = #[] := by decide
    rw [e]
    simp [one]
theorem join_one (l : List Nat) : Txt.join (Str.ofString "") (l.map one) = txt l := by
  show Builtin.Str.glued (Str.ofString "") (l.map one) = txt l
  unfold Builtin.Str.glued
  cases l with
  | nil => rfl
  | cons c r =>
    simp only [List.map_cons, List.drop_one, List.tail_cons, List.headD_cons]
    rw [glued_ones]
    simp [one, txt]
theorem sum_ones (l : List Nat) : ((l.map one).map (·.length)).sum = l.length := by
  induction l with
  | nil => rfl
  | cons c r ih => rw [List.map_cons, List.map_cons, List.sum_cons, ih, List.length_cons]; show 1 + _ = _; omega
theorem join9 {prog : Program} {w : World} {A : Around} {E : Value → Shared → Prop} {s : Shared} {t : Tok} {Q : Value → Shared → Prop} {D : Addr} {h₀ : Heap} {L : Addr} {news : List (Addr × Obj)} {ys : List Value} {l : List Nat} (N : News h₀ L s.heap news) (hm : (D, LCg.lst ys) ∈ news) (hi : StrsAre ys (l.map one)) (hw : l.length ≤ 500000)
    (h : ∀ t' k, Q (.str (txt l) t') { s with toks := k }) : wpAny (model prog w) A (call (.builtin "str.join") [.str (Str.ofString "") t, .ref D]) Q E s := by
  refine join_listW (items := ys.toArray) (ys := l.map one) ⟨_, (N _ hm).1, rfl, _, rfl⟩ (by simpa using hi) (by decide) (by rw [sum_ones, List.length_map]; omega) ?_
  rw [join_one]
  exact h
theorem strs_take {α : Type} {f : α → Str} {b : Array α} {i : Nat} {c : α} {ys : List Value} {y : Str} {t : Tok} (h : StrsAre ys ((b.toList.take i).map f)) (hc : b[i]? = some c) (e : y = f c) : StrsAre (ys ++ [.str y t]) ((b.toList.take (i + 1)).map f) := by
  have hc' : b.toList[i]? = some c := by rw [Array.getElem?_toList]; exact hc
  rw [List.take_add_one, hc', e]
  simpa using kct_snoc h
section
variable {w : World} {mean : ExcName → Option Value} {mg mb : Str → Option Value}

theorem c_text (x : Array UInt8) (tk : Tok) : Says w mean mg mb 159 1 (fun _ => x.size ≤ 500000) [.bytes x tk] [] (fun _ _ r => ∃ t, r = .str (txt (x.toList.map (·.toNat))) t) := by
  unfold Says
  intro dp un gd cn cs a ccd cl outer A₀ base h₀ L m s Q E B F X T hk hd hu hp hret
  refine wpAny_call ?_
  refine' enter (binds := [(Str.ofString "writing", .bytes x tk)]) ?k1 ?k2 ?k3 ?k5 ?kA ?kF ?kK ?k6 ?k7 ?k8 ?k9 ?kB ?_ ?c2 ?c3 ?c4 ?c5; (case kA => exact rfl); (case kF => exact rfl); (case kK => assumption); (case k1 => k_asm); (case k2 => k_asm); (case k3 => k_asm); (case k5 => k_asm); (case k6 => k_is); (case k7 => k_is); (case k8 => ktr_room); (case k9 => first | exact BindsTo.of_eq rfl | exact binds_K (by k_in) rfl (by k_is) rfl rfl rfl | fail "BINDS"); (case c5 => decide); (case kB => exact locs rfl); (case c2 => exact rfl); (case c3 => exact rfl); (case c4 => exact rfl); k_whole; intro g' L' h' hg' FG' F' N' B' X' T'; (try dsimp only); (try k_lift B'); (try (refine letA ?_; intro env1 A1)); (try k_fold)
  k_with "my eval ListComp" => k_dflt (refine' compB (b := x) (fun i ys => StrsAre ys ((x.toList.take i).map fun c => one c.toNat)) rfl ?kF_h14 ?kN_h14 ?k1_h14 ?k2_h14 ?k3_h14 ?k4_h14 ?k5_h14 ?hi_h14 ?k6_h14 ?k7_h14 ?turn_h14 ?fin_h14; (case kF_h14 => k_asm); (case kN_h14 => k_asm); (case k1_h14 => with_unfolding_all rfl); (case k2_h14 => decide); (case k3_h14 => rfl); (case k4_h14 => decide); (case k5_h14 => rfl); (case hi_h14 => (refine' ld ?f_h14 ?e_h14 ?q_h14; (case f_h14 => k_asm); (case e_h14 => rfl); (case q_h14 => exact ⟨rfl, rfl⟩))); (case k6_h14 => (rw [PySem.sizeLine_eq]; omega)); (case k7_h14 => exact .nil))
  k_with "my call builtin:str.join" => (k_dflt (refine' join9 (l := x.toList.map (·.toNat)) ?N_h15 ?m_h15 ?i_h15 ?w_h15 ?_; (case N_h15 => k_asm); (case m_h15 => k_mem); (case i_h15 => (rename StrsAre _ _ => hS9; rw [List.map_map]; rw [List.take_of_length_le (by simp)] at hS9; exact hS9)); (case w_h15 => (rw [List.length_map, Array.length_toList]; exact hp)); k_whole; intro _ _))
  k_steps
  · exact Pend.mk (fun _ _ e => e) (strs_take (by assumption) (by assumption) rfl)
  · exact hret _ _ _ (kept9 hg' (by assumption)) ⟨_, rfl⟩

theorem c_bfdd_str (x : Str) (tk : Tok) : Says w mean mg mb 29 1 (fun _ => (∀ c ∈ x.cps.toList, c < 128) ∧ x.length ≤ 500000) [.str x tk] [] (fun _ _ r => ∃ t, r = .bytes (x.cps.map (·.toUInt8)) t) := by
  unfold Says
  intro dp un gd cn cs a ccd cl outer A₀ base h₀ L m s Q E B F X T hk hd hu hp hret
  refine wpAny_call ?_
  refine' enter (binds := [(Str.ofString "s", .str x tk)]) ?k1 ?k2 ?k3 ?k5 ?kA ?kF ?kK ?k6 ?k7 ?k8 ?k9 ?kB ?_ ?c2 ?c3 ?c4 ?c5; (case kA => exact rfl); (case kF => exact rfl); (case kK => assumption); (case k1 => k_asm); (case k2 => k_asm); (case k3 => k_asm); (case k5 => k_asm); (case k6 => k_is); (case k7 => k_is); (case k8 => ktr_room); (case k9 => first | exact BindsTo.of_eq rfl | exact binds_K (by k_in) rfl (by k_is) rfl rfl rfl | fail "BINDS"); (case c5 => decide); (case kB => exact locs rfl); (case c2 => exact rfl); (case c3 => exact rfl); (case c4 => exact rfl); k_whole; intro g' L' h' hg' FG' F' N' B' X' T'; (try dsimp only); (try k_lift B'); (try (refine letA ?_; intro env1 A1)); (try k_fold)
  k_with "call builtin:str.encode" => (k_dflt (refine' encode ?a_h16 ?z_h16 ?_; (case a_h16 => exact hp.1); (case z_h16 => (rw [PySem.sizeLine_eq]; exact Nat.le_trans hp.2 (by decide))); k_whole; intro _ _))
  k_steps
  all_goals (exact hret _ _ _ (kept9 hg' (by assumption)) ⟨_, rfl⟩)
end
end
section
open PySem.Calls Builtin Builtin.Str
theorem range_one (a b : Nat) : sliceRange (a : Int) (b : Int) 1 = (List.range (b - a)).map (a + ·) := by
  unfold sliceRange
  simp only [show (1 : Int) > 0 by decide, if_true]
  by_cases h : (a : Int) < b
  · rw [if_pos h]
    have e : (((b : Int) - a + 1 - 1) / 1).toNat = b - a := by lia
    rw [e]
    refine List.map_congr_left fun k _ => ?_
    lia
  · rw [if_neg h]
    have e : b - a = 0 := by lia
    rw [e]; rfl
theorem pick_range (l : List Nat) (a : Nat) : ∀ m, ((List.range m).map (a + ·)).filterMap (l.toArray[·]?) = (l.drop a).take m := by
  intro m
  induction m with
  | zero => simp
  | succ m ih =>
    rw [List.range_succ, List.map_append, List.filterMap_append, ih, List.take_add_one, List.getElem?_drop]
    congr 1
    simp only [List.map_cons, List.map_nil, List.getElem?_toArray]
    cases h : l[a + m]? with
    | none => simp [h]
    | some c => simp [h]
theorem slice_gen (l : List Nat) (lo hi : Option Int) (a b : Nat) (hab : a ≤ b) (hb : b ≤ l.length) (h : strSliceIndices lo hi 1 l.length = sliceRange (a : Int) (b : Int) 1) : Txt.slice (txt l) lo hi = txt ((l.drop a).take (b - a)) := by
  unfold Txt.slice
  have hl : (txt l).length = l.length := by simp [txt, PySem.Str.length]
  rw [hl, h, range_one]
  split
  · rename_i hc
    simp only [List.length_map, List.length_range, Bool.and_eq_true, beq_iff_eq] at hc
    have e1 : a = 0 := by lia
    have e2 : b = l.length := by lia
    subst e1
    rw [e2]
    simp
  · show PySem.Str.mk _ = PySem.Str.mk _
    congr 2
    exact pick_range l a _
theorem slice_drop (l : List Nat) (i : Int) (h0 : 0 ≤ i) (h1 : i ≤ l.length) : Txt.slice (txt l) (some i) none = txt (l.drop i.toNat) := by
  rw [slice_gen l (some i) none i.toNat l.length (by lia) (Nat.le_refl _)]
  · congr 1
    rw [List.take_of_length_le (by simp)]
  · unfold strSliceIndices
    simp only [show (1 : Int) > 0 by decide, if_true]
    congr 1
    rw [if_neg (by lia)]
    lia
theorem slice_take (l : List Nat) (j : Int) (h0 : j < 0) (h1 : -(l.length : Int) ≤ j) : Txt.slice (txt l) none (some j) = txt (l.take (l.length - (-j).toNat)) := by
  rw [slice_gen l none (some j) 0 (l.length - (-j).toNat) (by lia) (by lia)]
  · simp
  · unfold strSliceIndices
    simp only [show (1 : Int) > 0 by decide, if_true]
    congr 1
    rw [if_pos h0]
    lia
theorem slice_all (l : List Nat) : Txt.slice (txt l) none none = txt l := by
  rw [slice_gen l none none 0 l.length (by lia) (by lia)]
  · simp
  · rfl
theorem len_txt (l : List Nat) : (txt l).length = l.length := by simp [txt, PySem.Str.length]
section
variable {prog : Program} {w : World} {A : Around} {E : Value → Shared → Prop} {s : Shared} {Q : Value → Shared → Prop} {l : List Nat} {t : Tok} {h₀ : Heap} {L : Addr} {m : PySem.Str → Option Value} {news : List (Addr × Obj)} {value slice : PySem.Expr}
theorem sliceDrop {i : Int} {ui : Tok} (hz : l.length ≤ 500000) (h0 : 0 ≤ i) (h1 : i ≤ l.length) (hF : Fr h₀ L s.heap m) (hN : News h₀ L s.heap news) (h : ∀ h' t' k, Fr h₀ L h' m → News h₀ L h' news → (l.drop i.toNat).length = l.length - i.toNat → Q (.str (txt (l.drop i.toNat)) t') { s with heap := h', toks := k })
    (hs : subscripted slice false (.str (txt l) t) (.ref s.heap.objs.size) = operate [.ref s.heap.objs.size, .str (txt l) t] (getItem (.str (txt l) t) (.ref s.heap.objs.size)) := by with_unfolding_all rfl)
    (ht : ∀ r, letTemporaryGo value (.str (txt l) t) r = pure () := by intro _; with_unfolding_all rfl) :
    wpAny (model prog w) A (subscriptTail value slice (.str (txt l) t) (.ref s.heap.objs.size)) Q E { s with heap := s.heap.push { cls := .type "slice", data := .fields #[.int i ui, .none, .none] } } :=
  slice_strN_sn hF hN (by rw [slice_drop l i h0 h1]; exact fun h' t' k a b => h h' t' k a b List.length_drop) hs ht (by rw [len_txt, PySem.sizeLine_eq]; lia)
theorem sliceTake {j : Int} {uj : Tok} (hz : l.length ≤ 500000) (h0 : j < 0) (h1 : -(l.length : Int) ≤ j) (hF : Fr h₀ L s.heap m) (hN : News h₀ L s.heap news) (h : ∀ h' t' k, Fr h₀ L h' m → News h₀ L h' news → (l.take (l.length - (-j).toNat)).length = l.length - (-j).toNat → Q (.str (txt (l.take (l.length - (-j).toNat))) t') { s with heap := h', toks := k })
    (hs : subscripted slice false (.str (txt l) t) (.ref s.heap.objs.size) = operate [.ref s.heap.objs.size, .str (txt l) t] (getItem (.str (txt l) t) (.ref s.heap.objs.size)) := by with_unfolding_all rfl)
    (ht : ∀ r, letTemporaryGo value (.str (txt l) t) r = pure () := by intro _; with_unfolding_all rfl) :
    wpAny (model prog w) A (subscriptTail value slice (.str (txt l) t) (.ref s.heap.objs.size)) Q E { s with heap := s.heap.push { cls := .type "slice", data := .fields #[.none, .int j uj, .none] } } :=
  slice_strN_ns hF hN (by rw [slice_take l j h0 h1]; exact fun h' t' k a b => h h' t' k a b (by rw [List.length_take]; lia)) hs ht (by rw [len_txt, PySem.sizeLine_eq]; lia)
theorem sliceAll (hz : l.length ≤ 500000) (hF : Fr h₀ L s.heap m) (hN : News h₀ L s.heap news) (h : ∀ h' t' k, Fr h₀ L h' m → News h₀ L h' news → Q (.str (txt l) t') { s with heap := h', toks := k })
    (hs : subscripted slice false (.str (txt l) t) (.ref s.heap.objs.size) = operate [.ref s.heap.objs.size, .str (txt l) t] (getItem (.str (txt l) t) (.ref s.heap.objs.size)) := by with_unfolding_all rfl)
    (ht : ∀ r, letTemporaryGo value (.str (txt l) t) r = pure () := by intro _; with_unfolding_all rfl) :
    wpAny (model prog w) A (subscriptTail value slice (.str (txt l) t) (.ref s.heap.objs.size)) Q E { s with heap := s.heap.push { cls := .type "slice", data := .fields #[.none, .none, .none] } } :=
  slice_strN_nn hF hN (by rw [slice_all l]; exact h) hs ht (by rw [len_txt, PySem.sizeLine_eq]; lia)
theorem charAt9 {i : Int} {ui : Tok} (hz : l.length ≤ 500000) (j : Nat) (hj : j < l.length) (e : i = (j : Int) ∨ i = (j : Int) - l.length) (h : ∀ t' k, Q (.str (one (l.getD j 0)) t') { s with toks := k })
    (hs : subscripted slice false (.str (txt l) t) (.int i ui) = operate [.str (txt l) t, .int i ui] (getItem (.str (txt l) t) (.int i ui)))
    (ht : ∀ r, letTemporaryGo value (.str (txt l) t) r = pure ()) :
    wpAny (model prog w) A (subscriptTail value slice (.str (txt l) t) (.int i ui)) Q E s := by
  refine tail_of_ItemOn ⟨"str", _, F.slot_str_getitem.lookup, typeIs_str _ _ _, P.getItem_str (c := l.getD j 0) ?_ ?_ (h _ _)⟩ hs ht
  · simp; lia
  · rw [len_txt]
    have hi : seqIndex? i l.length = some j := by
      have e2 : (if i < 0 then i + (l.length : Int) else i) = (j : Int) := by split <;> lia
      unfold seqIndex?
      dsimp only
      rw [e2, if_pos (by simp; lia)]
      simp
    rw [hi]
    show (txt l).cps[j]? = _
    simp [txt, hj]
theorem charPos {i : Int} {ui : Tok} (hz : l.length ≤ 500000) (h0 : 0 ≤ i) (h1 : i < l.length) (h : ∀ t' k, Q (.str (one (l.getD i.toNat 0)) t') { s with toks := k })
    (hs : subscripted slice false (.str (txt l) t) (.int i ui) = operate [.str (txt l) t, .int i ui] (getItem (.str (txt l) t) (.int i ui)) := by with_unfolding_all rfl)
    (ht : ∀ r, letTemporaryGo value (.str (txt l) t) r = pure () := by intro _; with_unfolding_all rfl) :
    wpAny (model prog w) A (subscriptTail value slice (.str (txt l) t) (.int i ui)) Q E s := charAt9 hz i.toNat (by omega) (.inl (by omega)) h hs ht
theorem charNeg {i : Int} {ui : Tok} (hz : l.length ≤ 500000) (h0 : i < 0) (h1 : -(l.length : Int) ≤ i) (h : ∀ t' k, Q (.str (one (l.getD (l.length - (-i).toNat) 0)) t') { s with toks := k })
    (hs : subscripted slice false (.str (txt l) t) (.int i ui) = operate [.str (txt l) t, .int i ui] (getItem (.str (txt l) t) (.int i ui)) := by with_unfolding_all rfl)
    (ht : ∀ r, letTemporaryGo value (.str (txt l) t) r = pure () := by intro _; with_unfolding_all rfl) :
    wpAny (model prog w) A (subscriptTail value slice (.str (txt l) t) (.int i ui)) Q E s := charAt9 hz (l.length - (-i).toNat) (by lia) (.inr (by lia)) h hs ht
theorem truthyT {Q : Bool → Shared → Prop} (hz : l.length ≤ 500000) (h : ∀ k, Q (decide (0 < l.length)) { s with toks := k }) : wpAny (model prog w) A (truthy (.str (txt l) t)) Q E s := by
  refine P.truthy_str (by rw [len_txt]; lia) ?_
  have e : (((txt l).length : Int) != 0) = decide (0 < l.length) := by
    rw [len_txt]
    cases l with
    | nil => rfl
    | cons c r => simp; lia
  rw [e]; exact h _
theorem eqT {a b : List Nat} {u : Tok} (h : Q (.bool (decide (a = b))) s) : wpAny (model prog w) A (compareOp .Eq (.str (txt a) t) (.str (txt b) u)) Q E s := by
  refine P.eq_str ?_
  have e : ((txt a).cps.toList == (txt b).cps.toList) = decide (a = b) := by simp [txt, Bool.beq_eq_decide_eq]
  rw [e]; exact h
theorem eqOne {a b : Nat} {u : Tok} (h : Q (.bool (decide (a = b))) s) : wpAny (model prog w) A (compareOp .Eq (.str (one a) t) (.str (one b) u)) Q E s := by
  refine P.eq_str ?_
  have e : ((one a).cps.toList == (one b).cps.toList) = decide (a = b) := by simp [one, Bool.beq_eq_decide_eq]
  rw [e]; exact h
theorem lenT (hz : l.length ≤ 500000) (h : ∀ t' k, Q (.int (l.length : Int) t') { s with toks := k }) : wpAny (model prog w) A (call (.builtin "len") [.str (txt l) t]) Q E s := by
  refine P.len_str (by rw [len_txt]; lia) ?_
  rw [len_txt]; exact h _ _
end
end
section
open PySem.Calls
/-- the ways out of a loop meet -/
def WJ {σ : Type} (h₀ : Heap) (L : Addr) (s : Shared) (Led : σ → List (Addr × Obj)) (ps : σ → List (Str × Value)) (P : σ → Prop) (m₀ : Str → Option Value) (f : Flow) (s₂ : Shared) : Prop :=
  f = .next ∧ ∃ (c : σ) (h : Heap) (tk : Nat), s₂ = { s with heap := h, toks := tk } ∧ P c ∧ Fr h₀ L h (kstB m₀ (ps c)) ∧ News h₀ L h (Led c)
theorem one_same (x : Str) (u : Value) (r : Str → Option Value) : (fun z => if z = x then some u else r z) = kstB (fun z => if z = x then some u else r z) [(x, u)] := by
  funext z
  show _ = if z = x then some u else if z = x then some u else r z
  by_cases h : z = x
  · simp only [if_pos h]
  · simp only [if_neg h]
theorem news1 {h₀ h : Heap} {L : Addr} {p : Addr × Obj} {r : List (Addr × Obj)} (N : News h₀ L h (p :: r)) : News h₀ L h [p] := fun q hq => N q (by rw [List.mem_singleton.mp hq]; exact List.Mem.head _)
section
variable {prog : Program} {w : World} {A : Around} {E : Value → Shared → Prop} {Q : Flow → Shared → Prop} {s : Shared} {env : Env} {h₀ : Heap} {L : Addr} {σ : Type} {Led : σ → List (Addr × Obj)} {ps : σ → List (Str × Value)} {P : σ → Prop} {m₀ : Str → Option Value}
theorem WJ.mk {h : Heap} {tk : Nat} {m : Str → Option Value} (c : σ) (hp : P c) (F : Fr h₀ L h m) (N : News h₀ L h (Led c)) (e : m = kstB m₀ (ps c)) : WJ h₀ L s Led ps P m₀ .next { s with heap := h, toks := tk } := ⟨rfl, c, h, tk, rfl, hp, e ▸ F, N⟩
theorem whileJ {test : Expr} {body : List Stmt} {pos : Pos} (Led : σ → List (Addr × Obj)) (ps : σ → List (Str × Value)) (P : σ → Prop) (μ : σ → Nat) (c₀ : σ)
    (F : Fr h₀ L s.heap m₀) (N : News h₀ L s.heap (Led c₀)) (hk : ∀ p ∈ ps c₀, m₀ p.1 = some p.2) (hp : P c₀)
    (turn : ∀ (c : σ) h tk, P c → Fr h₀ L h (kstB m₀ (ps c)) → News h₀ L h (Led c) →
      wpAny (model prog w) A (isTrue test env (eval test env)) (fun b s₂ =>
        if b = true then wpAny (model prog w) A (execs body env) (KswPost h₀ L s Led ps (fun _ => True) [] m₀ P μ (WJ h₀ L s Led ps P m₀) c) E s₂ else WJ h₀ L s Led ps P m₀ .next s₂) E { s with heap := h, toks := tk })
    (done : ∀ (c : σ) h tk, P c → Fr h₀ L h (kstB m₀ (ps c)) → News h₀ L h (Led c) → Q .next { s with heap := h, toks := tk })
    (hE : PassesOwn (model prog w) A env E := by passes_own) :
    wpAny (model prog w) A (exec (.While test body [] pos) env) Q E s := by
  refine wpAny_mono (ksw_while (Q := WJ h₀ L s Led ps P m₀) Led ps (fun _ => True) [] P μ c₀ F N trivial hk hp ?_ hE) ?_ fun _ _ e => e
  · intro c u h tk _ hp F N
    exact turn c h tk hp F N
  · rintro f s₂ ⟨rfl, c, h, tk, rfl, hp, F, N⟩
    exact done c h tk hp F N
/-- the ways of a statement meet -/
theorem meetJ {t : Sem Flow} {news : List (Addr × Obj)} (Led : σ → List (Addr × Obj)) (ps : σ → List (Str × Value)) (P : σ → Prop) (_ : Fr h₀ L s.heap m₀) (_ : News h₀ L s.heap news) (h : wpAny (model prog w) A t (WJ h₀ L s Led ps P m₀) E s)
    (done : ∀ (c : σ) h tk, P c → Fr h₀ L h (kstB m₀ (ps c)) → News h₀ L h (Led c) → Q .next { s with heap := h, toks := tk }) : wpAny (model prog w) A t Q E s := by
  refine wpAny_mono h ?_ fun _ _ e => e
  rintro f s₂ ⟨rfl, c, h, tk, rfl, hp, F, N⟩
  exact done c h tk hp F N
end
end
section
open PySem.Calls
/-- the lesser one (hidden from lia: it would part cases at every step) -/
def MinIs (r a b : Int) : Prop := r = min a b
section
variable {prog : Program} {w : World} {A : Around} {E : Value → Shared → Prop} {s : Shared} {Q : Value → Shared → Prop} {h₀ : Heap} {L : Addr} {m : Str → Option Value} {news : List (Addr × Obj)}
theorem minW {a b : Int} {t u : Tok} (hh : A.handled = none) (F : Fr h₀ L s.heap m) (N : News h₀ L s.heap news)
    (h : ∀ h' t' tk r, Fr h₀ L h' m → News h₀ L h' news → MinIs r a b → Q (.int r t') { s with heap := h', toks := tk }) : wpAny (model prog w) A (call (.builtin "min") [.int a t, .int b u]) Q E s :=
  min_two_N hh F N fun h' tk F' N' => h _ _ _ _ F' N' (by unfold MinIs; split <;> lia)
theorem listRangeW {r : Addr} {a b c : Int} {t u v : Tok} (n : Nat) (hh : A.handled = none) (F : Fr h₀ L s.heap m) (N : News h₀ L s.heap news) (hr : IsRange s.heap r a b c t u v) (hsmall : Builtin.Range.small a b c = true) (hn : Builtin.Range.rangeSize a b c = (n : Int)) (hlen : n ≤ 1000)
    (h : ∀ h' tk D ys cnt, Fr h₀ L h' m → News h₀ L h' ((D, W.listOf ys.toArray cnt) :: news) → IntsAre ys (rangeInts a c n) → Q (.ref D) { s with heap := h', toks := tk }) : wpAny (model prog w) A (call (.type "list") [.ref r]) Q E s :=
  list_rangeD hh F N hr hsmall hn (by lia) fun h' tk ys F' N' _ hf _ hp hc => by
    obtain ⟨⟨cnt, e⟩, _⟩ := hp
    exact h h' tk _ ys cnt F' (News.more F' N' e (fun _ _ q => nomatch q) hf) (IntsAre.ofCarried hc)
end
theorem rs2 : ∀ n : Nat, n ≤ 16 → Builtin.Range.small 2 (2 * ((n : Int) + 1)) 2 = true ∧ Builtin.Range.rangeSize 2 (2 * ((n : Int) + 1)) 2 = (n : Int) := by decide
theorem rs1 : ∀ n : Nat, n ≤ 16 → Builtin.Range.small 0 (n : Int) 1 = true ∧ Builtin.Range.rangeSize 0 (n : Int) 1 = (n : Int) := by decide
end
section
theorem lower_one : ∀ c, c < 128 → Txt.lower (one c) = one (low c) := by decide +kernel
theorem one_inj {c d : Nat} : one c = one d ↔ c = d := by
  constructor
  · intro h; simpa [one] using h
  · intro h; rw [h]
theorem subc_one {c d : Nat} (hc : c < 128) (hd : d < 128) : subc (one c) (one d) = cost c d := by
  unfold subc cost
  rw [lower_one c hc, lower_one d hd]
  simp only [one_inj]
theorem ascii_getD {l : List Nat} (h : ∀ c ∈ l, c < 128) (i : Nat) : l.getD i 0 < 128 := by
  by_cases hi : i < l.length
  · refine h _ (List.mem_of_getElem? (i := i) ?_)
    rw [List.getElem?_eq_getElem hi, List.getD_eq_getElem?_getD, List.getElem?_eq_getElem hi]; rfl
  · rw [List.getD_eq_getElem?_getD, List.getElem?_eq_none (by lia)]; simp
/-- the shorter one and the longer one -/
def Swap (A B a b : List Nat) : Prop := (a = A ∧ b = B ∧ A.length ≤ B.length) ∨ (a = B ∧ b = A ∧ B.length < A.length)
theorem swap_len {A B a b : List Nat} (h : Swap A B a b) : a.length ≤ b.length ∧ (a.length = A.length ∧ b.length = B.length ∨ a.length = B.length ∧ b.length = A.length) := by
  rcases h with ⟨rfl, rfl, h⟩ | ⟨rfl, rfl, h⟩ <;> lia
theorem swap_ascii {A B a b : List Nat} (h : Swap A B a b) (hA : ∀ c ∈ A, c < 128) (hB : ∀ c ∈ B, c < 128) : (∀ c ∈ a, c < 128) ∧ ∀ c ∈ b, c < 128 := by
  rcases h with ⟨rfl, rfl, _⟩ | ⟨rfl, rfl, _⟩
  · exact ⟨hA, hB⟩
  · exact ⟨hB, hA⟩
theorem part_ascii {A : List Nat} {p k : Nat} (h : ∀ c ∈ A, c < 128) : ∀ c ∈ (A.drop p).take k, c < 128 := fun c hc => h c (List.mem_of_mem_drop (List.mem_of_mem_take hc))
theorem row_start {a b : List Nat} {ys : List Value} (h : IntsAre ys (rangeInts 2 2 a.length)) : IntsAre ys (rowAt a b 0 0) := by
  have e : rowAt a b 0 0 = rangeInts 2 2 a.length := by
    rw [rowAt_first]
    unfold rangeInts
    exact List.map_congr_left fun t _ => by lia
  rw [e]; exact h
/-- between the turns of the outer loop -/
def OutI (a b : List Nat) (mx : Int) (i : Nat) (res : Int) (us : List Value) : Prop := Kept a b mx i ∧ (i ≠ 0 → res = cell a b i a.length) ∧ IntsAre us (rowAt a b i 0)
theorem out0 {a b : List Nat} {mx : Int} {us : List Value} (h : IntsAre us (rowAt a b 0 0)) : OutI a b mx 0 0 us := ⟨fun _ h => absurd h (Nat.not_lt_zero _), fun h => absurd rfl h, h⟩
/-- between the turns of the inner loop -/
def InI (a b : List Nat) (i j : Nat) (res dist mn : Int) (us : List Value) : Prop := res = resAt a b i j ∧ dist = cell a b i j ∧ mn = minAt a b i j ∧ IntsAre us (rowAt a b i j)
theorem InI.len {a b : List Nat} {i j : Nat} {res dist mn : Int} {us : List Value} (h : InI a b i j res dist mn us) : us.length = a.length := by rw [h.2.2.2.length, rowAt_len]
theorem InI.row {a b : List Nat} {i j : Nat} {res dist mn : Int} {us : List Value} (h : InI a b i j res dist mn us) : IntsAre us (rowAt a b i j) := h.2.2.2
theorem OutI.row {a b : List Nat} {mx : Int} {i : Nat} {res : Int} {us : List Value} (h : OutI a b mx i res us) : IntsAre us (rowAt a b i 0) := h.2.2
theorem in0 {a b : List Nat} {mx : Int} {i : Nat} {res k : Int} {us : List Value} (h : OutI a b mx i res us) (hk : k = 0 + (i : Int) * 1) : InI a b i 0 (k * 2) (k * 2) 9223372036854775807 us := by
  refine ⟨?_, ?_, rfl, h.2.2⟩
  · unfold resAt; rw [if_pos rfl]; lia
  · rw [cell_zero]; lia
theorem in_turn {a b : List Nat} {i : Nat} {pi : List Int} {res dist mn k k' r1 r2 z : Int} {us : List Value} {t : Tok} (ha : ∀ c ∈ a, c < 128) (hb : ∀ c ∈ b, c < 128) (h : InI a b i pi.length res dist mn us) (hk : k = 0 + (pi.length : Int) * 1) (hk' : k' = 0 + (i : Int) * 1) (hj : pi.length < a.length)
    (m1 : MinIs r1 res ((rowAt a b i pi.length).getD k.toNat 0)) (m2 : MinIs r2 (r1 + 2) (dist + subc (one (b.getD k'.toNat 0)) (one (a.getD k.toNat 0)))) :
    (r2 < mn → InI a b i (pi ++ [z]).length r2 ((rowAt a b i pi.length).getD k.toNat 0) r2 (us.set k.toNat (.int r2 t))) ∧
    (¬ r2 < mn → InI a b i (pi ++ [z]).length r2 ((rowAt a b i pi.length).getD k.toNat 0) mn (us.set k.toNat (.int r2 t))) := by
  obtain ⟨h1, h2, h3, h4⟩ := h
  generalize hj' : pi.length = j at *
  have e : k.toNat = j := by lia
  have e' : k'.toNat = i := by lia
  have hl : (pi ++ [z]).length = j + 1 := by rw [List.length_append, List.length_singleton, hj']
  unfold MinIs at m1 m2
  rw [e, rowAt_get hj, h1] at m1
  rw [e, e', subc_one (ascii_getD hb _) (ascii_getD ha _), h2, m1, cell_next] at m2
  rw [e, hl, rowAt_get hj, h3, m2]
  have r : resAt a b i (j + 1) = cell a b (i + 1) (j + 1) := by unfold resAt; rw [if_neg (by lia)]
  have row : IntsAre (us.set j (.int (cell a b (i + 1) (j + 1)) t)) (rowAt a b i (j + 1)) := by
    rw [← rowAt_set]; exact ints_set h4 j
  refine ⟨fun hlt => ⟨r.symm, rfl, ?_, row⟩, fun hlt => ⟨r.symm, rfl, ?_, row⟩⟩
  · rw [minAt]; lia
  · rw [minAt]; lia
theorem in_end {a b : List Nat} {i : Nat} {res res₀ dist mn mx : Int} {us us₀ : List Value} (ha : 0 < a.length) (h₀ : OutI a b mx i res₀ us₀) (h : InI a b i a.length res dist mn us) (hm : ¬ mx < mn) : OutI a b mx (i + 1) res us := by
  obtain ⟨h1, h2, h3, h4⟩ := h
  refine ⟨fun t ht => ?_, fun _ => ?_, by rw [← rowAt_next]; exact h4⟩
  · by_cases e : t = i
    · subst e; rw [← h3]; lia
    · exact h₀.1 t (by lia)
  · rw [h1]; unfold resAt; rw [if_neg (by lia)]
theorem in_cut {a b : List Nat} {i : Nat} {res dist mn mx : Int} {us : List Value} (hi : i < b.length) (h : InI a b i a.length res dist mn us) (hm : mx < mn) : Dp a b mx (mx + 1) := .inr ⟨i, hi, by rw [← h.2.2.1]; exact hm, rfl⟩
theorem out_end {a b : List Nat} {res mx : Int} {us : List Value} (hb : 0 < b.length) (h : OutI a b mx b.length res us) : Dp a b mx res := .inl ⟨h.1, h.2.1 (by lia)⟩
theorem core_dp {A B a b : List Nat} {mx r : Int} (hA : 0 < A.length) (hB : 0 < B.length) (hs : Swap A B a b) (h : Dp a b mx r) : Core A B mx r :=
  .inr ⟨List.length_pos_iff.mp hA, List.length_pos_iff.mp hB, a, b, hs, .inr h⟩
theorem core_len {A B a b : List Nat} {mx : Int} (hA : 0 < A.length) (hB : 0 < B.length) (hs : Swap A B a b) (h : mx < ((b.length : Int) - a.length) * 2) : Core A B mx (mx + 1) :=
  .inr ⟨List.length_pos_iff.mp hA, List.length_pos_iff.mp hB, a, b, hs, .inl ⟨h, rfl⟩⟩
theorem core_nil {A B : List Nat} {mx : Int} (h : ¬ 0 < A.length ∨ ¬ 0 < B.length) : Core A B mx (2 * ((A.length : Int) + B.length)) := by
  refine .inl ⟨?_, rfl⟩
  rcases h with h | h
  · exact .inl (List.length_eq_zero_iff.mp (by lia))
  · exact .inr (List.length_eq_zero_iff.mp (by lia))
theorem lev_build {A B A1 B1 : List Nat} {p q : Nat} {mx r : Int} (hn : ¬ A = B) (hp : A.take p = B.take p) (hq : (A.drop p).drop ((A.drop p).length - q) = (B.drop p).drop ((B.drop p).length - q))
    (hA : A1 = (A.drop p).take ((A.drop p).length - q)) (hB : B1 = (B.drop p).take ((B.drop p).length - q)) (h : Core A1 B1 mx r) : Lev A B mx r := by
  refine lev_core (P := A.take p) (S := (A.drop p).drop ((A.drop p).length - q)) (A' := A1) (B' := B1) hn ?_ ?_ h
  · rw [hA, List.append_assoc, List.take_append_drop, List.take_append_drop]
  · rw [hq, hp, hB, List.append_assoc, List.take_append_drop, List.take_append_drop]
theorem take_step {A B : List Nat} {p : Nat} (h : A.take p = B.take p) (ha : p < A.length) (hb : p < B.length) (e : A.getD p 0 = B.getD p 0) : A.take (p + 1) = B.take (p + 1) := by
  have g : ∀ l : List Nat, p < l.length → l[p]? = some (l.getD p 0) := fun l hl => by rw [List.getElem?_eq_getElem hl, List.getD_eq_getElem?_getD, List.getElem?_eq_getElem hl]; rfl
  rw [List.take_add_one, List.take_add_one, h, g A ha, g B hb, e]
theorem drop_step {A B : List Nat} {q : Nat} (h : A.drop (A.length - q) = B.drop (B.length - q)) (ha : q < A.length) (hb : q < B.length) (e : A.getD (A.length - (q + 1)) 0 = B.getD (B.length - (q + 1)) 0) : A.drop (A.length - (q + 1)) = B.drop (B.length - (q + 1)) := by
  have g : ∀ l : List Nat, q < l.length → l.drop (l.length - (q + 1)) = l.getD (l.length - (q + 1)) 0 :: l.drop (l.length - q) := fun l hl => by
    have hi : l.length - (q + 1) < l.length := by omega
    rw [List.drop_eq_getElem_cons hi, List.getD_eq_getElem?_getD, List.getElem?_eq_getElem hi, show l.length - (q + 1) + 1 = l.length - q by omega]; rfl
  rw [g A ha, g B hb, e, h]
/-- between the turns of the first while, of the second one -/
def PreI (A B : List Nat) (c : Int × Tok) : Prop := 0 ≤ c.1 ∧ c.1 ≤ A.length ∧ c.1 ≤ B.length ∧ A.take c.1.toNat = B.take c.1.toNat
def PostI (A B : List Nat) (c : Int × Tok) : Prop := c.1 ≤ 0 ∧ -c.1 ≤ A.length ∧ -c.1 ≤ B.length ∧ A.drop (A.length - (-c.1).toNat) = B.drop (B.length - (-c.1).toNat)
theorem preI0 (A B : List Nat) (t : Tok) : PreI A B (0, t) := ⟨by simp, by simp, by simp, by simp⟩
theorem postI0 (A B : List Nat) (t : Tok) : PostI A B (0, t) := ⟨by simp, by simp, by simp, by simp⟩
theorem pre_turn {A B : List Nat} {p : Int} {t : Tok} (p1 : 0 ≤ p) (p4 : A.take p.toNat = B.take p.toNat) (ha : p < A.length) (hb : p < B.length) (e : A.getD p.toNat 0 = B.getD p.toNat 0) : PreI A B (p + 1, t) := by
  refine ⟨?_, ?_, ?_, ?_⟩
  · show 0 ≤ p + 1; lia
  · show p + 1 ≤ _; lia
  · show p + 1 ≤ _; lia
  · show A.take (p + 1).toNat = B.take (p + 1).toNat
    rw [show (p + 1).toNat = p.toNat + 1 by lia]
    exact take_step p4 (by lia) (by lia) e
theorem post_turn {A B : List Nat} {p : Int} {t : Tok} (p1 : p ≤ 0) (p4 : A.drop (A.length - (-p).toNat) = B.drop (B.length - (-p).toNat)) (ha : -p < A.length) (hb : -p < B.length) (e : A.getD (A.length - (-(p - 1)).toNat) 0 = B.getD (B.length - (-(p - 1)).toNat) 0) : PostI A B (p - 1, t) := by
  refine ⟨?_, ?_, ?_, ?_⟩
  · show p - 1 ≤ 0; lia
  · show -(p - 1) ≤ _; lia
  · show -(p - 1) ≤ _; lia
  · show A.drop (A.length - (-(p - 1)).toNat) = B.drop (B.length - (-(p - 1)).toNat)
    rw [show (-(p - 1)).toNat = (-p).toNat + 1 by lia] at e ⊢
    exact drop_step p4 (by lia) (by lia) e
end
section
open PySem.Calls Builtin LCg
section
variable {prog : Program} {w : World} {A : Around} {E : Value → Shared → Prop} {s : Shared} {h₀ : Heap} {L : Addr} {m : PySem.Str → Option Value} {env : Env} {elt ct iter : Expr} {x : PySem.Str} {px pos : Pos} {scope : Scope} {cl : List (PySem.Str × Addr)} {news : List (Addr × Obj)}
theorem stList {l I : Addr} {ol : Obj} {vs : List Value} {S : List (Addr × Obj) → Prop} (hkeep : ∀ (h' : Heap) nw, h₀.StaysIn h' → News h₀ L h' nw → S nw → h'.get? l = some ol) (hl : ∀ h' : Heap, h'.get? l = some ol → h'.IsList l vs.toArray) :
    ∀ i (h h' : Heap) (o : Obj) nw, (h.IsListIter I l i ∧ h.IsList l vs.toArray) → h.get? I = some o → h'.get? I = some o → (∀ b o, h₀.get? b = some o → h'.get? b = some o) → News h₀ L h' nw → S nw → (h'.IsListIter I l i ∧ h'.IsList l vs.toArray) := by
  rintro i h h' o nw ⟨st, _⟩ e e' k N hs
  exact ⟨st.at fun o' q => by rw [e] at q; cases q; exact e', hl _ (hkeep _ _ k N hs)⟩
/-- [elt for x in list of ints] -/
theorem compLU {l : Addr} {ol : Obj} {vs : List Value} {ns : List Int} {Q : Value → Shared → Prop} (S : List (Addr × Obj) → Prop) (Rel : Nat → List Value → Prop) (hS : S news)
    (hkeep : ∀ (h' : Heap) nw, h₀.StaysIn h' → News h₀ L h' nw → S nw → h'.get? l = some ol) (hl : ∀ h' : Heap, h'.get? l = some ol → h'.IsList l vs.toArray) (hint : IntsAre vs ns)
    (hh : A.handled = none) (F : Fr h₀ L s.heap m) (N : News h₀ L s.heap news)
    (hclos : closureFor scope env = pure cl) (hcell : ∀ y ∈ scope.names, y.2 ≠ .cell) (hkind : scope.kind = .function)
    (hnames : ∀ y ∈ scope.names, y.2 = .local → scope.names.lookup y.1 = some .local) (hx : scope.names.lookup x = some .local)
    (hi : wpAny (model prog w) A (eval iter env) (fun xv s₁ => xv = .ref l ∧ s₁ = s) E s) (hsz : ns.length ≤ sizeLine) (h0 : Rel 0 [])
    (turn : ∀ s₂ i (k : Int) u ys I oI C oC D m₂ h tk (E' : Value → Shared → Prop), ns[i]? = some k → Rel i ys → NsObj oC m₂ → m₂ x = some (.int k u) → Fr h₀ L h m → News h₀ L h ((I, oI) :: (C, oC) :: (D, lst ys) :: news) →
      wpAny (model prog w) A (eval elt (compEnvC scope cl C env)) (Pend s₂ h fun y => Rel (i + 1) (ys ++ [y])) E' { s₂ with heap := h, toks := tk })
    (fin : ∀ D ys h tk, Rel ns.length ys → Fr h₀ L h m → News h₀ L h ((D, lst ys) :: news) → Q (.ref D) { s with heap := h, toks := tk })
    (hs : ∀ x, foldedSetIterable iter env x = pure x := by intro _; rfl) :
    wpAny (model prog w) A (eval (.ListComp elt [⟨.Name x px, iter, [], 0⟩] scope pos) env) Q E s := by
  rw [eval_ListComp]
  refine wpAny_comprehension_free (use := none) rfl hs hclos hkind hnames (wpAny_mono hi (fun xv s₁ h₁ => ?_) fun _ _ e => e)
  obtain ⟨rfl, rfl⟩ := h₁
  have hol : s₁.heap.get? l = some ol := hkeep _ _ F.keep N hS
  have hls := hl _ hol
  have hne : l ≠ s₁.heap.objs.size := Nat.ne_of_lt (Heap.lt_size hol)
  have hlen : vs.toArray.size = ns.length := by simp [hint.length]
  refine wpAny_pyIter_list hls ?_
  have up : ∀ b' o, s₁.heap.get? b' = some o → (s₁.heap.push { cls := .type "list_iterator", data := .fields #[.ref l, .int 0 0] }).get? b' = some o := fun b o e => Heap.get?_push_of_some _ e
  have W := Walks.list (prog := prog) (w := w) hh s₁.heap.objs.size l hne vs.toArray
  rw [hlen] at W
  refine block_U (S := S) (Fin := fun ys nw => nw = news ∧ Rel ns.length ys) W hsz (fun i h st => by obtain ⟨⟨o, e, _⟩, _⟩ := st; exact ⟨o, e⟩) (stList hkeep hl) hcell hkind hx ⟨⟨_, Heap.get?_push_size _ rfl, rfl, rfl⟩, hls.at fun o e => up _ _ e⟩ (fun b hb => ?_)
    (F.keeps up) (N.grown up) (Nat.ne_of_lt F.ns.lt) (next_is_new F) (fun p hp => Nat.ne_of_lt (Heap.lt_size (N p hp).1)) hS (rest_U hS Rel (fun i v ys I oI C oC D m₂ h tk E' hlt hv hr hC hx' F' N' => ?_) (fun ys hr => ⟨rfl, hr⟩) _ 0 [] (by lia) h0) ?_
  · show b < (s₁.heap.push _).objs.size
    rw [Heap.size_push]
    rcases List.mem_cons.mp hb with rfl | hb
    · exact Nat.lt_succ_self _
    · rw [List.mem_singleton.mp hb]; exact Nat.lt_succ_of_lt (Heap.lt_size hol)
  · obtain ⟨t, ht⟩ := hint.get i ns[i] (by simp [hlt])
    have hv' : v = .int ns[i] t := by
      have hP' : vs[i]? = some v := by simpa using hv
      rw [ht] at hP'; exact (Option.some.inj hP').symm
    subst hv'
    exact turn _ i ns[i] t ys I oI C oC D m₂ h tk E' (by simp [hlt]) hr hC hx' F' N'
  · intro D C h tk m' ys news' F' N' o1 hn hC₀ hD₀ hCL hDL hCD offC fin'
    obtain ⟨rfl, hr⟩ := fin'
    refine ⟨m', hn, fun h'' hs'' => fin D ys h'' tk hr (F'.change hs'' hCL hC₀) (fun p hp => ?_)⟩
    refine ⟨hs''.extBut _ _ ?_ (N' p hp).1, (N' p hp).2⟩
    rcases List.mem_cons.mp hp with rfl | hp
    · exact Ne.symm hCD
    · exact offC p hp
/-- [elt for x in list of ints if ct] -/
theorem compLT {l : Addr} {ol : Obj} {vs : List Value} {ns : List Int} {Q : Value → Shared → Prop} (S : List (Addr × Obj) → Prop) (Rel : Nat → List Value → Prop) (hS : S news)
    (hkeep : ∀ (h' : Heap) nw, h₀.StaysIn h' → News h₀ L h' nw → S nw → h'.get? l = some ol) (hl : ∀ h' : Heap, h'.get? l = some ol → h'.IsList l vs.toArray) (hint : IntsAre vs ns)
    (hh : A.handled = none) (F : Fr h₀ L s.heap m) (N : News h₀ L s.heap news)
    (hclos : closureFor scope env = pure cl) (hcell : ∀ y ∈ scope.names, y.2 ≠ .cell) (hkind : scope.kind = .function)
    (hnames : ∀ y ∈ scope.names, y.2 = .local → scope.names.lookup y.1 = some .local) (hx : scope.names.lookup x = some .local)
    (hi : wpAny (model prog w) A (eval iter env) (fun xv s₁ => xv = .ref l ∧ s₁ = s) E s) (hsz : ns.length ≤ sizeLine) (h0 : Rel 0 [])
    (turn : ∀ s₂ i (k : Int) u ys I oI C oC D m₂ h tk (E' : Value → Shared → Prop), ns[i]? = some k → Rel i ys → NsObj oC m₂ → m₂ x = some (.int k u) → Fr h₀ L h m → News h₀ L h ((I, oI) :: (C, oC) :: (D, lst ys) :: news) →
      wpAny (model prog w) A (isTrue ct (compEnvC scope cl C env) (eval ct (compEnvC scope cl C env))) (fun ok s' => if ok = true then
        wpAny (model prog w) A (eval elt (compEnvC scope cl C env)) (Pend s₂ h fun y => Rel (i + 1) (ys ++ [y])) E' s'
        else Pend s₂ h (fun _ => Rel (i + 1) ys) Value.none s') E' { s₂ with heap := h, toks := tk })
    (fin : ∀ D ys h tk, Rel ns.length ys → Fr h₀ L h m → News h₀ L h ((D, lst ys) :: news) → Q (.ref D) { s with heap := h, toks := tk })
    (hs : ∀ x, foldedSetIterable iter env x = pure x := by intro _; rfl) :
    wpAny (model prog w) A (eval (.ListComp elt [⟨.Name x px, iter, [ct], 0⟩] scope pos) env) Q E s := by
  rw [eval_ListComp]
  refine wpAny_comprehension_free (use := none) rfl hs hclos hkind hnames (wpAny_mono hi (fun xv s₁ h₁ => ?_) fun _ _ e => e)
  obtain ⟨rfl, rfl⟩ := h₁
  have hol : s₁.heap.get? l = some ol := hkeep _ _ F.keep N hS
  have hls := hl _ hol
  have hne : l ≠ s₁.heap.objs.size := Nat.ne_of_lt (Heap.lt_size hol)
  have hlen : vs.toArray.size = ns.length := by simp [hint.length]
  refine wpAny_pyIter_list hls ?_
  have up : ∀ b' o, s₁.heap.get? b' = some o → (s₁.heap.push { cls := .type "list_iterator", data := .fields #[.ref l, .int 0 0] }).get? b' = some o := fun b o e => Heap.get?_push_of_some _ e
  have W := Walks.list (prog := prog) (w := w) hh s₁.heap.objs.size l hne vs.toArray
  rw [hlen] at W
  refine LCt.block_T (S := S) (Fin := fun ys nw => nw = news ∧ Rel ns.length ys) W hsz (fun i h st => by obtain ⟨⟨o, e, _⟩, _⟩ := st; exact ⟨o, e⟩) (stList hkeep hl) hcell hkind hx ⟨⟨_, Heap.get?_push_size _ rfl, rfl, rfl⟩, hls.at fun o e => up _ _ e⟩ (fun b hb => ?_)
    (F.keeps up) (N.grown up) (Nat.ne_of_lt F.ns.lt) (next_is_new F) (fun p hp => Nat.ne_of_lt (Heap.lt_size (N p hp).1)) hS (rest_T hS Rel (fun i v ys I oI C oC D m₂ h tk E' hlt hv hr hC hx' F' N' => ?_) (fun ys hr => ⟨rfl, hr⟩) _ 0 [] (by lia) h0) ?_
  · show b < (s₁.heap.push _).objs.size
    rw [Heap.size_push]
    rcases List.mem_cons.mp hb with rfl | hb
    · exact Nat.lt_succ_self _
    · rw [List.mem_singleton.mp hb]; exact Nat.lt_succ_of_lt (Heap.lt_size hol)
  · obtain ⟨t, ht⟩ := hint.get i ns[i] (by simp [hlt])
    have hv' : v = .int ns[i] t := by
      have hP' : vs[i]? = some v := by simpa using hv
      rw [ht] at hP'; exact (Option.some.inj hP').symm
    subst hv'
    exact turn _ i ns[i] t ys I oI C oC D m₂ h tk E' (by simp [hlt]) hr hC hx' F' N'
  · intro D C h tk m' ys news' F' N' o1 hn hC₀ hD₀ hCL hDL hCD offC fin'
    obtain ⟨rfl, hr⟩ := fin'
    refine ⟨m', hn, fun h'' hs'' => fin D ys h'' tk hr (F'.change hs'' hCL hC₀) (fun p hp => ?_)⟩
    refine ⟨hs''.extBut _ _ ?_ (N' p hp).1, (N' p hp).2⟩
    rcases List.mem_cons.mp hp with rfl | hp
    · exact Ne.symm hCD
    · exact offC p hp
/-- y = [elt for x in list of ints if ct] -/
theorem compLTA {l : Addr} {c : Nat} {us : List Value} {ns : List Int} {y : PySem.Str} {py spos : Pos} {Q : Flow → Shared → Prop} (Rel : Nat → List Value → Prop) (hm : (l, W.listOf us.toArray c) ∈ news) (hint : IntsAre us ns)
    (hh : A.handled = none) (F : Fr h₀ L s.heap m) (N : News h₀ L s.heap news) (hLe : env.locals = L)
    (hsw : swapsWith (.ListComp elt [⟨.Name x px, iter, [ct], 0⟩] scope pos) (some (.Name y py)) spos.line env = pure true)
    (hclos : closureFor scope env = pure cl) (hcell : ∀ y ∈ scope.names, y.2 ≠ .cell) (hkind : scope.kind = .function)
    (hnames : ∀ y ∈ scope.names, y.2 = .local → scope.names.lookup y.1 = some .local) (hx : scope.names.lookup x = some .local)
    (hy : env.kindOf y = some .local) (hp : (env.scope.kind == .class || (env.scope.kind == .module && env.locals != env.globals)) = false)
    (hi : wpAny (model prog w) A (eval iter env) (fun xv s₁ => xv = .ref l ∧ s₁ = s) E s) (hsz : ns.length ≤ sizeLine) (h0 : Rel 0 [])
    (turn : ∀ s₂ i (k : Int) u ys I oI C oC D m₂ h tk (E' : Value → Shared → Prop), ns[i]? = some k → Rel i ys → NsObj oC m₂ → m₂ x = some (.int k u) → Fr h₀ L h m → News h₀ L h ((I, oI) :: (C, oC) :: (D, lst ys) :: news) →
      wpAny (model prog w) A (isTrue ct (compEnvC scope cl C env) (eval ct (compEnvC scope cl C env))) (fun ok s' => if ok = true then
        wpAny (model prog w) A (eval elt (compEnvC scope cl C env)) (Pend s₂ h fun y => Rel (i + 1) (ys ++ [y])) E' s'
        else Pend s₂ h (fun _ => Rel (i + 1) ys) Value.none s') E' { s₂ with heap := h, toks := tk })
    (fin : ∀ D ys h tk, Rel ns.length ys → Fr h₀ L h (fun z => if z = y then some (.ref D) else m z) → News h₀ L h ((D, lst ys) :: news) → Q .next { s with heap := h, toks := tk })
    (hs : ∀ x, foldedSetIterable iter env x = pure x := by intro _; rfl) :
    wpAny (model prog w) A (exec (.Assign [.Name y py] (.ListComp elt [⟨.Name x px, iter, [ct], 0⟩] scope pos) spos) env) Q E s := by
  have hlen : us.toArray.size = ns.length := by simp [hint.length]
  refine LCt.Assign_ListComp_T F hLe hsw hclos hcell hkind hnames hx hy hp (wpAny_mono hi (fun xv s₁ h₁ => ?_) fun _ _ e => e) hs
  obtain ⟨rfl, rfl⟩ := h₁
  refine LCt.CompSrcT.ledger hh F N hm (by rw [hlen]; exact hsz) fun g => ?_
  rw [hlen]
  refine rest_T (.inr ⟨_, hm, rfl, _, rfl⟩) Rel (fun i v ys I oI C oC D m₂ h tk E' hlt hv hr hC hx' F' N' => ?_) (fun ys hr D h tk F' N' _ => fin D ys h tk hr F' N') _ 0 [] (by lia) h0
  obtain ⟨t, ht⟩ := hint.get i ns[i] (by simp [hlt])
  have hv' : v = .int ns[i] t := by
    have hP' : us[i]? = some v := by simpa using hv
    rw [ht] at hP'; exact (Option.some.inj hP').symm
  subst hv'
  exact turn _ i ns[i] t ys I oI C oC D m₂ h tk E' (by simp [hlt]) hr hC hx' F' N'
theorem lenN {D : Addr} {ys : List Value} {n : Nat} {Q : Value → Shared → Prop} (N : News h₀ L s.heap news) (hm : (D, lst ys) ∈ news) (he : ys.length = n) (hz : n ≤ 1000000) (h : ∀ t' k, Q (.int (n : Int) t') { s with toks := k }) : wpAny (model prog w) A (call (.builtin "len") [.ref D]) Q E s := by
  subst he
  exact len_list (items := ys.toArray) ⟨_, (N _ hm).1, rfl, _, rfl⟩ (by rw [List.size_toArray]; lia) (by rw [List.size_toArray]; exact h _ _)
theorem ints_in {p : Int → Bool} {fs : List Int} {i : Nat} {k : Int} {u : Tok} {ys : List Value} (h : IntsAre ys ((fs.take i).filter p)) (hc : fs[i]? = some k) (hp : p k = true) : IntsAre (ys ++ [.int k u]) ((fs.take (i + 1)).filter p) := by
  rw [List.take_add_one, hc, List.filter_append]
  have e : (some k).toList.filter p = [k] := by simp [hp]
  rw [e]
  exact IntsAre.append h (.cons k u .nil)
theorem ints_out {p : Int → Bool} {fs : List Int} {i : Nat} {k : Int} {ys : List Value} (h : IntsAre ys ((fs.take i).filter p)) (hc : fs[i]? = some k) (hp : p k = false) : IntsAre ys ((fs.take (i + 1)).filter p) := by
  rw [List.take_add_one, hc, List.filter_append]
  have e : (some k).toList.filter p = [] := by simp [hp]
  rw [e, List.append_nil]
  exact h
end
end
section
open PySem.Calls
theorem fill3 : hd.heap_39 = hd.heap_39 ∧ Challenge.rw_pa0032_01 = Challenge.rw_pa0032_01 := by
  k_with_none
  w_top off
  k_fill
  k_with "ev" => (repeat' (first | exact EvI.const | (refine' EvI.name ?enF_h1 ?enV_h1; (case enF_h1 => k_asm); (case enV_h1 => exact rfl)) | apply EvI.add | apply EvI.sub | apply EvI.and3 | apply EvI.and15 | apply EvI.and63 | apply EvI.and65535 | apply EvI.or | apply EvI.shl8 | apply EvI.shl2 | apply EvI.shl4 | apply EvI.shl6 | apply EvI.shr2 | apply EvI.shr4 | apply EvI.shr | exact (rfl : _ = ((0 : Nat) : Int)) | exact (rfl : _ = ((2 : Nat) : Int)) | exact (rfl : _ = ((4 : Nat) : Int)) | exact (rfl : _ = ((6 : Nat) : Int)) | k_extra "ev more" | ((fail_if_success (with_reducible show EvI _ _ _ _ _ _)); (fail_if_success (with_reducible show EvC _ _ _ _ _ _)); omega)))
  k_with "evc" => (repeat' (first | apply EvC.and | apply EvL.one | apply EvL.cons | apply EvC.not | apply EvC.lt | apply EvC.le | apply EvC.gt | apply EvC.ge | apply EvC.eq | apply EvC.ne | apply EvC.lele | (refine' EvC.nameB ?enG_h2 ?enW_h2; (case enG_h2 => k_asm); (case enW_h2 => exact rfl)) | apply EvC.nameI | (k_extra "ev"; done)))
  k_with "my storeName" => (k_here; k_dflt (refine' storeM ?zmF_h3 ?zmN_h3 ?_ ?zma_h3 ?zmb_h3; (case zmF_h3 => k_asm); (case zmN_h3 => k_asm); (case zma_h3 => rfl); (case zmb_h3 => rfl); k_whole; intro _ _ _ _ _; (try k_sweep)))
  k_with "ne9" => first | exact h91 | exact h92 (_, _) (.head _) | exact h92 (_, _) (.tail _ (.head _)) | exact h92 (_, _) (.tail _ (.tail _ (.head _))) | exact h92 (_, _) (.tail _ (.tail _ (.tail _ (.head _)))) | exact stored_sub h93 (by decide) | (intro e9; subst e9; exact absurd h93 (by decide))
  k_with "same" => (intro z9 h91 h92 h93; (repeat (first | (with_reducible exact rfl) | (refine (if_neg ?sn9_h5).trans ?_; (case sn9_h5 => k_extra "ne9")))); done)
  k_with "same2" => (intro z9 h92 h93; (repeat (first | (with_reducible exact rfl) | (refine (if_neg ?sn9_h6).trans ?_; (case sn9_h6 => k_extra "ne9")))); done)
  k_with "my eval BinOp" => (k_here; k_dflt (refine' EvI.use ?zex_h7 ?_; (case zex_h7 => k_extra "ev"); k_whole; intro _ _))
  k_with "argv" => (repeat' (first | exact ArgV.nil | (refine' ArgV.name ?anV_h8 ?anX_h8 ?anD_h8 ?_; (case anV_h8 => exact rfl); (case anX_h8 => exact rfl); (case anD_h8 => decide))))
  k_with "my eval Call" => (k_here; (with_reducible show wpAny _ _ (eval (Expr.Call (Expr.Name _ _) (_ :: _) [] _) _) _ _ _); k_dflt (refine' evCall ?ecE_h9 ?ecF_h9 ?ecX_h9 ?ecT_h9 ?ecK_h9 ?ecP_h9 ?ecA_h9 ?_ ?ecH_h9 ?ecI_h9 ?ecD_h9 ?ecC_h9 ?ecB_h9; (case ecE_h9 => exact rfl); (case ecF_h9 => k_asm); (case ecX_h9 => k_asm); (case ecT_h9 => k_asm); (case ecK_h9 => k_is); (case ecP_h9 => k_is); (case ecA_h9 => k_extra "argv"); (case ecH_h9 => rfl); (case ecI_h9 => rfl); (case ecD_h9 => decide); (case ecC_h9 => rfl); (case ecB_h9 => rfl); k_whole))
  k_with "my isTrue Compare" => (k_here; k_dflt (refine' EvC.use ?zcx_h10 ?_ ?_; (case zcx_h10 => k_extra "evc"); (all_goals (k_whole; intro _ _)); (all_goals first | contradiction | (law_purse 20000 => (exfalso; omega)) | skip)))
  k_with "my execs cons" => (k_here; first
    | ((with_reducible show wpAny _ _ (execs (Stmt.Assign [Expr.Name _ _] _ _ :: _) _) _ _ _); k_dflt (refine' stAssign ?zsx_h11 ?zsF_h11 ?zsN_h11 ?_ ?zsa_h11 ?zsb_h11 ?zsc_h11; (case zsx_h11 => k_extra "ev"); (case zsF_h11 => k_asm); (case zsN_h11 => k_asm); (case zsa_h11 => rfl); (case zsb_h11 => rfl); (case zsc_h11 => rfl); k_whole; intro _ _ _ _ _ _; (try k_sweep)))
    | ((with_reducible show wpAny _ _ (execs (Stmt.AugAssign (Expr.Name _ _) Operator.Add _ _ :: _) _) _ _ _); k_dflt (refine' stAdd ?zsv_h11 ?zsx_h11 ?zsF_h11 ?zsN_h11 ?_ ?zsa_h11 ?zsb_h11; (case zsF_h11 => k_asm); (case zsv_h11 => exact rfl); (case zsx_h11 => k_extra "ev"); (case zsN_h11 => k_asm); (case zsa_h11 => rfl); (case zsb_h11 => rfl); k_whole; intro _ _ _ _ _ _; (try k_sweep)))
    | ((with_reducible show wpAny _ _ (execs (Stmt.AugAssign (Expr.Name _ _) Operator.Sub _ _ :: _) _) _ _ _); k_dflt (refine' stSub ?zsv_h11 ?zsx_h11 ?zsF_h11 ?zsN_h11 ?_ ?zsa_h11 ?zsb_h11; (case zsF_h11 => k_asm); (case zsv_h11 => exact rfl); (case zsx_h11 => k_extra "ev"); (case zsN_h11 => k_asm); (case zsa_h11 => rfl); (case zsb_h11 => rfl); k_whole; intro _ _ _ _ _ _; (try k_sweep)))
    | ((with_reducible show wpAny _ _ (execs (Stmt.Expr (Expr.Call (Expr.Attribute (Expr.Name _ _) _ _) [_] [] _) _ :: _) _) _ _ _); k_dflt (refine' stAppend ?zpF_h11 ?zpv_h11 ?zpN_h11 ?zpm_h11 ?zpy_h11 ?zpU_h11 ?zpz_h11 ?_ ?zpa_h11 ?zpb_h11 ?zpc_h11 ?zpd_h11 ?zpe_h11 ?zpf_h11 ?zpg_h11; (case zpF_h11 => k_asm); (case zpv_h11 => exact rfl); (case zpN_h11 => k_asm); (case zpm_h11 => first | k_mem | k_memK | (with_unfolding_all k_mem)); (case zpy_h11 => k_extra "ev"); (case zpU_h11 => (intro _; k_upd)); (case zpz_h11 => size_fits); (case zpa_h11 => rfl); (case zpb_h11 => rfl); (case zpc_h11 => decide); (case zpd_h11 => rfl); (case zpe_h11 => rfl); (case zpf_h11 => rfl); (case zpg_h11 => rfl); k_whole; intro _ _ _ _ _; (try k_sweep)))
    | ((with_reducible show wpAny _ _ (execs (Stmt.If _ _ [] _ :: _) _) _ _ _); k_dflt (refine' stIf0 ?zix_h11 ?_ ?_; (case zix_h11 => k_extra "evc"); (all_goals (k_whole; intro _ _)); (all_goals first | contradiction | (law_purse 20000 => (exfalso; omega)) | skip)))
    | ((with_reducible show wpAny _ _ (execs (Stmt.If _ _ _ _ :: _) _) _ _ _); k_dflt (refine' stIf ?zjx_h11 ?_; (case zjx_h11 => k_extra "evc"); k_whole; intro _; refine ⟨?_, ?_⟩; (all_goals intro _ _); (all_goals first | contradiction | (law_purse 20000 => (exfalso; omega)) | skip)))
    | k_fold)
  exact ⟨rfl, rfl⟩
section
variable {w : World} {mean : ExcName → Option Value} {mg mb : Str → Option Value}
theorem c_b2a (x : Array UInt8) (tk : Tok) : Says w mean mg mb 86 2 (fun _ => x.size ≤ 500000 ∧ x.size % 3 = 0) [.bytes x tk] [(Str.ofString "newline", .bool false)] (fun _ _ r => ∃ t, r = .bytes (byteArr ((encL (KBw.bInts x)).map sgn)) t) := by
  unfold Says
  intro dp un gd cn cs a ccd cl outer A₀ base h₀ L m s Q E B F X T hk hd hu hp hret
  refine wpAny_call ?_
  refine' enter (binds := [(Str.ofString "data", .bytes x tk), (Str.ofString "newline", .bool false)]) ?k1 ?k2 ?k3 ?k5 ?kA ?kF ?kK ?k6 ?k7 ?k8 ?k9 ?kB ?_ ?c2 ?c3 ?c4 ?c5; (case kA => exact rfl); (case kF => exact rfl); (case kK => assumption); (case k1 => k_asm); (case k2 => k_asm); (case k3 => k_asm); (case k5 => k_asm); (case k6 => k_is); (case k7 => k_is); (case k8 => ktr_room); (case k9 => first | exact BindsTo.of_eq rfl | exact binds_K (by k_in) rfl (by k_is) rfl rfl rfl | fail "BINDS"); (case c5 => decide); (case kB => exact locs rfl); (case c2 => exact rfl); (case c3 => exact rfl); (case c4 => exact rfl); k_whole; intro g' L' h' hg' FG' F' N' B' X' T'; (try dsimp only); (try k_lift B'); (try (refine letA ?_; intro env1 A1)); (try k_fold)
  k_with "call ref" => (refine' use (c_buffer _ _) ?k1_h12 ?k2_h12 ?k3_h12 ?k4_h12 ?k5_h12 ?kK_h12 ?kd_h12 ?ku_h12 ?kp_h12 ?_; (case k1_h12 => k_asm); (case k2_h12 => k_asm); (case k3_h12 => k_asm); (case k4_h12 => k_asm); (case k5_h12 => k_asm); (case kK_h12 => first | exact rfl | assumption); (case kd_h12 => ktr_room); (case ku_h12 => ktr_units); (case kp_h12 => first | exact trivial | assumption); intro r9 h9 tk9 F9 N9 S9 P9; subst P9; (try dsimp only); (try k_fold))
  k_with "call ref" => (refine' use (c_truth _) ?k1_h13 ?k2_h13 ?k3_h13 ?k4_h13 ?k5_h13 ?kK_h13 ?kd_h13 ?ku_h13 ?kp_h13 ?_; (case k1_h13 => k_asm); (case k2_h13 => k_asm); (case k3_h13 => k_asm); (case k4_h13 => k_asm); (case k5_h13 => k_asm); (case kK_h13 => first | exact rfl | assumption); (case kd_h13 => ktr_room); (case ku_h13 => ktr_units); (case kp_h13 => first | exact trivial | assumption); intro r9 h9 tk9 F9 N9 S9 P9; subst P9; (try dsimp only); (try k_fold))
  k_with "my pyIter bytes" => (k_here; k_dflt (refine' KStb.kst_bytes (σ := Int × Tok × Int × Tok × List Int × List Value × Nat) (fun c => [(_, W.listOf c.2.2.2.2.2.1.toArray c.2.2.2.2.2.2)]) (fun c => [(Str.ofString "leftchar", .int c.1 c.2.1), (Str.ofString "leftbits", .int c.2.2.1 c.2.2.2.1)]) (fun c => IntsAre c.2.2.2.2.2.1 c.2.2.2.2.1) [] (fun pre c => InvB pre c.1 c.2.2.1 c.2.2.2.2.1) (0, _, 0, _, [], [], 0) rfl rfl rfl ?kF_h14 ?kN_h14 ?kf_h14 ?kk_h14 ?kp_h14 ?turn_h14 ?done_h14; (case kF_h14 => k_asm); (case kN_h14 => k_asm); (case kf_h14 => exact .nil); (case kk_h14 => kst_all); (case kp_h14 => exact invB0)); (case' turn_h14 => (rintro ⟨lc, t1, lb, t2, out, us, n⟩ pre post b tb u h tk own heq hlen hb0 hb1 hoff hf hI F N; dsimp only [kstB] at F N hf hI hoff; simp only [List.cons_append, List.nil_append, List.map_cons, List.map_nil] at N hoff; have kMark := kstMark; unfold InvB at hI; obtain ⟨i1, i2, i3, i4, i5, i6⟩ := hI; rw [KBw.ints_length] at hlen; have kLen := IntsAre.length hf; have hx := hp.1; have i7 : lb = 0 ∨ lb = 2 ∨ lb = 4 := (by omega); rcases i7 with rfl | rfl | rfl)); (case' done_h14 => (rintro ⟨lc, t1, lb, t2, out, us, n⟩ u h tk heq hf hI F N;  dsimp only [kstB] at F N hf hI; have kMark := kstMark; unfold InvB at hI; obtain ⟨i1, i2, i3, i4, i5, i6⟩ := hI; rw [KBw.ints_length] at i3; have i7 : lb = 0 := (by omega); subst i7)))
  k_with "call type:bytes" => (k_here; k_dflt (refine' bytesW ?F_h15 ?N_h15 ?m_h15 ?i_h15 ?r_h15 ?z_h15 ?h_h15 ?_; (case F_h15 => k_asm); (case N_h15 => k_asm); (case m_h15 => k_mem); (case i_h15 => assumption); (case r_h15 => (rw [i6]; exact sgn_in)); (case z_h15 => (rw [KBw.ints_length] at i5; have hx := hp.1; omega)); (case h_h15 => rfl); k_whole; intro _ _ _ _ _))
  k_with "state" => first | exact invB1 hb0 hb1 i3 i6 | exact invB2 hb0 hb1 i3 i4 i6 | exact invB3 hb0 hb1 i3 i4 i6
  k_with "my subscriptTail" => (k_here; k_dflt (refine' itemW (ks := b64s) ?k_h17 ?f_h17 ?a_h17 ?b_h17 ?_ ?s_h17 ?t_h17; (case k_h17 => decide +kernel); (case f_h17 => decide); (case a_h17 => omega); (case b_h17 => (show _ < (64 : Int); omega)); (case s_h17 => with_unfolding_all rfl); (case t_h17 => (intro _; with_unfolding_all rfl)); k_whole; intro _ _))
  k_steps
  · exact hret _ _ _ (kept9 hg' (by assumption)) (exBytes (by rw [i6]))
end
end
section
open PySem.Calls
theorem fill4 : hd.heap_39 = hd.heap_39 ∧ Challenge.rw_pa0032_01 = Challenge.rw_pa0032_01 := by
  k_with_none
  w_top off
  k_fill
  k_with "ev" => (repeat' (first | exact EvI.const | (refine' EvI.name ?enF_h1 ?enV_h1; (case enF_h1 => k_asm); (case enV_h1 => exact rfl)) | apply EvI.add | apply EvI.sub | apply EvI.and3 | apply EvI.and15 | apply EvI.and63 | apply EvI.and65535 | apply EvI.or | apply EvI.shl8 | apply EvI.shl2 | apply EvI.shl4 | apply EvI.shl6 | apply EvI.shr2 | apply EvI.shr4 | apply EvI.shr | exact (rfl : _ = ((0 : Nat) : Int)) | exact (rfl : _ = ((2 : Nat) : Int)) | exact (rfl : _ = ((4 : Nat) : Int)) | exact (rfl : _ = ((6 : Nat) : Int)) | k_extra "ev more" | ((fail_if_success (with_reducible show EvI _ _ _ _ _ _)); (fail_if_success (with_reducible show EvC _ _ _ _ _ _)); omega)))
  k_with "evc" => (repeat' (first | apply EvC.and | apply EvL.one | apply EvL.cons | apply EvC.not | apply EvC.lt | apply EvC.le | apply EvC.gt | apply EvC.ge | apply EvC.eq | apply EvC.ne | apply EvC.lele | (refine' EvC.nameB ?enG_h2 ?enW_h2; (case enG_h2 => k_asm); (case enW_h2 => exact rfl)) | apply EvC.nameI | (k_extra "ev"; done)))
  k_with "my storeName" => (k_here; k_dflt (refine' storeM ?zmF_h3 ?zmN_h3 ?_ ?zma_h3 ?zmb_h3; (case zmF_h3 => k_asm); (case zmN_h3 => k_asm); (case zma_h3 => rfl); (case zmb_h3 => rfl); k_whole; intro _ _ _ _ _; (try k_sweep)))
  k_with "ne9" => first | exact h91 | exact h92 (_, _) (.head _) | exact h92 (_, _) (.tail _ (.head _)) | exact h92 (_, _) (.tail _ (.tail _ (.head _))) | exact h92 (_, _) (.tail _ (.tail _ (.tail _ (.head _)))) | exact stored_sub h93 (by decide) | (intro e9; subst e9; exact absurd h93 (by decide))
  k_with "same" => (intro z9 h91 h92 h93; (repeat (first | (with_reducible exact rfl) | (refine (if_neg ?sn9_h5).trans ?_; (case sn9_h5 => k_extra "ne9")))); done)
  k_with "same2" => (intro z9 h92 h93; (repeat (first | (with_reducible exact rfl) | (refine (if_neg ?sn9_h6).trans ?_; (case sn9_h6 => k_extra "ne9")))); done)
  k_with "my eval BinOp" => (k_here; k_dflt (refine' EvI.use ?zex_h7 ?_; (case zex_h7 => k_extra "ev"); k_whole; intro _ _))
  k_with "argv" => (repeat' (first | exact ArgV.nil | (refine' ArgV.name ?anV_h8 ?anX_h8 ?anD_h8 ?_; (case anV_h8 => exact rfl); (case anX_h8 => exact rfl); (case anD_h8 => decide))))
  k_with "my eval Call" => (k_here; (with_reducible show wpAny _ _ (eval (Expr.Call (Expr.Name _ _) (_ :: _) [] _) _) _ _ _); k_dflt (refine' evCall ?ecE_h9 ?ecF_h9 ?ecX_h9 ?ecT_h9 ?ecK_h9 ?ecP_h9 ?ecA_h9 ?_ ?ecH_h9 ?ecI_h9 ?ecD_h9 ?ecC_h9 ?ecB_h9; (case ecE_h9 => exact rfl); (case ecF_h9 => k_asm); (case ecX_h9 => k_asm); (case ecT_h9 => k_asm); (case ecK_h9 => k_is); (case ecP_h9 => k_is); (case ecA_h9 => k_extra "argv"); (case ecH_h9 => rfl); (case ecI_h9 => rfl); (case ecD_h9 => decide); (case ecC_h9 => rfl); (case ecB_h9 => rfl); k_whole))
  k_with "my isTrue Compare" => (k_here; k_dflt (refine' EvC.use ?zcx_h10 ?_ ?_; (case zcx_h10 => k_extra "evc"); (all_goals (k_whole; intro _ _)); (all_goals first | contradiction | (law_purse 20000 => (exfalso; omega)) | skip)))
  k_with "my execs cons" => (k_here; first
    | ((with_reducible show wpAny _ _ (execs (Stmt.Assign [Expr.Name _ _] _ _ :: _) _) _ _ _); k_dflt (refine' stAssign ?zsx_h11 ?zsF_h11 ?zsN_h11 ?_ ?zsa_h11 ?zsb_h11 ?zsc_h11; (case zsx_h11 => k_extra "ev"); (case zsF_h11 => k_asm); (case zsN_h11 => k_asm); (case zsa_h11 => rfl); (case zsb_h11 => rfl); (case zsc_h11 => rfl); k_whole; intro _ _ _ _ _ _; (try k_sweep)))
    | ((with_reducible show wpAny _ _ (execs (Stmt.AugAssign (Expr.Name _ _) Operator.Add _ _ :: _) _) _ _ _); k_dflt (refine' stAdd ?zsv_h11 ?zsx_h11 ?zsF_h11 ?zsN_h11 ?_ ?zsa_h11 ?zsb_h11; (case zsF_h11 => k_asm); (case zsv_h11 => exact rfl); (case zsx_h11 => k_extra "ev"); (case zsN_h11 => k_asm); (case zsa_h11 => rfl); (case zsb_h11 => rfl); k_whole; intro _ _ _ _ _ _; (try k_sweep)))
    | ((with_reducible show wpAny _ _ (execs (Stmt.AugAssign (Expr.Name _ _) Operator.Sub _ _ :: _) _) _ _ _); k_dflt (refine' stSub ?zsv_h11 ?zsx_h11 ?zsF_h11 ?zsN_h11 ?_ ?zsa_h11 ?zsb_h11; (case zsF_h11 => k_asm); (case zsv_h11 => exact rfl); (case zsx_h11 => k_extra "ev"); (case zsN_h11 => k_asm); (case zsa_h11 => rfl); (case zsb_h11 => rfl); k_whole; intro _ _ _ _ _ _; (try k_sweep)))
    | ((with_reducible show wpAny _ _ (execs (Stmt.Expr (Expr.Call (Expr.Attribute (Expr.Name _ _) _ _) [_] [] _) _ :: _) _) _ _ _); k_dflt (refine' stAppend ?zpF_h11 ?zpv_h11 ?zpN_h11 ?zpm_h11 ?zpy_h11 ?zpU_h11 ?zpz_h11 ?_ ?zpa_h11 ?zpb_h11 ?zpc_h11 ?zpd_h11 ?zpe_h11 ?zpf_h11 ?zpg_h11; (case zpF_h11 => k_asm); (case zpv_h11 => exact rfl); (case zpN_h11 => k_asm); (case zpm_h11 => first | k_mem | k_memK | (with_unfolding_all k_mem)); (case zpy_h11 => k_extra "ev"); (case zpU_h11 => (intro _; k_upd)); (case zpz_h11 => size_fits); (case zpa_h11 => rfl); (case zpb_h11 => rfl); (case zpc_h11 => decide); (case zpd_h11 => rfl); (case zpe_h11 => rfl); (case zpf_h11 => rfl); (case zpg_h11 => rfl); k_whole; intro _ _ _ _ _; (try k_sweep)))
    | ((with_reducible show wpAny _ _ (execs (Stmt.If _ _ [] _ :: _) _) _ _ _); k_dflt (refine' stIf0 ?zix_h11 ?_ ?_; (case zix_h11 => k_extra "evc"); (all_goals (k_whole; intro _ _)); (all_goals first | contradiction | (law_purse 20000 => (exfalso; omega)) | skip)))
    | ((with_reducible show wpAny _ _ (execs (Stmt.If _ _ _ _ :: _) _) _ _ _); k_dflt (refine' stIf ?zjx_h11 ?_; (case zjx_h11 => k_extra "evc"); k_whole; intro _; refine ⟨?_, ?_⟩; (all_goals intro _ _); (all_goals first | contradiction | (law_purse 20000 => (exfalso; omega)) | skip)))
    | k_fold)
  k_with "my getMethod bytes" => (k_here; with_reducible refine method_translate ?_)
  exact ⟨rfl, rfl⟩
section
variable {w : World} {mean : ExcName → Option Value} {mg mb : Str → Option Value}
theorem c_b64encode (x : Array UInt8) (tk : Tok) : Says w mean mg mb 94 3 (fun _ => x.size ≤ 500000 ∧ x.size % 3 = 0) [.bytes x tk] [] (fun _ _ r => ∃ t, r = .bytes (byteArr ((encL (KBw.bInts x)).map sgn)) t) := by
  unfold Says
  intro dp un gd cn cs a ccd cl outer A₀ base h₀ L m s Q E B F X T hk hd hu hp hret
  refine wpAny_call ?_
  refine' enter (binds := [(Str.ofString "s", .bytes x tk), (Str.ofString "altchars", .none)]) ?k1 ?k2 ?k3 ?k5 ?kA ?kF ?kK ?k6 ?k7 ?k8 ?k9 ?kB ?_ ?c2 ?c3 ?c4 ?c5; (case kA => exact rfl); (case kF => exact rfl); (case kK => assumption); (case k1 => k_asm); (case k2 => k_asm); (case k3 => k_asm); (case k5 => k_asm); (case k6 => k_is); (case k7 => k_is); (case k8 => ktr_room); (case k9 => first | exact BindsTo.of_eq rfl | exact binds_K (by k_in) rfl (by k_is) rfl rfl rfl | fail "BINDS"); (case c5 => decide); (case kB => exact locs rfl); (case c2 => exact rfl); (case c3 => exact rfl); (case c4 => exact rfl); k_whole; intro g' L' h' hg' FG' F' N' B' X' T'; (try dsimp only); (try k_lift B'); (try (refine letA ?_; intro env1 A1)); (try k_fold)
  k_with "call ref" => (refine' use (c_b2a _ _) ?k1_h13 ?k2_h13 ?k3_h13 ?k4_h13 ?k5_h13 ?kK_h13 ?kd_h13 ?ku_h13 ?kp_h13 ?_; (case k1_h13 => k_asm); (case k2_h13 => k_asm); (case k3_h13 => k_asm); (case k4_h13 => k_asm); (case k5_h13 => k_asm); (case kK_h13 => first | exact rfl | assumption); (case kd_h13 => ktr_room); (case ku_h13 => ktr_units); (case kp_h13 => first | exact trivial | assumption); intro r9 h9 tk9 F9 N9 S9 P9; obtain ⟨t9, rfl⟩ := P9; (try dsimp only); (try k_fold))
  k_steps
  all_goals (exact hret _ _ _ (kept9 hg' (by assumption)) ⟨_, rfl⟩)
theorem c_std (x : Array UInt8) (tk : Tok) : Says w mean mg mb 109 4 (fun _ => x.size ≤ 500000 ∧ x.size % 3 = 0) [.bytes x tk] [] (fun _ _ r => ∃ t, r = .bytes (byteArr ((encL (KBw.bInts x)).map sgn)) t) := by
  unfold Says
  intro dp un gd cn cs a ccd cl outer A₀ base h₀ L m s Q E B F X T hk hd hu hp hret
  refine wpAny_call ?_
  refine' enter (binds := [(Str.ofString "s", .bytes x tk)]) ?k1 ?k2 ?k3 ?k5 ?kA ?kF ?kK ?k6 ?k7 ?k8 ?k9 ?kB ?_ ?c2 ?c3 ?c4 ?c5; (case kA => exact rfl); (case kF => exact rfl); (case kK => assumption); (case k1 => k_asm); (case k2 => k_asm); (case k3 => k_asm); (case k5 => k_asm); (case k6 => k_is); (case k7 => k_is); (case k8 => ktr_room); (case k9 => first | exact BindsTo.of_eq rfl | exact binds_K (by k_in) rfl (by k_is) rfl rfl rfl | fail "BINDS"); (case c5 => decide); (case kB => exact locs rfl); (case c2 => exact rfl); (case c3 => exact rfl); (case c4 => exact rfl); k_whole; intro g' L' h' hg' FG' F' N' B' X' T'; (try dsimp only); (try k_lift B'); (try (refine letA ?_; intro env1 A1)); (try k_fold)
  k_with "call ref" => (refine' use (c_b64encode _ _) ?k1_h14 ?k2_h14 ?k3_h14 ?k4_h14 ?k5_h14 ?kK_h14 ?kd_h14 ?ku_h14 ?kp_h14 ?_; (case k1_h14 => k_asm); (case k2_h14 => k_asm); (case k3_h14 => k_asm); (case k4_h14 => k_asm); (case k5_h14 => k_asm); (case kK_h14 => first | exact rfl | assumption); (case kd_h14 => ktr_room); (case ku_h14 => ktr_units); (case kp_h14 => first | exact trivial | assumption); intro r9 h9 tk9 F9 N9 S9 P9; obtain ⟨t9, rfl⟩ := P9; (try dsimp only); (try k_fold))
  k_steps
  all_goals (exact hret _ _ _ (kept9 hg' (by assumption)) ⟨_, rfl⟩)
def tenc : Array UInt8 := (((List.range 256).map (·.toUInt8)).set 43 45 |>.set 47 95).toArray
def tdec : Array UInt8 := (((List.range 256).map (·.toUInt8)).set 45 43 |>.set 95 47).toArray
theorem c_urlenc (x : Array UInt8) (tk : Tok) : Says w mean mg mb 116 4 (fun _ => x.size ≤ 500000 ∧ x.size % 3 = 0) [.bytes x tk] [] (fun _ _ r => ∃ t, r = .bytes (trans tenc (byteArr ((encL (KBw.bInts x)).map sgn))) t) := by
  unfold Says
  intro dp un gd cn cs a ccd cl outer A₀ base h₀ L m s Q E B F X T hk hd hu hp hret
  refine wpAny_call ?_
  refine' enter (binds := [(Str.ofString "s", .bytes x tk)]) ?k1 ?k2 ?k3 ?k5 ?kA ?kF ?kK ?k6 ?k7 ?k8 ?k9 ?kB ?_ ?c2 ?c3 ?c4 ?c5; (case kA => exact rfl); (case kF => exact rfl); (case kK => assumption); (case k1 => k_asm); (case k2 => k_asm); (case k3 => k_asm); (case k5 => k_asm); (case k6 => k_is); (case k7 => k_is); (case k8 => ktr_room); (case k9 => first | exact BindsTo.of_eq rfl | exact binds_K (by k_in) rfl (by k_is) rfl rfl rfl | fail "BINDS"); (case c5 => decide); (case kB => exact locs rfl); (case c2 => exact rfl); (case c3 => exact rfl); (case c4 => exact rfl); k_whole; intro g' L' h' hg' FG' F' N' B' X' T'; (try dsimp only); (try k_lift B'); (try (refine letA ?_; intro env1 A1)); (try k_fold)
  k_with "call ref" => (refine' use (c_b64encode _ _) ?k1_h15 ?k2_h15 ?k3_h15 ?k4_h15 ?k5_h15 ?kK_h15 ?kd_h15 ?ku_h15 ?kp_h15 ?_; (case k1_h15 => k_asm); (case k2_h15 => k_asm); (case k3_h15 => k_asm); (case k4_h15 => k_asm); (case k5_h15 => k_asm); (case kK_h15 => first | exact rfl | assumption); (case kd_h15 => ktr_room); (case ku_h15 => ktr_units); (case kp_h15 => first | exact trivial | assumption); intro r9 h9 tk9 F9 N9 S9 P9; obtain ⟨t9, rfl⟩ := P9; (try dsimp only); (try k_fold))
  k_with "call builtin:bytes.translate" => (k_here; k_dflt (refine' translate ?a_h16 ?b_h16 ?_; (case a_h16 => rfl); (case b_h16 => (rw [byteArr_size, List.length_map, PySem.sizeLine_eq]; have h1 := encL_len (KBw.bInts x); rw [KBw.ints_length] at h1; have h2 := hp.1; omega)); k_whole; intro _ _))
  k_steps
  all_goals (refine hret _ _ _ (kept9 hg' (by assumption)) (exBytes ?_); refine congrArg (fun z => trans z _) ?_; kernel_rfl)
end
end
section
open PySem.Calls
theorem fill5 : hd.heap_39 = hd.heap_39 ∧ Challenge.rw_pa0032_01 = Challenge.rw_pa0032_01 := by
  k_with_none
  w_top off
  k_fill
  k_with "ev" => (repeat' (first | exact EvI.const | (refine' EvI.name ?enF_h1 ?enV_h1; (case enF_h1 => k_asm); (case enV_h1 => exact rfl)) | apply EvI.add | apply EvI.sub | apply EvI.and3 | apply EvI.and15 | apply EvI.and63 | apply EvI.and65535 | apply EvI.or | apply EvI.shl8 | apply EvI.shl2 | apply EvI.shl4 | apply EvI.shl6 | apply EvI.shr2 | apply EvI.shr4 | apply EvI.shr | exact (rfl : _ = ((0 : Nat) : Int)) | exact (rfl : _ = ((2 : Nat) : Int)) | exact (rfl : _ = ((4 : Nat) : Int)) | exact (rfl : _ = ((6 : Nat) : Int)) | k_extra "ev more" | ((fail_if_success (with_reducible show EvI _ _ _ _ _ _)); (fail_if_success (with_reducible show EvC _ _ _ _ _ _)); omega)))
  k_with "evc" => (repeat' (first | apply EvC.and | apply EvL.one | apply EvL.cons | apply EvC.not | apply EvC.lt | apply EvC.le | apply EvC.gt | apply EvC.ge | apply EvC.eq | apply EvC.ne | apply EvC.lele | (refine' EvC.nameB ?enG_h2 ?enW_h2; (case enG_h2 => k_asm); (case enW_h2 => exact rfl)) | apply EvC.nameI | (k_extra "ev"; done)))
  k_with "my storeName" => (k_here; k_dflt (refine' storeM ?zmF_h3 ?zmN_h3 ?_ ?zma_h3 ?zmb_h3; (case zmF_h3 => k_asm); (case zmN_h3 => k_asm); (case zma_h3 => rfl); (case zmb_h3 => rfl); k_whole; intro _ _ _ _ _; (try k_sweep)))
  k_with "ne9" => first | exact h91 | exact h92 (_, _) (.head _) | exact h92 (_, _) (.tail _ (.head _)) | exact h92 (_, _) (.tail _ (.tail _ (.head _))) | exact h92 (_, _) (.tail _ (.tail _ (.tail _ (.head _)))) | exact stored_sub h93 (by decide) | (intro e9; subst e9; exact absurd h93 (by decide))
  k_with "same" => (intro z9 h91 h92 h93; (repeat (first | (with_reducible exact rfl) | (refine (if_neg ?sn9_h5).trans ?_; (case sn9_h5 => k_extra "ne9")))); done)
  k_with "same2" => (intro z9 h92 h93; (repeat (first | (with_reducible exact rfl) | (refine (if_neg ?sn9_h6).trans ?_; (case sn9_h6 => k_extra "ne9")))); done)
  k_with "my eval BinOp" => (k_here; k_dflt (refine' EvI.use ?zex_h7 ?_; (case zex_h7 => k_extra "ev"); k_whole; intro _ _))
  k_with "argv" => (repeat' (first | exact ArgV.nil | (refine' ArgV.name ?anV_h8 ?anX_h8 ?anD_h8 ?_; (case anV_h8 => exact rfl); (case anX_h8 => exact rfl); (case anD_h8 => decide))))
  k_with "my eval Call" => (k_here; (with_reducible show wpAny _ _ (eval (Expr.Call (Expr.Name _ _) (_ :: _) [] _) _) _ _ _); k_dflt (refine' evCall ?ecE_h9 ?ecF_h9 ?ecX_h9 ?ecT_h9 ?ecK_h9 ?ecP_h9 ?ecA_h9 ?_ ?ecH_h9 ?ecI_h9 ?ecD_h9 ?ecC_h9 ?ecB_h9; (case ecE_h9 => exact rfl); (case ecF_h9 => k_asm); (case ecX_h9 => k_asm); (case ecT_h9 => k_asm); (case ecK_h9 => k_is); (case ecP_h9 => k_is); (case ecA_h9 => k_extra "argv"); (case ecH_h9 => rfl); (case ecI_h9 => rfl); (case ecD_h9 => decide); (case ecC_h9 => rfl); (case ecB_h9 => rfl); k_whole))
  k_with "my isTrue Compare" => (k_here; k_dflt (refine' EvC.use ?zcx_h10 ?_ ?_; (case zcx_h10 => k_extra "evc"); (all_goals (k_whole; intro _ _)); (all_goals first | contradiction | (law_purse 20000 => (exfalso; omega)) | skip)))
  k_with "my execs cons" => (k_here; first
    | ((with_reducible show wpAny _ _ (execs (Stmt.Assign [Expr.Name _ _] _ _ :: _) _) _ _ _); k_dflt (refine' stAssign ?zsx_h11 ?zsF_h11 ?zsN_h11 ?_ ?zsa_h11 ?zsb_h11 ?zsc_h11; (case zsx_h11 => k_extra "ev"); (case zsF_h11 => k_asm); (case zsN_h11 => k_asm); (case zsa_h11 => rfl); (case zsb_h11 => rfl); (case zsc_h11 => rfl); k_whole; intro _ _ _ _ _ _; (try k_sweep)))
    | ((with_reducible show wpAny _ _ (execs (Stmt.AugAssign (Expr.Name _ _) Operator.Add _ _ :: _) _) _ _ _); k_dflt (refine' stAdd ?zsv_h11 ?zsx_h11 ?zsF_h11 ?zsN_h11 ?_ ?zsa_h11 ?zsb_h11; (case zsF_h11 => k_asm); (case zsv_h11 => exact rfl); (case zsx_h11 => k_extra "ev"); (case zsN_h11 => k_asm); (case zsa_h11 => rfl); (case zsb_h11 => rfl); k_whole; intro _ _ _ _ _ _; (try k_sweep)))
    | ((with_reducible show wpAny _ _ (execs (Stmt.AugAssign (Expr.Name _ _) Operator.Sub _ _ :: _) _) _ _ _); k_dflt (refine' stSub ?zsv_h11 ?zsx_h11 ?zsF_h11 ?zsN_h11 ?_ ?zsa_h11 ?zsb_h11; (case zsF_h11 => k_asm); (case zsv_h11 => exact rfl); (case zsx_h11 => k_extra "ev"); (case zsN_h11 => k_asm); (case zsa_h11 => rfl); (case zsb_h11 => rfl); k_whole; intro _ _ _ _ _ _; (try k_sweep)))
    | ((with_reducible show wpAny _ _ (execs (Stmt.Expr (Expr.Call (Expr.Attribute (Expr.Name _ _) _ _) [_] [] _) _ :: _) _) _ _ _); k_dflt (refine' stAppend ?zpF_h11 ?zpv_h11 ?zpN_h11 ?zpm_h11 ?zpy_h11 ?zpU_h11 ?zpz_h11 ?_ ?zpa_h11 ?zpb_h11 ?zpc_h11 ?zpd_h11 ?zpe_h11 ?zpf_h11 ?zpg_h11; (case zpF_h11 => k_asm); (case zpv_h11 => exact rfl); (case zpN_h11 => k_asm); (case zpm_h11 => first | k_mem | k_memK | (with_unfolding_all k_mem)); (case zpy_h11 => k_extra "ev"); (case zpU_h11 => (intro _; k_upd)); (case zpz_h11 => size_fits); (case zpa_h11 => rfl); (case zpb_h11 => rfl); (case zpc_h11 => decide); (case zpd_h11 => rfl); (case zpe_h11 => rfl); (case zpf_h11 => rfl); (case zpg_h11 => rfl); k_whole; intro _ _ _ _ _; (try k_sweep)))
    | ((with_reducible show wpAny _ _ (execs (Stmt.If _ _ [] _ :: _) _) _ _ _); k_dflt (refine' stIf0 ?zix_h11 ?_ ?_; (case zix_h11 => k_extra "evc"); (all_goals (k_whole; intro _ _)); (all_goals first | contradiction | (law_purse 20000 => (exfalso; omega)) | skip)))
    | ((with_reducible show wpAny _ _ (execs (Stmt.If _ _ _ _ :: _) _) _ _ _); k_dflt (refine' stIf ?zjx_h11 ?_; (case zjx_h11 => k_extra "evc"); k_whole; intro _; refine ⟨?_, ?_⟩; (all_goals intro _ _); (all_goals first | contradiction | (law_purse 20000 => (exfalso; omega)) | skip)))
    | k_fold)
  k_with "my binaryOp BitAnd int int" => (k_here; k_dflt (first | (refine andW (bitAnd_m2 _) ?_; k_whole; intro _ _) | (refine andW (bitAnd_m4 _) ?_; k_whole; intro _ _)))
  k_with "my binaryOp BitOr int int" => (k_here; k_dflt (refine' orW (or_low _ ?aqg51_h13 ?bqg51_h13) ?_; (case aqg51_h13 => omega); (case bqg51_h13 => omega); k_whole; intro _ _))
  k_with "my binaryOp LShift int int" => (k_here; k_dflt (first | (refine' shlW 2 rfl (by decide) ?aqg52_h14 ?bqg52_h14 ?_; (case aqg52_h14 => omega); (case bqg52_h14 => omega); k_whole; intro _ _) | (refine' shlW 4 rfl (by decide) ?aqg52_h14 ?bqg52_h14 ?_; (case aqg52_h14 => omega); (case bqg52_h14 => omega); k_whole; intro _ _) | (refine' shlW 6 rfl (by decide) ?aqg52_h14 ?bqg52_h14 ?_; (case aqg52_h14 => omega); (case bqg52_h14 => omega); k_whole; intro _ _)))
  k_with "my binaryOp RShift int int" => (k_here; k_dflt (first | (refine shrW 2 rfl ?_; k_whole; intro _ _) | (refine shrW 4 rfl ?_; k_whole; intro _ _)))
  exact ⟨rfl, rfl⟩
/-- what a2b_base64 takes -/
def Takes (sm : Bool) (l : List Int) : Prop := (sm = true → ∀ c ∈ l, b64v c < 64) ∧ (figs l).length % 4 = 0
def InvA (sm : Bool) (pre : List Int) (qp lc pd ii : Int) (out : List Int) : Prop := pd = 0 ∧ 0 ≤ ii ∧ ii ≤ (pre.length : Int) ∧ (sm = true → ∀ c ∈ pre, b64v c < 64) ∧ InvD pre qp lc out
theorem invA0 (sm : Bool) : InvA sm [] 0 0 0 0 [] := ⟨rfl, Int.le_refl 0, Int.le_refl 0, by simp, invD0⟩
theorem all_snoc {sm : Bool} {pre : List Int} {b : Int} (h : sm = true → ∀ c' ∈ pre, b64v c' < 64) (hb : sm = true → b64v b < 64) : sm = true → ∀ c' ∈ pre ++ [b], b64v c' < 64 := by
  intro hs c' hc
  rcases List.mem_append.mp hc with h1 | h1
  · exact h hs c' h1
  · rw [List.mem_singleton.mp h1]; exact hb hs
theorem invA_next {sm : Bool} {pre : List Int} {b qp lc ii : Int} {out : List Int} (h0 : 0 ≤ ii) (h1 : ii ≤ (pre.length : Int)) (h2 : sm = true → ∀ c' ∈ pre, b64v c' < 64) (hb : sm = true → b64v b < 64) (h : InvD (pre ++ [b]) qp lc out) : InvA sm (pre ++ [b]) qp lc 0 (ii + 1) out :=
  ⟨rfl, by omega, by rw [List.length_append, List.length_singleton]; omega, all_snoc h2 hb, h⟩
theorem raised_sub {base G h : Heap} {l : List Env} {e t : Addr} {cls : Value} {vs : List Value} {news news' : List (Addr × Obj)} (R : RaisedS base G l e cls t vs news h) (sub : ∀ p ∈ news', p ∈ news) : RaisedS base G l e cls t vs news' h := by
  obtain ⟨⟨B, a, b, c, d⟩, e⟩ := R
  exact ⟨⟨B, a, b, fun q hq => c q (sub q hq), d⟩, e⟩
section
variable {w : World} {mean : ExcName → Option Value} {mg mb : Str → Option Value}
theorem r_a2b {A₀ : Around} {base h₀ : Heap} {outer : List Env} {L a : Addr} {cn : Str} {cs : Scope} {ccd : Value} {cl : List (Str × Addr)} {m : Str → Option Value} {news : List (Addr × Obj)} {s : Shared} {Q E : Value → Shared → Prop} {dp un : Nat} {gd : Option (List Code)} (sm : Bool) (x : Array UInt8) (tkx : Tok) (hz : x.size ≤ 500000) (h61 : ∀ c ∈ KBw.bInts x, c ≠ 61)
    (B : Below A₀ base outer h₀) (F : Fr h₀ L s.heap m) (X : (hd.heap_39 w.params).In h₀) (N : News h₀ L s.heap news) (T : Top hd.view_39 LO mean mg mb h₀) (hk : cs.kind = .function)
    (hdp : dp + 2 < recursionLimit) (hun : un + 8 * 2 < cLine)
    (ok : ∀ t h' tk', Takes sm (KBw.bInts x) → Fr h₀ L h' m → News h₀ L h' news → Q (.bytes (byteArr (decL (figs (KBw.bInts x)))) t) { s with heap := h', toks := tk' })
    (exc : ∀ g₂ e t vs h' tk', ¬ Takes sm (KBw.bInts x) → Fr h₀ L g₂ m → RaisedS base g₂ (envX cn cs L a ccd cl :: outer) e (.ref 39) t vs news h' → g₂.UpToSlots h' → E (.ref e) { s with heap := h', toks := tk' }) :
    wpAny (model PR w) (ktrTop dp un gd cn cs L a ccd cl outer) (call (.ref 78) [.bytes x tkx] [(Str.ofString "strict_mode", .bool sm)]) Q E s := by
  have D9 : KtsDicts [] h₀ := ktsDicts_nil
  refine wpAny_call ?_
  (refine' W.code_def (f := 78) (binds := [(Str.ofString "data", .bytes x tkx), (Str.ofString "strict_mode", .bool sm)]) ?k1 ?k2 ?k3 ?k4 ?k5 ?kA ?kF ?kK ?k6 ?k7 ?k8 ?k9 ?kB ?_ ?c2 ?c3 ?c4 ?c5; (case kA => exact rfl); (case kF => exact rfl); (case kK => first | exact rfl | assumption); (case k1 => k_asm); (case k2 => k_asm); (case k3 => k_asm); (case k4 => k_asm); (case k5 => k_asm); (case k6 => k_is); (case k7 => k_is); (case k8 => ktr_room); (case k9 => first | exact binds_K (by k_in) rfl (by k_is) rfl rfl rfl | exact BindsTo.of_eq rfl | fail "BINDS"); (case c5 => decide); (case kB => exact locs rfl); (case c2 => exact rfl); (case c3 => exact rfl); (case c4 => exact rfl); k_whole; intro g' L' h' FG' F' N' B' X' T'; (try dsimp only); (try k_lift B'); (try (refine letA ?_; intro env1 A1)); (try k_fold))
  k_with "call ref" => (refine' use (c_asciib _ _) ?k1_h16 ?k2_h16 ?k3_h16 ?k4_h16 ?k5_h16 ?kK_h16 ?kd_h16 ?ku_h16 ?kp_h16 ?_; (case k1_h16 => k_asm); (case k2_h16 => k_asm); (case k3_h16 => k_asm); (case k4_h16 => k_asm); (case k5_h16 => k_asm); (case kK_h16 => first | exact rfl | assumption); (case kd_h16 => ktr_room); (case ku_h16 => ktr_units); (case kp_h16 => first | exact trivial | assumption); intro r9 h9 tk9 F9 N9 S9 P9; subst P9; (try dsimp only); (try k_fold))
  k_with "call ref" => (refine' use (c_truth _) ?k1_h17 ?k2_h17 ?k3_h17 ?k4_h17 ?k5_h17 ?kK_h17 ?kd_h17 ?ku_h17 ?kp_h17 ?_; (case k1_h17 => k_asm); (case k2_h17 => k_asm); (case k3_h17 => k_asm); (case k4_h17 => k_asm); (case k5_h17 => k_asm); (case kK_h17 => first | exact rfl | assumption); (case kd_h17 => ktr_room); (case ku_h17 => ktr_units); (case kp_h17 => first | exact trivial | assumption); intro r9 h9 tk9 F9 N9 S9 P9; subst P9; (try dsimp only); (try k_fold))
  k_with "call ref" => (refine' use (c_b64_value _ _) ?k1_h18 ?k2_h18 ?k3_h18 ?k4_h18 ?k5_h18 ?kK_h18 ?kd_h18 ?ku_h18 ?kp_h18 ?_; (case k1_h18 => k_asm); (case k2_h18 => k_asm); (case k3_h18 => k_asm); (case k4_h18 => k_asm); (case k5_h18 => k_asm); (case kK_h18 => first | exact rfl | assumption); (case kd_h18 => ktr_room); (case ku_h18 => ktr_units); (case kp_h18 => first | exact trivial | assumption); intro r9 h9 tk9 F9 N9 S9 P9; obtain ⟨t9, rfl⟩ := P9; (try dsimp only); (try k_fold))
  k_with "my pyIter bytes" => (k_here; k_dflt (refine' KStb.kst_bytes (σ := Int × Tok × Int × Tok × Int × Tok × Int × Tok × List Int × List Value × Nat) (fun c => (_, W.listOf c.2.2.2.2.2.2.2.2.2.1.toArray c.2.2.2.2.2.2.2.2.2.2) :: news) (fun c => [(Str.ofString "quad_pos", .int c.1 c.2.1), (Str.ofString "leftchar", .int c.2.2.1 c.2.2.2.1), (Str.ofString "pads", .int c.2.2.2.2.1 c.2.2.2.2.2.1), (Str.ofString "i", .int c.2.2.2.2.2.2.1 c.2.2.2.2.2.2.2.1)]) (fun c => IntsAre c.2.2.2.2.2.2.2.2.2.1 c.2.2.2.2.2.2.2.2.1) [] (fun pre c => InvA sm pre c.1 c.2.2.1 c.2.2.2.2.1 c.2.2.2.2.2.2.1 c.2.2.2.2.2.2.2.2.1) (0, _, 0, _, 0, _, 0, _, [], [], 0) rfl rfl rfl ?kF_h19 ?kN_h19 ?kf_h19 ?kk_h19 ?kp_h19 ?turn_h19 ?done_h19; (case kF_h19 => k_asm); (case kN_h19 => k_asm); (case kf_h19 => exact .nil); (case kk_h19 => kst_all); (case kp_h19 => exact invA0 sm)); (case' turn_h19 => (rintro ⟨qp, t1, lc, t2, pd, t3, ii, t4, out, us, n⟩ pre post b tb u h tk own heq hlen hb0 hb1 hoff hf hI F N; dsimp only [kstB] at F N hf hI hoff; simp only [List.cons_append, List.nil_append, List.map_cons, List.map_nil] at N hoff; have kMark := kstMark; unfold InvA at hI; obtain ⟨i1, i2, i3, i9, i4⟩ := hI; subst i1; rw [KBw.ints_length] at hlen; have kLen := IntsAre.length hf; have b1 := InvD.bounds i4; have hv := b64v_in b; have hmem : b ∈ KBw.bInts x := (by rw [heq]; simp); have hne : b ≠ 61 := h61 b hmem)); (case' done_h19 => (rintro ⟨qp, t1, lc, t2, pd, t3, ii, t4, out, us, n⟩ u h tk heq hf hI F N;  dsimp only [kstB] at F N hf hI; have kMark := kstMark; unfold InvA at hI; obtain ⟨i1, i2, i3, i9, i4⟩ := hI; subst i1; have kLen := IntsAre.length hf; have b1 := InvD.bounds i4; have q1 := InvD.qp i4; rw [KBw.ints_length] at b1)))
  k_with "state" => first | exact invA_next i2 i3 i9 (by intro hs; simp_all) (invD_skip i4 (by omega)) | exact invA_next i2 i3 i9 (fun _ => by omega) (invD_0 i4 (by omega) (by omega)) | exact invA_next i2 i3 i9 (fun _ => by omega) (invD_1 i4 (by omega) (by omega)) | exact invA_next i2 i3 i9 (fun _ => by omega) (invD_2 i4 (by omega) (by omega)) | exact invA_next i2 i3 i9 (fun _ => by omega) (invD_3 i4 (by omega) (by omega) (by omega) (by omega))
  k_with "call type:bytes" => (k_here; k_dflt (refine' bytesW ?yF_h21 ?yN_h21 ?ym_h21 ?yi_h21 ?yr_h21 ?yz_h21 ?yh_h21 ?_; (case yF_h21 => k_asm); (case yN_h21 => k_asm); (case ym_h21 => k_mem); (case yi_h21 => assumption); (case yr_h21 => (rw [InvD.out i4]; exact dec_in _ (figs_in _))); (case yz_h21 => omega); (case yh_h21 => rfl); k_whole; intro _ _ _ _ _))
  k_steps
  · rename RaisedS _ _ _ _ _ _ _ _ _ => S9; rename Heap.UpToSlots _ _ => U9
    exact exc _ _ _ _ _ _ (fun h => by have := h.2; omega) FG' (raised_sub S9 fun p hp => List.mem_cons_of_mem _ hp) U9
  · rename RaisedS _ _ _ _ _ _ _ _ _ => S9; rename Heap.UpToSlots _ _ => U9
    exact exc _ _ _ _ _ _ (fun h => by have := h.2; omega) FG' (raised_sub S9 fun p hp => List.mem_cons_of_mem _ hp) U9
  · rename News h₀ L _ _ => kN9; rename Fr h₀ L _ _ => kF9; rw [InvD.out i4]; exact ok _ _ _ ⟨i9, by omega⟩ kF9 (fun p hp => kN9 p (List.mem_cons_of_mem _ hp))
  · rename RaisedS _ _ _ _ _ _ _ _ _ => S9; rename Heap.UpToSlots _ _ => U9
    exact exc _ _ _ _ _ _ (fun h => by have := h.1 (by assumption) b hmem; omega) FG' (raised_sub S9 fun p hp => List.mem_cons_of_mem _ (List.mem_append_left _ hp)) U9
end
end
section
open PySem.Calls
theorem fill6 : hd.heap_39 = hd.heap_39 ∧ Challenge.rw_pa0032_01 = Challenge.rw_pa0032_01 := by
  k_with_none
  w_top off
  k_fill
  k_with "ev" => (repeat' (first | exact EvI.const | (refine' EvI.name ?enF_h1 ?enV_h1; (case enF_h1 => k_asm); (case enV_h1 => exact rfl)) | apply EvI.add | apply EvI.sub | apply EvI.and3 | apply EvI.and15 | apply EvI.and63 | apply EvI.and65535 | apply EvI.or | apply EvI.shl8 | apply EvI.shl2 | apply EvI.shl4 | apply EvI.shl6 | apply EvI.shr2 | apply EvI.shr4 | apply EvI.shr | exact (rfl : _ = ((0 : Nat) : Int)) | exact (rfl : _ = ((2 : Nat) : Int)) | exact (rfl : _ = ((4 : Nat) : Int)) | exact (rfl : _ = ((6 : Nat) : Int)) | k_extra "ev more" | ((fail_if_success (with_reducible show EvI _ _ _ _ _ _)); (fail_if_success (with_reducible show EvC _ _ _ _ _ _)); omega)))
  k_with "evc" => (repeat' (first | apply EvC.and | apply EvL.one | apply EvL.cons | apply EvC.not | apply EvC.lt | apply EvC.le | apply EvC.gt | apply EvC.ge | apply EvC.eq | apply EvC.ne | apply EvC.lele | (refine' EvC.nameB ?enG_h2 ?enW_h2; (case enG_h2 => k_asm); (case enW_h2 => exact rfl)) | apply EvC.nameI | (k_extra "ev"; done)))
  k_with "my storeName" => (k_here; k_dflt (refine' storeM ?zmF_h3 ?zmN_h3 ?_ ?zma_h3 ?zmb_h3; (case zmF_h3 => k_asm); (case zmN_h3 => k_asm); (case zma_h3 => rfl); (case zmb_h3 => rfl); k_whole; intro _ _ _ _ _; (try k_sweep)))
  k_with "ne9" => first | exact h91 | exact h92 (_, _) (.head _) | exact h92 (_, _) (.tail _ (.head _)) | exact h92 (_, _) (.tail _ (.tail _ (.head _))) | exact h92 (_, _) (.tail _ (.tail _ (.tail _ (.head _)))) | exact stored_sub h93 (by decide) | (intro e9; subst e9; exact absurd h93 (by decide))
  k_with "same" => (intro z9 h91 h92 h93; (repeat (first | (with_reducible exact rfl) | (refine (if_neg ?sn9_h5).trans ?_; (case sn9_h5 => k_extra "ne9")))); done)
  k_with "same2" => (intro z9 h92 h93; (repeat (first | (with_reducible exact rfl) | (refine (if_neg ?sn9_h6).trans ?_; (case sn9_h6 => k_extra "ne9")))); done)
  k_with "my eval BinOp" => (k_here; k_dflt (refine' EvI.use ?zex_h7 ?_; (case zex_h7 => k_extra "ev"); k_whole; intro _ _))
  k_with "argv" => (repeat' (first | exact ArgV.nil | (refine' ArgV.name ?anV_h8 ?anX_h8 ?anD_h8 ?_; (case anV_h8 => exact rfl); (case anX_h8 => exact rfl); (case anD_h8 => decide))))
  k_with "my eval Call" => (k_here; (with_reducible show wpAny _ _ (eval (Expr.Call (Expr.Name _ _) (_ :: _) [] _) _) _ _ _); k_dflt (refine' evCall ?ecE_h9 ?ecF_h9 ?ecX_h9 ?ecT_h9 ?ecK_h9 ?ecP_h9 ?ecA_h9 ?_ ?ecH_h9 ?ecI_h9 ?ecD_h9 ?ecC_h9 ?ecB_h9; (case ecE_h9 => exact rfl); (case ecF_h9 => k_asm); (case ecX_h9 => k_asm); (case ecT_h9 => k_asm); (case ecK_h9 => k_is); (case ecP_h9 => k_is); (case ecA_h9 => k_extra "argv"); (case ecH_h9 => rfl); (case ecI_h9 => rfl); (case ecD_h9 => decide); (case ecC_h9 => rfl); (case ecB_h9 => rfl); k_whole))
  k_with "my isTrue Compare" => (k_here; k_dflt (refine' EvC.use ?zcx_h10 ?_ ?_; (case zcx_h10 => k_extra "evc"); (all_goals (k_whole; intro _ _)); (all_goals first | contradiction | (law_purse 20000 => (exfalso; omega)) | skip)))
  k_with "my execs cons" => (k_here; first
    | ((with_reducible show wpAny _ _ (execs (Stmt.Assign [Expr.Name _ _] _ _ :: _) _) _ _ _); k_dflt (refine' stAssign ?zsx_h11 ?zsF_h11 ?zsN_h11 ?_ ?zsa_h11 ?zsb_h11 ?zsc_h11; (case zsx_h11 => k_extra "ev"); (case zsF_h11 => k_asm); (case zsN_h11 => k_asm); (case zsa_h11 => rfl); (case zsb_h11 => rfl); (case zsc_h11 => rfl); k_whole; intro _ _ _ _ _ _; (try k_sweep)))
    | ((with_reducible show wpAny _ _ (execs (Stmt.AugAssign (Expr.Name _ _) Operator.Add _ _ :: _) _) _ _ _); k_dflt (refine' stAdd ?zsv_h11 ?zsx_h11 ?zsF_h11 ?zsN_h11 ?_ ?zsa_h11 ?zsb_h11; (case zsF_h11 => k_asm); (case zsv_h11 => exact rfl); (case zsx_h11 => k_extra "ev"); (case zsN_h11 => k_asm); (case zsa_h11 => rfl); (case zsb_h11 => rfl); k_whole; intro _ _ _ _ _ _; (try k_sweep)))
    | ((with_reducible show wpAny _ _ (execs (Stmt.AugAssign (Expr.Name _ _) Operator.Sub _ _ :: _) _) _ _ _); k_dflt (refine' stSub ?zsv_h11 ?zsx_h11 ?zsF_h11 ?zsN_h11 ?_ ?zsa_h11 ?zsb_h11; (case zsF_h11 => k_asm); (case zsv_h11 => exact rfl); (case zsx_h11 => k_extra "ev"); (case zsN_h11 => k_asm); (case zsa_h11 => rfl); (case zsb_h11 => rfl); k_whole; intro _ _ _ _ _ _; (try k_sweep)))
    | ((with_reducible show wpAny _ _ (execs (Stmt.Expr (Expr.Call (Expr.Attribute (Expr.Name _ _) _ _) [_] [] _) _ :: _) _) _ _ _); k_dflt (refine' stAppend ?zpF_h11 ?zpv_h11 ?zpN_h11 ?zpm_h11 ?zpy_h11 ?zpU_h11 ?zpz_h11 ?_ ?zpa_h11 ?zpb_h11 ?zpc_h11 ?zpd_h11 ?zpe_h11 ?zpf_h11 ?zpg_h11; (case zpF_h11 => k_asm); (case zpv_h11 => exact rfl); (case zpN_h11 => k_asm); (case zpm_h11 => first | k_mem | k_memK | (with_unfolding_all k_mem)); (case zpy_h11 => k_extra "ev"); (case zpU_h11 => (intro _; k_upd)); (case zpz_h11 => size_fits); (case zpa_h11 => rfl); (case zpb_h11 => rfl); (case zpc_h11 => decide); (case zpd_h11 => rfl); (case zpe_h11 => rfl); (case zpf_h11 => rfl); (case zpg_h11 => rfl); k_whole; intro _ _ _ _ _; (try k_sweep)))
    | ((with_reducible show wpAny _ _ (execs (Stmt.If _ _ [] _ :: _) _) _ _ _); k_dflt (refine' stIf0 ?zix_h11 ?_ ?_; (case zix_h11 => k_extra "evc"); (all_goals (k_whole; intro _ _)); (all_goals first | contradiction | (law_purse 20000 => (exfalso; omega)) | skip)))
    | ((with_reducible show wpAny _ _ (execs (Stmt.If _ _ _ _ :: _) _) _ _ _); k_dflt (refine' stIf ?zjx_h11 ?_; (case zjx_h11 => k_extra "evc"); k_whole; intro _; refine ⟨?_, ?_⟩; (all_goals intro _ _); (all_goals first | contradiction | (law_purse 20000 => (exfalso; omega)) | skip)))
    | k_fold)
  k_with "my getMethod bytes" => (k_here; with_reducible refine method_translate ?_)
  exact ⟨rfl, rfl⟩
/-- a text's codes -/
def codes (x : Str) : List Int := x.cps.toList.map (fun (c : Nat) => (c : Int))
def Ascii (x : Str) : Prop := (∀ c ∈ x.cps.toList, c < 128) ∧ x.length ≤ 500000
theorem bInts_text {x : Str} (h : Ascii x) : KBw.bInts (x.cps.map (·.toUInt8)) = codes x := by
  unfold KBw.bInts codes
  rw [Array.toList_map, List.map_map]
  refine List.map_congr_left fun c hc => ?_
  have := h.1 c hc
  show (((UInt8.ofNat c).toNat : Nat) : Int) = (c : Int)
  rw [UInt8.toNat_ofNat']
  omega
section
variable {w : World} {mean : ExcName → Option Value} {mg mb : Str → Option Value}
def Loose (l : List Int) : Prop := (∀ c ∈ l, c ≠ 61) ∧ (figs l).length % 4 = 0
def Strict (l : List Int) : Prop := (∀ c ∈ l, c ≠ 61 ∧ b64v c < 64) ∧ (figs l).length % 4 = 0
theorem takes_loose {l : List Int} (h : Loose l) : Takes false l := ⟨fun q => (nomatch q), h.2⟩
theorem takes_strict {l : List Int} (h : Strict l) : Takes true l := ⟨fun _ c hc => (h.1 c hc).2, h.2⟩
theorem size_text (x : Str) : (x.cps.map (·.toUInt8)).size = x.length := by rw [Array.size_map]; rfl
theorem c_dec_loose (x : Str) (tk : Tok) : Says w mean mg mb 102 3 (fun _ => Ascii x ∧ Loose (codes x)) [.str x tk] [] (fun _ _ r => ∃ t, r = .bytes (byteArr (decL (figs (codes x)))) t) := by
  unfold Says
  intro dp un gd cn cs a ccd cl outer A₀ base h₀ L m s Q E B F X T hk hd hu hp hret
  refine wpAny_call ?_
  refine' enter (binds := [(Str.ofString "s", .str x tk), (Str.ofString "altchars", .none), (Str.ofString "validate", .bool false)]) ?k1 ?k2 ?k3 ?k5 ?kA ?kF ?kK ?k6 ?k7 ?k8 ?k9 ?kB ?_ ?c2 ?c3 ?c4 ?c5; (case kA => exact rfl); (case kF => exact rfl); (case kK => assumption); (case k1 => k_asm); (case k2 => k_asm); (case k3 => k_asm); (case k5 => k_asm); (case k6 => k_is); (case k7 => k_is); (case k8 => ktr_room); (case k9 => first | exact BindsTo.of_eq rfl | exact binds_K (by k_in) rfl (by k_is) rfl rfl rfl | fail "BINDS"); (case c5 => decide); (case kB => exact locs rfl); (case c2 => exact rfl); (case c3 => exact rfl); (case c4 => exact rfl); k_whole; intro g' L' h' hg' FG' F' N' B' X' T'; (try dsimp only); (try k_lift B'); (try (refine letA ?_; intro env1 A1)); (try k_fold)
  have e := bInts_text hp.1
  have z := size_text x
  have p1 : (∀ c ∈ x.cps.toList, c < 128) ∧ x.length ≤ 500000 := hp.1
  have hz9 : (x.cps.map (·.toUInt8)).size ≤ 500000 := by rw [z]; exact hp.1.2
  have h619 : ∀ c ∈ KBw.bInts (x.cps.map (·.toUInt8)), c ≠ 61 := by rw [e]; exact hp.2.1
  have hT9 : Takes false (KBw.bInts (x.cps.map (·.toUInt8))) := by rw [e]; exact takes_loose hp.2
  k_with "call ref" => (refine' use (c_bfdd_str _ _) ?k1_h13 ?k2_h13 ?k3_h13 ?k4_h13 ?k5_h13 ?kK_h13 ?kd_h13 ?ku_h13 ?kp_h13 ?_; (case k1_h13 => k_asm); (case k2_h13 => k_asm); (case k3_h13 => k_asm); (case k4_h13 => k_asm); (case k5_h13 => k_asm); (case kK_h13 => first | exact rfl | assumption); (case kd_h13 => ktr_room); (case ku_h13 => ktr_units); (case kp_h13 => first | exact trivial | assumption); intro r9 h9 tk9 F9 N9 S9 P9; obtain ⟨t9, rfl⟩ := P9; (try dsimp only); (try k_fold))
  k_with "call ref" => (refine' r_a2b _ _ _ hz9 h619 ?k1_h14 ?k2_h14 ?k3_h14 ?k4_h14 ?k5_h14 ?kK_h14 ?kd_h14 ?ku_h14 ?gok_h14 ?gexc_h14; (case k1_h14 => k_asm); (case k2_h14 => k_asm); (case k3_h14 => k_asm); (case k4_h14 => k_asm); (case k5_h14 => k_asm); (case kK_h14 => first | exact rfl | assumption); (case kd_h14 => ktr_room); (case ku_h14 => ktr_units); (case gexc_h14 => (intro g2 e9 t9 vs9 h9 tk9 no9; exact absurd hT9 no9)); (case' gok_h14 => (intro t9 h9 tk9 T9 F9 N9; (try dsimp only); (try k_fold))))
  k_steps
  all_goals (exact hret _ _ _ (kept9 hg' (by assumption)) (exBytes (by rw [e])))
theorem c_dec_strict (x : Str) (tk : Tok) : Says w mean mg mb 102 3 (fun _ => Ascii x ∧ Strict (codes x)) [.str x tk] [(Str.ofString "validate", .bool true)] (fun _ _ r => ∃ t, r = .bytes (byteArr (decL (figs (codes x)))) t) := by
  unfold Says
  intro dp un gd cn cs a ccd cl outer A₀ base h₀ L m s Q E B F X T hk hd hu hp hret
  refine wpAny_call ?_
  refine' enter (binds := [(Str.ofString "s", .str x tk), (Str.ofString "altchars", .none), (Str.ofString "validate", .bool true)]) ?k1 ?k2 ?k3 ?k5 ?kA ?kF ?kK ?k6 ?k7 ?k8 ?k9 ?kB ?_ ?c2 ?c3 ?c4 ?c5; (case kA => exact rfl); (case kF => exact rfl); (case kK => assumption); (case k1 => k_asm); (case k2 => k_asm); (case k3 => k_asm); (case k5 => k_asm); (case k6 => k_is); (case k7 => k_is); (case k8 => ktr_room); (case k9 => first | exact BindsTo.of_eq rfl | exact binds_K (by k_in) rfl (by k_is) rfl rfl rfl | fail "BINDS"); (case c5 => decide); (case kB => exact locs rfl); (case c2 => exact rfl); (case c3 => exact rfl); (case c4 => exact rfl); k_whole; intro g' L' h' hg' FG' F' N' B' X' T'; (try dsimp only); (try k_lift B'); (try (refine letA ?_; intro env1 A1)); (try k_fold)
  have e := bInts_text hp.1
  have z := size_text x
  have p1 : (∀ c ∈ x.cps.toList, c < 128) ∧ x.length ≤ 500000 := hp.1
  have hz9 : (x.cps.map (·.toUInt8)).size ≤ 500000 := by rw [z]; exact hp.1.2
  have h619 : ∀ c ∈ KBw.bInts (x.cps.map (·.toUInt8)), c ≠ 61 := by rw [e]; exact fun c hc => (hp.2.1 c hc).1
  have hT9 : Takes true (KBw.bInts (x.cps.map (·.toUInt8))) := by rw [e]; exact takes_strict hp.2
  k_with "call ref" => (refine' use (c_bfdd_str _ _) ?k1_h15 ?k2_h15 ?k3_h15 ?k4_h15 ?k5_h15 ?kK_h15 ?kd_h15 ?ku_h15 ?kp_h15 ?_; (case k1_h15 => k_asm); (case k2_h15 => k_asm); (case k3_h15 => k_asm); (case k4_h15 => k_asm); (case k5_h15 => k_asm); (case kK_h15 => first | exact rfl | assumption); (case kd_h15 => ktr_room); (case ku_h15 => ktr_units); (case kp_h15 => first | exact trivial | assumption); intro r9 h9 tk9 F9 N9 S9 P9; obtain ⟨t9, rfl⟩ := P9; (try dsimp only); (try k_fold))
  k_with "call ref" => (refine' r_a2b _ _ _ hz9 h619 ?k1_h16 ?k2_h16 ?k3_h16 ?k4_h16 ?k5_h16 ?kK_h16 ?kd_h16 ?ku_h16 ?gok_h16 ?gexc_h16; (case k1_h16 => k_asm); (case k2_h16 => k_asm); (case k3_h16 => k_asm); (case k4_h16 => k_asm); (case k5_h16 => k_asm); (case kK_h16 => first | exact rfl | assumption); (case kd_h16 => ktr_room); (case ku_h16 => ktr_units); (case gexc_h16 => (intro g2 e9 t9 vs9 h9 tk9 no9; exact absurd hT9 no9)); (case' gok_h16 => (intro t9 h9 tk9 T9 F9 N9; (try dsimp only); (try k_fold))))
  k_steps
  all_goals (exact hret _ _ _ (kept9 hg' (by assumption)) (exBytes (by rw [e])))
theorem c_dec_bytes (x : Array UInt8) (tk : Tok) : Says w mean mg mb 102 3 (fun _ => x.size ≤ 500000 ∧ Loose (KBw.bInts x)) [.bytes x tk] [] (fun _ _ r => ∃ t, r = .bytes (byteArr (decL (figs (KBw.bInts x)))) t) := by
  unfold Says
  intro dp un gd cn cs a ccd cl outer A₀ base h₀ L m s Q E B F X T hk hd hu hp hret
  refine wpAny_call ?_
  refine' enter (binds := [(Str.ofString "s", .bytes x tk), (Str.ofString "altchars", .none), (Str.ofString "validate", .bool false)]) ?k1 ?k2 ?k3 ?k5 ?kA ?kF ?kK ?k6 ?k7 ?k8 ?k9 ?kB ?_ ?c2 ?c3 ?c4 ?c5; (case kA => exact rfl); (case kF => exact rfl); (case kK => assumption); (case k1 => k_asm); (case k2 => k_asm); (case k3 => k_asm); (case k5 => k_asm); (case k6 => k_is); (case k7 => k_is); (case k8 => ktr_room); (case k9 => first | exact BindsTo.of_eq rfl | exact binds_K (by k_in) rfl (by k_is) rfl rfl rfl | fail "BINDS"); (case c5 => decide); (case kB => exact locs rfl); (case c2 => exact rfl); (case c3 => exact rfl); (case c4 => exact rfl); k_whole; intro g' L' h' hg' FG' F' N' B' X' T'; (try dsimp only); (try k_lift B'); (try (refine letA ?_; intro env1 A1)); (try k_fold)
  have hz9 : x.size ≤ 500000 := hp.1
  have h619 : ∀ c ∈ KBw.bInts x, c ≠ 61 := hp.2.1
  have hT9 : Takes false (KBw.bInts x) := takes_loose hp.2
  k_with "call ref" => (refine' use (c_bfdd_bytes _ _) ?k1_h17 ?k2_h17 ?k3_h17 ?k4_h17 ?k5_h17 ?kK_h17 ?kd_h17 ?ku_h17 ?kp_h17 ?_; (case k1_h17 => k_asm); (case k2_h17 => k_asm); (case k3_h17 => k_asm); (case k4_h17 => k_asm); (case k5_h17 => k_asm); (case kK_h17 => first | exact rfl | assumption); (case kd_h17 => ktr_room); (case ku_h17 => ktr_units); (case kp_h17 => first | exact trivial | assumption); intro r9 h9 tk9 F9 N9 S9 P9; subst P9; (try dsimp only); (try k_fold))
  k_with "call ref" => (refine' r_a2b _ _ _ hz9 h619 ?k1_h18 ?k2_h18 ?k3_h18 ?k4_h18 ?k5_h18 ?kK_h18 ?kd_h18 ?ku_h18 ?gok_h18 ?gexc_h18; (case k1_h18 => k_asm); (case k2_h18 => k_asm); (case k3_h18 => k_asm); (case k4_h18 => k_asm); (case k5_h18 => k_asm); (case kK_h18 => first | exact rfl | assumption); (case kd_h18 => ktr_room); (case ku_h18 => ktr_units); (case gexc_h18 => (intro g2 e9 t9 vs9 h9 tk9 no9; exact absurd hT9 no9)); (case' gok_h18 => (intro t9 h9 tk9 T9 F9 N9; (try dsimp only); (try k_fold))))
  k_steps
  all_goals (exact hret _ _ _ (kept9 hg' (by assumption)) ⟨_, rfl⟩)
theorem c_urldec (x : Str) (tk : Tok) : Says w mean mg mb 123 4 (fun _ => Ascii x ∧ Loose (KBw.bInts (trans tdec (x.cps.map (·.toUInt8))))) [.str x tk] [] (fun _ _ r => ∃ t, r = .bytes (byteArr (decL (figs (KBw.bInts (trans tdec (x.cps.map (·.toUInt8))))))) t) := by
  unfold Says
  intro dp un gd cn cs a ccd cl outer A₀ base h₀ L m s Q E B F X T hk hd hu hp hret
  refine wpAny_call ?_
  refine' enter (binds := [(Str.ofString "s", .str x tk)]) ?k1 ?k2 ?k3 ?k5 ?kA ?kF ?kK ?k6 ?k7 ?k8 ?k9 ?kB ?_ ?c2 ?c3 ?c4 ?c5; (case kA => exact rfl); (case kF => exact rfl); (case kK => assumption); (case k1 => k_asm); (case k2 => k_asm); (case k3 => k_asm); (case k5 => k_asm); (case k6 => k_is); (case k7 => k_is); (case k8 => ktr_room); (case k9 => first | exact BindsTo.of_eq rfl | exact binds_K (by k_in) rfl (by k_is) rfl rfl rfl | fail "BINDS"); (case c5 => decide); (case kB => exact locs rfl); (case c2 => exact rfl); (case c3 => exact rfl); (case c4 => exact rfl); k_whole; intro g' L' h' hg' FG' F' N' B' X' T'; (try dsimp only); (try k_lift B'); (try (refine letA ?_; intro env1 A1)); (try k_fold)
  have p1 : (∀ c ∈ x.cps.toList, c < 128) ∧ x.length ≤ 500000 := hp.1
  have z := size_text x
  have p2 : (trans tdec (x.cps.map (·.toUInt8))).size ≤ 500000 ∧ Loose (KBw.bInts (trans tdec (x.cps.map (·.toUInt8)))) := ⟨by unfold trans; rw [Array.size_map, z]; exact hp.1.2, hp.2⟩
  k_with "call ref" => (refine' use (c_bfdd_str _ _) ?k1_h19 ?k2_h19 ?k3_h19 ?k4_h19 ?k5_h19 ?kK_h19 ?kd_h19 ?ku_h19 ?kp_h19 ?_; (case k1_h19 => k_asm); (case k2_h19 => k_asm); (case k3_h19 => k_asm); (case k4_h19 => k_asm); (case k5_h19 => k_asm); (case kK_h19 => first | exact rfl | assumption); (case kd_h19 => ktr_room); (case ku_h19 => ktr_units); (case kp_h19 => first | exact trivial | assumption); intro r9 h9 tk9 F9 N9 S9 P9; obtain ⟨t9, rfl⟩ := P9; (try dsimp only); (try k_fold))
  k_with "call ref" => (refine' use (c_dec_bytes _ _) ?k1_h20 ?k2_h20 ?k3_h20 ?k4_h20 ?k5_h20 ?kK_h20 ?kd_h20 ?ku_h20 ?kp_h20 ?_; (case k1_h20 => k_asm); (case k2_h20 => k_asm); (case k3_h20 => k_asm); (case k4_h20 => k_asm); (case k5_h20 => k_asm); (case kK_h20 => first | exact rfl | assumption); (case kd_h20 => ktr_room); (case ku_h20 => ktr_units); (case kp_h20 => first | exact trivial | assumption); intro r9 h9 tk9 F9 N9 S9 P9; obtain ⟨t9, rfl⟩ := P9; (try dsimp only); (try k_fold))
  k_with "call builtin:bytes.translate" => (k_here; k_dflt (refine' (show _ → _ → _ → wpAny _ _ _ _ _ _ from translate (tb := tdec)) ?a_h21 ?b_h21 ?_; (case a_h21 => decide +kernel); (case b_h21 => (rw [z, PySem.sizeLine_eq]; have h2 := hp.1.2; omega)); k_whole; intro _ _))
  k_steps
  all_goals (exact hret _ _ _ (kept9 hg' (by assumption)) ⟨_, rfl⟩)
theorem c_strict_ok (x : Str) (tk : Tok) : Says w mean mg mb 166 5 (fun _ => Ascii x ∧ Strict (codes x)) [.str x tk] [] (fun _ _ r => ∃ t, r = .bytes (byteArr (decL (figs (codes x)))) t) := by
  unfold Says
  intro dp un gd cn cs a ccd cl outer A₀ base h₀ L m s Q E B F X T hk hd hu hp hret
  refine wpAny_call ?_
  refine' enter (binds := [(Str.ofString "text", .str x tk)]) ?k1 ?k2 ?k3 ?k5 ?kA ?kF ?kK ?k6 ?k7 ?k8 ?k9 ?kB ?_ ?c2 ?c3 ?c4 ?c5; (case kA => exact rfl); (case kF => exact rfl); (case kK => assumption); (case k1 => k_asm); (case k2 => k_asm); (case k3 => k_asm); (case k5 => k_asm); (case k6 => k_is); (case k7 => k_is); (case k8 => ktr_room); (case k9 => first | exact BindsTo.of_eq rfl | exact binds_K (by k_in) rfl (by k_is) rfl rfl rfl | fail "BINDS"); (case c5 => decide); (case kB => exact locs rfl); (case c2 => exact rfl); (case c3 => exact rfl); (case c4 => exact rfl); k_whole; intro g' L' h' hg' FG' F' N' B' X' T'; (try dsimp only); (try k_lift B'); (try (refine letA ?_; intro env1 A1)); (try k_fold)
  k_with "call ref" => (refine' use (c_dec_strict _ _) ?k1_h22 ?k2_h22 ?k3_h22 ?k4_h22 ?k5_h22 ?kK_h22 ?kd_h22 ?ku_h22 ?kp_h22 ?_; (case k1_h22 => k_asm); (case k2_h22 => k_asm); (case k3_h22 => k_asm); (case k4_h22 => k_asm); (case k5_h22 => k_asm); (case kK_h22 => first | exact rfl | assumption); (case kd_h22 => ktr_room); (case ku_h22 => ktr_units); (case kp_h22 => first | exact trivial | assumption); intro r9 h9 tk9 F9 N9 S9 P9; obtain ⟨t9, rfl⟩ := P9; (try dsimp only); (try k_fold))
  k_steps
  all_goals (exact hret _ _ _ (kept9 hg' (by assumption)) ⟨_, rfl⟩)
theorem c_loose_ok (x : Str) (tk : Tok) : Says w mean mg mb 173 5 (fun _ => Ascii x ∧ Loose (codes x)) [.str x tk] [] (fun _ _ r => ∃ t, r = .bytes (byteArr (decL (figs (codes x)))) t) := by
  unfold Says
  intro dp un gd cn cs a ccd cl outer A₀ base h₀ L m s Q E B F X T hk hd hu hp hret
  refine wpAny_call ?_
  refine' enter (binds := [(Str.ofString "text", .str x tk)]) ?k1 ?k2 ?k3 ?k5 ?kA ?kF ?kK ?k6 ?k7 ?k8 ?k9 ?kB ?_ ?c2 ?c3 ?c4 ?c5; (case kA => exact rfl); (case kF => exact rfl); (case kK => assumption); (case k1 => k_asm); (case k2 => k_asm); (case k3 => k_asm); (case k5 => k_asm); (case k6 => k_is); (case k7 => k_is); (case k8 => ktr_room); (case k9 => first | exact BindsTo.of_eq rfl | exact binds_K (by k_in) rfl (by k_is) rfl rfl rfl | fail "BINDS"); (case c5 => decide); (case kB => exact locs rfl); (case c2 => exact rfl); (case c3 => exact rfl); (case c4 => exact rfl); k_whole; intro g' L' h' hg' FG' F' N' B' X' T'; (try dsimp only); (try k_lift B'); (try (refine letA ?_; intro env1 A1)); (try k_fold)
  k_with "call ref" => (refine' use (c_dec_loose _ _) ?k1_h23 ?k2_h23 ?k3_h23 ?k4_h23 ?k5_h23 ?kK_h23 ?kd_h23 ?ku_h23 ?kp_h23 ?_; (case k1_h23 => k_asm); (case k2_h23 => k_asm); (case k3_h23 => k_asm); (case k4_h23 => k_asm); (case k5_h23 => k_asm); (case kK_h23 => first | exact rfl | assumption); (case kd_h23 => ktr_room); (case ku_h23 => ktr_units); (case kp_h23 => first | exact trivial | assumption); intro r9 h9 tk9 F9 N9 S9 P9; obtain ⟨t9, rfl⟩ := P9; (try dsimp only); (try k_fold))
  k_steps
  all_goals (exact hret _ _ _ (kept9 hg' (by assumption)) ⟨_, rfl⟩)
end
end
section
open PySem.Calls
theorem fill7 : hd.heap_39 = hd.heap_39 ∧ Challenge.rw_pa0032_01 = Challenge.rw_pa0032_01 := by
  k_with_none
  w_top off
  k_fill
  k_with "ev" => (repeat' (first | exact EvI.const | (refine' EvI.name ?enF_h1 ?enV_h1; (case enF_h1 => k_asm); (case enV_h1 => exact rfl)) | apply EvI.add | apply EvI.sub | apply EvI.and3 | apply EvI.and15 | apply EvI.and63 | apply EvI.and65535 | apply EvI.or | apply EvI.shl8 | apply EvI.shl2 | apply EvI.shl4 | apply EvI.shl6 | apply EvI.shr2 | apply EvI.shr4 | apply EvI.shr | exact (rfl : _ = ((0 : Nat) : Int)) | exact (rfl : _ = ((2 : Nat) : Int)) | exact (rfl : _ = ((4 : Nat) : Int)) | exact (rfl : _ = ((6 : Nat) : Int)) | k_extra "ev more" | ((fail_if_success (with_reducible show EvI _ _ _ _ _ _)); (fail_if_success (with_reducible show EvC _ _ _ _ _ _)); omega)))
  k_with "evc" => (repeat' (first | apply EvC.and | apply EvL.one | apply EvL.cons | apply EvC.not | apply EvC.lt | apply EvC.le | apply EvC.gt | apply EvC.ge | apply EvC.eq | apply EvC.ne | apply EvC.lele | (refine' EvC.nameB ?enG_h2 ?enW_h2; (case enG_h2 => k_asm); (case enW_h2 => exact rfl)) | apply EvC.nameI | (k_extra "ev"; done)))
  k_with "my storeName" => (k_here; k_dflt (refine' storeM ?zmF_h3 ?zmN_h3 ?_ ?zma_h3 ?zmb_h3; (case zmF_h3 => k_asm); (case zmN_h3 => k_asm); (case zma_h3 => rfl); (case zmb_h3 => rfl); k_whole; intro _ _ _ _ _; (try k_sweep)))
  k_with "ne9" => first | exact h91 | exact h92 (_, _) (.head _) | exact h92 (_, _) (.tail _ (.head _)) | exact h92 (_, _) (.tail _ (.tail _ (.head _))) | exact h92 (_, _) (.tail _ (.tail _ (.tail _ (.head _)))) | exact stored_sub h93 (by decide) | (intro e9; subst e9; exact absurd h93 (by decide))
  k_with "same" => (intro z9 h91 h92 h93; (repeat (first | (with_reducible exact rfl) | (refine (if_neg ?sn9_h5).trans ?_; (case sn9_h5 => k_extra "ne9")))); done)
  k_with "same2" => (intro z9 h92 h93; (repeat (first | (with_reducible exact rfl) | (refine (if_neg ?sn9_h6).trans ?_; (case sn9_h6 => k_extra "ne9")))); done)
  k_with "my eval BinOp" => (k_here; k_dflt (refine' EvI.use ?zex_h7 ?_; (case zex_h7 => k_extra "ev"); k_whole; intro _ _))
  k_with "argv" => (repeat' (first | exact ArgV.nil | (refine' ArgV.name ?anV_h8 ?anX_h8 ?anD_h8 ?_; (case anV_h8 => exact rfl); (case anX_h8 => exact rfl); (case anD_h8 => decide))))
  k_with "my eval Call" => (k_here; (with_reducible show wpAny _ _ (eval (Expr.Call (Expr.Name _ _) (_ :: _) [] _) _) _ _ _); k_dflt (refine' evCall ?ecE_h9 ?ecF_h9 ?ecX_h9 ?ecT_h9 ?ecK_h9 ?ecP_h9 ?ecA_h9 ?_ ?ecH_h9 ?ecI_h9 ?ecD_h9 ?ecC_h9 ?ecB_h9; (case ecE_h9 => exact rfl); (case ecF_h9 => k_asm); (case ecX_h9 => k_asm); (case ecT_h9 => k_asm); (case ecK_h9 => k_is); (case ecP_h9 => k_is); (case ecA_h9 => k_extra "argv"); (case ecH_h9 => rfl); (case ecI_h9 => rfl); (case ecD_h9 => decide); (case ecC_h9 => rfl); (case ecB_h9 => rfl); k_whole))
  k_with "my isTrue Compare" => (k_here; k_dflt (refine' EvC.use ?zcx_h10 ?_ ?_; (case zcx_h10 => k_extra "evc"); (all_goals (k_whole; intro _ _)); (all_goals first | contradiction | (law_purse 20000 => (exfalso; omega)) | skip)))
  k_with "my execs cons" => (k_here; first
    | ((with_reducible show wpAny _ _ (execs (Stmt.Assign [Expr.Name _ _] _ _ :: _) _) _ _ _); k_dflt (refine' stAssign ?zsx_h11 ?zsF_h11 ?zsN_h11 ?_ ?zsa_h11 ?zsb_h11 ?zsc_h11; (case zsx_h11 => k_extra "ev"); (case zsF_h11 => k_asm); (case zsN_h11 => k_asm); (case zsa_h11 => rfl); (case zsb_h11 => rfl); (case zsc_h11 => rfl); k_whole; intro _ _ _ _ _ _; (try k_sweep)))
    | ((with_reducible show wpAny _ _ (execs (Stmt.AugAssign (Expr.Name _ _) Operator.Add _ _ :: _) _) _ _ _); k_dflt (refine' stAdd ?zsv_h11 ?zsx_h11 ?zsF_h11 ?zsN_h11 ?_ ?zsa_h11 ?zsb_h11; (case zsF_h11 => k_asm); (case zsv_h11 => exact rfl); (case zsx_h11 => k_extra "ev"); (case zsN_h11 => k_asm); (case zsa_h11 => rfl); (case zsb_h11 => rfl); k_whole; intro _ _ _ _ _ _; (try k_sweep)))
    | ((with_reducible show wpAny _ _ (execs (Stmt.AugAssign (Expr.Name _ _) Operator.Sub _ _ :: _) _) _ _ _); k_dflt (refine' stSub ?zsv_h11 ?zsx_h11 ?zsF_h11 ?zsN_h11 ?_ ?zsa_h11 ?zsb_h11; (case zsF_h11 => k_asm); (case zsv_h11 => exact rfl); (case zsx_h11 => k_extra "ev"); (case zsN_h11 => k_asm); (case zsa_h11 => rfl); (case zsb_h11 => rfl); k_whole; intro _ _ _ _ _ _; (try k_sweep)))
    | ((with_reducible show wpAny _ _ (execs (Stmt.Expr (Expr.Call (Expr.Attribute (Expr.Name _ _) _ _) [_] [] _) _ :: _) _) _ _ _); k_dflt (refine' stAppend ?zpF_h11 ?zpv_h11 ?zpN_h11 ?zpm_h11 ?zpy_h11 ?zpU_h11 ?zpz_h11 ?_ ?zpa_h11 ?zpb_h11 ?zpc_h11 ?zpd_h11 ?zpe_h11 ?zpf_h11 ?zpg_h11; (case zpF_h11 => k_asm); (case zpv_h11 => exact rfl); (case zpN_h11 => k_asm); (case zpm_h11 => first | k_mem | k_memK | (with_unfolding_all k_mem)); (case zpy_h11 => k_extra "ev"); (case zpU_h11 => (intro _; k_upd)); (case zpz_h11 => size_fits); (case zpa_h11 => rfl); (case zpb_h11 => rfl); (case zpc_h11 => decide); (case zpd_h11 => rfl); (case zpe_h11 => rfl); (case zpf_h11 => rfl); (case zpg_h11 => rfl); k_whole; intro _ _ _ _ _; (try k_sweep)))
    | ((with_reducible show wpAny _ _ (execs (Stmt.If _ _ [] _ :: _) _) _ _ _); k_dflt (refine' stIf0 ?zix_h11 ?_ ?_; (case zix_h11 => k_extra "evc"); (all_goals (k_whole; intro _ _)); (all_goals first | contradiction | (law_purse 20000 => (exfalso; omega)) | skip)))
    | ((with_reducible show wpAny _ _ (execs (Stmt.If _ _ _ _ :: _) _) _ _ _); k_dflt (refine' stIf ?zjx_h11 ?_; (case zjx_h11 => k_extra "evc"); k_whole; intro _; refine ⟨?_, ?_⟩; (all_goals intro _ _); (all_goals first | contradiction | (law_purse 20000 => (exfalso; omega)) | skip)))
    | k_fold)
  exact ⟨rfl, rfl⟩
section
variable {w : World} {mean : ExcName → Option Value} {mg mb : Str → Option Value}
theorem r_strict {A A₀ : Around} {base h₀ g₀ : Heap} {outer : List Env} {L a : Addr} {cn : Str} {nms : List (Str × NameKind)} {mo : List (Str × Const)} {ccd : Value} {m : Str → Option Value} {news : List (Addr × Obj)} {s : Shared} {Q E : Value → Shared → Prop} {dp un : Nat} {gd : Option (List Code)} (x : Str) (tkx : Tok) (hx : Ascii x) (h61 : ∀ c ∈ codes x, c ≠ 61) (hbad : ∃ c ∈ codes x, 64 ≤ b64v c)
    (B : Below A₀ base outer h₀) (F : Fr h₀ L s.heap m) (X : (hd.heap_39 w.params).In h₀) (N : News h₀ L s.heap news) (T : Top hd.view_39 LO mean mg mb h₀) (XB : (hd.heap_39 w.params).In base) (TB : Top hd.view_39 LO mean mg mb base) (D : KtsDicts (outer.filterMap (·.frame)) h₀) (T0 : KtsTurn (outer.filterMap (·.frame)) g₀ h₀)
    (hdp : dp + 5 < recursionLimit) (hun : un + 8 * 5 < cLine)
    (ret : ∀ t h' tk' h₀', KtsTurn (outer.filterMap (·.frame)) g₀ h₀' → Fr h₀' L h' m → News h₀' L h' news → Below A₀ base outer h₀' → (hd.heap_39 w.params).In h₀' → Top hd.view_39 LO mean mg mb h₀' → KtsDicts (outer.filterMap (·.frame)) h₀' → Q (.str (Str.ofString "refused") t) { s with heap := h', toks := tk' }) :
    wpAny (model PR w) (ktrTop dp un gd cn { kind := .function, names := nms, isGenerator := false, isCoroutine := false, more := mo } L a ccd [] outer) (call (.ref 166) [.str x tkx]) Q E s := by
  have e := bInts_text hx
  have z := size_text x
  have hz9 : (x.cps.map (·.toUInt8)).size ≤ 500000 := by rw [z]; exact hx.2
  have h619 : ∀ c ∈ KBw.bInts (x.cps.map (·.toUInt8)), c ≠ 61 := by rw [e]; exact h61
  have hT9 : ¬ Takes true (KBw.bInts (x.cps.map (·.toUInt8))) := by
    rw [e]; intro h; obtain ⟨c, hc, hb⟩ := hbad; have := h.1 rfl c hc; omega
  have p1 : (∀ c ∈ x.cps.toList, c < 128) ∧ x.length ≤ 500000 := hx
  k_with "call ref" => (k_dflt (show wpAny _ _ (call (.ref 102) [.str x _] [(Str.ofString "validate", .bool true)]) _ _ _; refine wpAny_call ?_; refine' W.code_def (f := 102) (binds := [(Str.ofString "s", .str x tkx), (Str.ofString "altchars", .none), (Str.ofString "validate", .bool true)]) ?k1_h12 ?k2_h12 ?k3_h12 ?k4_h12 ?k5_h12 ?kA_h12 ?kF_h12 ?kK_h12 ?k6_h12 ?k7_h12 ?k8_h12 ?k9_h12 ?kB_h12 ?_ ?c2_h12 ?c3_h12 ?c4_h12 ?c5_h12; (case kA_h12 => exact rfl); (case kF_h12 => exact rfl); (case kK_h12 => first | exact rfl | assumption); (case k1_h12 => k_asm); (case k2_h12 => k_asm); (case k3_h12 => k_asm); (case k4_h12 => k_asm); (case k5_h12 => k_asm); (case k6_h12 => k_is); (case k7_h12 => k_is); (case k8_h12 => ktr_room); (case k9_h12 => first | exact binds_K (by k_in) rfl (by k_is) rfl rfl rfl | exact BindsTo.of_eq rfl | fail "BINDS"); (case c5_h12 => decide); (case kB_h12 => exact locs rfl); (case c2_h12 => exact rfl); (case c3_h12 => exact rfl); (case c4_h12 => exact rfl); k_whole; intro g' L' h' FG' F' N' B' X' T'; (try dsimp only); (try k_lift B'); (try (refine letA ?_; intro env1 A1)); (try k_fold)))
  k_with "call ref" => (refine' use (c_bfdd_str _ _) ?k1_h13 ?k2_h13 ?k3_h13 ?k4_h13 ?k5_h13 ?kK_h13 ?kd_h13 ?ku_h13 ?kp_h13 ?_; (case k1_h13 => k_asm); (case k2_h13 => k_asm); (case k3_h13 => k_asm); (case k4_h13 => k_asm); (case k5_h13 => k_asm); (case kK_h13 => first | exact rfl | assumption); (case kd_h13 => ktr_room); (case ku_h13 => ktr_units); (case kp_h13 => first | exact trivial | assumption); intro r9 h9 tk9 F9 N9 S9 P9; obtain ⟨t9, rfl⟩ := P9; (try dsimp only); (try k_fold))
  k_with "call ref" => (refine' r_a2b _ _ _ hz9 h619 ?k1_h14 ?k2_h14 ?k3_h14 ?k4_h14 ?k5_h14 ?kK_h14 ?kd_h14 ?ku_h14 ?gok_h14 ?gexc_h14; (case k1_h14 => k_asm); (case k2_h14 => k_asm); (case k3_h14 => k_asm); (case k4_h14 => k_asm); (case k5_h14 => k_asm); (case kK_h14 => first | exact rfl | assumption); (case kd_h14 => ktr_room); (case ku_h14 => ktr_units); (case gok_h14 => (intro t9 h9 tk9 T9; exact absurd T9 hT9)); (case' gexc_h14 => (intro g2 e9 t9 vs9 h9 tk9 no9 F9 S9 U9; have R9 := S9.toK; (try dsimp only at S9 R9 U9 ⊢))))
  refine wpAny_call ?_
  (refine' code_defS (binds := [(Str.ofString "text", .str x tkx)]) ?k1 ?k2 ?k3 ?k4 ?k5 ?XB ?TB ?D ?T0 ?kA ?k6 ?k7 ?k8 ?k9 ?kB ?_ ?cK ?c2 ?c3 ?c4 ?c5; (case kA => exact rfl); (case k2 => k_asm); (case k1 => k_asm); (case XB => assumption); (case TB => assumption); (case D => assumption); (case T0 => first | assumption | exact KtsTurn.refl); (case k3 => k_asm); (case k4 => k_asm); (case k5 => k_asm); (case k6 => k_is); (case k7 => k_is); (case k8 => ktr_room); (case k9 => first | exact binds_K (by k_in) rfl (by k_is) rfl rfl rfl | exact BindsTo.of_eq rfl | fail "kts_go: no rule for these arguments"); (case kB => exact locs rfl); (case cK => exact rfl); (case c2 => exact rfl); (case c3 => exact rfl); (case c4 => exact rfl); (case c5 => decide); k_whole; intro g' L' h' FG' F' N' B' X' T' D'; (try dsimp only); (try k_lift B'); (try k_fold))
  k_steps
  all_goals (refine' ret _ _ _ _ ?za ?zb ?zc ?zd ?ze ?zf ?zg; (case zb => assumption); (case za => assumption); (case zc => first | assumption | exact cb_drop (by assumption) (fun p hp => List.mem_cons_of_mem _ (List.mem_append_left _ hp)) | exact cb_drop (by assumption) (fun p hp => List.mem_cons_of_mem _ hp)); (case zd => assumption); (case ze => assumption); (case zf => assumption); (case zg => assumption))
theorem r_loose {A A₀ : Around} {base h₀ g₀ : Heap} {outer : List Env} {L a : Addr} {cn : Str} {nms : List (Str × NameKind)} {mo : List (Str × Const)} {ccd : Value} {m : Str → Option Value} {news : List (Addr × Obj)} {s : Shared} {Q E : Value → Shared → Prop} {dp un : Nat} {gd : Option (List Code)} (x : Str) (tkx : Tok) (hx : Ascii x) (h61 : ∀ c ∈ codes x, c ≠ 61) (hbad : (figs (codes x)).length % 4 ≠ 0)
    (B : Below A₀ base outer h₀) (F : Fr h₀ L s.heap m) (X : (hd.heap_39 w.params).In h₀) (N : News h₀ L s.heap news) (T : Top hd.view_39 LO mean mg mb h₀) (XB : (hd.heap_39 w.params).In base) (TB : Top hd.view_39 LO mean mg mb base) (D : KtsDicts (outer.filterMap (·.frame)) h₀) (T0 : KtsTurn (outer.filterMap (·.frame)) g₀ h₀)
    (hdp : dp + 5 < recursionLimit) (hun : un + 8 * 5 < cLine)
    (ret : ∀ t h' tk' h₀', KtsTurn (outer.filterMap (·.frame)) g₀ h₀' → Fr h₀' L h' m → News h₀' L h' news → Below A₀ base outer h₀' → (hd.heap_39 w.params).In h₀' → Top hd.view_39 LO mean mg mb h₀' → KtsDicts (outer.filterMap (·.frame)) h₀' → Q (.str (Str.ofString "refused") t) { s with heap := h', toks := tk' }) :
    wpAny (model PR w) (ktrTop dp un gd cn { kind := .function, names := nms, isGenerator := false, isCoroutine := false, more := mo } L a ccd [] outer) (call (.ref 173) [.str x tkx]) Q E s := by
  have e := bInts_text hx
  have z := size_text x
  have hz9 : (x.cps.map (·.toUInt8)).size ≤ 500000 := by rw [z]; exact hx.2
  have h619 : ∀ c ∈ KBw.bInts (x.cps.map (·.toUInt8)), c ≠ 61 := by rw [e]; exact h61
  have hT9 : ¬ Takes false (KBw.bInts (x.cps.map (·.toUInt8))) := by rw [e]; exact fun h => hbad h.2
  have p1 : (∀ c ∈ x.cps.toList, c < 128) ∧ x.length ≤ 500000 := hx
  k_with "call ref" => (k_dflt (show wpAny _ _ (call (.ref 102) [.str x _] []) _ _ _; refine wpAny_call ?_; refine' W.code_def (f := 102) (binds := [(Str.ofString "s", .str x tkx), (Str.ofString "altchars", .none), (Str.ofString "validate", .bool false)]) ?k1_h15 ?k2_h15 ?k3_h15 ?k4_h15 ?k5_h15 ?kA_h15 ?kF_h15 ?kK_h15 ?k6_h15 ?k7_h15 ?k8_h15 ?k9_h15 ?kB_h15 ?_ ?c2_h15 ?c3_h15 ?c4_h15 ?c5_h15; (case kA_h15 => exact rfl); (case kF_h15 => exact rfl); (case kK_h15 => first | exact rfl | assumption); (case k1_h15 => k_asm); (case k2_h15 => k_asm); (case k3_h15 => k_asm); (case k4_h15 => k_asm); (case k5_h15 => k_asm); (case k6_h15 => k_is); (case k7_h15 => k_is); (case k8_h15 => ktr_room); (case k9_h15 => first | exact binds_K (by k_in) rfl (by k_is) rfl rfl rfl | exact BindsTo.of_eq rfl | fail "BINDS"); (case c5_h15 => decide); (case kB_h15 => exact locs rfl); (case c2_h15 => exact rfl); (case c3_h15 => exact rfl); (case c4_h15 => exact rfl); k_whole; intro g' L' h' FG' F' N' B' X' T'; (try dsimp only); (try k_lift B'); (try (refine letA ?_; intro env1 A1)); (try k_fold)))
  k_with "call ref" => (refine' use (c_bfdd_str _ _) ?k1_h16 ?k2_h16 ?k3_h16 ?k4_h16 ?k5_h16 ?kK_h16 ?kd_h16 ?ku_h16 ?kp_h16 ?_; (case k1_h16 => k_asm); (case k2_h16 => k_asm); (case k3_h16 => k_asm); (case k4_h16 => k_asm); (case k5_h16 => k_asm); (case kK_h16 => first | exact rfl | assumption); (case kd_h16 => ktr_room); (case ku_h16 => ktr_units); (case kp_h16 => first | exact trivial | assumption); intro r9 h9 tk9 F9 N9 S9 P9; obtain ⟨t9, rfl⟩ := P9; (try dsimp only); (try k_fold))
  k_with "call ref" => (refine' r_a2b _ _ _ hz9 h619 ?k1_h17 ?k2_h17 ?k3_h17 ?k4_h17 ?k5_h17 ?kK_h17 ?kd_h17 ?ku_h17 ?gok_h17 ?gexc_h17; (case k1_h17 => k_asm); (case k2_h17 => k_asm); (case k3_h17 => k_asm); (case k4_h17 => k_asm); (case k5_h17 => k_asm); (case kK_h17 => first | exact rfl | assumption); (case kd_h17 => ktr_room); (case ku_h17 => ktr_units); (case gok_h17 => (intro t9 h9 tk9 T9; exact absurd T9 hT9)); (case' gexc_h17 => (intro g2 e9 t9 vs9 h9 tk9 no9 F9 S9 U9; have R9 := S9.toK; (try dsimp only at S9 R9 U9 ⊢))))
  refine wpAny_call ?_
  (refine' code_defS (binds := [(Str.ofString "text", .str x tkx)]) ?k1 ?k2 ?k3 ?k4 ?k5 ?XB ?TB ?D ?T0 ?kA ?k6 ?k7 ?k8 ?k9 ?kB ?_ ?cK ?c2 ?c3 ?c4 ?c5; (case kA => exact rfl); (case k2 => k_asm); (case k1 => k_asm); (case XB => assumption); (case TB => assumption); (case D => assumption); (case T0 => first | assumption | exact KtsTurn.refl); (case k3 => k_asm); (case k4 => k_asm); (case k5 => k_asm); (case k6 => k_is); (case k7 => k_is); (case k8 => ktr_room); (case k9 => first | exact binds_K (by k_in) rfl (by k_is) rfl rfl rfl | exact BindsTo.of_eq rfl | fail "kts_go: no rule for these arguments"); (case kB => exact locs rfl); (case cK => exact rfl); (case c2 => exact rfl); (case c3 => exact rfl); (case c4 => exact rfl); (case c5 => decide); k_whole; intro g' L' h' FG' F' N' B' X' T' D'; (try dsimp only); (try k_lift B'); (try k_fold))
  k_steps
  all_goals (refine' ret _ _ _ _ ?za ?zb ?zc ?zd ?ze ?zf ?zg; (case zb => assumption); (case za => assumption); (case zc => first | assumption | exact cb_drop (by assumption) (fun p hp => List.mem_cons_of_mem _ (List.mem_append_left _ hp)) | exact cb_drop (by assumption) (fun p hp => List.mem_cons_of_mem _ hp)); (case zd => assumption); (case ze => assumption); (case zf => assumption); (case zg => assumption))
end
end
section
open PySem.Calls
theorem fill8 : hd.heap_39 = hd.heap_39 ∧ Challenge.rw_pa0032_01 = Challenge.rw_pa0032_01 := by
  k_with_none
  w_top off
  k_fill
  k_with "ev" => (repeat' (first | exact EvI.const | (refine' EvI.name ?enF_h1 ?enV_h1; (case enF_h1 => k_asm); (case enV_h1 => exact rfl)) | apply EvI.add | apply EvI.sub | apply EvI.and3 | apply EvI.and15 | apply EvI.and63 | apply EvI.and65535 | apply EvI.or | apply EvI.shl8 | apply EvI.shl2 | apply EvI.shl4 | apply EvI.shl6 | apply EvI.shr2 | apply EvI.shr4 | apply EvI.shr | exact (rfl : _ = ((0 : Nat) : Int)) | exact (rfl : _ = ((2 : Nat) : Int)) | exact (rfl : _ = ((4 : Nat) : Int)) | exact (rfl : _ = ((6 : Nat) : Int)) | k_extra "ev more" | ((fail_if_success (with_reducible show EvI _ _ _ _ _ _)); (fail_if_success (with_reducible show EvC _ _ _ _ _ _)); omega)))
  k_with "evc" => (repeat' (first | apply EvC.and | apply EvL.one | apply EvL.cons | apply EvC.not | apply EvC.lt | apply EvC.le | apply EvC.gt | apply EvC.ge | apply EvC.eq | apply EvC.ne | apply EvC.lele | (refine' EvC.nameB ?enG_h2 ?enW_h2; (case enG_h2 => k_asm); (case enW_h2 => exact rfl)) | apply EvC.nameI | (k_extra "ev"; done)))
  k_with "my storeName" => (k_here; k_dflt (refine' storeM ?zmF_h3 ?zmN_h3 ?_ ?zma_h3 ?zmb_h3; (case zmF_h3 => k_asm); (case zmN_h3 => k_asm); (case zma_h3 => rfl); (case zmb_h3 => rfl); k_whole; intro _ _ _ _ _; (try k_sweep)))
  k_with "ne9" => first | exact h91 | exact h92 (_, _) (.head _) | exact h92 (_, _) (.tail _ (.head _)) | exact h92 (_, _) (.tail _ (.tail _ (.head _))) | exact h92 (_, _) (.tail _ (.tail _ (.tail _ (.head _)))) | exact stored_sub h93 (by decide) | (intro e9; subst e9; exact absurd h93 (by decide))
  k_with "same" => (intro z9 h91 h92 h93; (repeat (first | (with_reducible exact rfl) | (refine (if_neg ?sn9_h5).trans ?_; (case sn9_h5 => k_extra "ne9")))); done)
  k_with "same2" => (intro z9 h92 h93; (repeat (first | (with_reducible exact rfl) | (refine (if_neg ?sn9_h6).trans ?_; (case sn9_h6 => k_extra "ne9")))); done)
  k_with "my eval BinOp" => (k_here; k_dflt (refine' EvI.use ?zex_h7 ?_; (case zex_h7 => k_extra "ev"); k_whole; intro _ _))
  k_with "argv" => (repeat' (first | exact ArgV.nil | (refine' ArgV.name ?anV_h8 ?anX_h8 ?anD_h8 ?_; (case anV_h8 => exact rfl); (case anX_h8 => exact rfl); (case anD_h8 => decide))))
  k_with "my eval Call" => (k_here; (with_reducible show wpAny _ _ (eval (Expr.Call (Expr.Name _ _) (_ :: _) [] _) _) _ _ _); k_dflt (refine' evCall ?ecE_h9 ?ecF_h9 ?ecX_h9 ?ecT_h9 ?ecK_h9 ?ecP_h9 ?ecA_h9 ?_ ?ecH_h9 ?ecI_h9 ?ecD_h9 ?ecC_h9 ?ecB_h9; (case ecE_h9 => exact rfl); (case ecF_h9 => k_asm); (case ecX_h9 => k_asm); (case ecT_h9 => k_asm); (case ecK_h9 => k_is); (case ecP_h9 => k_is); (case ecA_h9 => k_extra "argv"); (case ecH_h9 => rfl); (case ecI_h9 => rfl); (case ecD_h9 => decide); (case ecC_h9 => rfl); (case ecB_h9 => rfl); k_whole))
  k_with "my isTrue Compare" => (k_here; k_dflt (refine' EvC.use ?zcx_h10 ?_ ?_; (case zcx_h10 => k_extra "evc"); (all_goals (k_whole; intro _ _)); (all_goals first | contradiction | (law_purse 20000 => (exfalso; omega)) | skip)))
  k_with "my execs cons" => (k_here; first
    | ((with_reducible show wpAny _ _ (execs (Stmt.Assign [Expr.Name _ _] _ _ :: _) _) _ _ _); k_dflt (refine' stAssign ?zsx_h11 ?zsF_h11 ?zsN_h11 ?_ ?zsa_h11 ?zsb_h11 ?zsc_h11; (case zsx_h11 => k_extra "ev"); (case zsF_h11 => k_asm); (case zsN_h11 => k_asm); (case zsa_h11 => rfl); (case zsb_h11 => rfl); (case zsc_h11 => rfl); k_whole; intro _ _ _ _ _ _; (try k_sweep)))
    | ((with_reducible show wpAny _ _ (execs (Stmt.AugAssign (Expr.Name _ _) Operator.Add _ _ :: _) _) _ _ _); k_dflt (refine' stAdd ?zsv_h11 ?zsx_h11 ?zsF_h11 ?zsN_h11 ?_ ?zsa_h11 ?zsb_h11; (case zsF_h11 => k_asm); (case zsv_h11 => exact rfl); (case zsx_h11 => k_extra "ev"); (case zsN_h11 => k_asm); (case zsa_h11 => rfl); (case zsb_h11 => rfl); k_whole; intro _ _ _ _ _ _; (try k_sweep)))
    | ((with_reducible show wpAny _ _ (execs (Stmt.AugAssign (Expr.Name _ _) Operator.Sub _ _ :: _) _) _ _ _); k_dflt (refine' stSub ?zsv_h11 ?zsx_h11 ?zsF_h11 ?zsN_h11 ?_ ?zsa_h11 ?zsb_h11; (case zsF_h11 => k_asm); (case zsv_h11 => exact rfl); (case zsx_h11 => k_extra "ev"); (case zsN_h11 => k_asm); (case zsa_h11 => rfl); (case zsb_h11 => rfl); k_whole; intro _ _ _ _ _ _; (try k_sweep)))
    | ((with_reducible show wpAny _ _ (execs (Stmt.Expr (Expr.Call (Expr.Attribute (Expr.Name _ _) _ _) [_] [] _) _ :: _) _) _ _ _); k_dflt (refine' stAppend ?zpF_h11 ?zpv_h11 ?zpN_h11 ?zpm_h11 ?zpy_h11 ?zpU_h11 ?zpz_h11 ?_ ?zpa_h11 ?zpb_h11 ?zpc_h11 ?zpd_h11 ?zpe_h11 ?zpf_h11 ?zpg_h11; (case zpF_h11 => k_asm); (case zpv_h11 => exact rfl); (case zpN_h11 => k_asm); (case zpm_h11 => first | k_mem | k_memK | (with_unfolding_all k_mem)); (case zpy_h11 => k_extra "ev"); (case zpU_h11 => (intro _; k_upd)); (case zpz_h11 => size_fits); (case zpa_h11 => rfl); (case zpb_h11 => rfl); (case zpc_h11 => decide); (case zpd_h11 => rfl); (case zpe_h11 => rfl); (case zpf_h11 => rfl); (case zpg_h11 => rfl); k_whole; intro _ _ _ _ _; (try k_sweep)))
    | ((with_reducible show wpAny _ _ (execs (Stmt.If _ _ [] _ :: _) _) _ _ _); k_dflt (refine' stIf0 ?zix_h11 ?_ ?_; (case zix_h11 => k_extra "evc"); (all_goals (k_whole; intro _ _)); (all_goals first | contradiction | (law_purse 20000 => (exfalso; omega)) | skip)))
    | ((with_reducible show wpAny _ _ (execs (Stmt.If _ _ _ _ :: _) _) _ _ _); k_dflt (refine' stIf ?zjx_h11 ?_; (case zjx_h11 => k_extra "evc"); k_whole; intro _; refine ⟨?_, ?_⟩; (all_goals intro _ _); (all_goals first | contradiction | (law_purse 20000 => (exfalso; omega)) | skip)))
    | k_fold)
  exact ⟨rfl, rfl⟩
theorem rs4 : ∀ n, n ≤ 4 → Builtin.Range.small 0 ((4 * n : Nat) : Int) 4 = true ∧ Builtin.Range.rangeSize 0 ((4 * n : Nat) : Int) 4 = (n : Int) := by decide
section
variable {w : World} {mean : ExcName → Option Value} {mg mb : Str → Option Value}
def Figs (ns : List Int) : Prop := (∀ n ∈ ns, 0 ≤ n ∧ n < 64) ∧ ns.length ≤ 16
theorem c_octets (l : Addr) (vs : List Value) (ns : List Int) : Says w mean mg mb 149 1 (fun h => h.IsList l vs.toArray ∧ IntsAre vs ns ∧ Figs ns ∧ ns.length % 4 = 0) [.ref l] [] (fun _ _ r => ∃ t, r = .bytes (byteArr (decL ns)) t) := by
  unfold Says
  intro dp un gd cn cs a ccd cl outer A₀ base h₀ L m s Q E B F X T hk hd hu hp hret
  refine wpAny_call ?_
  refine' enter (binds := [(Str.ofString "figures", .ref l)]) ?k1 ?k2 ?k3 ?k5 ?kA ?kF ?kK ?k6 ?k7 ?k8 ?k9 ?kB ?_ ?c2 ?c3 ?c4 ?c5; (case kA => exact rfl); (case kF => exact rfl); (case kK => assumption); (case k1 => k_asm); (case k2 => k_asm); (case k3 => k_asm); (case k5 => k_asm); (case k6 => k_is); (case k7 => k_is); (case k8 => ktr_room); (case k9 => first | exact BindsTo.of_eq rfl | exact binds_K (by k_in) rfl (by k_is) rfl rfl rfl | fail "BINDS"); (case c5 => decide); (case kB => exact locs rfl); (case c2 => exact rfl); (case c3 => exact rfl); (case c4 => exact rfl); k_whole; intro g' L' h' hg' FG' F' N' B' X' T'; (try dsimp only); (try k_lift B'); (try (refine letA ?_; intro env1 A1)); (try k_fold)
  obtain ⟨hp1, hp2, hp3, hp4⟩ := hp
  have hl : g'.IsList l vs.toArray := hg' ▸ hp1
  obtain ⟨hb, hsz⟩ := hp3
  obtain ⟨n, hn⟩ : ∃ n, 4 * n = ns.length := ⟨ns.length / 4, by omega⟩
  have hkl := IntsAre.length hp2
  k_with "my pyIter ref" => (k_here; k_dflt (refine' kst_step (st := 4) (n := n) (σ := List Int × List Value × Nat) (fun c => [(_, W.listOf c.2.1.toArray c.2.2)]) (fun c => []) (fun c => IntsAre c.2.1 c.1) [] (fun pre c => InvO ns pre.length c.1) ([], [], 0) rfl ?kR_h12 ?kS_h12 ?kn_h12 ?kF_h12 ?kN_h12 ?kf_h12 ?kk_h12 ?kp_h12 ?turn_h12 ?done_h12; (case kR_h12 => assumption); (case kF_h12 => k_asm); (case kN_h12 => k_asm); (case kf_h12 => exact .nil); (case kk_h12 => exact List.forall_mem_nil _); (case kp_h12 => exact invO0 ns); (case kS_h12 => (rw [← hn]; exact (rs4 n (by omega)).1)); (case kn_h12 => (rw [← hn]; exact (rs4 n (by omega)).2))); (case' turn_h12 => (rintro ⟨out, us, c⟩ pre k t u h tk own hk9 hlt hoff hf hI F N; dsimp only [kstB] at F N hf hI hoff; simp only [List.cons_append, List.nil_append, List.map_cons, List.map_nil] at N hoff; have kMark := kstMark; have kLen := IntsAre.length hf; have hI2 := InvO.len hI)); (case' done_h12 => (rintro ⟨out, us, c⟩ pre u h tk hlt hf hI F N;  dsimp only [kstB] at F N hf hI; have kMark := kstMark; rw [hlt] at hI; have hI2 := InvO.len hI)))
  k_with "ev more" => first | apply EvI.fdivc | apply EvI.modc | apply EvI.mulc | exact IntMulOk.of_right (by decide) | (refine' EvI.item ?eiF_h13 ?eiV_h13 ?eiL_h13 ?eiI_h13 ?eiB_h13 ?eiY_h13 ?eiC_h13 ?eiD_h13 ?eiZ_h13 ?eiK_h13 ?eiX_h13 ?eiN_h13 ?eiS_h13; (case eiF_h13 => k_asm); (case eiV_h13 => exact rfl); (case eiL_h13 => is_list); (case eiI_h13 => exact hp2); (case eiB_h13 => exact hb); (case eiY_h13 => k_extra "ev"); (case eiC_h13 => omega); (case eiD_h13 => omega); (case eiZ_h13 => omega); (case eiK_h13 => rfl); (case eiX_h13 => rfl); (case eiN_h13 => decide); (case eiS_h13 => (intro _; with_unfolding_all rfl)))
  k_with "my subscriptTail" => (k_here; k_dflt (refine' itemL (ns := ns) ?a_h14 ?b_h14 ?c_h14 ?d_h14 ?e_h14 ?f_h14 ?_ ?g_h14; (case a_h14 => is_list); (case b_h14 => exact hp2); (case c_h14 => exact hb); (case d_h14 => omega); (case e_h14 => omega); (case f_h14 => omega); (case g_h14 => with_unfolding_all rfl); k_whole; intro _ _ _))
  k_with "call type:bytes" => (k_here; k_dflt (refine' bytesW ?F_h15 ?N_h15 ?m_h15 ?i_h15 ?r_h15 ?z_h15 ?h_h15 ?_; (case F_h15 => k_asm); (case N_h15 => k_asm); (case m_h15 => k_mem); (case i_h15 => assumption); (case r_h15 => (rw [invO_end hI hn]; exact dec_in _ hb)); (case z_h15 => omega); (case h_h15 => rfl); k_whole; intro _ _ _ _ _))
  k_with "state" => first | exact invO_turnF hI hn hlt hk9
  k_steps
  · exact hret _ _ _ (kept9 hg' (by assumption)) (exBytes (by rw [invO_end hI hn]))
end
end
section
open PySem.Calls
theorem fill9 : hd.heap_39 = hd.heap_39 ∧ Challenge.rw_pa0032_01 = Challenge.rw_pa0032_01 := by
  k_with_none
  w_top off
  k_fill
  k_with "ev" => (repeat' (first | exact EvI.const | (refine' EvI.name ?enF_h1 ?enV_h1; (case enF_h1 => k_asm); (case enV_h1 => exact rfl)) | apply EvI.add | apply EvI.sub | apply EvI.and3 | apply EvI.and15 | apply EvI.and63 | apply EvI.and65535 | apply EvI.or | apply EvI.shl8 | apply EvI.shl2 | apply EvI.shl4 | apply EvI.shl6 | apply EvI.shr2 | apply EvI.shr4 | apply EvI.shr | exact (rfl : _ = ((0 : Nat) : Int)) | exact (rfl : _ = ((2 : Nat) : Int)) | exact (rfl : _ = ((4 : Nat) : Int)) | exact (rfl : _ = ((6 : Nat) : Int)) | k_extra "ev more" | ((fail_if_success (with_reducible show EvI _ _ _ _ _ _)); (fail_if_success (with_reducible show EvC _ _ _ _ _ _)); omega)))
  k_with "evc" => (repeat' (first | apply EvC.and | apply EvL.one | apply EvL.cons | apply EvC.not | apply EvC.lt | apply EvC.le | apply EvC.gt | apply EvC.ge | apply EvC.eq | apply EvC.ne | apply EvC.lele | (refine' EvC.nameB ?enG_h2 ?enW_h2; (case enG_h2 => k_asm); (case enW_h2 => exact rfl)) | apply EvC.nameI | (k_extra "ev"; done)))
  k_with "my storeName" => (k_here; k_dflt (refine' storeM ?zmF_h3 ?zmN_h3 ?_ ?zma_h3 ?zmb_h3; (case zmF_h3 => k_asm); (case zmN_h3 => k_asm); (case zma_h3 => rfl); (case zmb_h3 => rfl); k_whole; intro _ _ _ _ _; (try k_sweep)))
  k_with "ne9" => first | exact h91 | exact h92 (_, _) (.head _) | exact h92 (_, _) (.tail _ (.head _)) | exact h92 (_, _) (.tail _ (.tail _ (.head _))) | exact h92 (_, _) (.tail _ (.tail _ (.tail _ (.head _)))) | exact stored_sub h93 (by decide) | (intro e9; subst e9; exact absurd h93 (by decide))
  k_with "same" => (intro z9 h91 h92 h93; (repeat (first | (with_reducible exact rfl) | (refine (if_neg ?sn9_h5).trans ?_; (case sn9_h5 => k_extra "ne9")))); done)
  k_with "same2" => (intro z9 h92 h93; (repeat (first | (with_reducible exact rfl) | (refine (if_neg ?sn9_h6).trans ?_; (case sn9_h6 => k_extra "ne9")))); done)
  k_with "my eval BinOp" => (k_here; k_dflt (refine' EvI.use ?zex_h7 ?_; (case zex_h7 => k_extra "ev"); k_whole; intro _ _))
  k_with "argv" => (repeat' (first | exact ArgV.nil | (refine' ArgV.name ?anV_h8 ?anX_h8 ?anD_h8 ?_; (case anV_h8 => exact rfl); (case anX_h8 => exact rfl); (case anD_h8 => decide))))
  k_with "my eval Call" => (k_here; (with_reducible show wpAny _ _ (eval (Expr.Call (Expr.Name _ _) (_ :: _) [] _) _) _ _ _); k_dflt (refine' evCall ?ecE_h9 ?ecF_h9 ?ecX_h9 ?ecT_h9 ?ecK_h9 ?ecP_h9 ?ecA_h9 ?_ ?ecH_h9 ?ecI_h9 ?ecD_h9 ?ecC_h9 ?ecB_h9; (case ecE_h9 => exact rfl); (case ecF_h9 => k_asm); (case ecX_h9 => k_asm); (case ecT_h9 => k_asm); (case ecK_h9 => k_is); (case ecP_h9 => k_is); (case ecA_h9 => k_extra "argv"); (case ecH_h9 => rfl); (case ecI_h9 => rfl); (case ecD_h9 => decide); (case ecC_h9 => rfl); (case ecB_h9 => rfl); k_whole))
  k_with "my isTrue Compare" => (k_here; k_dflt (refine' EvC.use ?zcx_h10 ?_ ?_; (case zcx_h10 => k_extra "evc"); (all_goals (k_whole; intro _ _)); (all_goals first | contradiction | (law_purse 20000 => (exfalso; omega)) | skip)))
  k_with "my execs cons" => (k_here; first
    | ((with_reducible show wpAny _ _ (execs (Stmt.Assign [Expr.Name _ _] _ _ :: _) _) _ _ _); k_dflt (refine' stAssign ?zsx_h11 ?zsF_h11 ?zsN_h11 ?_ ?zsa_h11 ?zsb_h11 ?zsc_h11; (case zsx_h11 => k_extra "ev"); (case zsF_h11 => k_asm); (case zsN_h11 => k_asm); (case zsa_h11 => rfl); (case zsb_h11 => rfl); (case zsc_h11 => rfl); k_whole; intro _ _ _ _ _ _; (try k_sweep)))
    | ((with_reducible show wpAny _ _ (execs (Stmt.AugAssign (Expr.Name _ _) Operator.Add _ _ :: _) _) _ _ _); k_dflt (refine' stAdd ?zsv_h11 ?zsx_h11 ?zsF_h11 ?zsN_h11 ?_ ?zsa_h11 ?zsb_h11; (case zsF_h11 => k_asm); (case zsv_h11 => exact rfl); (case zsx_h11 => k_extra "ev"); (case zsN_h11 => k_asm); (case zsa_h11 => rfl); (case zsb_h11 => rfl); k_whole; intro _ _ _ _ _ _; (try k_sweep)))
    | ((with_reducible show wpAny _ _ (execs (Stmt.AugAssign (Expr.Name _ _) Operator.Sub _ _ :: _) _) _ _ _); k_dflt (refine' stSub ?zsv_h11 ?zsx_h11 ?zsF_h11 ?zsN_h11 ?_ ?zsa_h11 ?zsb_h11; (case zsF_h11 => k_asm); (case zsv_h11 => exact rfl); (case zsx_h11 => k_extra "ev"); (case zsN_h11 => k_asm); (case zsa_h11 => rfl); (case zsb_h11 => rfl); k_whole; intro _ _ _ _ _ _; (try k_sweep)))
    | ((with_reducible show wpAny _ _ (execs (Stmt.Expr (Expr.Call (Expr.Attribute (Expr.Name _ _) _ _) [_] [] _) _ :: _) _) _ _ _); k_dflt (refine' stAppend ?zpF_h11 ?zpv_h11 ?zpN_h11 ?zpm_h11 ?zpy_h11 ?zpU_h11 ?zpz_h11 ?_ ?zpa_h11 ?zpb_h11 ?zpc_h11 ?zpd_h11 ?zpe_h11 ?zpf_h11 ?zpg_h11; (case zpF_h11 => k_asm); (case zpv_h11 => exact rfl); (case zpN_h11 => k_asm); (case zpm_h11 => first | k_mem | k_memK | (with_unfolding_all k_mem)); (case zpy_h11 => k_extra "ev"); (case zpU_h11 => (intro _; k_upd)); (case zpz_h11 => size_fits); (case zpa_h11 => rfl); (case zpb_h11 => rfl); (case zpc_h11 => decide); (case zpd_h11 => rfl); (case zpe_h11 => rfl); (case zpf_h11 => rfl); (case zpg_h11 => rfl); k_whole; intro _ _ _ _ _; (try k_sweep)))
    | ((with_reducible show wpAny _ _ (execs (Stmt.If _ _ [] _ :: _) _) _ _ _); k_dflt (refine' stIf0 ?zix_h11 ?_ ?_; (case zix_h11 => k_extra "evc"); (all_goals (k_whole; intro _ _)); (all_goals first | contradiction | (law_purse 20000 => (exfalso; omega)) | skip)))
    | ((with_reducible show wpAny _ _ (execs (Stmt.If _ _ _ _ :: _) _) _ _ _); k_dflt (refine' stIf ?zjx_h11 ?_; (case zjx_h11 => k_extra "evc"); k_whole; intro _; refine ⟨?_, ?_⟩; (all_goals intro _ _); (all_goals first | contradiction | (law_purse 20000 => (exfalso; omega)) | skip)))
    | k_fold)
  k_with "my exec For Name Subscript cons nil" => (k_here; (rename Fr _ _ _ _ => lF'); (with_unfolding_all refine' For_invVF lF' ?k1qf90_h12 ?k2qf90_h12 ?_; (case k1qf90_h12 => exact rfl); (case k2qf90_h12 => exact rfl); k_whole))
  k_with "my exec For Name Call cons nil" => (k_here; (rename Fr _ _ _ _ => lF'); (with_unfolding_all refine' For_invVF lF' ?k1qf91_h13 ?k2qf91_h13 ?_; (case k1qf91_h13 => exact rfl); (case k2qf91_h13 => exact rfl); k_whole))
  k_with "ev more" => first | apply EvI.mode | apply EvI.fdivp | apply EvI.mulk | exact IntMulOk.of_left (by decide)
  exact ⟨rfl, rfl⟩
def Fg (fs : List Int) (k : Nat) : Prop := (∀ n ∈ fs, 0 ≤ n ∧ n < 64) ∧ fs.length = k
theorem fg_snoc {fs : List Int} {k : Nat} {v : Int} (h : Fg fs k) (h0 : 0 ≤ v) (h1 : v < 64) : Fg (fs ++ [v]) (k + 1) := by
  refine ⟨fun n hn => ?_, by rw [List.length_append, List.length_singleton, h.2]⟩
  rcases List.mem_append.mp hn with hn | hn
  · exact h.1 n hn
  · rw [List.mem_singleton.mp hn]; exact ⟨h0, h1⟩
theorem fg4 : Fg [62, 20, 63, 46] 4 := ⟨by decide, rfl⟩
theorem fg0 : Fg [] 0 := ⟨by simp, rfl⟩
theorem fg_step {a : Nat} {fs' pre' : List Int} {z v : Int} (h : Fg fs' (a + pre'.length)) (h0 : 0 ≤ v) (h1 : v < 64) : Fg (fs' ++ [v]) (a + (pre' ++ [z]).length) := by
  rw [List.length_append, List.length_singleton, ← Nat.add_assoc]; exact fg_snoc h h0 h1
theorem fg_eq {fs : List Int} {a b : Nat} (h : Fg fs a) (e : a = b) : Fg fs b := e ▸ h
theorem fg_mod {fs : List Int} {a : Nat} (h : Fg fs a) : Fg (fs.map fun k => k.fmod 62) a := by
  refine ⟨fun n hn => ?_, by rw [List.length_map]; exact h.2⟩
  obtain ⟨k, _, rfl⟩ := List.mem_map.mp hn
  have e : k.fmod 62 = k % 62 := Int.fmod_eq_emod_of_nonneg _ (by omega)
  omega
theorem fig_ret {g h' : Heap} {L' l : Addr} {s : Shared} {news : List (Addr × Obj)} {us : List Value} {c a : Nat} {fs : List Int} (N : News g L' h' news) (hm : (l, W.listOf us.toArray c) ∈ news) (hg : g = s.heap) (hi : IntsAre us fs) (hf : Fg fs a) (ha : a ≤ 16) (h4 : a % 4 = 0) :
    ∃ l' us c ns', Value.ref l = .ref l' ∧ h'.get? l' = some (W.listOf us.toArray c) ∧ s.heap.get? l' = none ∧ IntsAre us ns' ∧ Figs ns' ∧ ns'.length % 4 = 0 :=
  ⟨l, us, c, fs, rfl, (N _ hm).1, hg ▸ (N _ hm).2.2, hi, ⟨hf.1, by rw [hf.2]; exact ha⟩, by rw [hf.2]; exact h4⟩
theorem fig_a {a0 : Nat} {ns : List Int} (h : a0 = 0 ∨ a0 = 4) : a0 + 4 * (ns.take 3).length ≤ 16 := by
  have := List.length_take_le 3 ns
  omega
theorem fig_m {a0 k : Nat} (h : a0 = 0 ∨ a0 = 4) : (a0 + 4 * k) % 4 = 0 := by omega
theorem Fg.len {fs : List Int} {k : Nat} (h : Fg fs k) : fs.length = k := h.2
section
variable {w : World} {mean : ExcName → Option Value} {mg mb : Str → Option Value}
theorem c_figures (l : Addr) (vs : List Value) (ns : List Int) : Says w mean mg mb 142 1 (fun h => h.IsList l vs.toArray ∧ IntsAre vs ns ∧ ns.length ≤ 63) [.ref l] [] (fun h h' r => ∃ l' us c ns', r = .ref l' ∧ h'.get? l' = some (W.listOf us.toArray c) ∧ h.get? l' = none ∧ IntsAre us ns' ∧ Figs ns' ∧ ns'.length % 4 = 0) := by
  unfold Says
  intro dp un gd cn cs a ccd cl outer A₀ base h₀ L m s Q E B F X T hk hd hu hp hret
  refine wpAny_call ?_
  refine' enter (binds := [(Str.ofString "script", .ref l)]) ?k1 ?k2 ?k3 ?k5 ?kA ?kF ?kK ?k6 ?k7 ?k8 ?k9 ?kB ?_ ?c2 ?c3 ?c4 ?c5; (case kA => exact rfl); (case kF => exact rfl); (case kK => assumption); (case k1 => k_asm); (case k2 => k_asm); (case k3 => k_asm); (case k5 => k_asm); (case k6 => k_is); (case k7 => k_is); (case k8 => ktr_room); (case k9 => first | exact BindsTo.of_eq rfl | exact binds_K (by k_in) rfl (by k_is) rfl rfl rfl | fail "BINDS"); (case c5 => decide); (case kB => exact locs rfl); (case c2 => exact rfl); (case c3 => exact rfl); (case c4 => exact rfl); k_whole; intro g' L' h' hg' FG' F' N' B' X' T'; (try dsimp only); (try k_lift B'); (try (refine letA ?_; intro env1 A1)); (try k_fold)
  obtain ⟨hp1, hp2, hp3⟩ := hp
  have hl : g'.IsList l vs.toArray := hg' ▸ hp1
  have hkl := IntsAre.length hp2
  k_with "my exec If" => (k_here; (with_reducible show wpAny _ _ (exec (Stmt.If _ [Stmt.Assign [Expr.Name ("figures" : Str) _] (Expr.List _ _) _] _ _) _) _ _ _); (fail_if_success (with_reducible show wpAny _ _ _ (WJ _ _ _ _ _ _ _) _ _)); k_dflt (refine' meetJ (σ := Addr × List Value × Nat × List Int × Nat) (fun c => [(c.1, W.listOf c.2.1.toArray c.2.2.1)]) (fun c => [(Str.ofString "figures", .ref c.1)]) (fun c => IntsAre c.2.1 c.2.2.2.1 ∧ Fg c.2.2.2.1 c.2.2.2.2 ∧ (c.2.2.2.2 = 0 ∨ c.2.2.2.2 = 4)) ?jF_h15 ?jN_h15 ?jgo_h15 ?jdone_h15; (case jF_h15 => k_asm); (case jN_h15 => k_asm); (case' jdone_h15 => (rintro ⟨lF, us0, n0, fs0, a0⟩ h tk hP F N; dsimp only [kstB] at F N hP; obtain ⟨I0, G0, ha0⟩ := hP))))
  k_with "my pyIter ref" => (k_here; k_dflt (refine' kst_listL (ns := ns.take 3) (σ := List Int × List Value × Nat) (fun c => [(_, W.listOf _ 0), (_, W.listOf c.2.1.toArray c.2.2)]) (fun c => []) (fun c => IntsAre c.2.1 c.1) [Str.ofString "turn", Str.ofString "part"] (fun pre c => Fg c.1 (a0 + 4 * pre.length)) (fs0, us0, n0) rfl ?qbkL_h16 ?qbki_h16 ?qbkF_h16 ?qbkN_h16 ?qbkf_h16 ?qbkk_h16 ?qbkp_h16 ?qbturn_h16 ?qbdone_h16; (case qbkF_h16 => k_asm); (case qbkN_h16 => k_asm); (case qbkL_h16 => (intro c; exact List.Mem.head _)); (case qbki_h16 => assumption); (case qbkf_h16 => exact I0); (case qbkk_h16 => exact List.forall_mem_nil _); (case qbkp_h16 => exact G0)); (case' qbturn_h16 => (rintro ⟨fs, us, c⟩ pre post number tn u h tk own heq9 hmem hoff hf hI F N; dsimp only [kstB] at F N hf hI hoff; simp only [List.cons_append, List.nil_append, List.map_cons, List.map_nil] at N hoff; have kMark := kstMark; have kLen := IntsAre.length hf; have hI2 := Fg.len hI; have kL9 := congrArg List.length heq9; rw [List.length_append, List.length_cons] at kL9)); (case' qbdone_h16 => (rintro ⟨fs, us, c⟩ u h tk hf hI F N;  dsimp only [kstB] at F N hf hI; have kMark := kstMark; have kLen := IntsAre.length hf; have hI2 := Fg.len hI)))
  k_with "my pyIter ref" => (k_here; k_dflt (refine' kst_step (st := 1) (n := 4) (σ := List Int × List Value × Nat) (fun c => (_, _) :: (_, W.listOf c.2.1.toArray c.2.2) :: own) (fun c => []) (fun c => IntsAre c.2.1 c.1) [Str.ofString "part"] (fun pre' c => Fg c.1 (fs.length + pre'.length)) (fs, us, c) rfl ?qdkR_h17 ?qdkS_h17 ?qdkn_h17 ?qdkF_h17 ?qdkN_h17 ?qdkf_h17 ?qdkk_h17 ?qdkp_h17 ?qdturn_h17 ?qddone_h17; (case qdkR_h17 => assumption); (case qdkF_h17 => k_asm); (case qdkN_h17 => k_asm); (case qdkf_h17 => exact hf); (case qdkk_h17 => exact List.forall_mem_nil _); (case qdkp_h17 => (rw [hI2]; exact hI)); (case qdkS_h17 => rfl); (case qdkn_h17 => rfl)); (case' qdturn_h17 => (rintro ⟨fs', us', c'⟩ pre' k t u' h' tk' own' hk9 hlt hoff' hf' hI' F' N'; dsimp only [kstB] at F' N' hf' hI' hoff'; simp only [List.cons_append, List.nil_append, List.map_cons, List.map_nil] at N' hoff'; have kLen' := IntsAre.length hf'; have hI2' := Fg.len hI')); (case' qddone_h17 => (rintro ⟨fs', us', c'⟩ pre' u' h' tk' hlt hf' hI' F' N';  dsimp only [kstB] at F' N' hf' hI'; have kLen' := IntsAre.length hf'; have hI2' := Fg.len hI')))
  k_with "state" => first | exact fg_step hI' (by omega) (by omega) | exact fg_eq hI' (by simp only [List.length_append, List.length_singleton]; omega)
  k_steps
  all_goals first | (rename News g' L' _ _ => hN9; rename Fr g' L' _ _ => hF9; exact WJ.mk (_, _, _, [62, 20, 63, 46], 4) ⟨.cons _ _ (.cons _ _ (.cons _ _ (.cons _ _ .nil))), fg4, .inr rfl⟩ hF9 (news1 hN9) rfl) | (rename News g' L' _ _ => hN9; rename Fr g' L' _ _ => hF9; exact WJ.mk (_, _, _, [], 0) ⟨.nil, fg0, .inl rfl⟩ hF9 (news1 hN9) (one_same _ _ _)) | (refine hret _ _ _ (kept9 hg' (by assumption)) ?_; rename News g' L' _ _ => hN9; refine' fig_ret hN9 ?zm hg' ?zi ?zf ?za ?z4; (case zi => assumption); (case zm => first | k_mem | (with_unfolding_all k_mem)); (case zf => first | exact hI | exact fg_mod hI); (case za => first | exact fig_a ha0 | omega); (case z4 => first | exact fig_m ha0 | omega))
end
end
section
open PySem.Calls

theorem fill10 : hd.heap_39 = hd.heap_39 ∧ Challenge.rw_pa0032_01 = Challenge.rw_pa0032_01 := by
  k_with_none
  w_top off
  k_fill
  k_with "ev" => (repeat' (first | exact EvI.const | (refine' EvI.name ?enF_h1 ?enV_h1; (case enF_h1 => k_asm); (case enV_h1 => exact rfl)) | apply EvI.add | apply EvI.sub | apply EvI.and3 | apply EvI.and15 | apply EvI.and63 | apply EvI.and65535 | apply EvI.or | apply EvI.shl8 | apply EvI.shl2 | apply EvI.shl4 | apply EvI.shl6 | apply EvI.shr2 | apply EvI.shr4 | apply EvI.shr | exact (rfl : _ = ((0 : Nat) : Int)) | exact (rfl : _ = ((2 : Nat) : Int)) | exact (rfl : _ = ((4 : Nat) : Int)) | exact (rfl : _ = ((6 : Nat) : Int)) | k_extra "ev more" | ((fail_if_success (with_reducible show EvI _ _ _ _ _ _)); (fail_if_success (with_reducible show EvC _ _ _ _ _ _)); omega)))
  k_with "evc" => (repeat' (first | apply EvC.and | apply EvL.one | apply EvL.cons | apply EvC.not | apply EvC.lt | apply EvC.le | apply EvC.gt | apply EvC.ge | apply EvC.eq | apply EvC.ne | apply EvC.lele | (refine' EvC.nameB ?enG_h2 ?enW_h2; (case enG_h2 => k_asm); (case enW_h2 => exact rfl)) | apply EvC.nameI | (k_extra "ev"; done)))
  k_with "my storeName" => (k_here; k_dflt (refine' storeM ?zmF_h3 ?zmN_h3 ?_ ?zma_h3 ?zmb_h3; (case zmF_h3 => k_asm); (case zmN_h3 => k_asm); (case zma_h3 => rfl); (case zmb_h3 => rfl); k_whole; intro _ _ _ _ _; (try k_sweep)))
  k_with "ne9" => first | exact h91 | exact h92 (_, _) (.head _) | exact h92 (_, _) (.tail _ (.head _)) | exact h92 (_, _) (.tail _ (.tail _ (.head _))) | exact h92 (_, _) (.tail _ (.tail _ (.tail _ (.head _)))) | exact stored_sub h93 (by decide) | (intro e9; subst e9; exact absurd h93 (by decide))
  k_with "same" => (intro z9 h91 h92 h93; (repeat (first | (with_reducible exact rfl) | (refine (if_neg ?sn9_h5).trans ?_; (case sn9_h5 => k_extra "ne9")))); done)
  k_with "same2" => (intro z9 h92 h93; (repeat (first | (with_reducible exact rfl) | (refine (if_neg ?sn9_h6).trans ?_; (case sn9_h6 => k_extra "ne9")))); done)
  k_with "my eval BinOp" => (k_here; k_dflt (refine' EvI.use ?zex_h7 ?_; (case zex_h7 => k_extra "ev"); k_whole; intro _ _))
  k_with "argv" => (repeat' (first | exact ArgV.nil | (refine' ArgV.name ?anV_h8 ?anX_h8 ?anD_h8 ?_; (case anV_h8 => exact rfl); (case anX_h8 => exact rfl); (case anD_h8 => decide))))
  k_with "my eval Call" => (k_here; (with_reducible show wpAny _ _ (eval (Expr.Call (Expr.Name _ _) (_ :: _) [] _) _) _ _ _); k_dflt (refine' evCall ?ecE_h9 ?ecF_h9 ?ecX_h9 ?ecT_h9 ?ecK_h9 ?ecP_h9 ?ecA_h9 ?_ ?ecH_h9 ?ecI_h9 ?ecD_h9 ?ecC_h9 ?ecB_h9; (case ecE_h9 => exact rfl); (case ecF_h9 => k_asm); (case ecX_h9 => k_asm); (case ecT_h9 => k_asm); (case ecK_h9 => k_is); (case ecP_h9 => k_is); (case ecA_h9 => k_extra "argv"); (case ecH_h9 => rfl); (case ecI_h9 => rfl); (case ecD_h9 => decide); (case ecC_h9 => rfl); (case ecB_h9 => rfl); k_whole))
  k_with "my isTrue Compare" => (k_here; k_dflt (refine' EvC.use ?zcx_h10 ?_ ?_; (case zcx_h10 => k_extra "evc"); (all_goals (k_whole; intro _ _)); (all_goals first | contradiction | (law_purse 20000 => (exfalso; omega)) | skip)))
  k_with "my execs cons" => (k_here; first
    | ((with_reducible show wpAny _ _ (execs (Stmt.Assign [Expr.Name _ _] _ _ :: _) _) _ _ _); k_dflt (refine' stAssign ?zsx_h11 ?zsF_h11 ?zsN_h11 ?_ ?zsa_h11 ?zsb_h11 ?zsc_h11; (case zsx_h11 => k_extra "ev"); (case zsF_h11 => k_asm); (case zsN_h11 => k_asm); (case zsa_h11 => rfl); (case zsb_h11 => rfl); (case zsc_h11 => rfl); k_whole; intro _ _ _ _ _ _; (try k_sweep)))
    | ((with_reducible show wpAny _ _ (execs (Stmt.AugAssign (Expr.Name _ _) Operator.Add _ _ :: _) _) _ _ _); k_dflt (refine' stAdd ?zsv_h11 ?zsx_h11 ?zsF_h11 ?zsN_h11 ?_ ?zsa_h11 ?zsb_h11; (case zsF_h11 => k_asm); (case zsv_h11 => exact rfl); (case zsx_h11 => k_extra "ev"); (case zsN_h11 => k_asm); (case zsa_h11 => rfl); (case zsb_h11 => rfl); k_whole; intro _ _ _ _ _ _; (try k_sweep)))
    | ((with_reducible show wpAny _ _ (execs (Stmt.AugAssign (Expr.Name _ _) Operator.Sub _ _ :: _) _) _ _ _); k_dflt (refine' stSub ?zsv_h11 ?zsx_h11 ?zsF_h11 ?zsN_h11 ?_ ?zsa_h11 ?zsb_h11; (case zsF_h11 => k_asm); (case zsv_h11 => exact rfl); (case zsx_h11 => k_extra "ev"); (case zsN_h11 => k_asm); (case zsa_h11 => rfl); (case zsb_h11 => rfl); k_whole; intro _ _ _ _ _ _; (try k_sweep)))
    | ((with_reducible show wpAny _ _ (execs (Stmt.Expr (Expr.Call (Expr.Attribute (Expr.Name _ _) _ _) [_] [] _) _ :: _) _) _ _ _); k_dflt (refine' stAppend ?zpF_h11 ?zpv_h11 ?zpN_h11 ?zpm_h11 ?zpy_h11 ?zpU_h11 ?zpz_h11 ?_ ?zpa_h11 ?zpb_h11 ?zpc_h11 ?zpd_h11 ?zpe_h11 ?zpf_h11 ?zpg_h11; (case zpF_h11 => k_asm); (case zpv_h11 => exact rfl); (case zpN_h11 => k_asm); (case zpm_h11 => first | k_mem | k_memK | (with_unfolding_all k_mem)); (case zpy_h11 => k_extra "ev"); (case zpU_h11 => (intro _; k_upd)); (case zpz_h11 => size_fits); (case zpa_h11 => rfl); (case zpb_h11 => rfl); (case zpc_h11 => decide); (case zpd_h11 => rfl); (case zpe_h11 => rfl); (case zpf_h11 => rfl); (case zpg_h11 => rfl); k_whole; intro _ _ _ _ _; (try k_sweep)))
    | ((with_reducible show wpAny _ _ (execs (Stmt.If _ _ [] _ :: _) _) _ _ _); k_dflt (refine' stIf0 ?zix_h11 ?_ ?_; (case zix_h11 => k_extra "evc"); (all_goals (k_whole; intro _ _)); (all_goals first | contradiction | (law_purse 20000 => (exfalso; omega)) | skip)))
    | ((with_reducible show wpAny _ _ (execs (Stmt.If _ _ _ _ :: _) _) _ _ _); k_dflt (refine' stIf ?zjx_h11 ?_; (case zjx_h11 => k_extra "evc"); k_whole; intro _; refine ⟨?_, ?_⟩; (all_goals intro _ _); (all_goals first | contradiction | (law_purse 20000 => (exfalso; omega)) | skip)))
    | k_fold)
  k_with "my call builtin:min" => (k_here; k_dflt (refine' minW rfl ?mFqf100_h12 ?mNqf100_h12 ?_; (case mFqf100_h12 => k_asm); (case mNqf100_h12 => k_asm); k_whole; intro _ _ _ _ _ _ _))
  k_with "my exec For Name Call cons nil" => (k_here; (rename Fr _ _ _ _ => lF'); (with_unfolding_all refine' For_invVF lF' ?k1qf101_h13 ?k2qf101_h13 ?_; (case k1qf101_h13 => exact rfl); (case k2qf101_h13 => exact rfl); k_whole))
  k_with "my subscriptTail" => (k_here; (with_reducible show wpAny _ _ (subscriptTail _ _ (Value.str (txt _) _) _) _ _ _); k_dflt (first
  | (refine' sliceDrop ?aqf102_h14 ?bqf102_h14 ?cqf102_h14 ?Fqf102_h14 ?Nqf102_h14 ?_ ?sqf102_h14 ?tqf102_h14; (case Fqf102_h14 => k_asm); (case Nqf102_h14 => k_asm); (case aqf102_h14 => k_extra "sd"); (case bqf102_h14 => k_extra "sd"); (case cqf102_h14 => k_extra "sd"); (case sqf102_h14 => with_unfolding_all rfl); (case tqf102_h14 => (intro _; with_unfolding_all rfl)); k_whole; intro _ _ _ _ _ _)
  | (refine' sliceTake ?aqf102_h14 ?bqf102_h14 ?cqf102_h14 ?Fqf102_h14 ?Nqf102_h14 ?_ ?sqf102_h14 ?tqf102_h14; (case Fqf102_h14 => k_asm); (case Nqf102_h14 => k_asm); (case aqf102_h14 => k_extra "sd"); (case bqf102_h14 => k_extra "sd"); (case cqf102_h14 => k_extra "sd"); (case sqf102_h14 => with_unfolding_all rfl); (case tqf102_h14 => (intro _; with_unfolding_all rfl)); k_whole; intro _ _ _ _ _ _)
  | (refine' sliceAll ?aqf102_h14 ?Fqf102_h14 ?Nqf102_h14 ?_ ?sqf102_h14 ?tqf102_h14; (case Fqf102_h14 => k_asm); (case Nqf102_h14 => k_asm); (case aqf102_h14 => k_extra "sd"); (case sqf102_h14 => with_unfolding_all rfl); (case tqf102_h14 => (intro _; with_unfolding_all rfl)); k_whole; intro _ _ _ _ _)))
  k_with "my subscriptTail Name Name str int" => (k_here; (with_reducible show wpAny _ _ (subscriptTail _ _ (Value.str (txt _) _) _) _ _ _); k_dflt (((with_reducible show wpAny _ _ (subscriptTail _ _ _ (Value.int _ _)) _ _ _); refine' charPos ?aqf103_h15 ?bqf103_h15 ?cqf103_h15 ?_ ?sqf103_h15 ?tqf103_h15; (case aqf103_h15 => k_extra "sd"); (case bqf103_h15 => k_extra "sd"); (case cqf103_h15 => k_extra "sd"); (case sqf103_h15 => with_unfolding_all rfl); (case tqf103_h15 => (intro _; with_unfolding_all rfl)); k_whole; intro _ _)))
  k_with "my subscriptTail Name BinOp str int" => (k_here; (with_reducible show wpAny _ _ (subscriptTail _ _ (Value.str (txt _) _) _) _ _ _); k_dflt (((with_reducible show wpAny _ _ (subscriptTail _ _ _ (Value.int _ _)) _ _ _); refine' charNeg ?aqf104_h16 ?bqf104_h16 ?cqf104_h16 ?_ ?sqf104_h16 ?tqf104_h16; (case aqf104_h16 => k_extra "sd"); (case bqf104_h16 => k_extra "sd"); (case cqf104_h16 => k_extra "sd"); (case sqf104_h16 => with_unfolding_all rfl); (case tqf104_h16 => (intro _; with_unfolding_all rfl)); k_whole; intro _ _)))
  k_with "my truthy str" => (k_here; (with_reducible show wpAny _ _ (truthy (Value.str (txt _) _)) _ _ _); k_dflt (refine' truthyT ?aqf105_h17 ?_; (case aqf105_h17 => k_extra "sd"); k_whole; intro _))
  k_with "my compareOp Eq str str" => (k_here; first | ((with_reducible show wpAny _ _ (compareOp _ (Value.str (txt _) _) (Value.str (txt _) _)) _ _ _); with_reducible refine eqT ?_) | ((with_reducible show wpAny _ _ (compareOp _ (Value.str (one _) _) (Value.str (one _) _)) _ _ _); with_reducible refine eqOne ?_))
  k_with "my call builtin:len" => (k_here; (with_reducible show wpAny _ _ (call (Value.builtin "len") [Value.str (txt _) _]) _ _ _); k_dflt (refine' lenT ?aqf107_h19 ?_; (case aqf107_h19 => k_extra "sd"); k_whole; intro _ _))
  k_with "sd" => first | assumption | (refine sm_le ?_; (repeat' (first | assumption | refine sm_drop ?_ | refine sm_take ?_)); done) | exact sd_neg (by assumption) (by assumption) | exact sd_swap (by assumption) | exact sd_drop (by assumption) (by assumption) | exact sd_sub (by assumption) | exact sd_take (by assumption) (by assumption) | exact sd_zero (by assumption) (by assumption) | (simp only [bne_iff_ne, ne_eq] at *; omega)
  exact ⟨rfl, rfl⟩
theorem sm_le {l : List Nat} (h : l.length ≤ 16) : l.length ≤ 500000 := Nat.le_trans h (by decide)
theorem sm_drop {l : List Nat} {n : Nat} (h : l.length ≤ 16) : (l.drop n).length ≤ 16 := by rw [List.length_drop]; exact Nat.le_trans (Nat.sub_le _ _) h
theorem sm_take {l : List Nat} {n : Nat} (h : l.length ≤ 16) : (l.take n).length ≤ 16 := by rw [List.length_take]; exact Nat.le_trans (Nat.min_le_right _ _) h
theorem sd_neg {p : Int} (h : p ≤ 0) (n : p ≠ 0) : p < 0 := by omega
theorem sd_swap {l : List Nat} {p : Int} (h : -p ≤ (l.length : Int)) : -(l.length : Int) ≤ p := by omega
theorem sd_drop {l : List Nat} {p : Int} (h0 : 0 ≤ p) (h : 0 < (l.drop p.toNat).length) : p < (l.length : Int) := by rw [List.length_drop] at h; omega
theorem sd_sub {p : Int} (h : p ≤ 0) : p - 1 < 0 := by omega
theorem sd_take {l : List Nat} {p : Int} (hp : p ≤ 0) (h : 0 < (l.take (l.length - (-p).toNat)).length) : -(l.length : Int) ≤ p - 1 := by rw [List.length_take] at h; omega
theorem sd_zero {l : List Nat} {p : Int} (hp : p = 0) (h : 0 < l.length) : -(l.length : Int) ≤ p - 1 := by omega
theorem sd_lt {l : List Nat} {p : Int} (hp : p ≤ 0) (h : 0 < (l.take (l.length - (-p).toNat)).length) : -p < (l.length : Int) := by rw [List.length_take] at h; omega
theorem sd_ltz {l : List Nat} {p : Int} (hp : p = 0) (h : 0 < l.length) : -p < (l.length : Int) := by omega
theorem take_zero {p : Int} (l : List Nat) (h : p = 0) : l = l.take (l.length - (-p).toNat) := by subst h; simp
theorem two_same (x y : Str) (u v : Value) (r : Str → Option Value) (h : x ≠ y) : (fun z => if z = y then some v else if z = x then some u else r z) = kstB (fun z => if z = y then some v else if z = x then some u else r z) [(x, u), (y, v)] := by
  funext z
  show _ = if z = x then some u else if z = y then some v else if z = y then some v else if z = x then some u else r z
  by_cases h1 : z = x
  · subst h1; simp only [if_neg h, if_true]
  · by_cases h2 : z = y
    · simp only [if_neg h1, if_pos h2]
    · simp only [if_neg h1, if_neg h2]
section
variable {w : World} {mean : ExcName → Option Value} {mg mb : Str → Option Value}
theorem c_substO (c d : Nat) (tk tl : Tok) : Says w mean mg mb 130 1 (fun _ => True) [.str (one c) tk, .str (one d) tl] [] (fun _ _ r => ∃ t, r = .int (subc (one c) (one d)) t) := by
  unfold Says
  intro dp un gd cn cs a ccd cl outer A₀ base h₀ L m s Q E B F X T hk hd hu hp hret
  exact c_subst _ _ _ _ dp un gd cn cs a ccd cl outer A₀ base h₀ L m s Q E B F X T hk hd hu ⟨Nat.le_of_eq rfl, Nat.le_of_eq rfl⟩ hret
theorem c_lev (la lb : List Nat) (mx : Int) (ta tb tm : Tok) : Says w mean mg mb 137 2 (fun _ => (∀ c ∈ la, c < 128) ∧ (∀ c ∈ lb, c < 128) ∧ la.length ≤ 16 ∧ lb.length ≤ 16) [.str (txt la) ta, .str (txt lb) tb, .int mx tm] [] (fun _ _ r => ∃ t v, r = .int v t ∧ Lev la lb mx v) := by
  unfold Says
  intro dp un gd cn cs a ccd cl outer A₀ base h₀ L m s Q E B F X T hk hd hu hp hret
  refine wpAny_call ?_
  refine' enter (binds := [(Str.ofString "a", .str (txt la) ta), (Str.ofString "b", .str (txt lb) tb), (Str.ofString "max_cost", .int mx tm)]) ?k1 ?k2 ?k3 ?k5 ?kA ?kF ?kK ?k6 ?k7 ?k8 ?k9 ?kB ?_ ?c2 ?c3 ?c4 ?c5; (case kA => exact rfl); (case kF => exact rfl); (case kK => assumption); (case k1 => k_asm); (case k2 => k_asm); (case k3 => k_asm); (case k5 => k_asm); (case k6 => k_is); (case k7 => k_is); (case k8 => ktr_room); (case k9 => first | exact BindsTo.of_eq rfl | exact binds_K (by k_in) rfl (by k_is) rfl rfl rfl | fail "BINDS"); (case c5 => decide); (case kB => exact locs rfl); (case c2 => exact rfl); (case c3 => exact rfl); (case c4 => exact rfl); k_whole; intro g' L' h' hg' FG' F' N' B' X' T'; (try dsimp only); (try k_lift B'); (try (refine letA ?_; intro env1 A1)); (try k_fold)
  obtain ⟨hA, hB, zA, zB⟩ := hp
  k_with "my exec While BoolOp cons nil" => (k_here; k_dflt (refine' whileJ (σ := Int × Tok) (fun _ => []) (fun c => [(Str.ofString "post", .int c.1 c.2)]) (PostI (la.drop pre.toNat) (lb.drop pre.toNat)) (fun c => (la.drop pre.toNat).length - (-c.1).toNat) (0, _) ?vF_h21 ?vN_h21 ?vk_h21 ?vp_h21 ?vturn_h21 ?vdone_h21; (case vF_h21 => k_asm); (case vN_h21 => k_asm); (case vk_h21 => kst_all); (case vp_h21 => exact postI0 _ _ _)); (case' vturn_h21 => (rintro ⟨post, tq⟩ h tk hP F N; dsimp only [kstB] at F N; unfold PostI at hP; obtain ⟨q1, q2, q3, q4⟩ := hP; dsimp only at q1 q2 q3 q4)); (case' vdone_h21 => (rintro ⟨post, tq⟩ h tk hP F N; dsimp only [kstB] at F N; unfold PostI at hP; obtain ⟨q1, q2, q3, q4⟩ := hP; dsimp only at q1 q2 q3 q4)))
  k_with "my exec While BoolOp cons nil" => (k_here; k_dflt (refine' whileJ (σ := Int × Tok) (fun _ => []) (fun c => [(Str.ofString "pre", .int c.1 c.2)]) (PreI la lb) (fun c => la.length - c.1.toNat) (0, _) ?wF_h22 ?wN_h22 ?wk_h22 ?wp_h22 ?wturn_h22 ?wdone_h22; (case wF_h22 => k_asm); (case wN_h22 => k_asm); (case wk_h22 => kst_all); (case wp_h22 => exact preI0 _ _ _)); (case' wturn_h22 => (rintro ⟨pre, tp⟩ h tk hP F N; dsimp only [kstB] at F N; unfold PreI at hP; obtain ⟨p1, p2, p3, p4⟩ := hP; dsimp only at p1 p2 p3 p4)); (case' wdone_h22 => (rintro ⟨pre, tp⟩ h tk hP F N; dsimp only [kstB] at F N; unfold PreI at hP; obtain ⟨p1, p2, p3, p4⟩ := hP; dsimp only at p1 p2 p3 p4)))
  k_with "my exec Assign" => (k_here; (with_reducible show wpAny _ _ (exec (Stmt.Assign [Expr.Name ("a" : Str) _] (Expr.Subscript _ (Expr.Slice none (some (Expr.BoolOp _ _ _)) none _) _) _) _) _ _ _); (fail_if_success (with_reducible show wpAny _ _ _ (WJ _ _ _ _ _ _ _) _ _)); k_dflt (refine' meetJ (σ := List Nat × Tok) (fun _ => []) (fun c => [(Str.ofString "a", .str (txt c.1) c.2)]) (fun c => c.1 = (la.drop pre.toNat).take ((la.drop pre.toNat).length - (-post).toNat)) ?xF_h23 ?xN_h23 ?xgo_h23 ?xdone_h23); (case xF_h23 => k_asm); (case xN_h23 => k_asm); (case' xdone_h23 => (rintro ⟨a1, tx⟩ h tk hP F N; dsimp only [kstB] at F N hP; have a1len : a1.length ≤ 16 := hP ▸ sm_take (sm_drop zA))))
  k_with "my exec Assign" => (k_here; (with_reducible show wpAny _ _ (exec (Stmt.Assign [Expr.Name ("b" : Str) _] (Expr.Subscript _ (Expr.Slice none (some (Expr.BoolOp _ _ _)) none _) _) _) _) _ _ _); (fail_if_success (with_reducible show wpAny _ _ _ (WJ _ _ _ _ _ _ _) _ _)); k_dflt (refine' meetJ (σ := List Nat × Tok) (fun _ => []) (fun c => [(Str.ofString "b", .str (txt c.1) c.2)]) (fun c => c.1 = (lb.drop pre.toNat).take ((lb.drop pre.toNat).length - (-post).toNat)) ?yF_h24 ?yN_h24 ?ygo_h24 ?ydone_h24); (case yF_h24 => k_asm); (case yN_h24 => k_asm); (case' ydone_h24 => (rintro ⟨b1, ty⟩ h tk hQ F N; dsimp only [kstB] at F N hQ; have b1len : b1.length ≤ 16 := hQ ▸ sm_take (sm_drop zB))))
  k_with "my exec If" => (k_here; (with_reducible show wpAny _ _ (exec (Stmt.If (Expr.Compare _ _ _ _) [Stmt.Assign [Expr.Tuple _ _ _] _ _] _ _) _) _ _ _); (fail_if_success (with_reducible show wpAny _ _ _ (WJ _ _ _ _ _ _ _) _ _)); k_dflt (refine' meetJ (σ := List Nat × Tok × List Nat × Tok) (fun _ => []) (fun c => [(Str.ofString "a", .str (txt c.1) c.2.1), (Str.ofString "b", .str (txt c.2.2.1) c.2.2.2)]) (fun c => Swap a1 b1 c.1 c.2.2.1) ?sF_h25 ?sN_h25 ?sgo_h25 ?sdone_h25); (case sF_h25 => k_asm); (case sN_h25 => k_asm); (case' sdone_h25 => (rintro ⟨a2, tx2, b2, ty2⟩ h tk hS F N; dsimp only [kstB] at F N hS; have hS2 := swap_len hS; have h2ab := swap_ascii hS (by rw [hP]; exact part_ascii hA) (by rw [hQ]; exact part_ascii hB); obtain ⟨h2a, h2b⟩ := h2ab)))
  k_with "my call type:list" => (k_here; k_dflt (refine' listRangeW a2.length rfl ?rF_h26 ?rN_h26 ?rR_h26 ?rS_h26 ?rn_h26 ?rz_h26 ?_; (case rF_h26 => k_asm); (case rN_h26 => k_asm); (case rR_h26 => assumption); (case rS_h26 => exact (rs2 _ (by omega)).1); (case rn_h26 => exact (rs2 _ (by omega)).2); (case rz_h26 => omega); k_whole; intro h9 tk9 D9 ys9 cnt9 F9 N9 I9; have hrow : IntsAre ys9 (rowAt a2 b2 0 0) := row_start I9; clear I9))
  k_with "call ref" => (refine' use (c_substO _ _ _ _) ?k1_h27 ?k2_h27 ?k3_h27 ?k4_h27 ?k5_h27 ?kK_h27 ?kd_h27 ?ku_h27 ?kp_h27 ?_; (case k1_h27 => k_asm); (case k2_h27 => k_asm); (case k3_h27 => k_asm); (case k4_h27 => k_asm); (case k5_h27 => k_asm); (case kK_h27 => first | exact rfl | assumption); (case kd_h27 => ktr_room); (case ku_h27 => ktr_units); (case kp_h27 => first | exact trivial | assumption); intro r9 h9 tk9 F9 N9 S9 P9; obtain ⟨t9, rfl⟩ := P9; (try dsimp only); (try k_fold))
  k_with "my pyIter ref" => (k_here; k_dflt (refine' kst_step (st := 1) (n := b2.length) (σ := Int × Tok × List Value) (fun c => [(D9, W.listOf c.2.2.toArray cnt9)]) (fun c => [(Str.ofString "result", .int c.1 c.2.1)]) (fun _ => True) [Str.ofString "bchar", Str.ofString "distance", Str.ofString "minimum", Str.ofString "index", Str.ofString "substitute", Str.ofString "insert_delete"] (fun pr c => OutI a2 b2 mx pr.length c.1 c.2.2) (0, _, ys9) rfl ?okR_h28 ?okS_h28 ?okn_h28 ?okF_h28 ?okN_h28 ?okf_h28 ?okk_h28 ?okp_h28 ?oturn_h28 ?odone_h28; (case okR_h28 => assumption); (case okF_h28 => k_asm); (case okN_h28 => k_asm); (case okf_h28 => exact trivial); (case okk_h28 => kst_all); (case okp_h28 => exact out0 hrow); (case okS_h28 => exact (rs1 _ (by omega)).1); (case okn_h28 => exact (rs1 _ (by omega)).2)); (case' oturn_h28 => (rintro ⟨res, tr, us⟩ pr k t u h tk own hk9 hlt hoff _ hO F N; dsimp only [kstB] at F N hO hoff; simp only [List.cons_append, List.nil_append, List.map_cons, List.map_nil] at N hoff; have kRow := OutI.row hO; have kLen := IntsAre.length kRow; rw [rowAt_len] at kLen)); (case' odone_h28 => (rintro ⟨res, tr, us⟩ pr u h tk hlt _ hO F N;  dsimp only [kstB] at F N hO; rw [hlt] at hO)))
  k_with "my pyIter ref" => (k_here; k_dflt (refine' kst_step (st := 1) (n := a2.length) (σ := Int × Tok × Int × Tok × Int × Tok × List Value) (fun c => (D9, W.listOf c.2.2.2.2.2.2.toArray cnt9) :: own) (fun c => [(Str.ofString "minimum", .int c.2.2.2.2.1 c.2.2.2.2.2.1), (Str.ofString "result", .int c.1 c.2.1), (Str.ofString "distance", .int c.2.2.1 c.2.2.2.1)]) (fun _ => True) [Str.ofString "substitute", Str.ofString "insert_delete"] (fun pi c => InI a2 b2 pr.length pi.length c.1 c.2.2.1 c.2.2.2.2.1 c.2.2.2.2.2.2) (k * 2, _, k * 2, _, 9223372036854775807, _, us) rfl ?ikR_h29 ?ikS_h29 ?ikn_h29 ?ikF_h29 ?ikN_h29 ?ikf_h29 ?ikk_h29 ?ikp_h29 ?iturn_h29 ?idone_h29; (case ikR_h29 => assumption); (case ikF_h29 => k_asm); (case ikN_h29 => k_asm); (case ikf_h29 => exact trivial); (case ikk_h29 => kst_all); (case ikp_h29 => exact in0 hO hk9); (case ikS_h29 => exact (rs1 _ (by omega)).1); (case ikn_h29 => exact (rs1 _ (by omega)).2)); (case' iturn_h29 => (rintro ⟨res', tr', dist, td, mn, tm, us'⟩ pi k' t' u' h' tk' own' hk9' hlt' hoff' _ hI F' N'; dsimp only [kstB] at F' N' hI hoff'; simp only [List.cons_append, List.nil_append, List.map_cons, List.map_nil] at N' hoff'; have kRow' := InI.row hI; have kLen' := InI.len hI; have kLen2 := rowAt_len a2 b2 pr.length pi.length)); (case' idone_h29 => (rintro ⟨res', tr', dist, td, mn, tm, us'⟩ pi u' h' tk' hlt' _ hI F' N';  dsimp only [kstB] at F' N' hI; rw [hlt'] at hI)))
  k_with "my setItem ref int" => (k_here; k_dflt (refine' ksa_set ?k1_h30 ?k2_h30 ?k3_h30 ?k4_h30 ?k5_h30 ?k6_h30 ?k7_h30 ?_; (case k1_h30 => k_asm); (case k2_h30 => k_asm); (case k3_h30 => exact Upd.head (fun p hp => (List.mem_append.mp hp).elim (fun h => hoff p h _ (by simp)) (fun h => hoff' p h _ (by simp)))); (case k4_h30 => exact kRow'); (case k5_h30 => omega); (case k6_h30 => omega); (case k7_h30 => omega); k_whole); intro h' F' N' hi' hl' hs'; clear hi' hl' hs'; (try k_sweep))
  k_with "my InvEndN" => first
    | (refine' kst_end (⟨_, _, _, _, _, _, _⟩ : Int × Tok × Int × Tok × Int × Tok × List Value) ?weF_h31 ?weN_h31 ?wen_h31 ?weo_h31 ?wea_h31 ?wef_h31 ?wek_h31 ?wer_h31 ?wep_h31; (case weF_h31 => k_asm); (case weN_h31 => k_asm); (case wen_h31 => exact in_app); (case weo_h31 => exact in_own); (case wea_h31 => k_dflt (exact rfl)); (case wef_h31 => exact trivial); (case wek_h31 => kst_all); (case wer_h31 => k_dflt (kst_same)); (case wep_h31 => k_dflt ((try dsimp only); k_extra "state")))
    | (refine' kst_end (⟨_, _, _⟩ : Int × Tok × List Value) ?veF_h31 ?veN_h31 ?ven_h31 ?veo_h31 ?vea_h31 ?vef_h31 ?vek_h31 ?ver_h31 ?vep_h31; (case veF_h31 => k_asm); (case veN_h31 => k_asm); (case ven_h31 => exact in_one); (case veo_h31 => exact in_tail); (case vea_h31 => k_dflt (exact rfl)); (case vef_h31 => exact trivial); (case vek_h31 => kst_all); (case ver_h31 => k_dflt (kst_same)); (case vep_h31 => k_dflt ((try dsimp only); k_extra "state")))
  k_with "state" => first
    | ((with_reducible show PostI _ _ _); apply post_turn q1 q4; (iterate 2 (first | (apply sd_lt; assumption; assumption) | (apply sd_ltz; assumption; assumption))); assumption)
    | ((with_reducible show PreI _ _ _); apply pre_turn p1 p4; (iterate 2 (apply sd_drop p1; assumption)); assumption)
    | ((with_reducible show InI _ _ _ _ _ _ _ _); first | (refine' (in_turn h2a h2b hI hk9' hk9 ?tn1_h32 ?tn2_h32 ?tn3_h32).1 ?tn4_h32; (case tn4_h32 => assumption); (case tn1_h32 => omega); (case tn2_h32 => assumption); (case tn3_h32 => assumption)) | (refine' (in_turn h2a h2b hI hk9' hk9 ?tm1_h32 ?tm2_h32 ?tm3_h32).2 ?tm4_h32; (case tm4_h32 => assumption); (case tm1_h32 => omega); (case tm2_h32 => assumption); (case tm3_h32 => assumption)))
    | ((with_reducible show OutI _ _ _ _ _ _); rw [List.length_append, List.length_singleton]; refine' in_end ?to1_h32 hO hI ?to2_h32; (case to2_h32 => assumption); (case to1_h32 => omega))
  k_steps
  · exact hret _ _ _ (kept9 hg' (by assumption)) ⟨_, _, rfl, lev_same mx (by assumption)⟩
  · exact hret _ _ _ (kept9 hg' (by assumption)) ⟨_, _, rfl, lev_build (by assumption) p4 q4 hP hQ (core_len (by assumption) (by assumption) hS (by assumption))⟩
  · exact hret _ _ _ (kept9 hg' (by assumption)) ⟨_, _, rfl, lev_build (by assumption) p4 q4 hP hQ (core_dp (by assumption) (by assumption) hS (out_end (by omega) hO))⟩
  · exact hret _ _ _ (kept9 hg' (by assumption)) ⟨_, _, rfl, lev_build (by assumption) p4 q4 hP hQ (core_dp (by assumption) (by assumption) hS (in_cut hlt hI (by assumption)))⟩
  · (refine' WJ.mk (b1, _, a1, _) ?sw1 ?sw2 News.nil ?sw3; (case sw2 => assumption); (case sw1 => exact .inr ⟨rfl, rfl, by omega⟩); (case sw3 => rfl))
  · exact WJ.mk (_, _, _, _) (.inl ⟨rfl, rfl, by omega⟩) (by assumption) (by assumption) (two_same _ _ _ _ _ (by decide))
  · exact hret _ _ _ (kept9 hg' (by assumption)) ⟨_, _, rfl, lev_build (by assumption) p4 q4 hP hQ (core_nil (by omega))⟩
  · exact hret _ _ _ (kept9 hg' (by assumption)) ⟨_, _, rfl, lev_build (by assumption) p4 q4 hP hQ (core_nil (by omega))⟩
  · exact WJ.mk (_, _) rfl (by assumption) (by assumption) rfl
  · exact WJ.mk (lb.drop pre.toNat, _) (take_zero _ (by simp only [bne_iff_ne, ne_eq, Decidable.not_not] at *; omega)) (by assumption) (by assumption) rfl
  · exact WJ.mk (_, _) rfl (by assumption) (by assumption) rfl
  · exact WJ.mk (la.drop pre.toNat, _) (take_zero _ (by simp only [bne_iff_ne, ne_eq, Decidable.not_not] at *; omega)) (by assumption) (by assumption) rfl
  all_goals first | exact WJ.mk (post, tq) ⟨q1, q2, q3, q4⟩ (by assumption) News.nil rfl | exact WJ.mk (pre, tp) ⟨p1, p2, p3, p4⟩ (by assumption) News.nil rfl
end
end
section
open PySem.Calls
theorem fill11 : hd.heap_39 = hd.heap_39 ∧ Challenge.rw_pa0032_01 = Challenge.rw_pa0032_01 := by
  k_with_none
  w_top off
  k_fill
  k_with "ev" => (repeat' (first | exact EvI.const | (refine' EvI.name ?enF_h1 ?enV_h1; (case enF_h1 => k_asm); (case enV_h1 => exact rfl)) | apply EvI.add | apply EvI.sub | apply EvI.and3 | apply EvI.and15 | apply EvI.and63 | apply EvI.and65535 | apply EvI.or | apply EvI.shl8 | apply EvI.shl2 | apply EvI.shl4 | apply EvI.shl6 | apply EvI.shr2 | apply EvI.shr4 | apply EvI.shr | exact (rfl : _ = ((0 : Nat) : Int)) | exact (rfl : _ = ((2 : Nat) : Int)) | exact (rfl : _ = ((4 : Nat) : Int)) | exact (rfl : _ = ((6 : Nat) : Int)) | k_extra "ev more" | ((fail_if_success (with_reducible show EvI _ _ _ _ _ _)); (fail_if_success (with_reducible show EvC _ _ _ _ _ _)); omega)))
  k_with "evc" => (repeat' (first | apply EvC.and | apply EvL.one | apply EvL.cons | apply EvC.not | apply EvC.lt | apply EvC.le | apply EvC.gt | apply EvC.ge | apply EvC.eq | apply EvC.ne | apply EvC.lele | (refine' EvC.nameB ?enG_h2 ?enW_h2; (case enG_h2 => k_asm); (case enW_h2 => exact rfl)) | apply EvC.nameI | (k_extra "ev"; done)))
  k_with "my storeName" => (k_here; k_dflt (refine' storeM ?zmF_h3 ?zmN_h3 ?_ ?zma_h3 ?zmb_h3; (case zmF_h3 => k_asm); (case zmN_h3 => k_asm); (case zma_h3 => rfl); (case zmb_h3 => rfl); k_whole; intro _ _ _ _ _; (try k_sweep)))
  k_with "ne9" => first | exact h91 | exact h92 (_, _) (.head _) | exact h92 (_, _) (.tail _ (.head _)) | exact h92 (_, _) (.tail _ (.tail _ (.head _))) | exact h92 (_, _) (.tail _ (.tail _ (.tail _ (.head _)))) | exact stored_sub h93 (by decide) | (intro e9; subst e9; exact absurd h93 (by decide))
  k_with "same" => (intro z9 h91 h92 h93; (repeat (first | (with_reducible exact rfl) | (refine (if_neg ?sn9_h5).trans ?_; (case sn9_h5 => k_extra "ne9")))); done)
  k_with "same2" => (intro z9 h92 h93; (repeat (first | (with_reducible exact rfl) | (refine (if_neg ?sn9_h6).trans ?_; (case sn9_h6 => k_extra "ne9")))); done)
  k_with "my eval BinOp" => (k_here; k_dflt (refine' EvI.use ?zex_h7 ?_; (case zex_h7 => k_extra "ev"); k_whole; intro _ _))
  k_with "argv" => (repeat' (first | exact ArgV.nil | (refine' ArgV.name ?anV_h8 ?anX_h8 ?anD_h8 ?_; (case anV_h8 => exact rfl); (case anX_h8 => exact rfl); (case anD_h8 => decide))))
  k_with "my eval Call" => (k_here; (with_reducible show wpAny _ _ (eval (Expr.Call (Expr.Name _ _) (_ :: _) [] _) _) _ _ _); k_dflt (refine' evCall ?ecE_h9 ?ecF_h9 ?ecX_h9 ?ecT_h9 ?ecK_h9 ?ecP_h9 ?ecA_h9 ?_ ?ecH_h9 ?ecI_h9 ?ecD_h9 ?ecC_h9 ?ecB_h9; (case ecE_h9 => exact rfl); (case ecF_h9 => k_asm); (case ecX_h9 => k_asm); (case ecT_h9 => k_asm); (case ecK_h9 => k_is); (case ecP_h9 => k_is); (case ecA_h9 => k_extra "argv"); (case ecH_h9 => rfl); (case ecI_h9 => rfl); (case ecD_h9 => decide); (case ecC_h9 => rfl); (case ecB_h9 => rfl); k_whole))
  k_with "my isTrue Compare" => (k_here; k_dflt (refine' EvC.use ?zcx_h10 ?_ ?_; (case zcx_h10 => k_extra "evc"); (all_goals (k_whole; intro _ _)); (all_goals first | contradiction | (law_purse 20000 => (exfalso; omega)) | skip)))
  k_with "my execs cons" => (k_here; first
    | ((with_reducible show wpAny _ _ (execs (Stmt.Assign [Expr.Name _ _] _ _ :: _) _) _ _ _); k_dflt (refine' stAssign ?zsx_h11 ?zsF_h11 ?zsN_h11 ?_ ?zsa_h11 ?zsb_h11 ?zsc_h11; (case zsx_h11 => k_extra "ev"); (case zsF_h11 => k_asm); (case zsN_h11 => k_asm); (case zsa_h11 => rfl); (case zsb_h11 => rfl); (case zsc_h11 => rfl); k_whole; intro _ _ _ _ _ _; (try k_sweep)))
    | ((with_reducible show wpAny _ _ (execs (Stmt.AugAssign (Expr.Name _ _) Operator.Add _ _ :: _) _) _ _ _); k_dflt (refine' stAdd ?zsv_h11 ?zsx_h11 ?zsF_h11 ?zsN_h11 ?_ ?zsa_h11 ?zsb_h11; (case zsF_h11 => k_asm); (case zsv_h11 => exact rfl); (case zsx_h11 => k_extra "ev"); (case zsN_h11 => k_asm); (case zsa_h11 => rfl); (case zsb_h11 => rfl); k_whole; intro _ _ _ _ _ _; (try k_sweep)))
    | ((with_reducible show wpAny _ _ (execs (Stmt.AugAssign (Expr.Name _ _) Operator.Sub _ _ :: _) _) _ _ _); k_dflt (refine' stSub ?zsv_h11 ?zsx_h11 ?zsF_h11 ?zsN_h11 ?_ ?zsa_h11 ?zsb_h11; (case zsF_h11 => k_asm); (case zsv_h11 => exact rfl); (case zsx_h11 => k_extra "ev"); (case zsN_h11 => k_asm); (case zsa_h11 => rfl); (case zsb_h11 => rfl); k_whole; intro _ _ _ _ _ _; (try k_sweep)))
    | ((with_reducible show wpAny _ _ (execs (Stmt.Expr (Expr.Call (Expr.Attribute (Expr.Name _ _) _ _) [_] [] _) _ :: _) _) _ _ _); k_dflt (refine' stAppend ?zpF_h11 ?zpv_h11 ?zpN_h11 ?zpm_h11 ?zpy_h11 ?zpU_h11 ?zpz_h11 ?_ ?zpa_h11 ?zpb_h11 ?zpc_h11 ?zpd_h11 ?zpe_h11 ?zpf_h11 ?zpg_h11; (case zpF_h11 => k_asm); (case zpv_h11 => exact rfl); (case zpN_h11 => k_asm); (case zpm_h11 => first | k_mem | k_memK | (with_unfolding_all k_mem)); (case zpy_h11 => k_extra "ev"); (case zpU_h11 => (intro _; k_upd)); (case zpz_h11 => size_fits); (case zpa_h11 => rfl); (case zpb_h11 => rfl); (case zpc_h11 => decide); (case zpd_h11 => rfl); (case zpe_h11 => rfl); (case zpf_h11 => rfl); (case zpg_h11 => rfl); k_whole; intro _ _ _ _ _; (try k_sweep)))
    | ((with_reducible show wpAny _ _ (execs (Stmt.If _ _ [] _ :: _) _) _ _ _); k_dflt (refine' stIf0 ?zix_h11 ?_ ?_; (case zix_h11 => k_extra "evc"); (all_goals (k_whole; intro _ _)); (all_goals first | contradiction | (law_purse 20000 => (exfalso; omega)) | skip)))
    | ((with_reducible show wpAny _ _ (execs (Stmt.If _ _ _ _ :: _) _) _ _ _); k_dflt (refine' stIf ?zjx_h11 ?_; (case zjx_h11 => k_extra "evc"); k_whole; intro _; refine ⟨?_, ?_⟩; (all_goals intro _ _); (all_goals first | contradiction | (law_purse 20000 => (exfalso; omega)) | skip)))
    | k_fold)
  exact ⟨rfl, rfl⟩
def alph (p q : Nat) : List Nat := (List.range 62).map (fun i => (b64s.getD i 0).toNat) ++ [p, q]
theorem alph_len (p q : Nat) : (alph p q).length = 64 := rfl
theorem alph_text (p q : Nat) : Str.ofString "ABCDEFGHIJKLMNOPQRSTUVWXYZabcdefghijklmnopqrstuvwxyz0123456789" ++ txt [p, q] = txt (alph p q) := by
  have e : Str.ofString "ABCDEFGHIJKLMNOPQRSTUVWXYZabcdefghijklmnopqrstuvwxyz0123456789" = txt ((List.range 62).map (fun i => (b64s.getD i 0).toNat)) := by decide +kernel
  rw [e]
  show Str.mk _ = Str.mk _
  simp [txt, alph]
theorem charS {prog : Program} {w : World} {A : Around} {E : Value → Shared → Prop} {s : Shared} {Q : Value → Shared → Prop} {x : Str} {l : List Nat} {t : Tok} {value slice : PySem.Expr} {i : Int} {ui : Tok} (e : x = txt l) (hz : l.length ≤ 500000) (h0 : 0 ≤ i) (h1 : i < l.length) (h : ∀ t' k, Q (.str (one (l.getD i.toNat 0)) t') { s with toks := k })
    (hs : subscripted slice false (.str (txt l) t) (.int i ui) = operate [.str (txt l) t, .int i ui] (getItem (.str (txt l) t) (.int i ui)) := by with_unfolding_all rfl)
    (ht : ∀ r, letTemporaryGo value (.str (txt l) t) r = pure () := by intro _; with_unfolding_all rfl) :
    wpAny (model prog w) A (subscriptTail value slice (.str x t) (.int i ui)) Q E s := by
  subst e
  exact charPos hz h0 h1 h hs ht
theorem strs_takeL {f : Int → Str} {ns : List Int} {i : Nat} {k : Int} {ys : List Value} {y : Str} {t : Tok} (h : StrsAre ys ((ns.take i).map f)) (hc : ns[i]? = some k) (e : y = f k) : StrsAre (ys ++ [.str y t]) ((ns.take (i + 1)).map f) := by
  rw [List.take_add_one, hc, e]
  simpa using kct_snoc h
section
variable {w : World} {mean : ExcName → Option Value} {mg mb : Str → Option Value}
theorem r_signs {A A₀ : Around} {base h₀ : Heap} {outer : List Env} {L a l : Addr} {cn : Str} {cs : Scope} {ccd : Value} {cl : List (Str × Addr)} {m : Str → Option Value} {news : List (Addr × Obj)} {s : Shared} {Q E : Value → Shared → Prop} {dp un c : Nat} {gd : Option (List Code)} {us : List Value} {ns : List Int} (p q : Nat) (tl : Tok)
    (B : Below A₀ base outer h₀) (F : Fr h₀ L s.heap m) (X : (hd.heap_39 w.params).In h₀) (N : News h₀ L s.heap news) (T : Top hd.view_39 LO mean mg mb h₀) (hk : cs.kind = .function) (hdp : dp + 1 < recursionLimit) (hun : un + 8 * 1 < cLine)
    (hm : (l, W.listOf us.toArray c) ∈ news) (hi : IntsAre us ns) (hf : Figs ns)
    (ret : ∀ t h' tk', Fr h₀ L h' m → News h₀ L h' news → Q (.str (txt (ns.map fun n => (alph p q).getD n.toNat 0)) t) { s with heap := h', toks := tk' }) :
    wpAny (model PR w) (ktrTop dp un gd cn cs L a ccd cl outer) (call (.ref 154) [.ref l, .str (txt [p, q]) tl]) Q E s := by
  obtain ⟨hb, hsz⟩ := hf
  refine wpAny_call ?_
  (refine' code_defC (binds := [(Str.ofString "figures", .ref l), (Str.ofString "last", .str (txt [p, q]) tl)]) ?k1 ?k2 ?k3 ?k4 ?k5 ?kA ?kF ?kK ?k6 ?k7 ?k8 ?k9 ?kB ?kD ?_ ?c2 ?c3 ?c4; (case kA => exact rfl); (case kF => exact rfl); (case kK => assumption); (case k1 => k_asm); (case k2 => k_asm); (case k3 => k_asm); (case k4 => k_asm); (case k5 => k_asm); (case k6 => k_is); (case k7 => k_is); (case k8 => ktr_room); (case k9 => first | exact BindsTo.of_eq rfl | exact binds_K (by k_in) rfl (by k_is) rfl rfl rfl | fail "BINDS"); (case kB => exact rfl); (case kD => decide +kernel); (case c2 => exact rfl); (case c3 => exact rfl); (case c4 => exact rfl); k_whole; intro g' L' h' tk' cells' FG' F' N' Y' B' X' T' l1; k_cells Y'; (try simp only [List.cons_append, List.nil_append] at N'); (try dsimp only); (try k_lift B'); (try (refine letA ?_; intro env1 A1)); (try k_fold))
  k_with "my storeName" => (k_here; k_dflt (refine' storeX_C ?F_h12 ?N_h12 ?c_h12 ?U_h12 ?d_h12 ?_ ?a_h12 ?b_h12; (case a_h12 => rfl); (case b_h12 => rfl); (case F_h12 => k_asm); (case N_h12 => k_asm); (case c_h12 => rfl); (case U_h12 => exact UpdF.head (fun p hp => Nat.ne_of_lt (Nat.lt_succ_of_lt (l1 p hp)))); (case d_h12 => assumption); k_whole; intro h' o' F' N' d'; (try dsimp only at N'); (try k_sweep)))
  k_with "my eval ListComp" => (k_here; k_dflt (refine' compLU (l := l) (ol := W.listOf us.toArray c) (vs := us) (ns := ns) (fun nw => (l, W.listOf us.toArray c) ∈ nw) (fun i ys => StrsAre ys ((ns.take i).map fun n => one ((alph p q).getD n.toNat 0))) ?kS_h13 ?kK_h13 ?kL_h13 hi rfl ?kF_h13 ?kN_h13 ?k1_h13 ?k2_h13 ?k3_h13 ?k4_h13 ?k5_h13 ?hi_h13 ?k6_h13 ?k7_h13 ?turn_h13 ?fin_h13; (case kF_h13 => k_asm); (case kN_h13 => k_asm); (case kS_h13 => exact List.mem_cons_of_mem _ hm); (case kK_h13 => (intro h' nw _ N hn; exact (N _ hn).1)); (case kL_h13 => (intro h' e; exact ⟨_, e, rfl, _, rfl⟩)); (case k1_h13 => with_unfolding_all rfl); (case k2_h13 => decide); (case k3_h13 => rfl); (case k4_h13 => decide); (case k5_h13 => rfl); (case hi_h13 => (refine' nameX_L ?f_h13 ?e_h13 ?q_h13 ?v_h13 ?z_h13; (case f_h13 => k_asm); (case e_h13 => rfl); (case v_h13 => rfl); (case z_h13 => rfl); (case q_h13 => exact ⟨rfl, rfl⟩))); (case k6_h13 => (rw [PySem.sizeLine_eq]; omega)); (case k7_h13 => exact .nil)))
  k_with "my subscriptTail" => (k_here; k_dflt (refine' charS (alph_text p q) ?a_h14 ?b_h14 ?c_h14 ?_ ?s_h14 ?t_h14; (case a_h14 => (rw [alph_len]; omega)); (case b_h14 => exact (hb _ (List.mem_of_getElem? (by assumption))).1); (case c_h14 => (rw [alph_len]; exact (hb _ (List.mem_of_getElem? (by assumption))).2)); (case s_h14 => with_unfolding_all rfl); (case t_h14 => (intro _; with_unfolding_all rfl)); k_whole; intro _ _))
  k_with "my call builtin:str.join" => (k_dflt (refine' join9 (l := ns.map fun n => (alph p q).getD n.toNat 0) ?N_h15 ?m_h15 ?i_h15 ?w_h15 ?_; (case N_h15 => k_asm); (case m_h15 => k_mem); (case i_h15 => (rename StrsAre _ _ => hS9; rw [List.map_map]; rw [List.take_of_length_le (by simp)] at hS9; exact hS9)); (case w_h15 => (rw [List.length_map]; omega)); k_whole; intro _ _))
  k_steps
  · exact Pend.mk (fun _ _ e => e) (strs_takeL (by assumption) (by assumption) rfl)
  · rename News h₀ L _ _ => kN9
    exact ret _ _ _ (by assumption) (fun p hp => kN9 p (List.mem_cons_of_mem _ (List.mem_cons_of_mem _ hp)))
end
end
section
open PySem.Calls
theorem fill12 : hd.heap_39 = hd.heap_39 ∧ Challenge.rw_pa0032_01 = Challenge.rw_pa0032_01 := by
  k_with_none
  w_top off
  k_fill
  k_with "ev" => (repeat' (first | exact EvI.const | (refine' EvI.name ?enF_h1 ?enV_h1; (case enF_h1 => k_asm); (case enV_h1 => exact rfl)) | apply EvI.add | apply EvI.sub | apply EvI.and3 | apply EvI.and15 | apply EvI.and63 | apply EvI.and65535 | apply EvI.or | apply EvI.shl8 | apply EvI.shl2 | apply EvI.shl4 | apply EvI.shl6 | apply EvI.shr2 | apply EvI.shr4 | apply EvI.shr | exact (rfl : _ = ((0 : Nat) : Int)) | exact (rfl : _ = ((2 : Nat) : Int)) | exact (rfl : _ = ((4 : Nat) : Int)) | exact (rfl : _ = ((6 : Nat) : Int)) | k_extra "ev more" | ((fail_if_success (with_reducible show EvI _ _ _ _ _ _)); (fail_if_success (with_reducible show EvC _ _ _ _ _ _)); omega)))
  k_with "evc" => (repeat' (first | apply EvC.and | apply EvL.one | apply EvL.cons | apply EvC.not | apply EvC.lt | apply EvC.le | apply EvC.gt | apply EvC.ge | apply EvC.eq | apply EvC.ne | apply EvC.lele | (refine' EvC.nameB ?enG_h2 ?enW_h2; (case enG_h2 => k_asm); (case enW_h2 => exact rfl)) | apply EvC.nameI | (k_extra "ev"; done)))
  k_with "my storeName" => (k_here; k_dflt (refine' storeM ?zmF_h3 ?zmN_h3 ?_ ?zma_h3 ?zmb_h3; (case zmF_h3 => k_asm); (case zmN_h3 => k_asm); (case zma_h3 => rfl); (case zmb_h3 => rfl); k_whole; intro _ _ _ _ _; (try k_sweep)))
  k_with "ne9" => first | exact h91 | exact h92 (_, _) (.head _) | exact h92 (_, _) (.tail _ (.head _)) | exact h92 (_, _) (.tail _ (.tail _ (.head _))) | exact h92 (_, _) (.tail _ (.tail _ (.tail _ (.head _)))) | exact stored_sub h93 (by decide) | (intro e9; subst e9; exact absurd h93 (by decide))
  k_with "same" => (intro z9 h91 h92 h93; (repeat (first | (with_reducible exact rfl) | (refine (if_neg ?sn9_h5).trans ?_; (case sn9_h5 => k_extra "ne9")))); done)
  k_with "same2" => (intro z9 h92 h93; (repeat (first | (with_reducible exact rfl) | (refine (if_neg ?sn9_h6).trans ?_; (case sn9_h6 => k_extra "ne9")))); done)
  k_with "my eval BinOp" => (k_here; k_dflt (refine' EvI.use ?zex_h7 ?_; (case zex_h7 => k_extra "ev"); k_whole; intro _ _))
  k_with "argv" => (repeat' (first | exact ArgV.nil | (refine' ArgV.name ?anV_h8 ?anX_h8 ?anD_h8 ?_; (case anV_h8 => exact rfl); (case anX_h8 => exact rfl); (case anD_h8 => decide))))
  k_with "my eval Call" => (k_here; (with_reducible show wpAny _ _ (eval (Expr.Call (Expr.Name _ _) (_ :: _) [] _) _) _ _ _); k_dflt (refine' evCall ?ecE_h9 ?ecF_h9 ?ecX_h9 ?ecT_h9 ?ecK_h9 ?ecP_h9 ?ecA_h9 ?_ ?ecH_h9 ?ecI_h9 ?ecD_h9 ?ecC_h9 ?ecB_h9; (case ecE_h9 => exact rfl); (case ecF_h9 => k_asm); (case ecX_h9 => k_asm); (case ecT_h9 => k_asm); (case ecK_h9 => k_is); (case ecP_h9 => k_is); (case ecA_h9 => k_extra "argv"); (case ecH_h9 => rfl); (case ecI_h9 => rfl); (case ecD_h9 => decide); (case ecC_h9 => rfl); (case ecB_h9 => rfl); k_whole))
  k_with "my isTrue Compare" => (k_here; k_dflt (refine' EvC.use ?zcx_h10 ?_ ?_; (case zcx_h10 => k_extra "evc"); (all_goals (k_whole; intro _ _)); (all_goals first | contradiction | (law_purse 20000 => (exfalso; omega)) | skip)))
  k_with "my execs cons" => (k_here; first
    | ((with_reducible show wpAny _ _ (execs (Stmt.Assign [Expr.Name _ _] _ _ :: _) _) _ _ _); k_dflt (refine' stAssign ?zsx_h11 ?zsF_h11 ?zsN_h11 ?_ ?zsa_h11 ?zsb_h11 ?zsc_h11; (case zsx_h11 => k_extra "ev"); (case zsF_h11 => k_asm); (case zsN_h11 => k_asm); (case zsa_h11 => rfl); (case zsb_h11 => rfl); (case zsc_h11 => rfl); k_whole; intro _ _ _ _ _ _; (try k_sweep)))
    | ((with_reducible show wpAny _ _ (execs (Stmt.AugAssign (Expr.Name _ _) Operator.Add _ _ :: _) _) _ _ _); k_dflt (refine' stAdd ?zsv_h11 ?zsx_h11 ?zsF_h11 ?zsN_h11 ?_ ?zsa_h11 ?zsb_h11; (case zsF_h11 => k_asm); (case zsv_h11 => exact rfl); (case zsx_h11 => k_extra "ev"); (case zsN_h11 => k_asm); (case zsa_h11 => rfl); (case zsb_h11 => rfl); k_whole; intro _ _ _ _ _ _; (try k_sweep)))
    | ((with_reducible show wpAny _ _ (execs (Stmt.AugAssign (Expr.Name _ _) Operator.Sub _ _ :: _) _) _ _ _); k_dflt (refine' stSub ?zsv_h11 ?zsx_h11 ?zsF_h11 ?zsN_h11 ?_ ?zsa_h11 ?zsb_h11; (case zsF_h11 => k_asm); (case zsv_h11 => exact rfl); (case zsx_h11 => k_extra "ev"); (case zsN_h11 => k_asm); (case zsa_h11 => rfl); (case zsb_h11 => rfl); k_whole; intro _ _ _ _ _ _; (try k_sweep)))
    | ((with_reducible show wpAny _ _ (execs (Stmt.Expr (Expr.Call (Expr.Attribute (Expr.Name _ _) _ _) [_] [] _) _ :: _) _) _ _ _); k_dflt (refine' stAppend ?zpF_h11 ?zpv_h11 ?zpN_h11 ?zpm_h11 ?zpy_h11 ?zpU_h11 ?zpz_h11 ?_ ?zpa_h11 ?zpb_h11 ?zpc_h11 ?zpd_h11 ?zpe_h11 ?zpf_h11 ?zpg_h11; (case zpF_h11 => k_asm); (case zpv_h11 => exact rfl); (case zpN_h11 => k_asm); (case zpm_h11 => first | k_mem | k_memK | (with_unfolding_all k_mem)); (case zpy_h11 => k_extra "ev"); (case zpU_h11 => (intro _; k_upd)); (case zpz_h11 => size_fits); (case zpa_h11 => rfl); (case zpb_h11 => rfl); (case zpc_h11 => decide); (case zpd_h11 => rfl); (case zpe_h11 => rfl); (case zpf_h11 => rfl); (case zpg_h11 => rfl); k_whole; intro _ _ _ _ _; (try k_sweep)))
    | ((with_reducible show wpAny _ _ (execs (Stmt.If _ _ [] _ :: _) _) _ _ _); k_dflt (refine' stIf0 ?zix_h11 ?_ ?_; (case zix_h11 => k_extra "evc"); (all_goals (k_whole; intro _ _)); (all_goals first | contradiction | (law_purse 20000 => (exfalso; omega)) | skip)))
    | ((with_reducible show wpAny _ _ (execs (Stmt.If _ _ _ _ :: _) _) _ _ _); k_dflt (refine' stIf ?zjx_h11 ?_; (case zjx_h11 => k_extra "evc"); k_whole; intro _; refine ⟨?_, ?_⟩; (all_goals intro _ _); (all_goals first | contradiction | (law_purse 20000 => (exfalso; omega)) | skip)))
    | k_fold)
  exact ⟨rfl, rfl⟩
def TextOk (A : List Nat) : Prop := (∀ c ∈ A, c < 128) ∧ A.length ≤ 16
def ToldP (A B : List Nat) (D : Int) : Prop := (A = B → D = 0) ∧ (A ≠ B → D ≠ 0 ∧ Far A B D)
theorem told_yes {A B : List Nat} {D bd v : Int} (h : ToldP A B D) (hl : Lev A B bd v) (hd : D ≤ bd ∨ D = 0) : v = D := by
  by_cases e : A = B
  · rw [hl.1 e, h.1 e]
  · have h1 := lev_far hl e (h.2 e).2
    have h2 := (h.2 e).1
    omega
theorem told_over {A B : List Nat} {D bd v : Int} (h : ToldP A B D) (hl : Lev A B bd v) (h1 : ¬ D ≤ bd) (h0 : ¬ D = 0) : bd < v := by
  by_cases e : A = B
  · exact absurd (h.1 e) h0
  · have h1 := lev_far hl e (h.2 e).2
    omega
section
variable {w : World} {mean : ExcName → Option Value} {mg mb : Str → Option Value}
theorem c_told (la lb : List Nat) (bd du : Int) (ta tb tc td : Tok) : Says w mean mg mb 187 3 (fun _ => TextOk la ∧ TextOk lb ∧ ToldP la lb du) [.str (txt la) ta, .str (txt lb) tb, .int bd tc, .int du td] [] (fun _ _ r => r = .bool true) := by
  unfold Says
  intro dp un gd cn cs a ccd cl outer A₀ base h₀ L m s Q E B F X T hk hd hu hp hret
  refine wpAny_call ?_
  refine' enter (binds := [(Str.ofString "one", .str (txt la) ta), (Str.ofString "other", .str (txt lb) tb), (Str.ofString "bound", .int bd tc), (Str.ofString "due", .int du td)]) ?k1 ?k2 ?k3 ?k5 ?kA ?kF ?kK ?k6 ?k7 ?k8 ?k9 ?kB ?_ ?c2 ?c3 ?c4 ?c5; (case kA => exact rfl); (case kF => exact rfl); (case kK => assumption); (case k1 => k_asm); (case k2 => k_asm); (case k3 => k_asm); (case k5 => k_asm); (case k6 => k_is); (case k7 => k_is); (case k8 => ktr_room); (case k9 => first | exact BindsTo.of_eq rfl | exact binds_K (by k_in) rfl (by k_is) rfl rfl rfl | fail "BINDS"); (case c5 => decide); (case kB => exact locs rfl); (case c2 => exact rfl); (case c3 => exact rfl); (case c4 => exact rfl); k_whole; intro g' L' h' hg' FG' F' N' B' X' T'; (try dsimp only); (try k_lift B'); (try (refine letA ?_; intro env1 A1)); (try k_fold)
  obtain ⟨hA, hB, hT⟩ := hp
  have p1 : (∀ c ∈ la, c < 128) ∧ (∀ c ∈ lb, c < 128) ∧ la.length ≤ 16 ∧ lb.length ≤ 16 := ⟨hA.1, hB.1, hA.2, hB.2⟩
  k_with "call ref" => (refine' use (c_lev _ _ _ _ _ _) ?k1_h12 ?k2_h12 ?k3_h12 ?k4_h12 ?k5_h12 ?kK_h12 ?kd_h12 ?ku_h12 ?kp_h12 ?_; (case k1_h12 => k_asm); (case k2_h12 => k_asm); (case k3_h12 => k_asm); (case k4_h12 => k_asm); (case k5_h12 => k_asm); (case kK_h12 => first | exact rfl | assumption); (case kd_h12 => ktr_room); (case ku_h12 => ktr_units); (case kp_h12 => first | exact trivial | assumption); intro r9 h9 tk9 F9 N9 S9 P9; obtain ⟨t9, v9, rfl, hL9⟩ := P9; (try dsimp only); (try k_fold))
  k_steps
  · exact hret _ _ _ (kept9 hg' (by assumption)) (by rw [told_yes hT hL9 (by omega)]; simp)
  · exact hret _ _ _ (kept9 hg' (by assumption)) (by rw [told_yes hT hL9 (by omega)]; simp)
  · exact hret _ _ _ (kept9 hg' (by assumption)) (by rw [decide_eq_true (told_over hT hL9 (by omega) (by omega))])
theorem c_far (l lf : Addr) (vs us : List Value) (ns fs : List Int) (la lb le : List Nat) (ta tb tc : Tok) : Says w mean mg mb 192 4 (fun h => h.IsList l vs.toArray ∧ IntsAre vs ns ∧ ns.length ≤ 63 ∧ h.IsList lf us.toArray ∧ IntsAre us fs ∧ fs.length ≤ 16 ∧ TextOk la ∧ TextOk lb ∧ TextOk le ∧ ToldP la lb (2 * ((fs.filter fun f => decide (62 ≤ f)).length : Int)) ∧ (2 * ((fs.filter fun f => decide (62 ≤ f)).length : Int) ≠ 0 → ToldP lb le (2 * ((fs.filter fun f => decide (62 ≤ f)).length : Int)) ∧ ToldP le la (2 * ((fs.filter fun f => decide (62 ≤ f)).length : Int))))
    [.ref l, .ref lf, .str (txt la) ta, .str (txt lb) tb, .str (txt le) tc] [] (fun _ _ r => r = .bool true) := by
  unfold Says
  intro dp un gd cn cs a ccd cl outer A₀ base h₀ L m s Q E B F X T hk hd hu hp hret
  refine wpAny_call ?_
  refine' enter (binds := [(Str.ofString "script", .ref l), (Str.ofString "figures", .ref lf), (Str.ofString "plain", .str (txt la) ta), (Str.ofString "safe", .str (txt lb) tb), (Str.ofString "left", .str (txt le) tc)]) ?k1 ?k2 ?k3 ?k5 ?kA ?kF ?kK ?k6 ?k7 ?k8 ?k9 ?kB ?_ ?c2 ?c3 ?c4 ?c5; (case kA => exact rfl); (case kF => exact rfl); (case kK => assumption); (case k1 => k_asm); (case k2 => k_asm); (case k3 => k_asm); (case k5 => k_asm); (case k6 => k_is); (case k7 => k_is); (case k8 => ktr_room); (case k9 => first | exact BindsTo.of_eq rfl | exact binds_K (by k_in) rfl (by k_is) rfl rfl rfl | fail "BINDS"); (case c5 => decide); (case kB => exact locs rfl); (case c2 => exact rfl); (case c3 => exact rfl); (case c4 => exact rfl); k_whole; intro g' L' h' hg' FG' F' N' B' X' T'; (try dsimp only); (try k_lift B'); (try (refine letA ?_; intro env1 A1)); (try k_fold)
  obtain ⟨hp1, hp2, hp3, hp4, hp5, hp6, hA, hB, hC, hT1, hT2⟩ := hp
  have hl : g'.IsList l vs.toArray := hg' ▸ hp1
  have hlf : g'.IsList lf us.toArray := hg' ▸ hp4
  have hkl := IntsAre.length hp2
  have hkl2 := IntsAre.length hp5
  generalize hk9 : (fs.filter fun f => decide (62 ≤ f)).length = k9 at hT1 hT2
  have hk10 : k9 ≤ 16 := by rw [← hk9]; exact Nat.le_trans (List.length_filter_le _ _) hp6
  have q1 : TextOk la ∧ TextOk lb ∧ ToldP la lb (2 * (k9 : Int)) := ⟨hA, hB, hT1⟩
  obtain ⟨olf, elf, edf⟩ := hlf
  have q2 : 2 * (k9 : Int) ≠ 0 → TextOk lb ∧ TextOk le ∧ ToldP lb le (2 * (k9 : Int)) := fun h => ⟨hB, hC, (hT2 h).1⟩
  have q3 : 2 * (k9 : Int) ≠ 0 → TextOk le ∧ TextOk la ∧ ToldP le la (2 * (k9 : Int)) := fun h => ⟨hC, hA, (hT2 h).2⟩
  k_with "my eval ListComp" => (k_here; k_dflt (refine' compLT (l := lf) (ol := olf) (vs := us) (ns := fs) (fun _ => True) (fun i ys => IntsAre ys ((fs.take i).filter fun f => decide (62 ≤ f))) trivial ?kK_h13 ?kL_h13 hp5 rfl ?kF_h13 ?kN_h13 ?k1_h13 ?k2_h13 ?k3_h13 ?k4_h13 ?k5_h13 ?hi_h13 ?k6_h13 ?k7_h13 ?turn_h13 ?fin_h13; (case kF_h13 => k_asm); (case kN_h13 => k_asm); (case kK_h13 => (intro h' nw hs _ _; exact hs _ _ elf)); (case kL_h13 => (intro h' e; exact ⟨_, e, edf⟩)); (case k1_h13 => with_unfolding_all rfl); (case k2_h13 => decide); (case k3_h13 => rfl); (case k4_h13 => decide); (case k5_h13 => rfl); (case hi_h13 => (refine' ld ?f_h13 ?e_h13 ?q_h13; (case f_h13 => k_asm); (case e_h13 => rfl); (case q_h13 => exact ⟨rfl, rfl⟩))); (case k6_h13 => (rw [PySem.sizeLine_eq]; omega)); (case k7_h13 => exact .nil); (case' fin_h13 => (intro D ys h tk hR F N; have hR2 : ys.length = k9 := by (rw [hR.length, List.take_length, hk9])))))
  k_with "my call builtin:len" => (k_here; k_dflt (refine' lenN ?N_h14 ?m_h14 ?e_h14 ?z_h14 ?_; (case N_h14 => k_asm); (case m_h14 => k_mem); (case e_h14 => exact hR2); (case z_h14 => omega); k_whole; intro _ _))
  k_with "call ref" => (refine' use (c_told _ _ _ _ _ _ _ _) ?k1_h15 ?k2_h15 ?k3_h15 ?k4_h15 ?k5_h15 ?kK_h15 ?kd_h15 ?ku_h15 ?kp_h15 ?_; (case k1_h15 => k_asm); (case k2_h15 => k_asm); (case k3_h15 => k_asm); (case k4_h15 => k_asm); (case k5_h15 => k_asm); (case kK_h15 => first | exact rfl | assumption); (case kd_h15 => ktr_room); (case ku_h15 => ktr_units); (case kp_h15 => first | exact trivial | assumption | k_extra "my pre"); intro r9 h9 tk9 F9 N9 S9 P9; subst P9; (try dsimp only); (try k_fold))
  k_with "my pre" => first | exact q2 (by omega) | exact q3 (by omega)
  k_steps
  · exact hret _ _ _ (kept9 hg' (by assumption)) rfl
  · exact hret _ _ _ (kept9 hg' (by assumption)) rfl
  · exact Pend.mk (fun _ _ e => e) (ints_in (by assumption) (by assumption) (decide_eq_true (by omega)))
  · exact Pend.mk (fun _ _ e => e) (ints_out (by assumption) (by assumption) (decide_eq_false (by omega)))
end
end
section
/-! the plain law, part 7: figures, signs and octets -/
def In64 (ns : List Int) : Prop := ∀ n ∈ ns, 0 ≤ n ∧ n < 64
theorem by64 {p : Int → Prop} (h : ∀ i : Nat, i < 64 → p (i : Int)) {n : Int} (h0 : 0 ≤ n) (h1 : n < 64) : p n := by
  obtain ⟨i, rfl⟩ := Int.eq_ofNat_of_zero_le h0
  exact h i (by lia)
/-- the sign of a figure -/
def sgP (n : Int) : Nat := (alph 43 47).getD n.toNat 0
def sgS (n : Int) : Nat := (alph 45 95).getD n.toNat 0
theorem map64 {α : Type} {f g : Int → α} {ns : List Int} (hn : In64 ns) (h : ∀ i : Nat, i < 64 → f i = g i) : ns.map f = ns.map g :=
  List.map_congr_left fun n hm => by64 (p := fun n => f n = g n) h (hn n hm).1 (hn n hm).2
theorem bInts_arr {l : List Int} (h : ∀ n ∈ l, 0 ≤ n ∧ n < 256) : KBw.bInts (byteArr l) = l := by
  unfold KBw.bInts byteArr
  rw [List.toList_toArray, List.map_map]
  conv => rhs; rw [← List.map_id l]
  refine List.map_congr_left fun n hn => ?_
  obtain ⟨h0, h1⟩ := h n hn
  show (((UInt8.ofNat n.toNat).toNat : Nat) : Int) = n
  rw [UInt8.toNat_ofNat']
  lia
theorem nats_arr {l : List Int} (h : ∀ n ∈ l, 0 ≤ n ∧ n < 256) : (byteArr l).toList.map (·.toNat) = l.map Int.toNat := by
  unfold byteArr
  rw [List.toList_toArray, List.map_map]
  refine List.map_congr_left fun n hn => ?_
  obtain ⟨h0, h1⟩ := h n hn
  show (UInt8.ofNat n.toNat).toNat = n.toNat
  rw [UInt8.toNat_ofNat']
  omega
theorem am {a k y : Int} (h0 : 0 ≤ y) (h1 : y < k) : (a * k + y) / k = a ∧ (a * k + y) % k = y := by
  have hk : k ≠ 0 := by omega
  constructor
  · rw [Int.add_comm, Int.add_mul_ediv_right _ _ hk, Int.ediv_eq_zero_of_lt h0 h1, Int.zero_add]
  · rw [Int.add_comm, Int.add_mul_emod_self_right, Int.emod_eq_of_lt h0 h1]
theorem dq {f k m : Int} (h0 : 0 ≤ f) (hk : 0 < k) (h1 : f < m * k) : 0 ≤ f / k ∧ f / k < m := ⟨Int.ediv_nonneg h0 (Int.le_of_lt hk), Int.ediv_lt_of_lt_mul hk h1⟩
theorem de (f k : Int) : f / k * k + f % k = f := by rw [Int.mul_comm]; exact Int.mul_ediv_add_emod f k
theorem md (f : Int) {k : Int} (hk : 0 < k) : 0 ≤ f % k ∧ f % k < k := ⟨Int.emod_nonneg _ (by omega), Int.emod_lt_of_pos _ hk⟩
theorem enc_dec : ∀ ns : List Int, In64 ns → ns.length % 4 = 0 → encL (decL ns) = ns
  | [], _, _ => rfl
  | [_], _, h => by simp at h
  | [_, _], _, h => by simp at h
  | [_, _, _], _, h => by simp at h
  | f0 :: f1 :: f2 :: f3 :: r, hn, h => by
    have h0 := hn f0 (by simp); have h1 := hn f1 (by simp); have h2 := hn f2 (by simp); have h3 := hn f3 (by simp)
    have ih := enc_dec r (fun n hm => hn n (by simp [hm])) (by simp only [List.length_cons] at h; omega)
    simp only [decL, encL, ih]
    have q1 := dq (k := 16) (m := 4) h1.1 (by decide) h1.2
    have q2 := dq (k := 4) (m := 16) h2.1 (by decide) h2.2
    rw [(am q1.1 q1.2).1, (am q1.1 q1.2).2, (am q2.1 q2.2).1, (am q2.1 q2.2).2, (am h3.1 h3.2).1, (am h3.1 h3.2).2, de, de]
theorem dec_size : ∀ ns : List Int, ns.length % 4 = 0 → 4 * (decL ns).length = 3 * ns.length
  | [], _ => rfl
  | [_], h => by simp at h
  | [_, _], h => by simp at h
  | [_, _, _], h => by simp at h
  | _ :: _ :: _ :: _ :: r, h => by
    have := dec_size r (by simp only [List.length_cons] at h; lia)
    simp only [decL, List.length_cons]
    lia
theorem oct_size {ns : List Int} (h : ns.length % 4 = 0) (hz : ns.length ≤ 16) : (byteArr (decL ns)).size ≤ 500000 ∧ (byteArr (decL ns)).size % 3 = 0 := by
  have := dec_size ns h
  rw [byteArr_size]
  lia
/-- what the first writer writes -/
theorem plain_text {ns : List Int} (hn : In64 ns) (h4 : ns.length % 4 = 0) : (byteArr ((encL (KBw.bInts (byteArr (decL ns)))).map sgn)).toList.map (·.toNat) = ns.map sgP := by
  rw [bInts_arr (dec_in ns hn), enc_dec ns hn h4, nats_arr sgn_in, List.map_map]
  exact map64 hn (by decide)
/-- what the second one writes -/
theorem safe_text {ns : List Int} (hn : In64 ns) (h4 : ns.length % 4 = 0) : (trans tenc (byteArr ((encL (KBw.bInts (byteArr (decL ns)))).map sgn))).toList.map (·.toNat) = ns.map sgS := by
  rw [bInts_arr (dec_in ns hn), enc_dec ns hn h4]
  unfold trans byteArr
  rw [Array.toList_map, List.toList_toArray, List.map_map, List.map_map, List.map_map]
  exact map64 hn (by decide +kernel)
theorem pt_size (ns : List Int) : (byteArr ((encL (KBw.bInts (byteArr (decL ns)))).map sgn)).size ≤ 500000 ↔ (encL (KBw.bInts (byteArr (decL ns)))).length ≤ 500000 := by
  rw [byteArr_size, List.length_map]
theorem codes_txt (l : List Nat) : codes (txt l) = l.map fun (c : Nat) => (c : Int) := rfl
theorem figs_map (l : List Int) : figs l = (l.map b64v).filter (fun v => decide (v < 64)) := rfl
theorem filter_all {p : Int → Bool} {l : List Int} (h : ∀ n ∈ l, p n = true) : l.filter p = l := List.filter_eq_self.mpr h
theorem figs_plain {ns : List Int} (hn : In64 ns) : figs (codes (txt (ns.map sgP))) = ns := by
  rw [figs_map, codes_txt, List.map_map, List.map_map]
  have e : ns.map ((b64v ∘ (fun (c : Nat) => (c : Int))) ∘ sgP) = ns.map id := map64 hn (by decide)
  rw [e, List.map_id]
  exact filter_all fun n hm => decide_eq_true (hn n hm).2
/-- the figures that are left -/
def keptL (ns : List Int) : List Int := ns.filter fun n => decide (n < 62)
theorem figs_safe {ns : List Int} (hn : In64 ns) : figs (codes (txt (ns.map sgS))) = keptL ns := by
  rw [figs_map, codes_txt, List.map_map, List.map_map]
  have e : ns.map ((b64v ∘ (fun (c : Nat) => (c : Int))) ∘ sgS) = ns.map fun n => if n < 62 then n else 64 := map64 hn (by decide)
  rw [e]
  unfold keptL
  clear e
  induction ns with
  | nil => rfl
  | cons n r ih =>
    have ih := ih fun m hm => hn m (by simp [hm])
    have hb := hn n (by simp)
    by_cases h : n < 62
    · simp only [List.map_cons, if_pos h, List.filter_cons, decide_eq_true h, if_true, ih]
      rw [decide_eq_true (by lia : n < 64)]
      simp
    · simp only [List.map_cons, if_neg h, List.filter_cons, decide_eq_false h]
      simpa using ih
theorem trans_text (l : List Nat) (h : ∀ c ∈ l, c < 128) : KBw.bInts (trans tdec ((txt l).cps.map (·.toUInt8))) = l.map fun c => (((tdec.getD c (c.toUInt8)).toNat : Nat) : Int) := by
  unfold KBw.bInts trans
  rw [Array.toList_map, Array.toList_map, List.map_map, List.map_map]
  show (txt l).cps.toList.map _ = _
  have e : (txt l).cps.toList = l := by simp [txt]
  rw [e]
  refine List.map_congr_left fun c hc => ?_
  have := h c hc
  have e2 : (UInt8.ofNat c).toNat = c := by rw [UInt8.toNat_ofNat']; lia
  show ((((tdec.getD (UInt8.ofNat c).toNat (UInt8.ofNat c)).toNat : Nat)) : Int) = _
  rw [e2]
theorem sgP_in : ∀ i : Nat, i < 64 → sgP i < 128 ∧ sgP i ≠ 45 ∧ sgP i ≠ 95 := by decide
theorem sgS_in : ∀ i : Nat, i < 64 → sgS i < 128 ∧ sgS i ≠ 43 ∧ sgS i ≠ 47 := by decide
theorem ascP {ns : List Int} (hn : In64 ns) : ∀ c ∈ ns.map sgP, c < 128 := by
  intro c hc
  obtain ⟨n, hm, rfl⟩ := List.mem_map.mp hc
  exact by64 (p := fun n => sgP n < 128) (fun i hi => (sgP_in i hi).1) (hn n hm).1 (hn n hm).2
theorem ascS {ns : List Int} (hn : In64 ns) : ∀ c ∈ ns.map sgS, c < 128 := by
  intro c hc
  obtain ⟨n, hm, rfl⟩ := List.mem_map.mp hc
  exact by64 (p := fun n => sgS n < 128) (fun i hi => (sgS_in i hi).1) (hn n hm).1 (hn n hm).2
theorem transP {ns : List Int} (hn : In64 ns) : KBw.bInts (trans tdec ((txt (ns.map sgP)).cps.map (·.toUInt8))) = codes (txt (ns.map sgP)) := by
  rw [trans_text _ (ascP hn), codes_txt, List.map_map, List.map_map]
  exact map64 hn (by decide +kernel)
theorem transS {ns : List Int} (hn : In64 ns) : KBw.bInts (trans tdec ((txt (ns.map sgS)).cps.map (·.toUInt8))) = codes (txt (ns.map sgP)) := by
  rw [trans_text _ (ascS hn), codes_txt, List.map_map, List.map_map]
  exact map64 hn (by decide +kernel)
theorem strictP {ns : List Int} (hn : In64 ns) (h4 : ns.length % 4 = 0) : Strict (codes (txt (ns.map sgP))) := by
  refine ⟨fun c hc => ?_, by rw [figs_plain hn]; exact h4⟩
  rw [codes_txt, List.map_map] at hc
  obtain ⟨n, hm, rfl⟩ := List.mem_map.mp hc
  exact by64 (p := fun n => ((fun (c : Nat) => (c : Int)) ∘ sgP) n ≠ 61 ∧ b64v (((fun (c : Nat) => (c : Int)) ∘ sgP) n) < 64) (by decide) (hn n hm).1 (hn n hm).2
theorem looseP {ns : List Int} (hn : In64 ns) (h4 : ns.length % 4 = 0) : Loose (codes (txt (ns.map sgP))) := ⟨fun c hc => ((strictP hn h4).1 c hc).1, (strictP hn h4).2⟩
theorem no61S {ns : List Int} (hn : In64 ns) : ∀ c ∈ codes (txt (ns.map sgS)), c ≠ 61 := by
  intro c hc
  rw [codes_txt, List.map_map] at hc
  obtain ⟨n, hm, rfl⟩ := List.mem_map.mp hc
  exact by64 (p := fun n => ((fun (c : Nat) => (c : Int)) ∘ sgS) n ≠ 61) (by decide) (hn n hm).1 (hn n hm).2
theorem asciiT {l : List Nat} (h : ∀ c ∈ l, c < 128) (hz : l.length ≤ 500000) : Ascii (txt l) := by
  refine ⟨?_, by rw [len_txt]; exact hz⟩
  have e : (txt l).cps.toList = l := by simp [txt]
  rw [e]; exact h
theorem badS {ns : List Int} (hn : In64 ns) (h : (keptL ns).length ≠ ns.length) : ∃ c ∈ codes (txt (ns.map sgS)), 64 ≤ b64v c := by
  have : ∃ n ∈ ns, ¬ n < 62 := by
    refine Classical.byContradiction fun hc => h ?_
    unfold keptL
    rw [filter_all fun n hm => decide_eq_true (Classical.byContradiction fun hlt => hc ⟨n, hm, hlt⟩)]
  obtain ⟨n, hm, hlt⟩ := this
  refine ⟨(sgS n : Int), ?_, ?_⟩
  · rw [codes_txt, List.map_map]
    exact List.mem_map.mpr ⟨n, hm, rfl⟩
  · exact by64 (p := fun n => ¬ n < 62 → 64 ≤ b64v (sgS n)) (by decide) (hn n hm).1 (hn n hm).2 hlt
/-- the third text -/
theorem left_text {ns : List Int} (hn : In64 ns) : (ns.map sgS).filter (fun c => !(c == 45 || c == 95)) = (keptL ns).map sgS := by
  unfold keptL
  rw [List.filter_map]
  congr 1
  refine List.filter_congr fun n hm => ?_
  exact by64 (p := fun n => ((fun c => !(c == 45 || c == 95)) ∘ sgS) n = decide (n < 62)) (by decide) (hn n hm).1 (hn n hm).2
theorem kept_in {ns : List Int} (hn : In64 ns) : In64 (keptL ns) := fun n hm => hn n ((List.mem_filter.mp hm).1)
theorem kept_same {ns : List Int} (hn : In64 ns) : (keptL ns).map sgP = (keptL ns).map sgS := by
  refine List.map_congr_left fun n hm => ?_
  have h1 := kept_in hn n hm
  have h2 : n < 62 := by simpa using (List.mem_filter.mp hm).2
  exact by64 (p := fun n => n < 62 → sgP n = sgS n) (by decide) h1.1 h1.2 h2
theorem kept_len (ns : List Int) : (keptL ns).length ≤ ns.length := List.length_filter_le _ _
theorem kept_all {ns : List Int} (h : (keptL ns).length = ns.length) : keptL ns = ns := List.Sublist.eq_of_length List.filter_sublist h
theorem kept_octs {ns : List Int} (hn : In64 ns) (hz : ns.length ≤ 16) : Figs (keptL ns) := ⟨kept_in hn, Nat.le_trans (kept_len ns) hz⟩
theorem size_plain {ns : List Int} (hn : In64 ns) (h4 : ns.length % 4 = 0) (hz : ns.length ≤ 16) : (byteArr ((encL (KBw.bInts (byteArr (decL ns)))).map sgn)).size ≤ 500000 := by
  rw [byteArr_size, List.length_map, bInts_arr (dec_in ns hn), enc_dec ns hn h4]; lia
theorem size_safe {ns : List Int} (hn : In64 ns) (h4 : ns.length % 4 = 0) (hz : ns.length ≤ 16) : (trans tenc (byteArr ((encL (KBw.bInts (byteArr (decL ns)))).map sgn))).size ≤ 500000 := by
  unfold trans
  rw [Array.size_map]
  exact size_plain hn h4 hz
theorem asciiP {ns : List Int} (hn : In64 ns) (hz : ns.length ≤ 16) : Ascii (txt (ns.map sgP)) := asciiT (ascP hn) (by rw [List.length_map]; lia)
theorem asciiS {ns : List Int} (hn : In64 ns) (hz : ns.length ≤ 16) : Ascii (txt (ns.map sgS)) := asciiT (ascS hn) (by rw [List.length_map]; lia)
theorem kept_count (ns : List Int) : (keptL ns).length + (ns.filter fun f => decide (62 ≤ f)).length = ns.length := by
  unfold keptL
  induction ns with
  | nil => rfl
  | cons n r ih =>
    by_cases h : n < 62
    · simp only [List.filter_cons, decide_eq_true h, decide_eq_false (by lia : ¬ 62 ≤ n), if_true, List.length_cons]
      simp; lia
    · simp only [List.filter_cons, decide_eq_false h, decide_eq_true (by lia : 62 ≤ n), if_true, List.length_cons]
      simp; lia
end
section
/-! the plain law, part 8: the three texts are equally far from each other -/
def dueOf (ns : List Int) : Int := 2 * ((ns.filter fun f => decide (62 ≤ f)).length : Int)
theorem okP {ns : List Int} (hn : In64 ns) (hz : ns.length ≤ 16) : TextOk (ns.map sgP) := ⟨ascP hn, by rw [List.length_map]; exact hz⟩
theorem okS {ns : List Int} (hn : In64 ns) (hz : ns.length ≤ 16) : TextOk (ns.map sgS) := ⟨ascS hn, by rw [List.length_map]; exact hz⟩
theorem okL {ns : List Int} (hn : In64 ns) (hz : ns.length ≤ 16) : TextOk ((keptL ns).map sgS) := okS (kept_in hn) (Nat.le_trans (kept_len ns) hz)
theorem sg_same {n : Int} (h0 : 0 ≤ n) (h1 : n < 64) : sgP n = sgS n ↔ n < 62 := by64 (p := fun n => sgP n = sgS n ↔ n < 62) (by decide) h0 h1
theorem due_zero {ns : List Int} (hn : In64 ns) : ns.map sgP = ns.map sgS ↔ dueOf ns = 0 := by
  have e : dueOf ns = 0 ↔ ∀ n ∈ ns, n < 62 := by
    unfold dueOf
    constructor
    · intro h n hm
      have hl : (ns.filter fun f => decide (62 ≤ f)).length = 0 := by omega
      have := List.filter_eq_nil_iff.mp (List.length_eq_zero_iff.mp hl) n hm
      simpa using this
    · intro h
      have : (ns.filter fun f => decide (62 ≤ f)) = [] := List.filter_eq_nil_iff.mpr fun n hm => by have := h n hm; simpa using this
      rw [this]; rfl
  rw [e, List.map_inj_left]
  exact ⟨fun h n hm => (sg_same (hn n hm).1 (hn n hm).2).mp (h n hm), fun h n hm => (sg_same (hn n hm).1 (hn n hm).2).mpr (h n hm)⟩
def isP (c : Nat) : Bool := c == 43 || c == 47
theorem isP_sgP {n : Int} (h0 : 0 ≤ n) (h1 : n < 64) : isP (sgP n) = decide (62 ≤ n) := by64 (p := fun n => isP (sgP n) = decide (62 ≤ n)) (by decide) h0 h1
theorem isP_sgS {n : Int} (h0 : 0 ≤ n) (h1 : n < 64) : isP (sgS n) = false := by64 (p := fun n => isP (sgS n) = false) (by decide) h0 h1
theorem cost_P {x y : Nat} (hx : isP x = true) (hy : isP y = false) : cost y x = 2 := by
  have h1 : x = 43 ∨ x = 47 := by simpa [isP] using hx
  have h2 : ¬ y = 43 ∧ ¬ y = 47 := by simpa [isP] using hy
  have hlx : low x = x := by unfold low; rw [if_neg (by omega)]
  have hly : low y ≠ x := by unfold low; split <;> omega
  unfold cost
  rw [if_neg (by omega), if_neg (by rw [hlx]; exact hly)]
theorem told_PS {ns : List Int} (hn : In64 ns) : ToldP (ns.map sgP) (ns.map sgS) (dueOf ns) := by
  refine ⟨(due_zero hn).mp, fun hne => ⟨fun h => hne ((due_zero hn).mpr h), ?_⟩⟩
  have hS : ∀ y ∈ ns.map sgS, isP y = false := fun y hy => by
    obtain ⟨n, hm, rfl⟩ := List.mem_map.mp hy
    exact isP_sgS (hn n hm).1 (hn n hm).2
  refine far_same isP (by rw [List.length_map, List.length_map]) hS (fun x _ hx y hy => cost_P hx (hS y hy)) (fun t ht hp => ?_) ?_
  · rw [List.length_map] at ht
    have g : ∀ f : Int → Nat, (ns.map f).getD t 0 = f ns[t] := fun f => by simp [List.getD_eq_getElem?_getD, ht]
    rw [g] at hp
    rw [g, g]
    have hm := hn ns[t] (List.getElem_mem ht)
    rw [isP_sgP hm.1 hm.2] at hp
    exact (sg_same hm.1 hm.2).mpr (by simpa using hp)
  · unfold cnt dueOf
    rw [List.filter_map, List.length_map]
    have e : ns.filter (isP ∘ sgP) = ns.filter fun f => decide (62 ≤ f) := List.filter_congr fun n hm => isP_sgP (hn n hm).1 (hn n hm).2
    rw [e]
theorem due_len (ns : List Int) : 2 * (((ns.map sgS).length : Int) - ((keptL ns).map sgS).length) = dueOf ns := by
  have := kept_count ns
  unfold dueOf
  rw [List.length_map, List.length_map]
  omega
theorem told_SL {ns : List Int} (h : dueOf ns ≠ 0) : ToldP (ns.map sgS) ((keptL ns).map sgS) (dueOf ns) := by
  have hs : ((keptL ns).map sgS).Sublist (ns.map sgS) := List.Sublist.map _ List.filter_sublist
  have hd := due_len ns
  refine ⟨fun e => ?_, fun _ => ⟨h, (far_sub hs hd).2⟩⟩
  rw [← hd, ← e]; omega
theorem told_LP {ns : List Int} (hn : In64 ns) (h : dueOf ns ≠ 0) : ToldP ((keptL ns).map sgS) (ns.map sgP) (dueOf ns) := by
  have hs : ((keptL ns).map sgS).Sublist (ns.map sgP) := by rw [← kept_same hn]; exact List.Sublist.map _ List.filter_sublist
  have hd : 2 * (((ns.map sgP).length : Int) - ((keptL ns).map sgS).length) = dueOf ns := by rw [← due_len, List.length_map, List.length_map, List.length_map]
  refine ⟨fun e => ?_, fun _ => ⟨h, (far_sub hs hd).1⟩⟩
  rw [← hd, ← e]; omega
end
section
open PySem.Calls
theorem addNews {h₀ h' : Heap} {s : Shared} {L l : Addr} {m m' : Str → Option Value} {news : List (Addr × Obj)} {us : List Value} {c : Nat} (F : Fr h₀ L h' m) (N : News h₀ L h' news) (F0 : Fr h₀ L s.heap m') (e : h'.get? l = some (W.listOf us.toArray c)) (n : s.heap.get? l = none) : News h₀ L h' ((l, W.listOf us.toArray c) :: news) :=
  News.more F N e (fun _ _ q => nomatch q) (kts_none F0.keep n)
theorem dash_has : ∀ c, c < 128 → Txt.contains (Str.ofString "-_") (one c) = (c == 45 || c == 95) := by decide +kernel
section
variable {prog : Program} {w : World} {A : Around} {E : Value → Shared → Prop} {s : Shared} {Q : Value → Shared → Prop}
theorem notInW {c : Nat} {t u : Tok} (hc : c < 128) (h : Q (.bool (!(c == 45 || c == 95))) s) : wpAny (model prog w) A (compareOp .NotIn (.str ⟨#[c]⟩ t) (.str (Str.ofString "-_") u)) Q E s := by
  refine SB.notContains ?_
  have e := dash_has c hc
  unfold one at e
  rw [e]
  exact h
theorem neSame {x : Str} {t u : Tok} (h : Q (.bool false) s) : wpAny (model prog w) A (compareOp .NotEq (.str x t) (.str x u)) Q E s := by
  refine PyProof.Rows.ne_str ?_
  rw [show (x != x) = false from bne_self_eq_false x]
  exact h
theorem eqSame {x : Str} {t u : Tok} (h : Q (.bool true) s) : wpAny (model prog w) A (compareOp .Eq (.str x t) (.str x u)) Q E s := by
  refine P.eq_str ?_
  rw [beq_self_eq_true]
  exact h
end
theorem all_ascii {l : List Nat} (h : ∀ c ∈ l, c < 128) : (txt l).cps.all (· < 128) = true := by
  simp only [txt, List.all_toArray, List.all_eq_true, decide_eq_true_eq]
  exact h
theorem get_txt {l : List Nat} {i c : Nat} (h : (txt l).cps[i]? = some c) : l[i]? = some c := by simpa [txt] using h
theorem kept_ints {ns : List Int} {ys : List Value} (h : IntsAre ys ((ns.take ns.length).filter fun n => decide (n < 62))) : IntsAre ys (keptL ns) := by
  rw [List.take_length] at h; exact h
/-- the signs that are left, as they are taken one by one -/
def keepS (c : Nat) : Bool := !(c == 45 || c == 95)
theorem keep_no {c : Nat} (h : (c == 45 || c == 95) = true) : keepS c = false := by unfold keepS; rw [h]; rfl
theorem keep_yes {c : Nat} (h : (c == 45 || c == 95) = false) : keepS c = true := by unfold keepS; rw [h]; rfl
theorem strs_in {l : List Nat} {i c : Nat} {ys : List Value} {t : Tok} (h : StrsAre ys (((l.take i).filter keepS).map one)) (hc : l[i]? = some c) (hp : keepS c = true) : StrsAre (ys ++ [.str ⟨#[c]⟩ t]) (((l.take (i + 1)).filter keepS).map one) := by
  rw [List.take_add_one, hc, List.filter_append]
  have e : (some c).toList.filter keepS = [c] := by simp [hp]
  rw [e, List.map_append]
  exact kct_snoc h
theorem strs_out {l : List Nat} {i c : Nat} {ys : List Value} (h : StrsAre ys (((l.take i).filter keepS).map one)) (hc : l[i]? = some c) (hp : keepS c = false) : StrsAre ys (((l.take (i + 1)).filter keepS).map one) := by
  rw [List.take_add_one, hc, List.filter_append]
  have e : (some c).toList.filter keepS = [] := by simp [hp]
  rw [e, List.append_nil]
  exact h
end
section
open PySem.Calls
theorem fill14 : hd.heap_39 = hd.heap_39 ∧ Challenge.rw_pa0032_01 = Challenge.rw_pa0032_01 := by
  k_with_none
  w_top off
  k_fill
  k_with "ev" => (repeat' (first | exact EvI.const | (refine' EvI.name ?enF_h1 ?enV_h1; (case enF_h1 => k_asm); (case enV_h1 => exact rfl)) | apply EvI.add | apply EvI.sub | apply EvI.and3 | apply EvI.and15 | apply EvI.and63 | apply EvI.and65535 | apply EvI.or | apply EvI.shl8 | apply EvI.shl2 | apply EvI.shl4 | apply EvI.shl6 | apply EvI.shr2 | apply EvI.shr4 | apply EvI.shr | exact (rfl : _ = ((0 : Nat) : Int)) | exact (rfl : _ = ((2 : Nat) : Int)) | exact (rfl : _ = ((4 : Nat) : Int)) | exact (rfl : _ = ((6 : Nat) : Int)) | k_extra "ev more" | ((fail_if_success (with_reducible show EvI _ _ _ _ _ _)); (fail_if_success (with_reducible show EvC _ _ _ _ _ _)); omega)))
  k_with "evc" => (repeat' (first | apply EvC.and | apply EvL.one | apply EvL.cons | apply EvC.not | apply EvC.lt | apply EvC.le | apply EvC.gt | apply EvC.ge | apply EvC.eq | apply EvC.ne | apply EvC.lele | (refine' EvC.nameB ?enG_h2 ?enW_h2; (case enG_h2 => k_asm); (case enW_h2 => exact rfl)) | apply EvC.nameI | (k_extra "ev"; done)))
  k_with "my storeName" => (k_here; k_dflt (refine' storeM ?zmF_h3 ?zmN_h3 ?_ ?zma_h3 ?zmb_h3; (case zmF_h3 => k_asm); (case zmN_h3 => k_asm); (case zma_h3 => rfl); (case zmb_h3 => rfl); k_whole; intro _ _ _ _ _; (try k_sweep)))
  k_with "ne9" => first | exact h91 | exact h92 (_, _) (.head _) | exact h92 (_, _) (.tail _ (.head _)) | exact h92 (_, _) (.tail _ (.tail _ (.head _))) | exact h92 (_, _) (.tail _ (.tail _ (.tail _ (.head _)))) | exact stored_sub h93 (by decide) | (intro e9; subst e9; exact absurd h93 (by decide))
  k_with "same" => (intro z9 h91 h92 h93; (repeat (first | (with_reducible exact rfl) | (refine (if_neg ?sn9_h5).trans ?_; (case sn9_h5 => k_extra "ne9")))); done)
  k_with "same2" => (intro z9 h92 h93; (repeat (first | (with_reducible exact rfl) | (refine (if_neg ?sn9_h6).trans ?_; (case sn9_h6 => k_extra "ne9")))); done)
  k_with "my eval BinOp" => (k_here; k_dflt (refine' EvI.use ?zex_h7 ?_; (case zex_h7 => k_extra "ev"); k_whole; intro _ _))
  k_with "argv" => (repeat' (first | exact ArgV.nil | (refine' ArgV.name ?anV_h8 ?anX_h8 ?anD_h8 ?_; (case anV_h8 => exact rfl); (case anX_h8 => exact rfl); (case anD_h8 => decide))))
  k_with "my eval Call" => (k_here; (with_reducible show wpAny _ _ (eval (Expr.Call (Expr.Name _ _) (_ :: _) [] _) _) _ _ _); k_dflt (refine' evCall ?ecE_h9 ?ecF_h9 ?ecX_h9 ?ecT_h9 ?ecK_h9 ?ecP_h9 ?ecA_h9 ?_ ?ecH_h9 ?ecI_h9 ?ecD_h9 ?ecC_h9 ?ecB_h9; (case ecE_h9 => exact rfl); (case ecF_h9 => k_asm); (case ecX_h9 => k_asm); (case ecT_h9 => k_asm); (case ecK_h9 => k_is); (case ecP_h9 => k_is); (case ecA_h9 => k_extra "argv"); (case ecH_h9 => rfl); (case ecI_h9 => rfl); (case ecD_h9 => decide); (case ecC_h9 => rfl); (case ecB_h9 => rfl); k_whole))
  k_with "my isTrue Compare" => (k_here; k_dflt (refine' EvC.use ?zcx_h10 ?_ ?_; (case zcx_h10 => k_extra "evc"); (all_goals (k_whole; intro _ _)); (all_goals first | contradiction | (law_purse 20000 => (exfalso; omega)) | skip)))
  k_with "my execs cons" => (k_here; first
    | ((with_reducible show wpAny _ _ (execs (Stmt.Assign [Expr.Name _ _] _ _ :: _) _) _ _ _); k_dflt (refine' stAssign ?zsx_h11 ?zsF_h11 ?zsN_h11 ?_ ?zsa_h11 ?zsb_h11 ?zsc_h11; (case zsx_h11 => k_extra "ev"); (case zsF_h11 => k_asm); (case zsN_h11 => k_asm); (case zsa_h11 => rfl); (case zsb_h11 => rfl); (case zsc_h11 => rfl); k_whole; intro _ _ _ _ _ _; (try k_sweep)))
    | ((with_reducible show wpAny _ _ (execs (Stmt.AugAssign (Expr.Name _ _) Operator.Add _ _ :: _) _) _ _ _); k_dflt (refine' stAdd ?zsv_h11 ?zsx_h11 ?zsF_h11 ?zsN_h11 ?_ ?zsa_h11 ?zsb_h11; (case zsF_h11 => k_asm); (case zsv_h11 => exact rfl); (case zsx_h11 => k_extra "ev"); (case zsN_h11 => k_asm); (case zsa_h11 => rfl); (case zsb_h11 => rfl); k_whole; intro _ _ _ _ _ _; (try k_sweep)))
    | ((with_reducible show wpAny _ _ (execs (Stmt.AugAssign (Expr.Name _ _) Operator.Sub _ _ :: _) _) _ _ _); k_dflt (refine' stSub ?zsv_h11 ?zsx_h11 ?zsF_h11 ?zsN_h11 ?_ ?zsa_h11 ?zsb_h11; (case zsF_h11 => k_asm); (case zsv_h11 => exact rfl); (case zsx_h11 => k_extra "ev"); (case zsN_h11 => k_asm); (case zsa_h11 => rfl); (case zsb_h11 => rfl); k_whole; intro _ _ _ _ _ _; (try k_sweep)))
    | ((with_reducible show wpAny _ _ (execs (Stmt.Expr (Expr.Call (Expr.Attribute (Expr.Name _ _) _ _) [_] [] _) _ :: _) _) _ _ _); k_dflt (refine' stAppend ?zpF_h11 ?zpv_h11 ?zpN_h11 ?zpm_h11 ?zpy_h11 ?zpU_h11 ?zpz_h11 ?_ ?zpa_h11 ?zpb_h11 ?zpc_h11 ?zpd_h11 ?zpe_h11 ?zpf_h11 ?zpg_h11; (case zpF_h11 => k_asm); (case zpv_h11 => exact rfl); (case zpN_h11 => k_asm); (case zpm_h11 => first | k_mem | k_memK | (with_unfolding_all k_mem)); (case zpy_h11 => k_extra "ev"); (case zpU_h11 => (intro _; k_upd)); (case zpz_h11 => size_fits); (case zpa_h11 => rfl); (case zpb_h11 => rfl); (case zpc_h11 => decide); (case zpd_h11 => rfl); (case zpe_h11 => rfl); (case zpf_h11 => rfl); (case zpg_h11 => rfl); k_whole; intro _ _ _ _ _; (try k_sweep)))
    | ((with_reducible show wpAny _ _ (execs (Stmt.If _ _ [] _ :: _) _) _ _ _); k_dflt (refine' stIf0 ?zix_h11 ?_ ?_; (case zix_h11 => k_extra "evc"); (all_goals (k_whole; intro _ _)); (all_goals first | contradiction | (law_purse 20000 => (exfalso; omega)) | skip)))
    | ((with_reducible show wpAny _ _ (execs (Stmt.If _ _ _ _ :: _) _) _ _ _); k_dflt (refine' stIf ?zjx_h11 ?_; (case zjx_h11 => k_extra "evc"); k_whole; intro _; refine ⟨?_, ?_⟩; (all_goals intro _ _); (all_goals first | contradiction | (law_purse 20000 => (exfalso; omega)) | skip)))
    | k_fold)
  k_with "my compareOp NotEq str str" => (k_here; k_dflt (refine neSame ?_))
  k_with "my compareOp Eq str str" => (k_here; k_dflt (refine eqSame ?_))
  exact ⟨rfl, rfl⟩
theorem r_signsP {w : World} {mean : ExcName → Option Value} {mg mb : Str → Option Value} {A₀ : Around} {base h₀ : Heap} {outer : List Env} {L a l : Addr} {cn : Str} {cs : Scope} {ccd : Value} {cl : List (Str × Addr)} {m : Str → Option Value} {news : List (Addr × Obj)} {s : Shared} {Q E : Value → Shared → Prop} {dp un c : Nat} {gd : Option (List Code)} {us : List Value} {ns : List Int} (tl : Tok)
    (B : Below A₀ base outer h₀) (F : Fr h₀ L s.heap m) (X : (hd.heap_39 w.params).In h₀) (N : News h₀ L s.heap news) (T : Top hd.view_39 LO mean mg mb h₀) (hk : cs.kind = .function) (hdp : dp + 1 < recursionLimit) (hun : un + 8 * 1 < cLine)
    (hm : (l, W.listOf us.toArray c) ∈ news) (hi : IntsAre us ns) (hf : Figs ns)
    (ret : ∀ t h' tk', Fr h₀ L h' m → News h₀ L h' news → Q (.str (txt (ns.map sgP)) t) { s with heap := h', toks := tk' }) :
    wpAny (model PR w) (ktrTop dp un gd cn cs L a ccd cl outer) (call (.ref 154) [.ref l, .str (Str.ofString "+/") tl]) Q E s := by
  rw [show Str.ofString "+/" = txt [43, 47] from by decide +kernel]
  exact r_signs (A := A₀) 43 47 tl B F X N T hk hdp hun hm hi hf ret
theorem r_signsS {w : World} {mean : ExcName → Option Value} {mg mb : Str → Option Value} {A₀ : Around} {base h₀ : Heap} {outer : List Env} {L a l : Addr} {cn : Str} {cs : Scope} {ccd : Value} {cl : List (Str × Addr)} {m : Str → Option Value} {news : List (Addr × Obj)} {s : Shared} {Q E : Value → Shared → Prop} {dp un c : Nat} {gd : Option (List Code)} {us : List Value} {ns : List Int} (tl : Tok)
    (B : Below A₀ base outer h₀) (F : Fr h₀ L s.heap m) (X : (hd.heap_39 w.params).In h₀) (N : News h₀ L s.heap news) (T : Top hd.view_39 LO mean mg mb h₀) (hk : cs.kind = .function) (hdp : dp + 1 < recursionLimit) (hun : un + 8 * 1 < cLine)
    (hm : (l, W.listOf us.toArray c) ∈ news) (hi : IntsAre us ns) (hf : Figs ns)
    (ret : ∀ t h' tk', Fr h₀ L h' m → News h₀ L h' news → Q (.str (txt (ns.map sgS)) t) { s with heap := h', toks := tk' }) :
    wpAny (model PR w) (ktrTop dp un gd cn cs L a ccd cl outer) (call (.ref 154) [.ref l, .str (Str.ofString "-_") tl]) Q E s := by
  rw [show Str.ofString "-_" = txt [45, 95] from by decide +kernel]
  exact r_signs (A := A₀) 45 95 tl B F X N T hk hdp hun hm hi hf ret
theorem law : Challenge.rw_pa0032_01.Holds := by
  refine hd ?_
  k_with "call ref" => k_dflt (refine' use (c_figures _ _ _) ?k1_h14 ?k2_h14 ?k3_h14 ?k4_h14 ?k5_h14 ?kK_h14 ?kd_h14 ?ku_h14 ?kp_h14 ?_; (case k1_h14 => k_asm); (case k2_h14 => k_asm); (case k3_h14 => k_asm); (case k4_h14 => k_asm); (case k5_h14 => k_asm); (case kK_h14 => first | exact rfl | assumption); (case kd_h14 => ktr_room); (case ku_h14 => ktr_units); (case kp_h14 => first | exact trivial | assumption | k_extra "my pre"); intro r9 h9 tk9 F9 N9 S9 P9; obtain ⟨l9, us9, c9, fs9, rfl, e9, n9, I9, G9, Z9⟩ := P9; (have N10 := addNews (by assumption) N9 (by assumption) e9 n9); clear N9; (have hN := (show In64 fs9 from G9.1)); (have hz := G9.2); (have o9 := oct_size Z9 hz); (have s9P := size_plain hN Z9 hz); (have s9S := size_safe hN Z9 hz); (try dsimp only); (try k_fold))
  k_with "call ref" => k_dflt (refine' use (c_octets l9 us9 fs9) ?k1_h15 ?k2_h15 ?k3_h15 ?k4_h15 ?k5_h15 ?kK_h15 ?kd_h15 ?ku_h15 ?kp_h15 ?_; (case k1_h15 => k_asm); (case k2_h15 => k_asm); (case k3_h15 => k_asm); (case k4_h15 => k_asm); (case k5_h15 => k_asm); (case kK_h15 => first | exact rfl | assumption); (case kd_h15 => ktr_room); (case ku_h15 => ktr_units); (case kp_h15 => first | exact trivial | assumption | k_extra "my pre"); intro r9 h9 tk9 F9 N9 S9 P9; obtain ⟨t9, rfl⟩ := P9; (try dsimp only); (try k_fold))
  k_with "call ref" => k_dflt (refine' use (c_std _ _) ?k1_h16 ?k2_h16 ?k3_h16 ?k4_h16 ?k5_h16 ?kK_h16 ?kd_h16 ?ku_h16 ?kp_h16 ?_; (case k1_h16 => k_asm); (case k2_h16 => k_asm); (case k3_h16 => k_asm); (case k4_h16 => k_asm); (case k5_h16 => k_asm); (case kK_h16 => first | exact rfl | assumption); (case kd_h16 => ktr_room); (case ku_h16 => ktr_units); (case kp_h16 => first | exact trivial | assumption | k_extra "my pre"); intro r9 h9 tk9 F9 N9 S9 P9; obtain ⟨t9, rfl⟩ := P9; (try dsimp only); (try k_fold))
  k_with "call ref" => k_dflt (refine' use (c_urlenc _ _) ?k1_h17 ?k2_h17 ?k3_h17 ?k4_h17 ?k5_h17 ?kK_h17 ?kd_h17 ?ku_h17 ?kp_h17 ?_; (case k1_h17 => k_asm); (case k2_h17 => k_asm); (case k3_h17 => k_asm); (case k4_h17 => k_asm); (case k5_h17 => k_asm); (case kK_h17 => first | exact rfl | assumption); (case kd_h17 => ktr_room); (case ku_h17 => ktr_units); (case kp_h17 => first | exact trivial | assumption | k_extra "my pre"); intro r9 h9 tk9 F9 N9 S9 P9; obtain ⟨t9, rfl⟩ := P9; (try dsimp only); (try k_fold))
  k_with "call ref" => k_dflt (refine' use (c_text _ _) ?k1_h18 ?k2_h18 ?k3_h18 ?k4_h18 ?k5_h18 ?kK_h18 ?kd_h18 ?ku_h18 ?kp_h18 ?_; (case k1_h18 => k_asm); (case k2_h18 => k_asm); (case k3_h18 => k_asm); (case k4_h18 => k_asm); (case k5_h18 => k_asm); (case kK_h18 => first | exact rfl | assumption); (case kd_h18 => ktr_room); (case ku_h18 => ktr_units); (case kp_h18 => first | exact trivial | assumption | k_extra "my pre"); intro r9 h9 tk9 F9 N9 S9 P9; obtain ⟨t9, q9⟩ := P9; (first | rw [plain_text hN Z9] at q9 | rw [safe_text hN Z9] at q9 | rw [plain_text (kept_in hN) hk4, kept_same hN] at q9); subst q9; (try dsimp only); (try k_fold))
  k_with "my eval ListComp" => (k_here; k_dflt (refine' compT (z := txt (fs9.map sgS)) (fun i ys => StrsAre ys ((((fs9.map sgS).take i).filter keepS).map one)) rfl ?kF_h19 ?kN_h19 ?k1_h19 ?k2_h19 ?k3_h19 ?k4_h19 ?k5_h19 ?hi_h19 ?k6a_h19 ?k6_h19 ?k7_h19 ?lturn_h19 ?lfin_h19; (case kF_h19 => k_asm); (case kN_h19 => k_asm); (case k1_h19 => with_unfolding_all rfl); (case k2_h19 => decide); (case k3_h19 => rfl); (case k4_h19 => decide); (case k5_h19 => rfl); (case hi_h19 => (refine' ld ?lf1_h19 ?le1_h19 ?lq1_h19; (case lf1_h19 => k_asm); (case le1_h19 => rfl); (case lq1_h19 => exact ⟨rfl, rfl⟩))); (case k6a_h19 => exact all_ascii (ascS hN)); (case k6_h19 => (rw [PySem.sizeLine_eq]; show (txt _).length ≤ _; rw [len_txt, List.length_map]; omega)); (case k7_h19 => exact .nil); (case' lturn_h19 => (intro s2 i c u ys I oI C oC D m2 h tk E' hc9 hR9 hC9 hx9 F N; have hc8 : (fs9.map sgS)[i]? = some c := get_txt hc9; have hc7 : c < 128 := ascS hN c (List.mem_of_getElem? hc8))); (case' lfin_h19 => (intro D ys h tk hR9 F N; have hS9 : StrsAre ys (((keptL fs9).map sgS).map one) := by (rw [show (txt (fs9.map sgS)).cps.size = (fs9.map sgS).length from len_txt _, List.take_length] at hR9; rw [← left_text hN]; exact hR9)))))
  k_with "my call builtin:str.join" => (k_dflt (refine' join9 (l := (keptL fs9).map sgS) ?N_h20 ?m_h20 ?i_h20 ?w_h20 ?_; (case N_h20 => k_asm); (case m_h20 => k_mem); (case i_h20 => exact hS9); (case w_h20 => (rw [List.length_map]; have := kept_len fs9; omega)); k_whole; intro _ _))
  k_with "my compareOp NotIn str str" => (k_here; k_dflt (refine' notInW hc7 ?_; k_whole))
  k_with "call ref" => k_dflt (refine' r_signsS (l := l9) (us := us9) (ns := fs9) (c := c9) _ ?k1_h22 ?k2_h22 ?k3_h22 ?k4_h22 ?k5_h22 ?kK_h22 ?kd_h22 ?ku_h22 ?km_h22 I9 G9 ?_; (case k1_h22 => k_asm); (case k2_h22 => k_asm); (case k3_h22 => k_asm); (case k4_h22 => k_asm); (case k5_h22 => k_asm); (case kK_h22 => first | exact rfl | assumption); (case kd_h22 => ktr_room); (case ku_h22 => ktr_units); (case km_h22 => k_mem); intro t9 h9 tk9 F9 N9; (try dsimp only); (try k_fold))
  k_with "call ref" => k_dflt (refine' r_signsP (l := l9) (us := us9) (ns := fs9) (c := c9) _ ?k1_h23 ?k2_h23 ?k3_h23 ?k4_h23 ?k5_h23 ?kK_h23 ?kd_h23 ?ku_h23 ?km_h23 I9 G9 ?_; (case k1_h23 => k_asm); (case k2_h23 => k_asm); (case k3_h23 => k_asm); (case k4_h23 => k_asm); (case k5_h23 => k_asm); (case kK_h23 => first | exact rfl | assumption); (case kd_h23 => ktr_room); (case ku_h23 => ktr_units); (case km_h23 => k_mem); intro t9 h9 tk9 F9 N9; (try dsimp only); (try k_fold))
  k_with "call ref" => k_dflt (refine' use (c_far _ l9 _ us9 _ fs9 (fs9.map sgP) (fs9.map sgS) ((keptL fs9).map sgS) _ _ _) ?k1_h24 ?k2_h24 ?k3_h24 ?k4_h24 ?k5_h24 ?kK_h24 ?kd_h24 ?ku_h24 ?kp_h24 ?_; (case k1_h24 => k_asm); (case k2_h24 => k_asm); (case k3_h24 => k_asm); (case k4_h24 => k_asm); (case k5_h24 => k_asm); (case kK_h24 => first | exact rfl | assumption); (case kd_h24 => ktr_room); (case ku_h24 => ktr_units); (case kp_h24 => first | exact trivial | assumption | k_extra "my pre"); intro r9 h9 tk9 F9 N9 S9 P9; subst P9; (try dsimp only); (try k_fold))
  k_with "my pre" => first | exact ⟨by is_list, by assumption, by omega⟩ | exact ⟨by is_list, I9, G9, Z9⟩ | exact o9 | exact s9P | exact s9S | exact ⟨by is_list, by assumption, by omega, by is_list, I9, G9.2, okP hN hz, okS hN hz, okL hN hz, told_PS hN, fun h => ⟨told_SL h, told_LP hN h⟩⟩
  k_with "call ref" => k_dflt (refine' r_strict (w := _) (A := callerA) (x := txt (fs9.map sgS)) _ (asciiS hN hz) (no61S hN) ?bad_h26 ?k1_h26 ?k2_h26 ?k3_h26 ?k4_h26 ?k5_h26 ?XB_h26 ?TB_h26 ?D_h26 ?T0_h26 ?kd_h26 ?ku_h26 ?retstrict_h26; (case bad_h26 => k_extra "my bad"); (case k1_h26 => k_asm); (case k2_h26 => k_asm); (case k3_h26 => k_asm); (case k4_h26 => k_asm); (case k5_h26 => k_asm); (case XB_h26 => assumption); (case TB_h26 => assumption); (case D_h26 => assumption); (case T0_h26 => first | assumption | exact KtsTurn.refl); (case kd_h26 => ktr_room); (case ku_h26 => ktr_units); (case' retstrict_h26 => (intro t9 h9 tk9 g9 T9 F9 N9 B9 X9 Tp9 D9; (try dsimp only); (try k_fold))))
  k_with "call ref" => k_dflt (refine' r_loose (w := _) (A := callerA) (x := txt (fs9.map sgS)) _ (asciiS hN hz) (no61S hN) ?bad_h27 ?k1_h27 ?k2_h27 ?k3_h27 ?k4_h27 ?k5_h27 ?XB_h27 ?TB_h27 ?D_h27 ?T0_h27 ?kd_h27 ?ku_h27 ?retloose_h27; (case bad_h27 => k_extra "my bad"); (case k1_h27 => k_asm); (case k2_h27 => k_asm); (case k3_h27 => k_asm); (case k4_h27 => k_asm); (case k5_h27 => k_asm); (case XB_h27 => assumption); (case TB_h27 => assumption); (case D_h27 => assumption); (case T0_h27 => first | assumption | exact KtsTurn.refl); (case kd_h27 => ktr_room); (case ku_h27 => ktr_units); (case' retloose_h27 => (intro t9 h9 tk9 g9 T9 F9 N9 B9 X9 Tp9 D9; (try dsimp only); (try k_fold))))
  k_with "my bad" => first | exact badS hN (by omega) | (rw [figs_safe hN]; simp only [Int.fmod_eq_emod_of_nonneg _ (show (0 : Int) ≤ 4 by decide)] at *; omega)
  k_with "call ref" => k_dflt (refine' use (c_urldec _ _) ?k1_h29 ?k2_h29 ?k3_h29 ?k4_h29 ?k5_h29 ?kK_h29 ?kd_h29 ?ku_h29 ?kp_h29 ?_; (case k1_h29 => k_asm); (case k2_h29 => k_asm); (case k3_h29 => k_asm); (case k4_h29 => k_asm); (case k5_h29 => k_asm); (case kK_h29 => first | exact rfl | assumption); (case kd_h29 => ktr_room); (case ku_h29 => ktr_units); (case kp_h29 => first | exact trivial | assumption | k_extra "my pre"); intro r9 h9 tk9 F9 N9 S9 P9; obtain ⟨t9, q9⟩ := P9; (first | rw [transS hN, figs_plain hN] at q9 | rw [transP hN, figs_plain hN] at q9); subst q9; (try dsimp only); (try k_fold))
  k_with "call ref" => k_dflt (refine' use (c_strict_ok (txt (fs9.map sgP)) _) ?k1_h30 ?k2_h30 ?k3_h30 ?k4_h30 ?k5_h30 ?kK_h30 ?kd_h30 ?ku_h30 ?kp_h30 ?_; (case k1_h30 => k_asm); (case k2_h30 => k_asm); (case k3_h30 => k_asm); (case k4_h30 => k_asm); (case k5_h30 => k_asm); (case kK_h30 => first | exact rfl | assumption); (case kd_h30 => ktr_room); (case ku_h30 => ktr_units); (case kp_h30 => first | exact trivial | assumption | k_extra "my pre"); intro r9 h9 tk9 F9 N9 S9 P9; obtain ⟨t9, q9⟩ := P9; rw [figs_plain hN] at q9; subst q9; (try dsimp only); (try k_fold))
  k_with "call ref" => k_dflt (refine' use (c_loose_ok (txt (fs9.map sgS)) _) ?k1_h31 ?k2_h31 ?k3_h31 ?k4_h31 ?k5_h31 ?kK_h31 ?kd_h31 ?ku_h31 ?kp_h31 ?_; (case k1_h31 => k_asm); (case k2_h31 => k_asm); (case k3_h31 => k_asm); (case k4_h31 => k_asm); (case k5_h31 => k_asm); (case kK_h31 => first | exact rfl | assumption); (case kd_h31 => ktr_room); (case ku_h31 => ktr_units); (case kp_h31 => first | exact trivial | assumption | k_extra "my pre"); intro r9 h9 tk9 F9 N9 S9 P9; obtain ⟨t9, q9⟩ := P9; rw [figs_safe hN] at q9; subst q9; (have hk4 : (keptL fs9).length % 4 = 0 := by first | omega | (simp only [Int.fmod_eq_emod_of_nonneg _ (show (0 : Int) ≤ 4 by decide)] at *; omega)); (try dsimp only); (try k_fold))
  k_with "call ref" => k_dflt (refine' use (c_same_bb _ _ _ _) ?k1_h32 ?k2_h32 ?k3_h32 ?k4_h32 ?k5_h32 ?kK_h32 ?kd_h32 ?ku_h32 ?kp_h32 ?_; (case k1_h32 => k_asm); (case k2_h32 => k_asm); (case k3_h32 => k_asm); (case k4_h32 => k_asm); (case k5_h32 => k_asm); (case kK_h32 => first | exact rfl | assumption); (case kd_h32 => ktr_room); (case ku_h32 => ktr_units); (case kp_h32 => first | exact trivial | assumption | k_extra "my pre"); intro r9 h9 tk9 F9 N9 S9 P9; (first | rw [beq_self_eq_true] at P9 | rw [kept_all (by omega), beq_self_eq_true] at P9); subst P9; (try dsimp only); (try k_fold))
  k_with "call ref" => k_dflt (refine' use (c_octets D8 ys8 (keptL fs9)) ?k1_h33 ?k2_h33 ?k3_h33 ?k4_h33 ?k5_h33 ?kK_h33 ?kd_h33 ?ku_h33 ?kp_h33 ?_; (case k1_h33 => k_asm); (case k2_h33 => k_asm); (case k3_h33 => k_asm); (case k4_h33 => k_asm); (case k5_h33 => k_asm); (case kK_h33 => first | exact rfl | assumption); (case kd_h33 => ktr_room); (case ku_h33 => ktr_units); (case kp_h33 => first | exact trivial | assumption | k_extra "my pre"); intro r9 h9 tk9 F9 N9 S9 P9; obtain ⟨t9, rfl⟩ := P9; (try dsimp only); (try k_fold))
  k_with "my pre" => first | exact ⟨by is_list, by assumption, by omega⟩ | exact ⟨by is_list, I9, G9, Z9⟩ | exact o9 | exact s9P | exact s9S | exact ⟨by is_list, by assumption, by omega, by is_list, I9, G9.2, okP hN hz, okS hN hz, okL hN hz, told_PS hN, fun h => ⟨told_SL h, told_LP hN h⟩⟩ | exact ⟨asciiS hN hz, by rw [transS hN]; exact looseP hN Z9⟩ | exact ⟨asciiP hN hz, by rw [transP hN]; exact looseP hN Z9⟩ | exact ⟨asciiP hN hz, strictP hN Z9⟩ | exact ⟨asciiS hN hz, no61S hN, by rw [figs_safe hN]; simp only [Int.fmod_eq_emod_of_nonneg _ (show (0 : Int) ≤ 4 by decide)] at *; omega⟩ | exact ⟨by is_list, I8, kept_octs hN hz, hk4⟩ | exact oct_size hk4 (Nat.le_trans (kept_len fs9) hz) | exact size_plain (kept_in hN) hk4 (Nat.le_trans (kept_len fs9) hz)
  k_with "my exec Assign cons ListComp" => (k_here; k_dflt (refine' compLTA (l := l9) (c := c9) (us := us9) (ns := fs9) (fun i ys => IntsAre ys ((fs9.take i).filter fun n => decide (n < 62))) ?xS_h35 I9 rfl ?xF_h35 ?xN_h35 ?x0_h35 ?xw_h35 ?x1_h35 ?x2_h35 ?x3_h35 ?x4_h35 ?x5_h35 ?x8_h35 ?x9_h35 ?xhi_h35 ?x6_h35 ?x7_h35 ?xturn_h35 ?xfin_h35; (case xF_h35 => k_asm); (case xN_h35 => k_asm); (case xS_h35 => k_mem); (case x0_h35 => rfl); (case xw_h35 => with_unfolding_all rfl); (case x1_h35 => with_unfolding_all rfl); (case x2_h35 => decide); (case x3_h35 => rfl); (case x4_h35 => decide); (case x5_h35 => rfl); (case x8_h35 => rfl); (case x9_h35 => rfl); (case xhi_h35 => (refine' ld ?lf2_h35 ?le2_h35 ?lq2_h35; (case lf2_h35 => k_asm); (case le2_h35 => rfl); (case lq2_h35 => exact ⟨rfl, rfl⟩))); (case x6_h35 => (rw [PySem.sizeLine_eq]; omega)); (case x7_h35 => exact .nil)); (case' xfin_h35 => (intro D8 ys8 h tk hR F N; have I8 := kept_ints hR; clear hR; have l8 : ys8.length = (keptL fs9).length := I8.length; have k8 := kept_len fs9)))
  k_with "my call builtin:len" => (k_here; (with_reducible show wpAny _ _ (call _ [Value.ref D8]) _ _ _); k_dflt (first | (refine' lenN ?N_h36 ?m_h36 l8 ?z_h36 ?_; (case N_h36 => k_asm); (case m_h36 => k_mem); (case z_h36 => omega); k_whole; intro _ _)))
  k_go0
  all_goals (try k_fold)
  k_steps
  · exact Pend.mk (fun _ _ e => e) (ints_in (by assumption) (by assumption) (decide_eq_true (by omega)))
  · exact Pend.mk (fun _ _ e => e) (ints_out (by assumption) (by assumption) (decide_eq_false (by omega)))
  · exact Pend.mk (fun _ _ e => e) (strs_out hR9 hc8 (keep_no (by assumption)))
  · exact Pend.mk (fun _ _ e => e) (strs_in hR9 hc8 (keep_yes (by assumption)))
end
end Mine
set_option maxRecDepth 100000 in
set_option maxHeartbeats 8000000 in
theorem PySem.Challenge.cw_pa0032_01_holds : PySem.Challenge.rw_pa0032_01.Holds := by
  exact Mine.law
