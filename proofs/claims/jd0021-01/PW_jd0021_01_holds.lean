import PyProof.Rows.All
import Wide.All
import OpenK.AllK
import Wide.FinOn
import Lean
import PySem.Challenge.RW_jd0021_01
set_option Elab.async false
set_option maxRecDepth 100000
set_option linter.unusedVariables false
section
open PySem PySem.W PyProof.Rows
namespace Mine.hd
/-- the law's text -/
noncomputable abbrev pr : Program := PySem.Challenge.rw_jd0021_01.row.toRowW.1
noncomputable def stA (i : Nat) : Stmt := (pr.main.body)[i]?.getD (.Pass ⟨0, 0, 0, 0⟩)
noncomputable def fB (i : Nat) : FuncBody := match stA i with
  | .FunctionDef _ _ b _ _ _ _ _ _ _ => .stmts b
  | _ => .stmts []
noncomputable def vS (x : String) (t : Tok) : Value := .str (Str.ofString x) t
noncomputable def kH (P : Params) (x : String) := PyData.keyHash P (Str.ofString x)
noncomputable def o_43 (P : Params) : Obj := { cls := .type "tuple", data := .seq #[] }
noncomputable def o_44 (P : Params) : Obj := { cls := .none, data := .fields #[] }
noncomputable def o_45 (P : Params) : Obj := { cls := .type "code", data := .fields #[(vS "<module>" 182), (vS "<module>" 183), (vS "/claim/cut.py" 184), .int 1 0, .int 0 0, .int 0 0, .int 0 0, .int 0 0, .ref 11, .bool false, .int 181 0, .ref 12, .none, .none, .none, .none, .int 185 0, .int 1 0, (vS "/claim/cut.py" 186)] }
noncomputable def o_46 (P : Params) : Obj := { cls := .type "frame", slots := #[some (.ref 13), some (.ref 3), some (.ref 3), none, some ((vS "__main__" 164)), none, some (.ref 0)] }
noncomputable def o_49 (P : Params) : Obj := { cls := .none, data := .dict #[{ hash := kH P "type.__subclasses__.Exception.0", key := vS "type.__subclasses__.Exception.0" 205, val := .int 24 0 }, { hash := kH P "type.__subclasses__.Exception.n", key := vS "type.__subclasses__.Exception.n" 206, val := .int 1 0 }] 2 }
noncomputable def o_50 (P : Params) : Obj := { cls := .type "dict", data := .dict #[{ hash := kH P "__name__", key := vS "__name__" 165, val := (vS "google.protobuf.internal.wire_format" 187) }, { hash := kH P "__doc__", key := vS "__doc__" 166, val := .none }, { hash := kH P "__package__", key := vS "__package__" 167, val := .none }, { hash := kH P "__loader__", key := vS "__loader__" 168, val := .builtin "__main__.__loader__#opaque" }, { hash := kH P "__spec__", key := vS "__spec__" 169, val := .none }, { hash := kH P "__annotations__", key := vS "__annotations__" 170, val := .ref 6 }, { hash := kH P "__builtins__", key := vS "__builtins__" 171, val := .ref 4 }, { hash := kH P "__file__", key := vS "__file__" 173, val := (vS "/claim/cut.py" 172) }, { hash := kH P "__cached__", key := vS "__cached__" 174, val := .none }, { hash := kH P "Error", key := vS "Error" 208, val := .ref 24 }] 10 }
noncomputable def o_51 (P : Params) : Obj := { cls := .none, data := .fields #[.int 2 0, .int 0 0, .ref 20] }
noncomputable def o_52 (P : Params) : Obj := { cls := .type "tuple", data := .seq #[.type "Exception"] }
noncomputable def o_53 (P : Params) : Obj := { cls := .type "builtin_function_or_method", data := .fields #[.builtin "type.__prepare__", .type "type"] }
noncomputable def o_54 (P : Params) : Obj := { cls := .type "dict", data := .dict #[{ hash := kH P "__module__", key := vS "__module__" 196, val := (vS "google.protobuf.internal.wire_format" 187) }, { hash := kH P "__qualname__", key := vS "__qualname__" 198, val := (vS "Error" 197) }, { hash := kH P "__firstlineno__", key := vS "__firstlineno__" 200, val := .int 2 199 }, { hash := kH P "__static_attributes__", key := vS "__static_attributes__" 201, val := .ref 22 }] 4 }
noncomputable def o_55 (P : Params) : Obj := { cls := .type "tuple", data := .seq #[] }
noncomputable def o_56 (P : Params) : Obj := { cls := .none, data := .fields #[] }
noncomputable def o_57 (P : Params) : Obj := { cls := .type "code", data := .fields #[(vS "Error" 191), (vS "Error" 192), (vS "/claim/cut.py" 193), .int 2 0, .int 0 0, .int 0 0, .int 0 0, .int 0 0, .ref 18, .bool false, .int 181 0, .ref 19, .none, .none, .none, .none, .int 194 0, .int 2 0, (vS "/claim/cut.py" 195)] }
noncomputable def o_58 (P : Params) : Obj := { cls := .type "frame", slots := #[some (.ref 20), some (.ref 3), some (.ref 17), none, some ((vS "google.protobuf.internal.wire_format" 187)), none, some (.ref 0)] }
noncomputable def o_59 (P : Params) : Obj := { cls := .type "tuple", data := .seq #[] }
noncomputable def o_60 (P : Params) : Obj := { cls := .type "dict", data := .dict #[{ hash := kH P "__module__", key := vS "__module__" 196, val := (vS "google.protobuf.internal.wire_format" 187) }, { hash := kH P "__firstlineno__", key := vS "__firstlineno__" 200, val := .int 2 199 }, { hash := kH P "__static_attributes__", key := vS "__static_attributes__" 201, val := .ref 22 }, { hash := kH P "__weakref__", key := vS "__weakref__" 203, val := .ref 25 }, { hash := kH P "__doc__", key := vS "__doc__" 204, val := .none }] 3 }
noncomputable def o_61 (P : Params) : Obj := { cls := .type "type", data := .cls { name := Str.ofString "Error", bases := [.type "Exception"], mro := [.ref 24, .type "Exception", .type "BaseException", .type "object"], ns := 23, qualname := Str.ofString "Error" }, slots := #[some (.ref 15), none, some ((vS "Error" 189)), some ((vS "Error" 197)), some (.builtin "Exception.__new__"), some (.bool true)] }
noncomputable def o_62 (P : Params) : Obj := { cls := .type "getset_descriptor", data := .fields #[(vS "__weakref__" 202), .ref 24, .builtin "ExceptionGroup.__weakref__", .none] }
noncomputable def o_63 (P : Params) : Obj := { cls := .type "super", data := .fields #[.ref 24, .ref 24, .ref 24] }
noncomputable def o_64 (P : Params) : Obj := { cls := .type "builtin_function_or_method", data := .fields #[.builtin "object.__init_subclass__", .ref 24] }
noncomputable def o_65 (P : Params) : Obj := { cls := .type "dict", data := .dict #[{ hash := kH P "__name__", key := vS "__name__" 165, val := (vS "google.protobuf.internal.wire_format" 187) }, { hash := kH P "__doc__", key := vS "__doc__" 166, val := .none }, { hash := kH P "__package__", key := vS "__package__" 167, val := .none }, { hash := kH P "__loader__", key := vS "__loader__" 168, val := .builtin "__main__.__loader__#opaque" }, { hash := kH P "__spec__", key := vS "__spec__" 169, val := .none }, { hash := kH P "__annotations__", key := vS "__annotations__" 170, val := .ref 6 }, { hash := kH P "__builtins__", key := vS "__builtins__" 171, val := .ref 4 }, { hash := kH P "__file__", key := vS "__file__" 173, val := (vS "/claim/cut.py" 172) }, { hash := kH P "__cached__", key := vS "__cached__" 174, val := .none }, { hash := kH P "Error", key := vS "Error" 208, val := .ref 24 }, { hash := kH P "DecodeError", key := vS "DecodeError" 224, val := .ref 37 }] 11 }
noncomputable def o_66 (P : Params) : Obj := { cls := .none, data := .fields #[.int 2 0, .int 0 0, .ref 20, .int 4 0, .int 0 0, .ref 33] }
noncomputable def o_67 (P : Params) : Obj := { cls := .type "type", data := .cls { name := Str.ofString "Error", bases := [.type "Exception"], mro := [.ref 24, .type "Exception", .type "BaseException", .type "object"], ns := 23, qualname := Str.ofString "Error", subclasses := [.ref 37] }, slots := #[some (.ref 15), none, some ((vS "Error" 189)), some ((vS "Error" 197)), some (.builtin "Exception.__new__"), some (.bool true)] }
noncomputable def o_68 (P : Params) : Obj := { cls := .type "tuple", data := .seq #[.ref 24] }
noncomputable def o_69 (P : Params) : Obj := { cls := .type "builtin_function_or_method", data := .fields #[.builtin "type.__prepare__", .type "type"] }
noncomputable def o_70 (P : Params) : Obj := { cls := .type "dict", data := .dict #[{ hash := kH P "__module__", key := vS "__module__" 216, val := (vS "google.protobuf.internal.wire_format" 187) }, { hash := kH P "__qualname__", key := vS "__qualname__" 218, val := (vS "DecodeError" 217) }, { hash := kH P "__firstlineno__", key := vS "__firstlineno__" 220, val := .int 4 219 }, { hash := kH P "__static_attributes__", key := vS "__static_attributes__" 221, val := .ref 35 }] 4 }
noncomputable def o_71 (P : Params) : Obj := { cls := .type "tuple", data := .seq #[] }
noncomputable def o_72 (P : Params) : Obj := { cls := .none, data := .fields #[] }
noncomputable def o_73 (P : Params) : Obj := { cls := .type "code", data := .fields #[(vS "DecodeError" 211), (vS "DecodeError" 212), (vS "/claim/cut.py" 213), .int 4 0, .int 0 0, .int 0 0, .int 0 0, .int 0 0, .ref 31, .bool false, .int 181 0, .ref 32, .none, .none, .none, .none, .int 214 0, .int 4 0, (vS "/claim/cut.py" 215)] }
noncomputable def o_74 (P : Params) : Obj := { cls := .type "frame", slots := #[some (.ref 33), some (.ref 3), some (.ref 30), none, some ((vS "google.protobuf.internal.wire_format" 187)), none, some (.ref 0)] }
noncomputable def o_75 (P : Params) : Obj := { cls := .type "tuple", data := .seq #[] }
noncomputable def o_76 (P : Params) : Obj := { cls := .type "dict", data := .dict #[{ hash := kH P "__module__", key := vS "__module__" 216, val := (vS "google.protobuf.internal.wire_format" 187) }, { hash := kH P "__firstlineno__", key := vS "__firstlineno__" 220, val := .int 4 219 }, { hash := kH P "__static_attributes__", key := vS "__static_attributes__" 221, val := .ref 35 }, { hash := kH P "__doc__", key := vS "__doc__" 222, val := .none }] 2 }
noncomputable def o_77 (P : Params) : Obj := { cls := .type "type", data := .cls { name := Str.ofString "DecodeError", bases := [.ref 24], mro := [.ref 37, .ref 24, .type "Exception", .type "BaseException", .type "object"], ns := 36, qualname := Str.ofString "DecodeError" }, slots := #[some (.ref 28), none, some ((vS "DecodeError" 209)), some ((vS "DecodeError" 217)), some (.builtin "Exception.__new__"), some (.bool true)] }
noncomputable def o_78 (P : Params) : Obj := { cls := .type "super", data := .fields #[.ref 37, .ref 37, .ref 37] }
noncomputable def o_79 (P : Params) : Obj := { cls := .type "builtin_function_or_method", data := .fields #[.builtin "object.__init_subclass__", .ref 37] }
noncomputable def o_80 (P : Params) : Obj := { cls := .type "dict", data := .dict #[{ hash := kH P "__name__", key := vS "__name__" 165, val := (vS "google.protobuf.internal.wire_format" 187) }, { hash := kH P "__doc__", key := vS "__doc__" 166, val := .none }, { hash := kH P "__package__", key := vS "__package__" 167, val := .none }, { hash := kH P "__loader__", key := vS "__loader__" 168, val := .builtin "__main__.__loader__#opaque" }, { hash := kH P "__spec__", key := vS "__spec__" 169, val := .none }, { hash := kH P "__annotations__", key := vS "__annotations__" 170, val := .ref 6 }, { hash := kH P "__builtins__", key := vS "__builtins__" 171, val := .ref 4 }, { hash := kH P "__file__", key := vS "__file__" 173, val := (vS "/claim/cut.py" 172) }, { hash := kH P "__cached__", key := vS "__cached__" 174, val := .none }, { hash := kH P "Error", key := vS "Error" 208, val := .ref 24 }, { hash := kH P "DecodeError", key := vS "DecodeError" 224, val := .ref 37 }, { hash := kH P "EncodeError", key := vS "EncodeError" 240, val := .ref 49 }, { hash := kH P "TAG_TYPE_BITS", key := vS "TAG_TYPE_BITS" 242, val := .int 3 241 }, { hash := kH P "TAG_TYPE_MASK", key := vS "TAG_TYPE_MASK" 244, val := .int 7 243 }, { hash := kH P "_WIRETYPE_MAX", key := vS "_WIRETYPE_MAX" 246, val := .int 5 245 }, { hash := kH P "UINT64_MAX", key := vS "UINT64_MAX" 248, val := .int 18446744073709551615 247 }, { hash := kH P "PackTag", key := vS "PackTag" 256, val := .ref 58 }, { hash := kH P "UnpackTag", key := vS "UnpackTag" 263, val := .ref 65 }, { hash := kH P "ZigZagEncode", key := vS "ZigZagEncode" 270, val := .ref 72 }, { hash := kH P "ZigZagDecode", key := vS "ZigZagDecode" 277, val := .ref 79 }, { hash := kH P "TagByteSize", key := vS "TagByteSize" 284, val := .ref 86 }] 21 }
noncomputable def o_81 (P : Params) : Obj := { cls := .none, data := .fields #[.int 2 0, .int 0 0, .ref 20, .int 4 0, .int 0 0, .ref 33, .int 6 0, .int 0 0, .ref 45, .int 12 0, .int 0 0, .ref 57, .int 16 0, .int 0 0, .ref 64, .int 18 0, .int 0 0, .ref 71, .int 22 0, .int 0 0, .ref 78, .int 26 0, .int 0 0, .ref 85] }
noncomputable def o_82 (P : Params) : Obj := { cls := .type "type", data := .cls { name := Str.ofString "Error", bases := [.type "Exception"], mro := [.ref 24, .type "Exception", .type "BaseException", .type "object"], ns := 23, qualname := Str.ofString "Error", subclasses := [.ref 37, .ref 49] }, slots := #[some (.ref 15), none, some ((vS "Error" 189)), some ((vS "Error" 197)), some (.builtin "Exception.__new__"), some (.bool true)] }
noncomputable def o_83 (P : Params) : Obj := { cls := .type "tuple", data := .seq #[.ref 24] }
noncomputable def o_84 (P : Params) : Obj := { cls := .type "builtin_function_or_method", data := .fields #[.builtin "type.__prepare__", .type "type"] }
noncomputable def o_85 (P : Params) : Obj := { cls := .type "dict", data := .dict #[{ hash := kH P "__module__", key := vS "__module__" 232, val := (vS "google.protobuf.internal.wire_format" 187) }, { hash := kH P "__qualname__", key := vS "__qualname__" 234, val := (vS "EncodeError" 233) }, { hash := kH P "__firstlineno__", key := vS "__firstlineno__" 236, val := .int 6 235 }, { hash := kH P "__static_attributes__", key := vS "__static_attributes__" 237, val := .ref 47 }] 4 }
noncomputable def o_86 (P : Params) : Obj := { cls := .type "tuple", data := .seq #[] }
noncomputable def o_87 (P : Params) : Obj := { cls := .none, data := .fields #[] }
noncomputable def o_88 (P : Params) : Obj := { cls := .type "code", data := .fields #[(vS "EncodeError" 227), (vS "EncodeError" 228), (vS "/claim/cut.py" 229), .int 6 0, .int 0 0, .int 0 0, .int 0 0, .int 0 0, .ref 43, .bool false, .int 181 0, .ref 44, .none, .none, .none, .none, .int 230 0, .int 6 0, (vS "/claim/cut.py" 231)] }
noncomputable def o_89 (P : Params) : Obj := { cls := .type "frame", slots := #[some (.ref 45), some (.ref 3), some (.ref 42), none, some ((vS "google.protobuf.internal.wire_format" 187)), none, some (.ref 0)] }
noncomputable def o_90 (P : Params) : Obj := { cls := .type "tuple", data := .seq #[] }
noncomputable def o_91 (P : Params) : Obj := { cls := .type "dict", data := .dict #[{ hash := kH P "__module__", key := vS "__module__" 232, val := (vS "google.protobuf.internal.wire_format" 187) }, { hash := kH P "__firstlineno__", key := vS "__firstlineno__" 236, val := .int 6 235 }, { hash := kH P "__static_attributes__", key := vS "__static_attributes__" 237, val := .ref 47 }, { hash := kH P "__doc__", key := vS "__doc__" 238, val := .none }] 2 }
noncomputable def o_92 (P : Params) : Obj := { cls := .type "type", data := .cls { name := Str.ofString "EncodeError", bases := [.ref 24], mro := [.ref 49, .ref 24, .type "Exception", .type "BaseException", .type "object"], ns := 48, qualname := Str.ofString "EncodeError" }, slots := #[some (.ref 40), none, some ((vS "EncodeError" 225)), some ((vS "EncodeError" 233)), some (.builtin "Exception.__new__"), some (.bool true)] }
noncomputable def o_93 (P : Params) : Obj := { cls := .type "super", data := .fields #[.ref 49, .ref 49, .ref 49] }
noncomputable def o_94 (P : Params) : Obj := { cls := .type "builtin_function_or_method", data := .fields #[.builtin "object.__init_subclass__", .ref 49] }
noncomputable def o_95 (P : Params) : Obj := { cls := .type "tuple", data := .seq #[] }
noncomputable def o_96 (P : Params) : Obj := { cls := .none, data := .fields #[] }
noncomputable def o_97 (P : Params) : Obj := { cls := .type "tuple", data := .seq #[(vS "field_number" 252), (vS "wire_type" 253)] }
noncomputable def o_98 (P : Params) : Obj := { cls := .type "tuple", data := .seq #[] }
noncomputable def o_99 (P : Params) : Obj := { cls := .none, data := .func { name := Str.ofString "PackTag", qualname := Str.ofString "PackTag", params := { posonlyargs := [], args := [{ arg := Str.ofString "field_number", annotation := none, pos := { line := 12, col := 12, endLine := 12, endCol := 24 } }, { arg := Str.ofString "wire_type", annotation := none, pos := { line := 12, col := 26, endLine := 12, endCol := 35 } }], vararg := none, kwonlyargs := [], kw_defaults := [], kwarg := none, defaults := [] }, body := fB 8, scope := { kind := .function, names := [(Str.ofString "field_number", .local), (Str.ofString "wire_type", .local), (Str.ofString "_WIRETYPE_MAX", .globalImplicit), (Str.ofString "EncodeError", .globalImplicit), (Str.ofString "TAG_TYPE_BITS", .globalImplicit)], isGenerator := false, isCoroutine := false }, globals := 0, closure := [], defaults := .none, kwdefaults := .none } }
noncomputable def o_100 (P : Params) : Obj := { cls := .type "code", data := .fields #[(vS "PackTag" 249), (vS "PackTag" 250), (vS "/claim/cut.py" 251), .int 12 0, .int 2 0, .int 0 0, .int 0 0, .int 3 0, .ref 52, .bool true, .int 181 0, .ref 53, .none, .ref 54, .ref 55, .ref 56, .int 254 0, .int 12 0, (vS "/claim/cut.py" 255)] }
noncomputable def o_101 (P : Params) : Obj := { cls := .type "function", data := .func { name := Str.ofString "PackTag", qualname := Str.ofString "PackTag", params := { posonlyargs := [], args := [{ arg := Str.ofString "field_number", annotation := none, pos := { line := 12, col := 12, endLine := 12, endCol := 24 } }, { arg := Str.ofString "wire_type", annotation := none, pos := { line := 12, col := 26, endLine := 12, endCol := 35 } }], vararg := none, kwonlyargs := [], kw_defaults := [], kwarg := none, defaults := [] }, body := fB 8, scope := { kind := .function, names := [(Str.ofString "field_number", .local), (Str.ofString "wire_type", .local), (Str.ofString "_WIRETYPE_MAX", .globalImplicit), (Str.ofString "EncodeError", .globalImplicit), (Str.ofString "TAG_TYPE_BITS", .globalImplicit)], isGenerator := false, isCoroutine := false }, globals := 3, closure := [], defaults := .none, kwdefaults := .none, pyModule := (vS "google.protobuf.internal.wire_format" 187), code := .ref 57 } }
noncomputable def o_102 (P : Params) : Obj := { cls := .type "tuple", data := .seq #[] }
noncomputable def o_103 (P : Params) : Obj := { cls := .none, data := .fields #[] }
noncomputable def o_104 (P : Params) : Obj := { cls := .type "tuple", data := .seq #[(vS "tag" 260)] }
noncomputable def o_105 (P : Params) : Obj := { cls := .type "tuple", data := .seq #[] }
noncomputable def o_106 (P : Params) : Obj := { cls := .none, data := .func { name := Str.ofString "UnpackTag", qualname := Str.ofString "UnpackTag", params := { posonlyargs := [], args := [{ arg := Str.ofString "tag", annotation := none, pos := { line := 16, col := 14, endLine := 16, endCol := 17 } }], vararg := none, kwonlyargs := [], kw_defaults := [], kwarg := none, defaults := [] }, body := fB 9, scope := { kind := .function, names := [(Str.ofString "tag", .local), (Str.ofString "TAG_TYPE_BITS", .globalImplicit), (Str.ofString "TAG_TYPE_MASK", .globalImplicit)], isGenerator := false, isCoroutine := false }, globals := 0, closure := [], defaults := .none, kwdefaults := .none } }
noncomputable def o_107 (P : Params) : Obj := { cls := .type "code", data := .fields #[(vS "UnpackTag" 257), (vS "UnpackTag" 258), (vS "/claim/cut.py" 259), .int 16 0, .int 1 0, .int 0 0, .int 0 0, .int 3 0, .ref 59, .bool true, .int 181 0, .ref 60, .none, .ref 61, .ref 62, .ref 63, .int 261 0, .int 16 0, (vS "/claim/cut.py" 262)] }
noncomputable def o_108 (P : Params) : Obj := { cls := .type "function", data := .func { name := Str.ofString "UnpackTag", qualname := Str.ofString "UnpackTag", params := { posonlyargs := [], args := [{ arg := Str.ofString "tag", annotation := none, pos := { line := 16, col := 14, endLine := 16, endCol := 17 } }], vararg := none, kwonlyargs := [], kw_defaults := [], kwarg := none, defaults := [] }, body := fB 9, scope := { kind := .function, names := [(Str.ofString "tag", .local), (Str.ofString "TAG_TYPE_BITS", .globalImplicit), (Str.ofString "TAG_TYPE_MASK", .globalImplicit)], isGenerator := false, isCoroutine := false }, globals := 3, closure := [], defaults := .none, kwdefaults := .none, pyModule := (vS "google.protobuf.internal.wire_format" 187), code := .ref 64 } }
noncomputable def o_109 (P : Params) : Obj := { cls := .type "tuple", data := .seq #[] }
noncomputable def o_110 (P : Params) : Obj := { cls := .none, data := .fields #[] }
noncomputable def o_111 (P : Params) : Obj := { cls := .type "tuple", data := .seq #[(vS "value" 267)] }
noncomputable def o_112 (P : Params) : Obj := { cls := .type "tuple", data := .seq #[] }
noncomputable def o_113 (P : Params) : Obj := { cls := .none, data := .func { name := Str.ofString "ZigZagEncode", qualname := Str.ofString "ZigZagEncode", params := { posonlyargs := [], args := [{ arg := Str.ofString "value", annotation := none, pos := { line := 18, col := 17, endLine := 18, endCol := 22 } }], vararg := none, kwonlyargs := [], kw_defaults := [], kwarg := none, defaults := [] }, body := fB 10, scope := { kind := .function, names := [(Str.ofString "value", .local)], isGenerator := false, isCoroutine := false }, globals := 0, closure := [], defaults := .none, kwdefaults := .none } }
noncomputable def o_114 (P : Params) : Obj := { cls := .type "code", data := .fields #[(vS "ZigZagEncode" 264), (vS "ZigZagEncode" 265), (vS "/claim/cut.py" 266), .int 18 0, .int 1 0, .int 0 0, .int 0 0, .int 3 0, .ref 66, .bool true, .int 181 0, .ref 67, .none, .ref 68, .ref 69, .ref 70, .int 268 0, .int 18 0, (vS "/claim/cut.py" 269)] }
noncomputable def o_115 (P : Params) : Obj := { cls := .type "function", data := .func { name := Str.ofString "ZigZagEncode", qualname := Str.ofString "ZigZagEncode", params := { posonlyargs := [], args := [{ arg := Str.ofString "value", annotation := none, pos := { line := 18, col := 17, endLine := 18, endCol := 22 } }], vararg := none, kwonlyargs := [], kw_defaults := [], kwarg := none, defaults := [] }, body := fB 10, scope := { kind := .function, names := [(Str.ofString "value", .local)], isGenerator := false, isCoroutine := false }, globals := 3, closure := [], defaults := .none, kwdefaults := .none, pyModule := (vS "google.protobuf.internal.wire_format" 187), code := .ref 71 } }
noncomputable def o_116 (P : Params) : Obj := { cls := .type "tuple", data := .seq #[] }
noncomputable def o_117 (P : Params) : Obj := { cls := .none, data := .fields #[] }
noncomputable def o_118 (P : Params) : Obj := { cls := .type "tuple", data := .seq #[(vS "value" 274)] }
noncomputable def o_119 (P : Params) : Obj := { cls := .type "tuple", data := .seq #[] }
noncomputable def o_120 (P : Params) : Obj := { cls := .none, data := .func { name := Str.ofString "ZigZagDecode", qualname := Str.ofString "ZigZagDecode", params := { posonlyargs := [], args := [{ arg := Str.ofString "value", annotation := none, pos := { line := 22, col := 17, endLine := 22, endCol := 22 } }], vararg := none, kwonlyargs := [], kw_defaults := [], kwarg := none, defaults := [] }, body := fB 11, scope := { kind := .function, names := [(Str.ofString "value", .local)], isGenerator := false, isCoroutine := false }, globals := 0, closure := [], defaults := .none, kwdefaults := .none } }
noncomputable def o_121 (P : Params) : Obj := { cls := .type "code", data := .fields #[(vS "ZigZagDecode" 271), (vS "ZigZagDecode" 272), (vS "/claim/cut.py" 273), .int 22 0, .int 1 0, .int 0 0, .int 0 0, .int 3 0, .ref 73, .bool true, .int 181 0, .ref 74, .none, .ref 75, .ref 76, .ref 77, .int 275 0, .int 22 0, (vS "/claim/cut.py" 276)] }
noncomputable def o_122 (P : Params) : Obj := { cls := .type "function", data := .func { name := Str.ofString "ZigZagDecode", qualname := Str.ofString "ZigZagDecode", params := { posonlyargs := [], args := [{ arg := Str.ofString "value", annotation := none, pos := { line := 22, col := 17, endLine := 22, endCol := 22 } }], vararg := none, kwonlyargs := [], kw_defaults := [], kwarg := none, defaults := [] }, body := fB 11, scope := { kind := .function, names := [(Str.ofString "value", .local)], isGenerator := false, isCoroutine := false }, globals := 3, closure := [], defaults := .none, kwdefaults := .none, pyModule := (vS "google.protobuf.internal.wire_format" 187), code := .ref 78 } }
noncomputable def o_123 (P : Params) : Obj := { cls := .type "tuple", data := .seq #[] }
noncomputable def o_124 (P : Params) : Obj := { cls := .none, data := .fields #[] }
noncomputable def o_125 (P : Params) : Obj := { cls := .type "tuple", data := .seq #[(vS "field_number" 281)] }
noncomputable def o_126 (P : Params) : Obj := { cls := .type "tuple", data := .seq #[] }
noncomputable def o_127 (P : Params) : Obj := { cls := .none, data := .func { name := Str.ofString "TagByteSize", qualname := Str.ofString "TagByteSize", params := { posonlyargs := [], args := [{ arg := Str.ofString "field_number", annotation := none, pos := { line := 26, col := 16, endLine := 26, endCol := 28 } }], vararg := none, kwonlyargs := [], kw_defaults := [], kwarg := none, defaults := [] }, body := fB 12, scope := { kind := .function, names := [(Str.ofString "field_number", .local), (Str.ofString "_VarUInt64ByteSizeNoTag", .globalImplicit), (Str.ofString "PackTag", .globalImplicit)], isGenerator := false, isCoroutine := false }, globals := 0, closure := [], defaults := .none, kwdefaults := .none } }
noncomputable def o_128 (P : Params) : Obj := { cls := .type "code", data := .fields #[(vS "TagByteSize" 278), (vS "TagByteSize" 279), (vS "/claim/cut.py" 280), .int 26 0, .int 1 0, .int 0 0, .int 0 0, .int 3 0, .ref 80, .bool true, .int 181 0, .ref 81, .none, .ref 82, .ref 83, .ref 84, .int 282 0, .int 26 0, (vS "/claim/cut.py" 283)] }
noncomputable def o_129 (P : Params) : Obj := { cls := .type "function", data := .func { name := Str.ofString "TagByteSize", qualname := Str.ofString "TagByteSize", params := { posonlyargs := [], args := [{ arg := Str.ofString "field_number", annotation := none, pos := { line := 26, col := 16, endLine := 26, endCol := 28 } }], vararg := none, kwonlyargs := [], kw_defaults := [], kwarg := none, defaults := [] }, body := fB 12, scope := { kind := .function, names := [(Str.ofString "field_number", .local), (Str.ofString "_VarUInt64ByteSizeNoTag", .globalImplicit), (Str.ofString "PackTag", .globalImplicit)], isGenerator := false, isCoroutine := false }, globals := 3, closure := [], defaults := .none, kwdefaults := .none, pyModule := (vS "google.protobuf.internal.wire_format" 187), code := .ref 85 } }
noncomputable def o_130 (P : Params) : Obj := { cls := .type "dict", data := .dict #[{ hash := kH P "__name__", key := vS "__name__" 165, val := (vS "google.protobuf.internal.encoder" 364) }, { hash := kH P "__doc__", key := vS "__doc__" 166, val := .none }, { hash := kH P "__package__", key := vS "__package__" 167, val := .none }, { hash := kH P "__loader__", key := vS "__loader__" 168, val := .builtin "__main__.__loader__#opaque" }, { hash := kH P "__spec__", key := vS "__spec__" 169, val := .none }, { hash := kH P "__annotations__", key := vS "__annotations__" 170, val := .ref 6 }, { hash := kH P "__builtins__", key := vS "__builtins__" 171, val := .ref 4 }, { hash := kH P "__file__", key := vS "__file__" 173, val := (vS "/claim/cut.py" 172) }, { hash := kH P "__cached__", key := vS "__cached__" 174, val := .none }, { hash := kH P "Error", key := vS "Error" 208, val := .ref 24 }, { hash := kH P "DecodeError", key := vS "DecodeError" 224, val := .ref 37 }, { hash := kH P "EncodeError", key := vS "EncodeError" 240, val := .ref 49 }, { hash := kH P "TAG_TYPE_BITS", key := vS "TAG_TYPE_BITS" 242, val := .int 3 241 }, { hash := kH P "TAG_TYPE_MASK", key := vS "TAG_TYPE_MASK" 244, val := .int 7 243 }, { hash := kH P "_WIRETYPE_MAX", key := vS "_WIRETYPE_MAX" 246, val := .int 5 245 }, { hash := kH P "UINT64_MAX", key := vS "UINT64_MAX" 248, val := .int 18446744073709551615 247 }, { hash := kH P "PackTag", key := vS "PackTag" 256, val := .ref 58 }, { hash := kH P "UnpackTag", key := vS "UnpackTag" 263, val := .ref 65 }, { hash := kH P "ZigZagEncode", key := vS "ZigZagEncode" 270, val := .ref 72 }, { hash := kH P "ZigZagDecode", key := vS "ZigZagDecode" 277, val := .ref 79 }, { hash := kH P "TagByteSize", key := vS "TagByteSize" 284, val := .ref 86 }, { hash := kH P "_VarUInt64ByteSizeNoTag", key := vS "_VarUInt64ByteSizeNoTag" 291, val := .ref 93 }, { hash := kH P "_VarintDecoder", key := vS "_VarintDecoder" 302, val := .ref 100 }, { hash := kH P "_SignedVarintDecoder", key := vS "_SignedVarintDecoder" 312, val := .ref 107 }, { hash := kH P "_DecodeVarint", key := vS "_DecodeVarint" 320, val := .ref 114 }, { hash := kH P "_DecodeSignedVarint", key := vS "_DecodeSignedVarint" 328, val := .ref 121 }, { hash := kH P "_DecodeVarint32", key := vS "_DecodeVarint32" 336, val := .ref 128 }, { hash := kH P "_DecodeSignedVarint32", key := vS "_DecodeSignedVarint32" 344, val := .ref 135 }, { hash := kH P "ReadTag", key := vS "ReadTag" 354, val := .ref 142 }, { hash := kH P "DecodeTag", key := vS "DecodeTag" 363, val := .ref 149 }, { hash := kH P "_VarintSize", key := vS "_VarintSize" 372, val := .ref 156 }, { hash := kH P "_SignedVarintSize", key := vS "_SignedVarintSize" 379, val := .ref 163 }, { hash := kH P "_TagSize", key := vS "_TagSize" 386, val := .ref 170 }] 33 }
noncomputable def o_131 (P : Params) : Obj := { cls := .none, data := .fields #[.int 2 0, .int 0 0, .ref 20, .int 4 0, .int 0 0, .ref 33, .int 6 0, .int 0 0, .ref 45, .int 12 0, .int 0 0, .ref 57, .int 16 0, .int 0 0, .ref 64, .int 18 0, .int 0 0, .ref 71, .int 22 0, .int 0 0, .ref 78, .int 26 0, .int 0 0, .ref 85, .int 28 0, .int 0 0, .ref 92, .int 51 0, .int 0 0, .ref 99, .int 67 0, .int 0 0, .ref 106, .int 86 0, .int 0 0, .ref 113, .int 88 0, .int 0 0, .ref 120, .int 90 0, .int 0 0, .ref 127, .int 92 0, .int 0 0, .ref 134, .int 94 0, .int 0 0, .ref 141, .int 101 0, .int 0 0, .ref 148, .int 105 0, .int 0 0, .ref 155, .int 125 0, .int 0 0, .ref 162, .int 147 0, .int 0 0, .ref 169] }
noncomputable def o_132 (P : Params) : Obj := { cls := .type "tuple", data := .seq #[] }
noncomputable def o_133 (P : Params) : Obj := { cls := .none, data := .fields #[] }
noncomputable def o_134 (P : Params) : Obj := { cls := .type "tuple", data := .seq #[(vS "uint64" 288)] }
noncomputable def o_135 (P : Params) : Obj := { cls := .type "tuple", data := .seq #[] }
noncomputable def o_136 (P : Params) : Obj := { cls := .none, data := .func { name := Str.ofString "_VarUInt64ByteSizeNoTag", qualname := Str.ofString "_VarUInt64ByteSizeNoTag", params := { posonlyargs := [], args := [{ arg := Str.ofString "uint64", annotation := none, pos := { line := 28, col := 28, endLine := 28, endCol := 34 } }], vararg := none, kwonlyargs := [], kw_defaults := [], kwarg := none, defaults := [] }, body := fB 13, scope := { kind := .function, names := [(Str.ofString "uint64", .local), (Str.ofString "UINT64_MAX", .globalImplicit), (Str.ofString "EncodeError", .globalImplicit)], isGenerator := false, isCoroutine := false }, globals := 0, closure := [], defaults := .none, kwdefaults := .none } }
noncomputable def o_137 (P : Params) : Obj := { cls := .type "code", data := .fields #[(vS "_VarUInt64ByteSizeNoTag" 285), (vS "_VarUInt64ByteSizeNoTag" 286), (vS "/claim/cut.py" 287), .int 28 0, .int 1 0, .int 0 0, .int 0 0, .int 3 0, .ref 87, .bool true, .int 181 0, .ref 88, .none, .ref 89, .ref 90, .ref 91, .int 289 0, .int 28 0, (vS "/claim/cut.py" 290)] }
noncomputable def o_138 (P : Params) : Obj := { cls := .type "function", data := .func { name := Str.ofString "_VarUInt64ByteSizeNoTag", qualname := Str.ofString "_VarUInt64ByteSizeNoTag", params := { posonlyargs := [], args := [{ arg := Str.ofString "uint64", annotation := none, pos := { line := 28, col := 28, endLine := 28, endCol := 34 } }], vararg := none, kwonlyargs := [], kw_defaults := [], kwarg := none, defaults := [] }, body := fB 13, scope := { kind := .function, names := [(Str.ofString "uint64", .local), (Str.ofString "UINT64_MAX", .globalImplicit), (Str.ofString "EncodeError", .globalImplicit)], isGenerator := false, isCoroutine := false }, globals := 3, closure := [], defaults := .none, kwdefaults := .none, pyModule := (vS "google.protobuf.internal.wire_format" 187), code := .ref 92 } }
noncomputable def o_139 (P : Params) : Obj := { cls := .type "tuple", data := .seq #[] }
noncomputable def o_140 (P : Params) : Obj := { cls := .none, data := .fields #[] }
noncomputable def o_141 (P : Params) : Obj := { cls := .type "tuple", data := .seq #[(vS "mask" 297), (vS "DecodeVarint" 298)] }
noncomputable def o_142 (P : Params) : Obj := { cls := .type "tuple", data := .seq #[(vS "mask" 299)] }
noncomputable def o_143 (P : Params) : Obj := { cls := .none, data := .func { name := Str.ofString "_VarintDecoder", qualname := Str.ofString "_VarintDecoder", params := { posonlyargs := [], args := [{ arg := Str.ofString "mask", annotation := none, pos := { line := 51, col := 19, endLine := 51, endCol := 23 } }], vararg := none, kwonlyargs := [], kw_defaults := [], kwarg := none, defaults := [] }, body := fB 15, scope := { kind := .function, names := [(Str.ofString "mask", .cell), (Str.ofString "DecodeVarint", .local)], isGenerator := false, isCoroutine := false }, globals := 0, closure := [], defaults := .none, kwdefaults := .none } }
noncomputable def o_144 (P : Params) : Obj := { cls := .type "code", data := .fields #[(vS "_VarintDecoder" 294), (vS "_VarintDecoder" 295), (vS "/claim/cut.py" 296), .int 51 0, .int 1 0, .int 0 0, .int 0 0, .int 3 0, .ref 94, .bool true, .int 181 0, .ref 95, .none, .ref 96, .ref 97, .ref 98, .int 300 0, .int 51 0, (vS "/claim/cut.py" 301)] }
noncomputable def o_145 (P : Params) : Obj := { cls := .type "function", data := .func { name := Str.ofString "_VarintDecoder", qualname := Str.ofString "_VarintDecoder", params := { posonlyargs := [], args := [{ arg := Str.ofString "mask", annotation := none, pos := { line := 51, col := 19, endLine := 51, endCol := 23 } }], vararg := none, kwonlyargs := [], kw_defaults := [], kwarg := none, defaults := [] }, body := fB 15, scope := { kind := .function, names := [(Str.ofString "mask", .cell), (Str.ofString "DecodeVarint", .local)], isGenerator := false, isCoroutine := false }, globals := 3, closure := [], defaults := .none, kwdefaults := .none, pyModule := (vS "google.protobuf.internal.decoder" 292), code := .ref 99 } }
noncomputable def o_146 (P : Params) : Obj := { cls := .type "tuple", data := .seq #[] }
noncomputable def o_147 (P : Params) : Obj := { cls := .none, data := .fields #[] }
noncomputable def o_148 (P : Params) : Obj := { cls := .type "tuple", data := .seq #[(vS "bits" 306), (vS "DecodeVarint" 307)] }
noncomputable def o_149 (P : Params) : Obj := { cls := .type "tuple", data := .seq #[(vS "mask" 308), (vS "signbit" 309)] }
noncomputable def o_150 (P : Params) : Obj := { cls := .none, data := .func { name := Str.ofString "_SignedVarintDecoder", qualname := Str.ofString "_SignedVarintDecoder", params := { posonlyargs := [], args := [{ arg := Str.ofString "bits", annotation := none, pos := { line := 67, col := 25, endLine := 67, endCol := 29 } }], vararg := none, kwonlyargs := [], kw_defaults := [], kwarg := none, defaults := [] }, body := fB 16, scope := { kind := .function, names := [(Str.ofString "bits", .local), (Str.ofString "DecodeVarint", .local), (Str.ofString "mask", .cell), (Str.ofString "signbit", .cell)], isGenerator := false, isCoroutine := false }, globals := 0, closure := [], defaults := .none, kwdefaults := .none } }
noncomputable def o_151 (P : Params) : Obj := { cls := .type "code", data := .fields #[(vS "_SignedVarintDecoder" 303), (vS "_SignedVarintDecoder" 304), (vS "/claim/cut.py" 305), .int 67 0, .int 1 0, .int 0 0, .int 0 0, .int 3 0, .ref 101, .bool true, .int 181 0, .ref 102, .none, .ref 103, .ref 104, .ref 105, .int 310 0, .int 67 0, (vS "/claim/cut.py" 311)] }
noncomputable def o_152 (P : Params) : Obj := { cls := .type "function", data := .func { name := Str.ofString "_SignedVarintDecoder", qualname := Str.ofString "_SignedVarintDecoder", params := { posonlyargs := [], args := [{ arg := Str.ofString "bits", annotation := none, pos := { line := 67, col := 25, endLine := 67, endCol := 29 } }], vararg := none, kwonlyargs := [], kw_defaults := [], kwarg := none, defaults := [] }, body := fB 16, scope := { kind := .function, names := [(Str.ofString "bits", .local), (Str.ofString "DecodeVarint", .local), (Str.ofString "mask", .cell), (Str.ofString "signbit", .cell)], isGenerator := false, isCoroutine := false }, globals := 3, closure := [], defaults := .none, kwdefaults := .none, pyModule := (vS "google.protobuf.internal.decoder" 292), code := .ref 106 } }
noncomputable def o_153 (P : Params) : Obj := { cls := .type "tuple", data := .seq #[] }
noncomputable def o_154 (P : Params) : Obj := { cls := .none, data := .fields #[] }
noncomputable def o_155 (P : Params) : Obj := { cls := .type "tuple", data := .seq #[(vS "buffer" 316), (vS "pos" 317)] }
noncomputable def o_156 (P : Params) : Obj := { cls := .type "tuple", data := .seq #[] }
noncomputable def o_157 (P : Params) : Obj := { cls := .none, data := .func { name := Str.ofString "_DecodeVarint", qualname := Str.ofString "_DecodeVarint", params := { posonlyargs := [], args := [{ arg := Str.ofString "buffer", annotation := none, pos := { line := 86, col := 18, endLine := 86, endCol := 24 } }, { arg := Str.ofString "pos", annotation := none, pos := { line := 86, col := 26, endLine := 86, endCol := 29 } }], vararg := none, kwonlyargs := [], kw_defaults := [], kwarg := none, defaults := [] }, body := fB 17, scope := { kind := .function, names := [(Str.ofString "buffer", .local), (Str.ofString "pos", .local), (Str.ofString "_VarintDecoder", .globalImplicit)], isGenerator := false, isCoroutine := false }, globals := 0, closure := [], defaults := .none, kwdefaults := .none } }
noncomputable def o_158 (P : Params) : Obj := { cls := .type "code", data := .fields #[(vS "_DecodeVarint" 313), (vS "_DecodeVarint" 314), (vS "/claim/cut.py" 315), .int 86 0, .int 2 0, .int 0 0, .int 0 0, .int 3 0, .ref 108, .bool true, .int 181 0, .ref 109, .none, .ref 110, .ref 111, .ref 112, .int 318 0, .int 86 0, (vS "/claim/cut.py" 319)] }
noncomputable def o_159 (P : Params) : Obj := { cls := .type "function", data := .func { name := Str.ofString "_DecodeVarint", qualname := Str.ofString "_DecodeVarint", params := { posonlyargs := [], args := [{ arg := Str.ofString "buffer", annotation := none, pos := { line := 86, col := 18, endLine := 86, endCol := 24 } }, { arg := Str.ofString "pos", annotation := none, pos := { line := 86, col := 26, endLine := 86, endCol := 29 } }], vararg := none, kwonlyargs := [], kw_defaults := [], kwarg := none, defaults := [] }, body := fB 17, scope := { kind := .function, names := [(Str.ofString "buffer", .local), (Str.ofString "pos", .local), (Str.ofString "_VarintDecoder", .globalImplicit)], isGenerator := false, isCoroutine := false }, globals := 3, closure := [], defaults := .none, kwdefaults := .none, pyModule := (vS "google.protobuf.internal.decoder" 292), code := .ref 113 } }
noncomputable def o_160 (P : Params) : Obj := { cls := .type "tuple", data := .seq #[] }
noncomputable def o_161 (P : Params) : Obj := { cls := .none, data := .fields #[] }
noncomputable def o_162 (P : Params) : Obj := { cls := .type "tuple", data := .seq #[(vS "buffer" 324), (vS "pos" 325)] }
noncomputable def o_163 (P : Params) : Obj := { cls := .type "tuple", data := .seq #[] }
noncomputable def o_164 (P : Params) : Obj := { cls := .none, data := .func { name := Str.ofString "_DecodeSignedVarint", qualname := Str.ofString "_DecodeSignedVarint", params := { posonlyargs := [], args := [{ arg := Str.ofString "buffer", annotation := none, pos := { line := 88, col := 24, endLine := 88, endCol := 30 } }, { arg := Str.ofString "pos", annotation := none, pos := { line := 88, col := 32, endLine := 88, endCol := 35 } }], vararg := none, kwonlyargs := [], kw_defaults := [], kwarg := none, defaults := [] }, body := fB 18, scope := { kind := .function, names := [(Str.ofString "buffer", .local), (Str.ofString "pos", .local), (Str.ofString "_SignedVarintDecoder", .globalImplicit)], isGenerator := false, isCoroutine := false }, globals := 0, closure := [], defaults := .none, kwdefaults := .none } }
noncomputable def o_165 (P : Params) : Obj := { cls := .type "code", data := .fields #[(vS "_DecodeSignedVarint" 321), (vS "_DecodeSignedVarint" 322), (vS "/claim/cut.py" 323), .int 88 0, .int 2 0, .int 0 0, .int 0 0, .int 3 0, .ref 115, .bool true, .int 181 0, .ref 116, .none, .ref 117, .ref 118, .ref 119, .int 326 0, .int 88 0, (vS "/claim/cut.py" 327)] }
noncomputable def o_166 (P : Params) : Obj := { cls := .type "function", data := .func { name := Str.ofString "_DecodeSignedVarint", qualname := Str.ofString "_DecodeSignedVarint", params := { posonlyargs := [], args := [{ arg := Str.ofString "buffer", annotation := none, pos := { line := 88, col := 24, endLine := 88, endCol := 30 } }, { arg := Str.ofString "pos", annotation := none, pos := { line := 88, col := 32, endLine := 88, endCol := 35 } }], vararg := none, kwonlyargs := [], kw_defaults := [], kwarg := none, defaults := [] }, body := fB 18, scope := { kind := .function, names := [(Str.ofString "buffer", .local), (Str.ofString "pos", .local), (Str.ofString "_SignedVarintDecoder", .globalImplicit)], isGenerator := false, isCoroutine := false }, globals := 3, closure := [], defaults := .none, kwdefaults := .none, pyModule := (vS "google.protobuf.internal.decoder" 292), code := .ref 120 } }
noncomputable def o_167 (P : Params) : Obj := { cls := .type "tuple", data := .seq #[] }
noncomputable def o_168 (P : Params) : Obj := { cls := .none, data := .fields #[] }
noncomputable def o_169 (P : Params) : Obj := { cls := .type "tuple", data := .seq #[(vS "buffer" 332), (vS "pos" 333)] }
noncomputable def o_170 (P : Params) : Obj := { cls := .type "tuple", data := .seq #[] }
noncomputable def o_171 (P : Params) : Obj := { cls := .none, data := .func { name := Str.ofString "_DecodeVarint32", qualname := Str.ofString "_DecodeVarint32", params := { posonlyargs := [], args := [{ arg := Str.ofString "buffer", annotation := none, pos := { line := 90, col := 20, endLine := 90, endCol := 26 } }, { arg := Str.ofString "pos", annotation := none, pos := { line := 90, col := 28, endLine := 90, endCol := 31 } }], vararg := none, kwonlyargs := [], kw_defaults := [], kwarg := none, defaults := [] }, body := fB 19, scope := { kind := .function, names := [(Str.ofString "buffer", .local), (Str.ofString "pos", .local), (Str.ofString "_VarintDecoder", .globalImplicit)], isGenerator := false, isCoroutine := false }, globals := 0, closure := [], defaults := .none, kwdefaults := .none } }
noncomputable def o_172 (P : Params) : Obj := { cls := .type "code", data := .fields #[(vS "_DecodeVarint32" 329), (vS "_DecodeVarint32" 330), (vS "/claim/cut.py" 331), .int 90 0, .int 2 0, .int 0 0, .int 0 0, .int 3 0, .ref 122, .bool true, .int 181 0, .ref 123, .none, .ref 124, .ref 125, .ref 126, .int 334 0, .int 90 0, (vS "/claim/cut.py" 335)] }
noncomputable def o_173 (P : Params) : Obj := { cls := .type "function", data := .func { name := Str.ofString "_DecodeVarint32", qualname := Str.ofString "_DecodeVarint32", params := { posonlyargs := [], args := [{ arg := Str.ofString "buffer", annotation := none, pos := { line := 90, col := 20, endLine := 90, endCol := 26 } }, { arg := Str.ofString "pos", annotation := none, pos := { line := 90, col := 28, endLine := 90, endCol := 31 } }], vararg := none, kwonlyargs := [], kw_defaults := [], kwarg := none, defaults := [] }, body := fB 19, scope := { kind := .function, names := [(Str.ofString "buffer", .local), (Str.ofString "pos", .local), (Str.ofString "_VarintDecoder", .globalImplicit)], isGenerator := false, isCoroutine := false }, globals := 3, closure := [], defaults := .none, kwdefaults := .none, pyModule := (vS "google.protobuf.internal.decoder" 292), code := .ref 127 } }
noncomputable def o_174 (P : Params) : Obj := { cls := .type "tuple", data := .seq #[] }
noncomputable def o_175 (P : Params) : Obj := { cls := .none, data := .fields #[] }
noncomputable def o_176 (P : Params) : Obj := { cls := .type "tuple", data := .seq #[(vS "buffer" 340), (vS "pos" 341)] }
noncomputable def o_177 (P : Params) : Obj := { cls := .type "tuple", data := .seq #[] }
noncomputable def o_178 (P : Params) : Obj := { cls := .none, data := .func { name := Str.ofString "_DecodeSignedVarint32", qualname := Str.ofString "_DecodeSignedVarint32", params := { posonlyargs := [], args := [{ arg := Str.ofString "buffer", annotation := none, pos := { line := 92, col := 26, endLine := 92, endCol := 32 } }, { arg := Str.ofString "pos", annotation := none, pos := { line := 92, col := 34, endLine := 92, endCol := 37 } }], vararg := none, kwonlyargs := [], kw_defaults := [], kwarg := none, defaults := [] }, body := fB 20, scope := { kind := .function, names := [(Str.ofString "buffer", .local), (Str.ofString "pos", .local), (Str.ofString "_SignedVarintDecoder", .globalImplicit)], isGenerator := false, isCoroutine := false }, globals := 0, closure := [], defaults := .none, kwdefaults := .none } }
noncomputable def o_179 (P : Params) : Obj := { cls := .type "code", data := .fields #[(vS "_DecodeSignedVarint32" 337), (vS "_DecodeSignedVarint32" 338), (vS "/claim/cut.py" 339), .int 92 0, .int 2 0, .int 0 0, .int 0 0, .int 3 0, .ref 129, .bool true, .int 181 0, .ref 130, .none, .ref 131, .ref 132, .ref 133, .int 342 0, .int 92 0, (vS "/claim/cut.py" 343)] }
noncomputable def o_180 (P : Params) : Obj := { cls := .type "function", data := .func { name := Str.ofString "_DecodeSignedVarint32", qualname := Str.ofString "_DecodeSignedVarint32", params := { posonlyargs := [], args := [{ arg := Str.ofString "buffer", annotation := none, pos := { line := 92, col := 26, endLine := 92, endCol := 32 } }, { arg := Str.ofString "pos", annotation := none, pos := { line := 92, col := 34, endLine := 92, endCol := 37 } }], vararg := none, kwonlyargs := [], kw_defaults := [], kwarg := none, defaults := [] }, body := fB 20, scope := { kind := .function, names := [(Str.ofString "buffer", .local), (Str.ofString "pos", .local), (Str.ofString "_SignedVarintDecoder", .globalImplicit)], isGenerator := false, isCoroutine := false }, globals := 3, closure := [], defaults := .none, kwdefaults := .none, pyModule := (vS "google.protobuf.internal.decoder" 292), code := .ref 134 } }
noncomputable def o_181 (P : Params) : Obj := { cls := .type "tuple", data := .seq #[] }
noncomputable def o_182 (P : Params) : Obj := { cls := .none, data := .fields #[] }
noncomputable def o_183 (P : Params) : Obj := { cls := .type "tuple", data := .seq #[(vS "buffer" 348), (vS "pos" 349), (vS "start" 350), (vS "tag_bytes" 351)] }
noncomputable def o_184 (P : Params) : Obj := { cls := .type "tuple", data := .seq #[] }
noncomputable def o_185 (P : Params) : Obj := { cls := .none, data := .func { name := Str.ofString "ReadTag", qualname := Str.ofString "ReadTag", params := { posonlyargs := [], args := [{ arg := Str.ofString "buffer", annotation := none, pos := { line := 94, col := 12, endLine := 94, endCol := 18 } }, { arg := Str.ofString "pos", annotation := none, pos := { line := 94, col := 20, endLine := 94, endCol := 23 } }], vararg := none, kwonlyargs := [], kw_defaults := [], kwarg := none, defaults := [] }, body := fB 21, scope := { kind := .function, names := [(Str.ofString "buffer", .local), (Str.ofString "pos", .local), (Str.ofString "start", .local), (Str.ofString "tag_bytes", .local)], isGenerator := false, isCoroutine := false }, globals := 0, closure := [], defaults := .none, kwdefaults := .none } }
noncomputable def o_186 (P : Params) : Obj := { cls := .type "code", data := .fields #[(vS "ReadTag" 345), (vS "ReadTag" 346), (vS "/claim/cut.py" 347), .int 94 0, .int 2 0, .int 0 0, .int 0 0, .int 3 0, .ref 136, .bool true, .int 181 0, .ref 137, .none, .ref 138, .ref 139, .ref 140, .int 352 0, .int 94 0, (vS "/claim/cut.py" 353)] }
noncomputable def o_187 (P : Params) : Obj := { cls := .type "function", data := .func { name := Str.ofString "ReadTag", qualname := Str.ofString "ReadTag", params := { posonlyargs := [], args := [{ arg := Str.ofString "buffer", annotation := none, pos := { line := 94, col := 12, endLine := 94, endCol := 18 } }, { arg := Str.ofString "pos", annotation := none, pos := { line := 94, col := 20, endLine := 94, endCol := 23 } }], vararg := none, kwonlyargs := [], kw_defaults := [], kwarg := none, defaults := [] }, body := fB 21, scope := { kind := .function, names := [(Str.ofString "buffer", .local), (Str.ofString "pos", .local), (Str.ofString "start", .local), (Str.ofString "tag_bytes", .local)], isGenerator := false, isCoroutine := false }, globals := 3, closure := [], defaults := .none, kwdefaults := .none, pyModule := (vS "google.protobuf.internal.decoder" 292), code := .ref 141 } }
noncomputable def o_188 (P : Params) : Obj := { cls := .type "tuple", data := .seq #[] }
noncomputable def o_189 (P : Params) : Obj := { cls := .none, data := .fields #[] }
noncomputable def o_190 (P : Params) : Obj := { cls := .type "tuple", data := .seq #[(vS "tag_bytes" 358), (vS "tag" 359), (vS "_" 360)] }
noncomputable def o_191 (P : Params) : Obj := { cls := .type "tuple", data := .seq #[] }
noncomputable def o_192 (P : Params) : Obj := { cls := .none, data := .func { name := Str.ofString "DecodeTag", qualname := Str.ofString "DecodeTag", params := { posonlyargs := [], args := [{ arg := Str.ofString "tag_bytes", annotation := none, pos := { line := 101, col := 14, endLine := 101, endCol := 23 } }], vararg := none, kwonlyargs := [], kw_defaults := [], kwarg := none, defaults := [] }, body := fB 22, scope := { kind := .function, names := [(Str.ofString "tag_bytes", .local), (Str.ofString "tag", .local), (Str.ofString "_", .local), (Str.ofString "_DecodeVarint", .globalImplicit), (Str.ofString "UnpackTag", .globalImplicit)], isGenerator := false, isCoroutine := false }, globals := 0, closure := [], defaults := .none, kwdefaults := .none } }
noncomputable def o_193 (P : Params) : Obj := { cls := .type "code", data := .fields #[(vS "DecodeTag" 355), (vS "DecodeTag" 356), (vS "/claim/cut.py" 357), .int 101 0, .int 1 0, .int 0 0, .int 0 0, .int 3 0, .ref 143, .bool true, .int 181 0, .ref 144, .none, .ref 145, .ref 146, .ref 147, .int 361 0, .int 101 0, (vS "/claim/cut.py" 362)] }
noncomputable def o_194 (P : Params) : Obj := { cls := .type "function", data := .func { name := Str.ofString "DecodeTag", qualname := Str.ofString "DecodeTag", params := { posonlyargs := [], args := [{ arg := Str.ofString "tag_bytes", annotation := none, pos := { line := 101, col := 14, endLine := 101, endCol := 23 } }], vararg := none, kwonlyargs := [], kw_defaults := [], kwarg := none, defaults := [] }, body := fB 22, scope := { kind := .function, names := [(Str.ofString "tag_bytes", .local), (Str.ofString "tag", .local), (Str.ofString "_", .local), (Str.ofString "_DecodeVarint", .globalImplicit), (Str.ofString "UnpackTag", .globalImplicit)], isGenerator := false, isCoroutine := false }, globals := 3, closure := [], defaults := .none, kwdefaults := .none, pyModule := (vS "google.protobuf.internal.decoder" 292), code := .ref 148 } }
noncomputable def o_195 (P : Params) : Obj := { cls := .type "tuple", data := .seq #[] }
noncomputable def o_196 (P : Params) : Obj := { cls := .none, data := .fields #[] }
noncomputable def o_197 (P : Params) : Obj := { cls := .type "tuple", data := .seq #[(vS "value" 369)] }
noncomputable def o_198 (P : Params) : Obj := { cls := .type "tuple", data := .seq #[] }
noncomputable def o_199 (P : Params) : Obj := { cls := .none, data := .func { name := Str.ofString "_VarintSize", qualname := Str.ofString "_VarintSize", params := { posonlyargs := [], args := [{ arg := Str.ofString "value", annotation := none, pos := { line := 105, col := 16, endLine := 105, endCol := 21 } }], vararg := none, kwonlyargs := [], kw_defaults := [], kwarg := none, defaults := [] }, body := fB 24, scope := { kind := .function, names := [(Str.ofString "value", .local)], isGenerator := false, isCoroutine := false }, globals := 0, closure := [], defaults := .none, kwdefaults := .none } }
noncomputable def o_200 (P : Params) : Obj := { cls := .type "code", data := .fields #[(vS "_VarintSize" 366), (vS "_VarintSize" 367), (vS "/claim/cut.py" 368), .int 105 0, .int 1 0, .int 0 0, .int 0 0, .int 3 0, .ref 150, .bool true, .int 181 0, .ref 151, .none, .ref 152, .ref 153, .ref 154, .int 370 0, .int 105 0, (vS "/claim/cut.py" 371)] }
noncomputable def o_201 (P : Params) : Obj := { cls := .type "function", data := .func { name := Str.ofString "_VarintSize", qualname := Str.ofString "_VarintSize", params := { posonlyargs := [], args := [{ arg := Str.ofString "value", annotation := none, pos := { line := 105, col := 16, endLine := 105, endCol := 21 } }], vararg := none, kwonlyargs := [], kw_defaults := [], kwarg := none, defaults := [] }, body := fB 24, scope := { kind := .function, names := [(Str.ofString "value", .local)], isGenerator := false, isCoroutine := false }, globals := 3, closure := [], defaults := .none, kwdefaults := .none, pyModule := (vS "google.protobuf.internal.encoder" 364), code := .ref 155 } }
noncomputable def o_202 (P : Params) : Obj := { cls := .type "tuple", data := .seq #[] }
noncomputable def o_203 (P : Params) : Obj := { cls := .none, data := .fields #[] }
noncomputable def o_204 (P : Params) : Obj := { cls := .type "tuple", data := .seq #[(vS "value" 376)] }
noncomputable def o_205 (P : Params) : Obj := { cls := .type "tuple", data := .seq #[] }
noncomputable def o_206 (P : Params) : Obj := { cls := .none, data := .func { name := Str.ofString "_SignedVarintSize", qualname := Str.ofString "_SignedVarintSize", params := { posonlyargs := [], args := [{ arg := Str.ofString "value", annotation := none, pos := { line := 125, col := 22, endLine := 125, endCol := 27 } }], vararg := none, kwonlyargs := [], kw_defaults := [], kwarg := none, defaults := [] }, body := fB 25, scope := { kind := .function, names := [(Str.ofString "value", .local)], isGenerator := false, isCoroutine := false }, globals := 0, closure := [], defaults := .none, kwdefaults := .none } }
noncomputable def o_207 (P : Params) : Obj := { cls := .type "code", data := .fields #[(vS "_SignedVarintSize" 373), (vS "_SignedVarintSize" 374), (vS "/claim/cut.py" 375), .int 125 0, .int 1 0, .int 0 0, .int 0 0, .int 3 0, .ref 157, .bool true, .int 181 0, .ref 158, .none, .ref 159, .ref 160, .ref 161, .int 377 0, .int 125 0, (vS "/claim/cut.py" 378)] }
noncomputable def o_208 (P : Params) : Obj := { cls := .type "function", data := .func { name := Str.ofString "_SignedVarintSize", qualname := Str.ofString "_SignedVarintSize", params := { posonlyargs := [], args := [{ arg := Str.ofString "value", annotation := none, pos := { line := 125, col := 22, endLine := 125, endCol := 27 } }], vararg := none, kwonlyargs := [], kw_defaults := [], kwarg := none, defaults := [] }, body := fB 25, scope := { kind := .function, names := [(Str.ofString "value", .local)], isGenerator := false, isCoroutine := false }, globals := 3, closure := [], defaults := .none, kwdefaults := .none, pyModule := (vS "google.protobuf.internal.encoder" 364), code := .ref 162 } }
noncomputable def o_209 (P : Params) : Obj := { cls := .type "tuple", data := .seq #[] }
noncomputable def o_210 (P : Params) : Obj := { cls := .none, data := .fields #[] }
noncomputable def o_211 (P : Params) : Obj := { cls := .type "tuple", data := .seq #[(vS "field_number" 383)] }
noncomputable def o_212 (P : Params) : Obj := { cls := .type "tuple", data := .seq #[] }
noncomputable def o_213 (P : Params) : Obj := { cls := .none, data := .func { name := Str.ofString "_TagSize", qualname := Str.ofString "_TagSize", params := { posonlyargs := [], args := [{ arg := Str.ofString "field_number", annotation := none, pos := { line := 147, col := 13, endLine := 147, endCol := 25 } }], vararg := none, kwonlyargs := [], kw_defaults := [], kwarg := none, defaults := [] }, body := fB 26, scope := { kind := .function, names := [(Str.ofString "field_number", .local), (Str.ofString "_VarintSize", .globalImplicit), (Str.ofString "PackTag", .globalImplicit)], isGenerator := false, isCoroutine := false }, globals := 0, closure := [], defaults := .none, kwdefaults := .none } }
noncomputable def o_214 (P : Params) : Obj := { cls := .type "code", data := .fields #[(vS "_TagSize" 380), (vS "_TagSize" 381), (vS "/claim/cut.py" 382), .int 147 0, .int 1 0, .int 0 0, .int 0 0, .int 3 0, .ref 164, .bool true, .int 181 0, .ref 165, .none, .ref 166, .ref 167, .ref 168, .int 384 0, .int 147 0, (vS "/claim/cut.py" 385)] }
noncomputable def o_215 (P : Params) : Obj := { cls := .type "function", data := .func { name := Str.ofString "_TagSize", qualname := Str.ofString "_TagSize", params := { posonlyargs := [], args := [{ arg := Str.ofString "field_number", annotation := none, pos := { line := 147, col := 13, endLine := 147, endCol := 25 } }], vararg := none, kwonlyargs := [], kw_defaults := [], kwarg := none, defaults := [] }, body := fB 26, scope := { kind := .function, names := [(Str.ofString "field_number", .local), (Str.ofString "_VarintSize", .globalImplicit), (Str.ofString "PackTag", .globalImplicit)], isGenerator := false, isCoroutine := false }, globals := 3, closure := [], defaults := .none, kwdefaults := .none, pyModule := (vS "google.protobuf.internal.encoder" 364), code := .ref 169 } }
noncomputable def o_216 (P : Params) : Obj := { cls := .type "dict", data := .dict #[{ hash := kH P "__name__", key := vS "__name__" 165, val := (vS "law_jd0021_01" 423) }, { hash := kH P "__doc__", key := vS "__doc__" 166, val := .none }, { hash := kH P "__package__", key := vS "__package__" 167, val := .none }, { hash := kH P "__loader__", key := vS "__loader__" 168, val := .builtin "__main__.__loader__#opaque" }, { hash := kH P "__spec__", key := vS "__spec__" 169, val := .none }, { hash := kH P "__annotations__", key := vS "__annotations__" 170, val := .ref 6 }, { hash := kH P "__builtins__", key := vS "__builtins__" 171, val := .ref 4 }, { hash := kH P "__file__", key := vS "__file__" 173, val := (vS "/claim/cut.py" 172) }, { hash := kH P "__cached__", key := vS "__cached__" 174, val := .none }, { hash := kH P "Error", key := vS "Error" 208, val := .ref 24 }, { hash := kH P "DecodeError", key := vS "DecodeError" 224, val := .ref 37 }, { hash := kH P "EncodeError", key := vS "EncodeError" 240, val := .ref 49 }, { hash := kH P "TAG_TYPE_BITS", key := vS "TAG_TYPE_BITS" 242, val := .int 3 241 }, { hash := kH P "TAG_TYPE_MASK", key := vS "TAG_TYPE_MASK" 244, val := .int 7 243 }, { hash := kH P "_WIRETYPE_MAX", key := vS "_WIRETYPE_MAX" 246, val := .int 5 245 }, { hash := kH P "UINT64_MAX", key := vS "UINT64_MAX" 248, val := .int 18446744073709551615 247 }, { hash := kH P "PackTag", key := vS "PackTag" 256, val := .ref 58 }, { hash := kH P "UnpackTag", key := vS "UnpackTag" 263, val := .ref 65 }, { hash := kH P "ZigZagEncode", key := vS "ZigZagEncode" 270, val := .ref 72 }, { hash := kH P "ZigZagDecode", key := vS "ZigZagDecode" 277, val := .ref 79 }, { hash := kH P "TagByteSize", key := vS "TagByteSize" 284, val := .ref 86 }, { hash := kH P "_VarUInt64ByteSizeNoTag", key := vS "_VarUInt64ByteSizeNoTag" 291, val := .ref 93 }, { hash := kH P "_VarintDecoder", key := vS "_VarintDecoder" 302, val := .ref 100 }, { hash := kH P "_SignedVarintDecoder", key := vS "_SignedVarintDecoder" 312, val := .ref 107 }, { hash := kH P "_DecodeVarint", key := vS "_DecodeVarint" 320, val := .ref 114 }, { hash := kH P "_DecodeSignedVarint", key := vS "_DecodeSignedVarint" 328, val := .ref 121 }, { hash := kH P "_DecodeVarint32", key := vS "_DecodeVarint32" 336, val := .ref 128 }, { hash := kH P "_DecodeSignedVarint32", key := vS "_DecodeSignedVarint32" 344, val := .ref 135 }, { hash := kH P "ReadTag", key := vS "ReadTag" 354, val := .ref 142 }, { hash := kH P "DecodeTag", key := vS "DecodeTag" 363, val := .ref 149 }, { hash := kH P "_VarintSize", key := vS "_VarintSize" 372, val := .ref 156 }, { hash := kH P "_SignedVarintSize", key := vS "_SignedVarintSize" 379, val := .ref 163 }, { hash := kH P "_TagSize", key := vS "_TagSize" 386, val := .ref 170 }, { hash := kH P "_EncodeVarint", key := vS "_EncodeVarint" 396, val := .ref 178 }, { hash := kH P "_EncodeSignedVarint", key := vS "_EncodeSignedVarint" 406, val := .ref 186 }, { hash := kH P "_VarintBytes", key := vS "_VarintBytes" 414, val := .ref 193 }, { hash := kH P "TagBytes", key := vS "TagBytes" 422, val := .ref 200 }, { hash := kH P "_law_cell", key := vS "_law_cell" 432, val := .ref 207 }, { hash := kH P "_law_octets", key := vS "_law_octets" 443, val := .ref 214 }, { hash := kH P "_law_varint", key := vS "_law_varint" 451, val := .ref 221 }, { hash := kH P "_law_due", key := vS "_law_due" 463, val := .ref 228 }, { hash := kH P "_law_read", key := vS "_law_read" 472, val := .ref 235 }, { hash := kH P "_law_tag", key := vS "_law_tag" 481, val := .ref 242 }, { hash := kH P "_law_places", key := vS "_law_places" 493, val := .ref 249 }, { hash := kH P "_law_written", key := vS "_law_written" 502, val := .ref 256 }] 45 }
noncomputable def o_217 (P : Params) : Obj := { cls := .none, data := .fields #[.int 2 0, .int 0 0, .ref 20, .int 4 0, .int 0 0, .ref 33, .int 6 0, .int 0 0, .ref 45, .int 12 0, .int 0 0, .ref 57, .int 16 0, .int 0 0, .ref 64, .int 18 0, .int 0 0, .ref 71, .int 22 0, .int 0 0, .ref 78, .int 26 0, .int 0 0, .ref 85, .int 28 0, .int 0 0, .ref 92, .int 51 0, .int 0 0, .ref 99, .int 67 0, .int 0 0, .ref 106, .int 86 0, .int 0 0, .ref 113, .int 88 0, .int 0 0, .ref 120, .int 90 0, .int 0 0, .ref 127, .int 92 0, .int 0 0, .ref 134, .int 94 0, .int 0 0, .ref 141, .int 101 0, .int 0 0, .ref 148, .int 105 0, .int 0 0, .ref 155, .int 125 0, .int 0 0, .ref 162, .int 147 0, .int 0 0, .ref 169, .int 149 0, .int 0 0, .ref 177, .int 157 0, .int 0 0, .ref 185, .int 167 0, .int 0 0, .ref 192, .int 171 0, .int 0 0, .ref 199, .int 174 0, .int 0 0, .ref 206, .int 178 0, .int 0 0, .ref 213, .int 191 0, .int 0 0, .ref 220, .int 198 0, .int 0 0, .ref 227, .int 210 0, .int 0 0, .ref 234, .int 225 0, .int 0 0, .ref 241, .int 230 0, .int 0 0, .ref 248, .int 248 0, .int 0 0, .ref 255] }
noncomputable def o_218 (P : Params) : Obj := { cls := .type "tuple", data := .seq #[.none] }
noncomputable def o_219 (P : Params) : Obj := { cls := .type "tuple", data := .seq #[] }
noncomputable def o_220 (P : Params) : Obj := { cls := .none, data := .fields #[] }
noncomputable def o_221 (P : Params) : Obj := { cls := .type "tuple", data := .seq #[(vS "write" 390), (vS "value" 391), (vS "unused_deterministic" 392), (vS "bits" 393)] }
noncomputable def o_222 (P : Params) : Obj := { cls := .type "tuple", data := .seq #[] }
noncomputable def o_223 (P : Params) : Obj := { cls := .none, data := .func { name := Str.ofString "_EncodeVarint", qualname := Str.ofString "_EncodeVarint", params := { posonlyargs := [], args := [{ arg := Str.ofString "write", annotation := none, pos := { line := 149, col := 18, endLine := 149, endCol := 23 } }, { arg := Str.ofString "value", annotation := none, pos := { line := 149, col := 25, endLine := 149, endCol := 30 } }, { arg := Str.ofString "unused_deterministic", annotation := none, pos := { line := 149, col := 32, endLine := 149, endCol := 52 } }], vararg := none, kwonlyargs := [], kw_defaults := [], kwarg := none, defaults := [PySem.Expr.Constant PySem.Const.none 0 { line := 149, col := 53, endLine := 149, endCol := 57 }] }, body := fB 27, scope := { kind := .function, names := [(Str.ofString "write", .local), (Str.ofString "value", .local), (Str.ofString "unused_deterministic", .local), (Str.ofString "bits", .local), (Str.ofString "bytes", .globalImplicit)], isGenerator := false, isCoroutine := false }, globals := 0, closure := [], defaults := .none, kwdefaults := .none } }
noncomputable def o_224 (P : Params) : Obj := { cls := .type "code", data := .fields #[(vS "_EncodeVarint" 387), (vS "_EncodeVarint" 388), (vS "/claim/cut.py" 389), .int 149 0, .int 3 0, .int 0 0, .int 0 0, .int 3 0, .ref 172, .bool true, .int 181 0, .ref 173, .none, .ref 174, .ref 175, .ref 176, .int 394 0, .int 149 0, (vS "/claim/cut.py" 395)] }
noncomputable def o_225 (P : Params) : Obj := { cls := .type "function", data := .func { name := Str.ofString "_EncodeVarint", qualname := Str.ofString "_EncodeVarint", params := { posonlyargs := [], args := [{ arg := Str.ofString "write", annotation := none, pos := { line := 149, col := 18, endLine := 149, endCol := 23 } }, { arg := Str.ofString "value", annotation := none, pos := { line := 149, col := 25, endLine := 149, endCol := 30 } }, { arg := Str.ofString "unused_deterministic", annotation := none, pos := { line := 149, col := 32, endLine := 149, endCol := 52 } }], vararg := none, kwonlyargs := [], kw_defaults := [], kwarg := none, defaults := [PySem.Expr.Constant PySem.Const.none 0 { line := 149, col := 53, endLine := 149, endCol := 57 }] }, body := fB 27, scope := { kind := .function, names := [(Str.ofString "write", .local), (Str.ofString "value", .local), (Str.ofString "unused_deterministic", .local), (Str.ofString "bits", .local), (Str.ofString "bytes", .globalImplicit)], isGenerator := false, isCoroutine := false }, globals := 3, closure := [], defaults := .ref 171, kwdefaults := .none, pyModule := (vS "google.protobuf.internal.encoder" 364), code := .ref 177 } }
noncomputable def o_226 (P : Params) : Obj := { cls := .type "tuple", data := .seq #[.none] }
noncomputable def o_227 (P : Params) : Obj := { cls := .type "tuple", data := .seq #[] }
noncomputable def o_228 (P : Params) : Obj := { cls := .none, data := .fields #[] }
noncomputable def o_229 (P : Params) : Obj := { cls := .type "tuple", data := .seq #[(vS "write" 400), (vS "value" 401), (vS "unused_deterministic" 402), (vS "bits" 403)] }
noncomputable def o_230 (P : Params) : Obj := { cls := .type "tuple", data := .seq #[] }
noncomputable def o_231 (P : Params) : Obj := { cls := .none, data := .func { name := Str.ofString "_EncodeSignedVarint", qualname := Str.ofString "_EncodeSignedVarint", params := { posonlyargs := [], args := [{ arg := Str.ofString "write", annotation := none, pos := { line := 157, col := 24, endLine := 157, endCol := 29 } }, { arg := Str.ofString "value", annotation := none, pos := { line := 157, col := 31, endLine := 157, endCol := 36 } }, { arg := Str.ofString "unused_deterministic", annotation := none, pos := { line := 157, col := 38, endLine := 157, endCol := 58 } }], vararg := none, kwonlyargs := [], kw_defaults := [], kwarg := none, defaults := [PySem.Expr.Constant PySem.Const.none 0 { line := 157, col := 59, endLine := 157, endCol := 63 }] }, body := fB 28, scope := { kind := .function, names := [(Str.ofString "write", .local), (Str.ofString "value", .local), (Str.ofString "unused_deterministic", .local), (Str.ofString "bits", .local), (Str.ofString "bytes", .globalImplicit)], isGenerator := false, isCoroutine := false }, globals := 0, closure := [], defaults := .none, kwdefaults := .none } }
noncomputable def o_232 (P : Params) : Obj := { cls := .type "code", data := .fields #[(vS "_EncodeSignedVarint" 397), (vS "_EncodeSignedVarint" 398), (vS "/claim/cut.py" 399), .int 157 0, .int 3 0, .int 0 0, .int 0 0, .int 3 0, .ref 180, .bool true, .int 181 0, .ref 181, .none, .ref 182, .ref 183, .ref 184, .int 404 0, .int 157 0, (vS "/claim/cut.py" 405)] }
noncomputable def o_233 (P : Params) : Obj := { cls := .type "function", data := .func { name := Str.ofString "_EncodeSignedVarint", qualname := Str.ofString "_EncodeSignedVarint", params := { posonlyargs := [], args := [{ arg := Str.ofString "write", annotation := none, pos := { line := 157, col := 24, endLine := 157, endCol := 29 } }, { arg := Str.ofString "value", annotation := none, pos := { line := 157, col := 31, endLine := 157, endCol := 36 } }, { arg := Str.ofString "unused_deterministic", annotation := none, pos := { line := 157, col := 38, endLine := 157, endCol := 58 } }], vararg := none, kwonlyargs := [], kw_defaults := [], kwarg := none, defaults := [PySem.Expr.Constant PySem.Const.none 0 { line := 157, col := 59, endLine := 157, endCol := 63 }] }, body := fB 28, scope := { kind := .function, names := [(Str.ofString "write", .local), (Str.ofString "value", .local), (Str.ofString "unused_deterministic", .local), (Str.ofString "bits", .local), (Str.ofString "bytes", .globalImplicit)], isGenerator := false, isCoroutine := false }, globals := 3, closure := [], defaults := .ref 179, kwdefaults := .none, pyModule := (vS "google.protobuf.internal.encoder" 364), code := .ref 185 } }
noncomputable def o_234 (P : Params) : Obj := { cls := .type "tuple", data := .seq #[] }
noncomputable def o_235 (P : Params) : Obj := { cls := .none, data := .fields #[] }
noncomputable def o_236 (P : Params) : Obj := { cls := .type "tuple", data := .seq #[(vS "value" 410)] }
noncomputable def o_237 (P : Params) : Obj := { cls := .type "tuple", data := .seq #[(vS "pieces" 411)] }
noncomputable def o_238 (P : Params) : Obj := { cls := .none, data := .func { name := Str.ofString "_VarintBytes", qualname := Str.ofString "_VarintBytes", params := { posonlyargs := [], args := [{ arg := Str.ofString "value", annotation := none, pos := { line := 167, col := 17, endLine := 167, endCol := 22 } }], vararg := none, kwonlyargs := [], kw_defaults := [], kwarg := none, defaults := [] }, body := fB 29, scope := { kind := .function, names := [(Str.ofString "value", .local), (Str.ofString "pieces", .cell), (Str.ofString "_EncodeVarint", .globalImplicit)], isGenerator := false, isCoroutine := false }, globals := 0, closure := [], defaults := .none, kwdefaults := .none } }
noncomputable def o_239 (P : Params) : Obj := { cls := .type "code", data := .fields #[(vS "_VarintBytes" 407), (vS "_VarintBytes" 408), (vS "/claim/cut.py" 409), .int 167 0, .int 1 0, .int 0 0, .int 0 0, .int 3 0, .ref 187, .bool true, .int 181 0, .ref 188, .none, .ref 189, .ref 190, .ref 191, .int 412 0, .int 167 0, (vS "/claim/cut.py" 413)] }
noncomputable def o_240 (P : Params) : Obj := { cls := .type "function", data := .func { name := Str.ofString "_VarintBytes", qualname := Str.ofString "_VarintBytes", params := { posonlyargs := [], args := [{ arg := Str.ofString "value", annotation := none, pos := { line := 167, col := 17, endLine := 167, endCol := 22 } }], vararg := none, kwonlyargs := [], kw_defaults := [], kwarg := none, defaults := [] }, body := fB 29, scope := { kind := .function, names := [(Str.ofString "value", .local), (Str.ofString "pieces", .cell), (Str.ofString "_EncodeVarint", .globalImplicit)], isGenerator := false, isCoroutine := false }, globals := 3, closure := [], defaults := .none, kwdefaults := .none, pyModule := (vS "google.protobuf.internal.encoder" 364), code := .ref 192 } }
noncomputable def o_241 (P : Params) : Obj := { cls := .type "tuple", data := .seq #[] }
noncomputable def o_242 (P : Params) : Obj := { cls := .none, data := .fields #[] }
noncomputable def o_243 (P : Params) : Obj := { cls := .type "tuple", data := .seq #[(vS "field_number" 418), (vS "wire_type" 419)] }
noncomputable def o_244 (P : Params) : Obj := { cls := .type "tuple", data := .seq #[] }
noncomputable def o_245 (P : Params) : Obj := { cls := .none, data := .func { name := Str.ofString "TagBytes", qualname := Str.ofString "TagBytes", params := { posonlyargs := [], args := [{ arg := Str.ofString "field_number", annotation := none, pos := { line := 171, col := 13, endLine := 171, endCol := 25 } }, { arg := Str.ofString "wire_type", annotation := none, pos := { line := 171, col := 27, endLine := 171, endCol := 36 } }], vararg := none, kwonlyargs := [], kw_defaults := [], kwarg := none, defaults := [] }, body := fB 30, scope := { kind := .function, names := [(Str.ofString "field_number", .local), (Str.ofString "wire_type", .local), (Str.ofString "bytes", .globalImplicit), (Str.ofString "_VarintBytes", .globalImplicit), (Str.ofString "PackTag", .globalImplicit)], isGenerator := false, isCoroutine := false }, globals := 0, closure := [], defaults := .none, kwdefaults := .none } }
noncomputable def o_246 (P : Params) : Obj := { cls := .type "code", data := .fields #[(vS "TagBytes" 415), (vS "TagBytes" 416), (vS "/claim/cut.py" 417), .int 171 0, .int 2 0, .int 0 0, .int 0 0, .int 3 0, .ref 194, .bool true, .int 181 0, .ref 195, .none, .ref 196, .ref 197, .ref 198, .int 420 0, .int 171 0, (vS "/claim/cut.py" 421)] }
noncomputable def o_247 (P : Params) : Obj := { cls := .type "function", data := .func { name := Str.ofString "TagBytes", qualname := Str.ofString "TagBytes", params := { posonlyargs := [], args := [{ arg := Str.ofString "field_number", annotation := none, pos := { line := 171, col := 13, endLine := 171, endCol := 25 } }, { arg := Str.ofString "wire_type", annotation := none, pos := { line := 171, col := 27, endLine := 171, endCol := 36 } }], vararg := none, kwonlyargs := [], kw_defaults := [], kwarg := none, defaults := [] }, body := fB 30, scope := { kind := .function, names := [(Str.ofString "field_number", .local), (Str.ofString "wire_type", .local), (Str.ofString "bytes", .globalImplicit), (Str.ofString "_VarintBytes", .globalImplicit), (Str.ofString "PackTag", .globalImplicit)], isGenerator := false, isCoroutine := false }, globals := 3, closure := [], defaults := .none, kwdefaults := .none, pyModule := (vS "google.protobuf.internal.encoder" 364), code := .ref 199 } }
noncomputable def o_248 (P : Params) : Obj := { cls := .type "tuple", data := .seq #[] }
noncomputable def o_249 (P : Params) : Obj := { cls := .none, data := .fields #[] }
noncomputable def o_250 (P : Params) : Obj := { cls := .type "tuple", data := .seq #[(vS "script" 428), (vS "k" 429)] }
noncomputable def o_251 (P : Params) : Obj := { cls := .type "tuple", data := .seq #[] }
noncomputable def o_252 (P : Params) : Obj := { cls := .none, data := .func { name := Str.ofString "_law_cell", qualname := Str.ofString "_law_cell", params := { posonlyargs := [], args := [{ arg := Str.ofString "script", annotation := none, pos := { line := 174, col := 14, endLine := 174, endCol := 20 } }, { arg := Str.ofString "k", annotation := none, pos := { line := 174, col := 22, endLine := 174, endCol := 23 } }], vararg := none, kwonlyargs := [], kw_defaults := [], kwarg := none, defaults := [] }, body := fB 32, scope := { kind := .function, names := [(Str.ofString "script", .local), (Str.ofString "k", .local), (Str.ofString "len", .globalImplicit)], isGenerator := false, isCoroutine := false }, globals := 0, closure := [], defaults := .none, kwdefaults := .none } }
noncomputable def o_253 (P : Params) : Obj := { cls := .type "code", data := .fields #[(vS "_law_cell" 425), (vS "_law_cell" 426), (vS "/claim/cut.py" 427), .int 174 0, .int 2 0, .int 0 0, .int 0 0, .int 3 0, .ref 201, .bool true, .int 181 0, .ref 202, .none, .ref 203, .ref 204, .ref 205, .int 430 0, .int 174 0, (vS "/claim/cut.py" 431)] }
noncomputable def o_254 (P : Params) : Obj := { cls := .type "function", data := .func { name := Str.ofString "_law_cell", qualname := Str.ofString "_law_cell", params := { posonlyargs := [], args := [{ arg := Str.ofString "script", annotation := none, pos := { line := 174, col := 14, endLine := 174, endCol := 20 } }, { arg := Str.ofString "k", annotation := none, pos := { line := 174, col := 22, endLine := 174, endCol := 23 } }], vararg := none, kwonlyargs := [], kw_defaults := [], kwarg := none, defaults := [] }, body := fB 32, scope := { kind := .function, names := [(Str.ofString "script", .local), (Str.ofString "k", .local), (Str.ofString "len", .globalImplicit)], isGenerator := false, isCoroutine := false }, globals := 3, closure := [], defaults := .none, kwdefaults := .none, pyModule := (vS "law_jd0021_01" 423), code := .ref 206 } }
noncomputable def o_255 (P : Params) : Obj := { cls := .type "tuple", data := .seq #[] }
noncomputable def o_256 (P : Params) : Obj := { cls := .none, data := .fields #[] }
noncomputable def o_257 (P : Params) : Obj := { cls := .type "tuple", data := .seq #[(vS "script" 436), (vS "row" 437), (vS "cell" 438), (vS "left" 439), (vS "k" 440)] }
noncomputable def o_258 (P : Params) : Obj := { cls := .type "tuple", data := .seq #[] }
noncomputable def o_259 (P : Params) : Obj := { cls := .none, data := .func { name := Str.ofString "_law_octets", qualname := Str.ofString "_law_octets", params := { posonlyargs := [], args := [{ arg := Str.ofString "script", annotation := none, pos := { line := 178, col := 16, endLine := 178, endCol := 22 } }], vararg := none, kwonlyargs := [], kw_defaults := [], kwarg := none, defaults := [] }, body := fB 33, scope := { kind := .function, names := [(Str.ofString "script", .local), (Str.ofString "row", .local), (Str.ofString "cell", .local), (Str.ofString "left", .local), (Str.ofString "k", .local), (Str.ofString "abs", .globalImplicit), (Str.ofString "range", .globalImplicit), (Str.ofString "bytes", .globalImplicit)], isGenerator := false, isCoroutine := false }, globals := 0, closure := [], defaults := .none, kwdefaults := .none } }
noncomputable def o_260 (P : Params) : Obj := { cls := .type "code", data := .fields #[(vS "_law_octets" 433), (vS "_law_octets" 434), (vS "/claim/cut.py" 435), .int 178 0, .int 1 0, .int 0 0, .int 0 0, .int 3 0, .ref 208, .bool true, .int 181 0, .ref 209, .none, .ref 210, .ref 211, .ref 212, .int 441 0, .int 178 0, (vS "/claim/cut.py" 442)] }
noncomputable def o_261 (P : Params) : Obj := { cls := .type "function", data := .func { name := Str.ofString "_law_octets", qualname := Str.ofString "_law_octets", params := { posonlyargs := [], args := [{ arg := Str.ofString "script", annotation := none, pos := { line := 178, col := 16, endLine := 178, endCol := 22 } }], vararg := none, kwonlyargs := [], kw_defaults := [], kwarg := none, defaults := [] }, body := fB 33, scope := { kind := .function, names := [(Str.ofString "script", .local), (Str.ofString "row", .local), (Str.ofString "cell", .local), (Str.ofString "left", .local), (Str.ofString "k", .local), (Str.ofString "abs", .globalImplicit), (Str.ofString "range", .globalImplicit), (Str.ofString "bytes", .globalImplicit)], isGenerator := false, isCoroutine := false }, globals := 3, closure := [], defaults := .none, kwdefaults := .none, pyModule := (vS "law_jd0021_01" 423), code := .ref 213 } }
noncomputable def o_262 (P : Params) : Obj := { cls := .type "tuple", data := .seq #[] }
noncomputable def o_263 (P : Params) : Obj := { cls := .none, data := .fields #[] }
noncomputable def o_264 (P : Params) : Obj := { cls := .type "tuple", data := .seq #[(vS "number" 447), (vS "row" 448)] }
noncomputable def o_265 (P : Params) : Obj := { cls := .type "tuple", data := .seq #[] }
noncomputable def o_266 (P : Params) : Obj := { cls := .none, data := .func { name := Str.ofString "_law_varint", qualname := Str.ofString "_law_varint", params := { posonlyargs := [], args := [{ arg := Str.ofString "number", annotation := none, pos := { line := 191, col := 16, endLine := 191, endCol := 22 } }], vararg := none, kwonlyargs := [], kw_defaults := [], kwarg := none, defaults := [] }, body := fB 34, scope := { kind := .function, names := [(Str.ofString "number", .local), (Str.ofString "row", .local), (Str.ofString "bytes", .globalImplicit)], isGenerator := false, isCoroutine := false }, globals := 0, closure := [], defaults := .none, kwdefaults := .none } }
noncomputable def o_267 (P : Params) : Obj := { cls := .type "code", data := .fields #[(vS "_law_varint" 444), (vS "_law_varint" 445), (vS "/claim/cut.py" 446), .int 191 0, .int 1 0, .int 0 0, .int 0 0, .int 3 0, .ref 215, .bool true, .int 181 0, .ref 216, .none, .ref 217, .ref 218, .ref 219, .int 449 0, .int 191 0, (vS "/claim/cut.py" 450)] }
noncomputable def o_268 (P : Params) : Obj := { cls := .type "function", data := .func { name := Str.ofString "_law_varint", qualname := Str.ofString "_law_varint", params := { posonlyargs := [], args := [{ arg := Str.ofString "number", annotation := none, pos := { line := 191, col := 16, endLine := 191, endCol := 22 } }], vararg := none, kwonlyargs := [], kw_defaults := [], kwarg := none, defaults := [] }, body := fB 34, scope := { kind := .function, names := [(Str.ofString "number", .local), (Str.ofString "row", .local), (Str.ofString "bytes", .globalImplicit)], isGenerator := false, isCoroutine := false }, globals := 3, closure := [], defaults := .none, kwdefaults := .none, pyModule := (vS "law_jd0021_01" 423), code := .ref 220 } }
noncomputable def o_269 (P : Params) : Obj := { cls := .type "tuple", data := .seq #[] }
noncomputable def o_270 (P : Params) : Obj := { cls := .none, data := .fields #[] }
noncomputable def o_271 (P : Params) : Obj := { cls := .type "tuple", data := .seq #[(vS "octets" 455), (vS "place" 456), (vS "bits" 457), (vS "signed" 458), (vS "number" 459), (vS "k" 460)] }
noncomputable def o_272 (P : Params) : Obj := { cls := .type "tuple", data := .seq #[] }
noncomputable def o_273 (P : Params) : Obj := { cls := .none, data := .func { name := Str.ofString "_law_due", qualname := Str.ofString "_law_due", params := { posonlyargs := [], args := [{ arg := Str.ofString "octets", annotation := none, pos := { line := 198, col := 13, endLine := 198, endCol := 19 } }, { arg := Str.ofString "place", annotation := none, pos := { line := 198, col := 21, endLine := 198, endCol := 26 } }, { arg := Str.ofString "bits", annotation := none, pos := { line := 198, col := 28, endLine := 198, endCol := 32 } }, { arg := Str.ofString "signed", annotation := none, pos := { line := 198, col := 34, endLine := 198, endCol := 40 } }], vararg := none, kwonlyargs := [], kw_defaults := [], kwarg := none, defaults := [] }, body := fB 35, scope := { kind := .function, names := [(Str.ofString "octets", .local), (Str.ofString "place", .local), (Str.ofString "bits", .local), (Str.ofString "signed", .local), (Str.ofString "number", .local), (Str.ofString "k", .local), (Str.ofString "range", .globalImplicit), (Str.ofString "len", .globalImplicit)], isGenerator := false, isCoroutine := false }, globals := 0, closure := [], defaults := .none, kwdefaults := .none } }
noncomputable def o_274 (P : Params) : Obj := { cls := .type "code", data := .fields #[(vS "_law_due" 452), (vS "_law_due" 453), (vS "/claim/cut.py" 454), .int 198 0, .int 4 0, .int 0 0, .int 0 0, .int 3 0, .ref 222, .bool true, .int 181 0, .ref 223, .none, .ref 224, .ref 225, .ref 226, .int 461 0, .int 198 0, (vS "/claim/cut.py" 462)] }
noncomputable def o_275 (P : Params) : Obj := { cls := .type "function", data := .func { name := Str.ofString "_law_due", qualname := Str.ofString "_law_due", params := { posonlyargs := [], args := [{ arg := Str.ofString "octets", annotation := none, pos := { line := 198, col := 13, endLine := 198, endCol := 19 } }, { arg := Str.ofString "place", annotation := none, pos := { line := 198, col := 21, endLine := 198, endCol := 26 } }, { arg := Str.ofString "bits", annotation := none, pos := { line := 198, col := 28, endLine := 198, endCol := 32 } }, { arg := Str.ofString "signed", annotation := none, pos := { line := 198, col := 34, endLine := 198, endCol := 40 } }], vararg := none, kwonlyargs := [], kw_defaults := [], kwarg := none, defaults := [] }, body := fB 35, scope := { kind := .function, names := [(Str.ofString "octets", .local), (Str.ofString "place", .local), (Str.ofString "bits", .local), (Str.ofString "signed", .local), (Str.ofString "number", .local), (Str.ofString "k", .local), (Str.ofString "range", .globalImplicit), (Str.ofString "len", .globalImplicit)], isGenerator := false, isCoroutine := false }, globals := 3, closure := [], defaults := .none, kwdefaults := .none, pyModule := (vS "law_jd0021_01" 423), code := .ref 227 } }
noncomputable def o_276 (P : Params) : Obj := { cls := .type "tuple", data := .seq #[] }
noncomputable def o_277 (P : Params) : Obj := { cls := .none, data := .fields #[] }
noncomputable def o_278 (P : Params) : Obj := { cls := .type "tuple", data := .seq #[(vS "which" 467), (vS "octets" 468), (vS "place" 469)] }
noncomputable def o_279 (P : Params) : Obj := { cls := .type "tuple", data := .seq #[] }
noncomputable def o_280 (P : Params) : Obj := { cls := .none, data := .func { name := Str.ofString "_law_read", qualname := Str.ofString "_law_read", params := { posonlyargs := [], args := [{ arg := Str.ofString "which", annotation := none, pos := { line := 210, col := 14, endLine := 210, endCol := 19 } }, { arg := Str.ofString "octets", annotation := none, pos := { line := 210, col := 21, endLine := 210, endCol := 27 } }, { arg := Str.ofString "place", annotation := none, pos := { line := 210, col := 29, endLine := 210, endCol := 34 } }], vararg := none, kwonlyargs := [], kw_defaults := [], kwarg := none, defaults := [] }, body := fB 36, scope := { kind := .function, names := [(Str.ofString "which", .local), (Str.ofString "octets", .local), (Str.ofString "place", .local), (Str.ofString "_DecodeVarint", .globalImplicit), (Str.ofString "_DecodeVarint32", .globalImplicit), (Str.ofString "_DecodeSignedVarint", .globalImplicit), (Str.ofString "_DecodeSignedVarint32", .globalImplicit), (Str.ofString "ReadTag", .globalImplicit), (Str.ofString "DecodeError", .globalImplicit), (Str.ofString "IndexError", .globalImplicit)], isGenerator := false, isCoroutine := false }, globals := 0, closure := [], defaults := .none, kwdefaults := .none } }
noncomputable def o_281 (P : Params) : Obj := { cls := .type "code", data := .fields #[(vS "_law_read" 464), (vS "_law_read" 465), (vS "/claim/cut.py" 466), .int 210 0, .int 3 0, .int 0 0, .int 0 0, .int 3 0, .ref 229, .bool true, .int 181 0, .ref 230, .none, .ref 231, .ref 232, .ref 233, .int 470 0, .int 210 0, (vS "/claim/cut.py" 471)] }
noncomputable def o_282 (P : Params) : Obj := { cls := .type "function", data := .func { name := Str.ofString "_law_read", qualname := Str.ofString "_law_read", params := { posonlyargs := [], args := [{ arg := Str.ofString "which", annotation := none, pos := { line := 210, col := 14, endLine := 210, endCol := 19 } }, { arg := Str.ofString "octets", annotation := none, pos := { line := 210, col := 21, endLine := 210, endCol := 27 } }, { arg := Str.ofString "place", annotation := none, pos := { line := 210, col := 29, endLine := 210, endCol := 34 } }], vararg := none, kwonlyargs := [], kw_defaults := [], kwarg := none, defaults := [] }, body := fB 36, scope := { kind := .function, names := [(Str.ofString "which", .local), (Str.ofString "octets", .local), (Str.ofString "place", .local), (Str.ofString "_DecodeVarint", .globalImplicit), (Str.ofString "_DecodeVarint32", .globalImplicit), (Str.ofString "_DecodeSignedVarint", .globalImplicit), (Str.ofString "_DecodeSignedVarint32", .globalImplicit), (Str.ofString "ReadTag", .globalImplicit), (Str.ofString "DecodeError", .globalImplicit), (Str.ofString "IndexError", .globalImplicit)], isGenerator := false, isCoroutine := false }, globals := 3, closure := [], defaults := .none, kwdefaults := .none, pyModule := (vS "law_jd0021_01" 423), code := .ref 234 } }
noncomputable def o_283 (P : Params) : Obj := { cls := .type "tuple", data := .seq #[] }
noncomputable def o_284 (P : Params) : Obj := { cls := .none, data := .fields #[] }
noncomputable def o_285 (P : Params) : Obj := { cls := .type "tuple", data := .seq #[(vS "octets" 476), (vS "place" 477), (vS "k" 478)] }
noncomputable def o_286 (P : Params) : Obj := { cls := .type "tuple", data := .seq #[] }
noncomputable def o_287 (P : Params) : Obj := { cls := .none, data := .func { name := Str.ofString "_law_tag", qualname := Str.ofString "_law_tag", params := { posonlyargs := [], args := [{ arg := Str.ofString "octets", annotation := none, pos := { line := 225, col := 13, endLine := 225, endCol := 19 } }, { arg := Str.ofString "place", annotation := none, pos := { line := 225, col := 21, endLine := 225, endCol := 26 } }], vararg := none, kwonlyargs := [], kw_defaults := [], kwarg := none, defaults := [] }, body := fB 37, scope := { kind := .function, names := [(Str.ofString "octets", .local), (Str.ofString "place", .local), (Str.ofString "k", .local), (Str.ofString "range", .globalImplicit), (Str.ofString "len", .globalImplicit)], isGenerator := false, isCoroutine := false }, globals := 0, closure := [], defaults := .none, kwdefaults := .none } }
noncomputable def o_288 (P : Params) : Obj := { cls := .type "code", data := .fields #[(vS "_law_tag" 473), (vS "_law_tag" 474), (vS "/claim/cut.py" 475), .int 225 0, .int 2 0, .int 0 0, .int 0 0, .int 3 0, .ref 236, .bool true, .int 181 0, .ref 237, .none, .ref 238, .ref 239, .ref 240, .int 479 0, .int 225 0, (vS "/claim/cut.py" 480)] }
noncomputable def o_289 (P : Params) : Obj := { cls := .type "function", data := .func { name := Str.ofString "_law_tag", qualname := Str.ofString "_law_tag", params := { posonlyargs := [], args := [{ arg := Str.ofString "octets", annotation := none, pos := { line := 225, col := 13, endLine := 225, endCol := 19 } }, { arg := Str.ofString "place", annotation := none, pos := { line := 225, col := 21, endLine := 225, endCol := 26 } }], vararg := none, kwonlyargs := [], kw_defaults := [], kwarg := none, defaults := [] }, body := fB 37, scope := { kind := .function, names := [(Str.ofString "octets", .local), (Str.ofString "place", .local), (Str.ofString "k", .local), (Str.ofString "range", .globalImplicit), (Str.ofString "len", .globalImplicit)], isGenerator := false, isCoroutine := false }, globals := 3, closure := [], defaults := .none, kwdefaults := .none, pyModule := (vS "law_jd0021_01" 423), code := .ref 241 } }
noncomputable def o_290 (P : Params) : Obj := { cls := .type "tuple", data := .seq #[] }
noncomputable def o_291 (P : Params) : Obj := { cls := .none, data := .fields #[] }
noncomputable def o_292 (P : Params) : Obj := { cls := .type "tuple", data := .seq #[(vS "octets" 485), (vS "place" 486), (vS "which" 487), (vS "found" 488), (vS "whole" 489), (vS "size" 490)] }
noncomputable def o_293 (P : Params) : Obj := { cls := .type "tuple", data := .seq #[] }
noncomputable def o_294 (P : Params) : Obj := { cls := .none, data := .func { name := Str.ofString "_law_places", qualname := Str.ofString "_law_places", params := { posonlyargs := [], args := [{ arg := Str.ofString "octets", annotation := none, pos := { line := 230, col := 16, endLine := 230, endCol := 22 } }], vararg := none, kwonlyargs := [], kw_defaults := [], kwarg := none, defaults := [] }, body := fB 38, scope := { kind := .function, names := [(Str.ofString "octets", .local), (Str.ofString "place", .local), (Str.ofString "which", .local), (Str.ofString "found", .local), (Str.ofString "whole", .local), (Str.ofString "size", .local), (Str.ofString "range", .globalImplicit), (Str.ofString "len", .globalImplicit), (Str.ofString "_law_read", .globalImplicit), (Str.ofString "_law_due", .globalImplicit), (Str.ofString "isinstance", .globalImplicit), (Str.ofString "tuple", .globalImplicit), (Str.ofString "bool", .globalImplicit), (Str.ofString "_VarintSize", .globalImplicit), (Str.ofString "_VarintBytes", .globalImplicit), (Str.ofString "_law_tag", .globalImplicit)], isGenerator := false, isCoroutine := false }, globals := 0, closure := [], defaults := .none, kwdefaults := .none } }
noncomputable def o_295 (P : Params) : Obj := { cls := .type "code", data := .fields #[(vS "_law_places" 482), (vS "_law_places" 483), (vS "/claim/cut.py" 484), .int 230 0, .int 1 0, .int 0 0, .int 0 0, .int 3 0, .ref 243, .bool true, .int 181 0, .ref 244, .none, .ref 245, .ref 246, .ref 247, .int 491 0, .int 230 0, (vS "/claim/cut.py" 492)] }
noncomputable def o_296 (P : Params) : Obj := { cls := .type "function", data := .func { name := Str.ofString "_law_places", qualname := Str.ofString "_law_places", params := { posonlyargs := [], args := [{ arg := Str.ofString "octets", annotation := none, pos := { line := 230, col := 16, endLine := 230, endCol := 22 } }], vararg := none, kwonlyargs := [], kw_defaults := [], kwarg := none, defaults := [] }, body := fB 38, scope := { kind := .function, names := [(Str.ofString "octets", .local), (Str.ofString "place", .local), (Str.ofString "which", .local), (Str.ofString "found", .local), (Str.ofString "whole", .local), (Str.ofString "size", .local), (Str.ofString "range", .globalImplicit), (Str.ofString "len", .globalImplicit), (Str.ofString "_law_read", .globalImplicit), (Str.ofString "_law_due", .globalImplicit), (Str.ofString "isinstance", .globalImplicit), (Str.ofString "tuple", .globalImplicit), (Str.ofString "bool", .globalImplicit), (Str.ofString "_VarintSize", .globalImplicit), (Str.ofString "_VarintBytes", .globalImplicit), (Str.ofString "_law_tag", .globalImplicit)], isGenerator := false, isCoroutine := false }, globals := 3, closure := [], defaults := .none, kwdefaults := .none, pyModule := (vS "law_jd0021_01" 423), code := .ref 248 } }
noncomputable def o_297 (P : Params) : Obj := { cls := .type "tuple", data := .seq #[] }
noncomputable def o_298 (P : Params) : Obj := { cls := .none, data := .fields #[] }
noncomputable def o_299 (P : Params) : Obj := { cls := .type "tuple", data := .seq #[(vS "number" 497), (vS "signed" 498)] }
noncomputable def o_300 (P : Params) : Obj := { cls := .type "tuple", data := .seq #[(vS "pieces" 499)] }
noncomputable def o_301 (P : Params) : Obj := { cls := .none, data := .func { name := Str.ofString "_law_written", qualname := Str.ofString "_law_written", params := { posonlyargs := [], args := [{ arg := Str.ofString "number", annotation := none, pos := { line := 248, col := 17, endLine := 248, endCol := 23 } }, { arg := Str.ofString "signed", annotation := none, pos := { line := 248, col := 25, endLine := 248, endCol := 31 } }], vararg := none, kwonlyargs := [], kw_defaults := [], kwarg := none, defaults := [] }, body := fB 39, scope := { kind := .function, names := [(Str.ofString "number", .local), (Str.ofString "signed", .local), (Str.ofString "pieces", .cell), (Str.ofString "_EncodeSignedVarint", .globalImplicit), (Str.ofString "_EncodeVarint", .globalImplicit)], isGenerator := false, isCoroutine := false }, globals := 0, closure := [], defaults := .none, kwdefaults := .none } }
noncomputable def o_302 (P : Params) : Obj := { cls := .type "code", data := .fields #[(vS "_law_written" 494), (vS "_law_written" 495), (vS "/claim/cut.py" 496), .int 248 0, .int 2 0, .int 0 0, .int 0 0, .int 3 0, .ref 250, .bool true, .int 181 0, .ref 251, .none, .ref 252, .ref 253, .ref 254, .int 500 0, .int 248 0, (vS "/claim/cut.py" 501)] }
noncomputable def o_303 (P : Params) : Obj := { cls := .type "function", data := .func { name := Str.ofString "_law_written", qualname := Str.ofString "_law_written", params := { posonlyargs := [], args := [{ arg := Str.ofString "number", annotation := none, pos := { line := 248, col := 17, endLine := 248, endCol := 23 } }, { arg := Str.ofString "signed", annotation := none, pos := { line := 248, col := 25, endLine := 248, endCol := 31 } }], vararg := none, kwonlyargs := [], kw_defaults := [], kwarg := none, defaults := [] }, body := fB 39, scope := { kind := .function, names := [(Str.ofString "number", .local), (Str.ofString "signed", .local), (Str.ofString "pieces", .cell), (Str.ofString "_EncodeSignedVarint", .globalImplicit), (Str.ofString "_EncodeVarint", .globalImplicit)], isGenerator := false, isCoroutine := false }, globals := 3, closure := [], defaults := .none, kwdefaults := .none, pyModule := (vS "law_jd0021_01" 423), code := .ref 255 } }
noncomputable def o_304 (P : Params) : Obj := { cls := .type "dict", data := .dict #[{ hash := kH P "__name__", key := vS "__name__" 165, val := (vS "law_jd0021_01" 423) }, { hash := kH P "__doc__", key := vS "__doc__" 166, val := .none }, { hash := kH P "__package__", key := vS "__package__" 167, val := .none }, { hash := kH P "__loader__", key := vS "__loader__" 168, val := .builtin "__main__.__loader__#opaque" }, { hash := kH P "__spec__", key := vS "__spec__" 169, val := .none }, { hash := kH P "__annotations__", key := vS "__annotations__" 170, val := .ref 6 }, { hash := kH P "__builtins__", key := vS "__builtins__" 171, val := .ref 4 }, { hash := kH P "__file__", key := vS "__file__" 173, val := (vS "/claim/cut.py" 172) }, { hash := kH P "__cached__", key := vS "__cached__" 174, val := .none }, { hash := kH P "Error", key := vS "Error" 208, val := .ref 24 }, { hash := kH P "DecodeError", key := vS "DecodeError" 224, val := .ref 37 }, { hash := kH P "EncodeError", key := vS "EncodeError" 240, val := .ref 49 }, { hash := kH P "TAG_TYPE_BITS", key := vS "TAG_TYPE_BITS" 242, val := .int 3 241 }, { hash := kH P "TAG_TYPE_MASK", key := vS "TAG_TYPE_MASK" 244, val := .int 7 243 }, { hash := kH P "_WIRETYPE_MAX", key := vS "_WIRETYPE_MAX" 246, val := .int 5 245 }, { hash := kH P "UINT64_MAX", key := vS "UINT64_MAX" 248, val := .int 18446744073709551615 247 }, { hash := kH P "PackTag", key := vS "PackTag" 256, val := .ref 58 }, { hash := kH P "UnpackTag", key := vS "UnpackTag" 263, val := .ref 65 }, { hash := kH P "ZigZagEncode", key := vS "ZigZagEncode" 270, val := .ref 72 }, { hash := kH P "ZigZagDecode", key := vS "ZigZagDecode" 277, val := .ref 79 }, { hash := kH P "TagByteSize", key := vS "TagByteSize" 284, val := .ref 86 }, { hash := kH P "_VarUInt64ByteSizeNoTag", key := vS "_VarUInt64ByteSizeNoTag" 291, val := .ref 93 }, { hash := kH P "_VarintDecoder", key := vS "_VarintDecoder" 302, val := .ref 100 }, { hash := kH P "_SignedVarintDecoder", key := vS "_SignedVarintDecoder" 312, val := .ref 107 }, { hash := kH P "_DecodeVarint", key := vS "_DecodeVarint" 320, val := .ref 114 }, { hash := kH P "_DecodeSignedVarint", key := vS "_DecodeSignedVarint" 328, val := .ref 121 }, { hash := kH P "_DecodeVarint32", key := vS "_DecodeVarint32" 336, val := .ref 128 }, { hash := kH P "_DecodeSignedVarint32", key := vS "_DecodeSignedVarint32" 344, val := .ref 135 }, { hash := kH P "ReadTag", key := vS "ReadTag" 354, val := .ref 142 }, { hash := kH P "DecodeTag", key := vS "DecodeTag" 363, val := .ref 149 }, { hash := kH P "_VarintSize", key := vS "_VarintSize" 372, val := .ref 156 }, { hash := kH P "_SignedVarintSize", key := vS "_SignedVarintSize" 379, val := .ref 163 }, { hash := kH P "_TagSize", key := vS "_TagSize" 386, val := .ref 170 }, { hash := kH P "_EncodeVarint", key := vS "_EncodeVarint" 396, val := .ref 178 }, { hash := kH P "_EncodeSignedVarint", key := vS "_EncodeSignedVarint" 406, val := .ref 186 }, { hash := kH P "_VarintBytes", key := vS "_VarintBytes" 414, val := .ref 193 }, { hash := kH P "TagBytes", key := vS "TagBytes" 422, val := .ref 200 }, { hash := kH P "_law_cell", key := vS "_law_cell" 432, val := .ref 207 }, { hash := kH P "_law_octets", key := vS "_law_octets" 443, val := .ref 214 }, { hash := kH P "_law_varint", key := vS "_law_varint" 451, val := .ref 221 }, { hash := kH P "_law_due", key := vS "_law_due" 463, val := .ref 228 }, { hash := kH P "_law_read", key := vS "_law_read" 472, val := .ref 235 }, { hash := kH P "_law_tag", key := vS "_law_tag" 481, val := .ref 242 }, { hash := kH P "_law_places", key := vS "_law_places" 493, val := .ref 249 }, { hash := kH P "_law_written", key := vS "_law_written" 502, val := .ref 256 }, { hash := kH P "_law_number", key := vS "_law_number" 511, val := .ref 263 }, { hash := kH P "_law_numbers", key := vS "_law_numbers" 524, val := .ref 270 }, { hash := kH P "_law_refused", key := vS "_law_refused" 533, val := .ref 277 }, { hash := kH P "_law_tags", key := vS "_law_tags" 544, val := .ref 284 }, { hash := kH P "law", key := vS "law" 553, val := .ref 291 }] 50 }
noncomputable def o_305 (P : Params) : Obj := { cls := .none, data := .fields #[.int 2 0, .int 0 0, .ref 20, .int 4 0, .int 0 0, .ref 33, .int 6 0, .int 0 0, .ref 45, .int 12 0, .int 0 0, .ref 57, .int 16 0, .int 0 0, .ref 64, .int 18 0, .int 0 0, .ref 71, .int 22 0, .int 0 0, .ref 78, .int 26 0, .int 0 0, .ref 85, .int 28 0, .int 0 0, .ref 92, .int 51 0, .int 0 0, .ref 99, .int 67 0, .int 0 0, .ref 106, .int 86 0, .int 0 0, .ref 113, .int 88 0, .int 0 0, .ref 120, .int 90 0, .int 0 0, .ref 127, .int 92 0, .int 0 0, .ref 134, .int 94 0, .int 0 0, .ref 141, .int 101 0, .int 0 0, .ref 148, .int 105 0, .int 0 0, .ref 155, .int 125 0, .int 0 0, .ref 162, .int 147 0, .int 0 0, .ref 169, .int 149 0, .int 0 0, .ref 177, .int 157 0, .int 0 0, .ref 185, .int 167 0, .int 0 0, .ref 192, .int 171 0, .int 0 0, .ref 199, .int 174 0, .int 0 0, .ref 206, .int 178 0, .int 0 0, .ref 213, .int 191 0, .int 0 0, .ref 220, .int 198 0, .int 0 0, .ref 227, .int 210 0, .int 0 0, .ref 234, .int 225 0, .int 0 0, .ref 241, .int 230 0, .int 0 0, .ref 248, .int 248 0, .int 0 0, .ref 255, .int 255 0, .int 0 0, .ref 262, .int 261 0, .int 0 0, .ref 269, .int 286 0, .int 0 0, .ref 276, .int 295 0, .int 0 0, .ref 283, .int 306 0, .int 0 0, .ref 290] }
noncomputable def o_306 (P : Params) : Obj := { cls := .type "tuple", data := .seq #[] }
noncomputable def o_307 (P : Params) : Obj := { cls := .none, data := .fields #[] }
noncomputable def o_308 (P : Params) : Obj := { cls := .type "tuple", data := .seq #[(vS "cell" 506), (vS "left" 507), (vS "edge" 508)] }
noncomputable def o_309 (P : Params) : Obj := { cls := .type "tuple", data := .seq #[] }
noncomputable def o_310 (P : Params) : Obj := { cls := .none, data := .func { name := Str.ofString "_law_number", qualname := Str.ofString "_law_number", params := { posonlyargs := [], args := [{ arg := Str.ofString "cell", annotation := none, pos := { line := 255, col := 16, endLine := 255, endCol := 20 } }], vararg := none, kwonlyargs := [], kw_defaults := [], kwarg := none, defaults := [] }, body := fB 40, scope := { kind := .function, names := [(Str.ofString "cell", .local), (Str.ofString "left", .local), (Str.ofString "edge", .local), (Str.ofString "abs", .globalImplicit)], isGenerator := false, isCoroutine := false }, globals := 0, closure := [], defaults := .none, kwdefaults := .none } }
noncomputable def o_311 (P : Params) : Obj := { cls := .type "code", data := .fields #[(vS "_law_number" 503), (vS "_law_number" 504), (vS "/claim/cut.py" 505), .int 255 0, .int 1 0, .int 0 0, .int 0 0, .int 3 0, .ref 257, .bool true, .int 181 0, .ref 258, .none, .ref 259, .ref 260, .ref 261, .int 509 0, .int 255 0, (vS "/claim/cut.py" 510)] }
noncomputable def o_312 (P : Params) : Obj := { cls := .type "function", data := .func { name := Str.ofString "_law_number", qualname := Str.ofString "_law_number", params := { posonlyargs := [], args := [{ arg := Str.ofString "cell", annotation := none, pos := { line := 255, col := 16, endLine := 255, endCol := 20 } }], vararg := none, kwonlyargs := [], kw_defaults := [], kwarg := none, defaults := [] }, body := fB 40, scope := { kind := .function, names := [(Str.ofString "cell", .local), (Str.ofString "left", .local), (Str.ofString "edge", .local), (Str.ofString "abs", .globalImplicit)], isGenerator := false, isCoroutine := false }, globals := 3, closure := [], defaults := .none, kwdefaults := .none, pyModule := (vS "law_jd0021_01" 423), code := .ref 262 } }
noncomputable def o_313 (P : Params) : Obj := { cls := .type "tuple", data := .seq #[] }
noncomputable def o_314 (P : Params) : Obj := { cls := .none, data := .fields #[] }
noncomputable def o_315 (P : Params) : Obj := { cls := .type "tuple", data := .seq #[(vS "number" 515), (vS "data" 516), (vS "size" 517), (vS "signed" 518), (vS "small" 519), (vS "turned" 520), (vS "zigzag" 521)] }
noncomputable def o_316 (P : Params) : Obj := { cls := .type "tuple", data := .seq #[] }
noncomputable def o_317 (P : Params) : Obj := { cls := .none, data := .func { name := Str.ofString "_law_numbers", qualname := Str.ofString "_law_numbers", params := { posonlyargs := [], args := [{ arg := Str.ofString "number", annotation := none, pos := { line := 261, col := 17, endLine := 261, endCol := 23 } }], vararg := none, kwonlyargs := [], kw_defaults := [], kwarg := none, defaults := [] }, body := fB 41, scope := { kind := .function, names := [(Str.ofString "number", .local), (Str.ofString "data", .local), (Str.ofString "size", .local), (Str.ofString "signed", .local), (Str.ofString "small", .local), (Str.ofString "turned", .local), (Str.ofString "zigzag", .local), (Str.ofString "_law_varint", .globalImplicit), (Str.ofString "len", .globalImplicit), (Str.ofString "_VarintBytes", .globalImplicit), (Str.ofString "_law_written", .globalImplicit), (Str.ofString "_VarintSize", .globalImplicit), (Str.ofString "_SignedVarintSize", .globalImplicit), (Str.ofString "_DecodeVarint", .globalImplicit), (Str.ofString "_DecodeSignedVarint", .globalImplicit), (Str.ofString "_DecodeVarint32", .globalImplicit), (Str.ofString "_DecodeSignedVarint32", .globalImplicit), (Str.ofString "ZigZagEncode", .globalImplicit), (Str.ofString "ZigZagDecode", .globalImplicit)], isGenerator := false, isCoroutine := false }, globals := 0, closure := [], defaults := .none, kwdefaults := .none } }
noncomputable def o_318 (P : Params) : Obj := { cls := .type "code", data := .fields #[(vS "_law_numbers" 512), (vS "_law_numbers" 513), (vS "/claim/cut.py" 514), .int 261 0, .int 1 0, .int 0 0, .int 0 0, .int 3 0, .ref 264, .bool true, .int 181 0, .ref 265, .none, .ref 266, .ref 267, .ref 268, .int 522 0, .int 261 0, (vS "/claim/cut.py" 523)] }
noncomputable def o_319 (P : Params) : Obj := { cls := .type "function", data := .func { name := Str.ofString "_law_numbers", qualname := Str.ofString "_law_numbers", params := { posonlyargs := [], args := [{ arg := Str.ofString "number", annotation := none, pos := { line := 261, col := 17, endLine := 261, endCol := 23 } }], vararg := none, kwonlyargs := [], kw_defaults := [], kwarg := none, defaults := [] }, body := fB 41, scope := { kind := .function, names := [(Str.ofString "number", .local), (Str.ofString "data", .local), (Str.ofString "size", .local), (Str.ofString "signed", .local), (Str.ofString "small", .local), (Str.ofString "turned", .local), (Str.ofString "zigzag", .local), (Str.ofString "_law_varint", .globalImplicit), (Str.ofString "len", .globalImplicit), (Str.ofString "_VarintBytes", .globalImplicit), (Str.ofString "_law_written", .globalImplicit), (Str.ofString "_VarintSize", .globalImplicit), (Str.ofString "_SignedVarintSize", .globalImplicit), (Str.ofString "_DecodeVarint", .globalImplicit), (Str.ofString "_DecodeSignedVarint", .globalImplicit), (Str.ofString "_DecodeVarint32", .globalImplicit), (Str.ofString "_DecodeSignedVarint32", .globalImplicit), (Str.ofString "ZigZagEncode", .globalImplicit), (Str.ofString "ZigZagDecode", .globalImplicit)], isGenerator := false, isCoroutine := false }, globals := 3, closure := [], defaults := .none, kwdefaults := .none, pyModule := (vS "law_jd0021_01" 423), code := .ref 269 } }
noncomputable def o_320 (P : Params) : Obj := { cls := .type "tuple", data := .seq #[] }
noncomputable def o_321 (P : Params) : Obj := { cls := .none, data := .fields #[] }
noncomputable def o_322 (P : Params) : Obj := { cls := .type "tuple", data := .seq #[(vS "number" 528), (vS "wire" 529), (vS "which" 530)] }
noncomputable def o_323 (P : Params) : Obj := { cls := .type "tuple", data := .seq #[] }
noncomputable def o_324 (P : Params) : Obj := { cls := .none, data := .func { name := Str.ofString "_law_refused", qualname := Str.ofString "_law_refused", params := { posonlyargs := [], args := [{ arg := Str.ofString "number", annotation := none, pos := { line := 286, col := 17, endLine := 286, endCol := 23 } }, { arg := Str.ofString "wire", annotation := none, pos := { line := 286, col := 25, endLine := 286, endCol := 29 } }, { arg := Str.ofString "which", annotation := none, pos := { line := 286, col := 31, endLine := 286, endCol := 36 } }], vararg := none, kwonlyargs := [], kw_defaults := [], kwarg := none, defaults := [] }, body := fB 42, scope := { kind := .function, names := [(Str.ofString "number", .local), (Str.ofString "wire", .local), (Str.ofString "which", .local), (Str.ofString "PackTag", .globalImplicit), (Str.ofString "TagBytes", .globalImplicit), (Str.ofString "EncodeError", .globalImplicit)], isGenerator := false, isCoroutine := false }, globals := 0, closure := [], defaults := .none, kwdefaults := .none } }
noncomputable def o_325 (P : Params) : Obj := { cls := .type "code", data := .fields #[(vS "_law_refused" 525), (vS "_law_refused" 526), (vS "/claim/cut.py" 527), .int 286 0, .int 3 0, .int 0 0, .int 0 0, .int 3 0, .ref 271, .bool true, .int 181 0, .ref 272, .none, .ref 273, .ref 274, .ref 275, .int 531 0, .int 286 0, (vS "/claim/cut.py" 532)] }
noncomputable def o_326 (P : Params) : Obj := { cls := .type "function", data := .func { name := Str.ofString "_law_refused", qualname := Str.ofString "_law_refused", params := { posonlyargs := [], args := [{ arg := Str.ofString "number", annotation := none, pos := { line := 286, col := 17, endLine := 286, endCol := 23 } }, { arg := Str.ofString "wire", annotation := none, pos := { line := 286, col := 25, endLine := 286, endCol := 29 } }, { arg := Str.ofString "which", annotation := none, pos := { line := 286, col := 31, endLine := 286, endCol := 36 } }], vararg := none, kwonlyargs := [], kw_defaults := [], kwarg := none, defaults := [] }, body := fB 42, scope := { kind := .function, names := [(Str.ofString "number", .local), (Str.ofString "wire", .local), (Str.ofString "which", .local), (Str.ofString "PackTag", .globalImplicit), (Str.ofString "TagBytes", .globalImplicit), (Str.ofString "EncodeError", .globalImplicit)], isGenerator := false, isCoroutine := false }, globals := 3, closure := [], defaults := .none, kwdefaults := .none, pyModule := (vS "law_jd0021_01" 423), code := .ref 276 } }
noncomputable def o_327 (P : Params) : Obj := { cls := .type "tuple", data := .seq #[] }
noncomputable def o_328 (P : Params) : Obj := { cls := .none, data := .fields #[] }
noncomputable def o_329 (P : Params) : Obj := { cls := .type "tuple", data := .seq #[(vS "cell" 537), (vS "octets" 538), (vS "number" 539), (vS "wire" 540), (vS "tag" 541)] }
noncomputable def o_330 (P : Params) : Obj := { cls := .type "tuple", data := .seq #[] }
noncomputable def o_331 (P : Params) : Obj := { cls := .none, data := .func { name := Str.ofString "_law_tags", qualname := Str.ofString "_law_tags", params := { posonlyargs := [], args := [{ arg := Str.ofString "cell", annotation := none, pos := { line := 295, col := 14, endLine := 295, endCol := 18 } }, { arg := Str.ofString "octets", annotation := none, pos := { line := 295, col := 20, endLine := 295, endCol := 26 } }], vararg := none, kwonlyargs := [], kw_defaults := [], kwarg := none, defaults := [] }, body := fB 43, scope := { kind := .function, names := [(Str.ofString "cell", .local), (Str.ofString "octets", .local), (Str.ofString "number", .local), (Str.ofString "wire", .local), (Str.ofString "tag", .local), (Str.ofString "abs", .globalImplicit), (Str.ofString "_law_refused", .globalImplicit), (Str.ofString "_law_varint", .globalImplicit), (Str.ofString "PackTag", .globalImplicit), (Str.ofString "TagBytes", .globalImplicit), (Str.ofString "UnpackTag", .globalImplicit), (Str.ofString "_TagSize", .globalImplicit), (Str.ofString "len", .globalImplicit), (Str.ofString "TagByteSize", .globalImplicit), (Str.ofString "DecodeTag", .globalImplicit), (Str.ofString "ReadTag", .globalImplicit)], isGenerator := false, isCoroutine := false }, globals := 0, closure := [], defaults := .none, kwdefaults := .none } }
noncomputable def o_332 (P : Params) : Obj := { cls := .type "code", data := .fields #[(vS "_law_tags" 534), (vS "_law_tags" 535), (vS "/claim/cut.py" 536), .int 295 0, .int 2 0, .int 0 0, .int 0 0, .int 3 0, .ref 278, .bool true, .int 181 0, .ref 279, .none, .ref 280, .ref 281, .ref 282, .int 542 0, .int 295 0, (vS "/claim/cut.py" 543)] }
noncomputable def o_333 (P : Params) : Obj := { cls := .type "function", data := .func { name := Str.ofString "_law_tags", qualname := Str.ofString "_law_tags", params := { posonlyargs := [], args := [{ arg := Str.ofString "cell", annotation := none, pos := { line := 295, col := 14, endLine := 295, endCol := 18 } }, { arg := Str.ofString "octets", annotation := none, pos := { line := 295, col := 20, endLine := 295, endCol := 26 } }], vararg := none, kwonlyargs := [], kw_defaults := [], kwarg := none, defaults := [] }, body := fB 43, scope := { kind := .function, names := [(Str.ofString "cell", .local), (Str.ofString "octets", .local), (Str.ofString "number", .local), (Str.ofString "wire", .local), (Str.ofString "tag", .local), (Str.ofString "abs", .globalImplicit), (Str.ofString "_law_refused", .globalImplicit), (Str.ofString "_law_varint", .globalImplicit), (Str.ofString "PackTag", .globalImplicit), (Str.ofString "TagBytes", .globalImplicit), (Str.ofString "UnpackTag", .globalImplicit), (Str.ofString "_TagSize", .globalImplicit), (Str.ofString "len", .globalImplicit), (Str.ofString "TagByteSize", .globalImplicit), (Str.ofString "DecodeTag", .globalImplicit), (Str.ofString "ReadTag", .globalImplicit)], isGenerator := false, isCoroutine := false }, globals := 3, closure := [], defaults := .none, kwdefaults := .none, pyModule := (vS "law_jd0021_01" 423), code := .ref 283 } }
noncomputable def o_334 (P : Params) : Obj := { cls := .type "tuple", data := .seq #[] }
noncomputable def o_335 (P : Params) : Obj := { cls := .none, data := .fields #[] }
noncomputable def o_336 (P : Params) : Obj := { cls := .type "tuple", data := .seq #[(vS "script" 548), (vS "octets" 549), (vS "k" 550)] }
noncomputable def o_337 (P : Params) : Obj := { cls := .type "tuple", data := .seq #[] }
noncomputable def o_338 (P : Params) : Obj := { cls := .none, data := .func { name := Str.ofString "law", qualname := Str.ofString "law", params := { posonlyargs := [], args := [{ arg := Str.ofString "script", annotation := none, pos := { line := 306, col := 8, endLine := 306, endCol := 14 } }], vararg := none, kwonlyargs := [], kw_defaults := [], kwarg := none, defaults := [] }, body := fB 44, scope := { kind := .function, names := [(Str.ofString "script", .local), (Str.ofString "octets", .local), (Str.ofString "k", .local), (Str.ofString "_law_octets", .globalImplicit), (Str.ofString "_law_places", .globalImplicit), (Str.ofString "range", .globalImplicit), (Str.ofString "_law_numbers", .globalImplicit), (Str.ofString "_law_number", .globalImplicit), (Str.ofString "_law_cell", .globalImplicit), (Str.ofString "_law_tags", .globalImplicit)], isGenerator := false, isCoroutine := false }, globals := 0, closure := [], defaults := .none, kwdefaults := .none } }
noncomputable def o_339 (P : Params) : Obj := { cls := .type "code", data := .fields #[(vS "law" 545), (vS "law" 546), (vS "/claim/cut.py" 547), .int 306 0, .int 1 0, .int 0 0, .int 0 0, .int 3 0, .ref 285, .bool true, .int 181 0, .ref 286, .none, .ref 287, .ref 288, .ref 289, .int 551 0, .int 306 0, (vS "/claim/cut.py" 552)] }
noncomputable def o_340 (P : Params) : Obj := { cls := .type "function", data := .func { name := Str.ofString "law", qualname := Str.ofString "law", params := { posonlyargs := [], args := [{ arg := Str.ofString "script", annotation := none, pos := { line := 306, col := 8, endLine := 306, endCol := 14 } }], vararg := none, kwonlyargs := [], kw_defaults := [], kwarg := none, defaults := [] }, body := fB 44, scope := { kind := .function, names := [(Str.ofString "script", .local), (Str.ofString "octets", .local), (Str.ofString "k", .local), (Str.ofString "_law_octets", .globalImplicit), (Str.ofString "_law_places", .globalImplicit), (Str.ofString "range", .globalImplicit), (Str.ofString "_law_numbers", .globalImplicit), (Str.ofString "_law_number", .globalImplicit), (Str.ofString "_law_cell", .globalImplicit), (Str.ofString "_law_tags", .globalImplicit)], isGenerator := false, isCoroutine := false }, globals := 3, closure := [], defaults := .none, kwdefaults := .none, pyModule := (vS "law_jd0021_01" 423), code := .ref 290 } }
noncomputable def heap_46 (P : Params) : Heap := { objs := #[boot_o_0 P, boot_o_1 P, boot_o_2 P, boot_o_3 P, boot_o_4 P, boot_o_5 P, boot_o_6 P, boot_o_7 P, boot_o_8 P, boot_o_9 P, boot_o_10 P, o_43 P, o_44 P, o_45 P, o_46 P] }
noncomputable def tree_47 (P : Params) : BT := .node (boot_o_0 P) (.node (boot_o_1 P) (.node (boot_o_3 P) (.node (boot_o_7 P) .nil .nil) (.node (o_43 P) .nil .nil)) (.node (boot_o_5 P) (.node (boot_o_9 P) .nil .nil) (.node (o_45 P) .nil .nil))) (.node (boot_o_2 P) (.node (boot_o_4 P) (.node (boot_o_8 P) .nil .nil) (.node (o_44 P) .nil .nil)) (.node (boot_o_6 P) (.node (boot_o_10 P) .nil .nil) (.node (o_46 P) .nil .nil)))
noncomputable def tree_64 (P : Params) : BT := .node (boot_o_0 P) (.node (boot_o_1 P) (.node (o_50 P) (.node (boot_o_7 P) (.node (o_52 P) .nil .nil) (.node (o_60 P) .nil .nil)) (.node (o_43 P) (.node (o_56 P) .nil .nil) (.node (o_64 P) .nil .nil))) (.node (boot_o_5 P) (.node (boot_o_9 P) (.node (o_54 P) .nil .nil) (.node (o_62 P) .nil .nil)) (.node (o_45 P) (.node (o_58 P) .nil .nil) .nil))) (.node (o_49 P) (.node (boot_o_4 P) (.node (boot_o_8 P) (.node (o_53 P) .nil .nil) (.node (o_61 P) .nil .nil)) (.node (o_51 P) (.node (o_57 P) .nil .nil) .nil)) (.node (boot_o_6 P) (.node (boot_o_10 P) (.node (o_55 P) .nil .nil) (.node (o_63 P) .nil .nil)) (.node (o_46 P) (.node (o_59 P) .nil .nil) .nil)))
noncomputable def tree_79 (P : Params) : BT := .node (boot_o_0 P) (.node (boot_o_1 P) (.node (o_65 P) (.node (boot_o_7 P) (.node (o_52 P) (.node (o_71 P) .nil .nil) .nil) (.node (o_60 P) (.node (o_79 P) .nil .nil) .nil)) (.node (o_43 P) (.node (o_56 P) (.node (o_75 P) .nil .nil) .nil) (.node (o_64 P) .nil .nil))) (.node (boot_o_5 P) (.node (boot_o_9 P) (.node (o_54 P) (.node (o_73 P) .nil .nil) .nil) (.node (o_62 P) .nil .nil)) (.node (o_45 P) (.node (o_58 P) (.node (o_77 P) .nil .nil) .nil) (.node (o_69 P) .nil .nil)))) (.node (o_49 P) (.node (boot_o_4 P) (.node (boot_o_8 P) (.node (o_53 P) (.node (o_72 P) .nil .nil) .nil) (.node (o_67 P) .nil .nil)) (.node (o_66 P) (.node (o_57 P) (.node (o_76 P) .nil .nil) .nil) (.node (o_68 P) .nil .nil))) (.node (boot_o_6 P) (.node (boot_o_10 P) (.node (o_55 P) (.node (o_74 P) .nil .nil) .nil) (.node (o_63 P) .nil .nil)) (.node (o_46 P) (.node (o_59 P) (.node (o_78 P) .nil .nil) .nil) (.node (o_70 P) .nil .nil))))
noncomputable def tree_129 (P : Params) : BT := .node (boot_o_0 P) (.node (boot_o_1 P) (.node (o_80 P) (.node (boot_o_7 P) (.node (o_52 P) (.node (o_71 P) (.node (o_106 P) .nil .nil) .nil) (.node (o_90 P) (.node (o_122 P) .nil .nil) .nil)) (.node (o_60 P) (.node (o_79 P) (.node (o_114 P) .nil .nil) .nil) (.node (o_98 P) .nil .nil))) (.node (o_43 P) (.node (o_56 P) (.node (o_75 P) (.node (o_110 P) .nil .nil) .nil) (.node (o_94 P) (.node (o_126 P) .nil .nil) .nil)) (.node (o_64 P) (.node (o_86 P) (.node (o_118 P) .nil .nil) .nil) (.node (o_102 P) .nil .nil)))) (.node (boot_o_5 P) (.node (boot_o_9 P) (.node (o_54 P) (.node (o_73 P) (.node (o_108 P) .nil .nil) .nil) (.node (o_92 P) (.node (o_124 P) .nil .nil) .nil)) (.node (o_62 P) (.node (o_84 P) (.node (o_116 P) .nil .nil) .nil) (.node (o_100 P) .nil .nil))) (.node (o_45 P) (.node (o_58 P) (.node (o_77 P) (.node (o_112 P) .nil .nil) .nil) (.node (o_96 P) (.node (o_128 P) .nil .nil) .nil)) (.node (o_69 P) (.node (o_88 P) (.node (o_120 P) .nil .nil) .nil) (.node (o_104 P) .nil .nil))))) (.node (o_49 P) (.node (boot_o_4 P) (.node (boot_o_8 P) (.node (o_53 P) (.node (o_72 P) (.node (o_107 P) .nil .nil) .nil) (.node (o_91 P) (.node (o_123 P) .nil .nil) .nil)) (.node (o_82 P) (.node (o_83 P) (.node (o_115 P) .nil .nil) .nil) (.node (o_99 P) .nil .nil))) (.node (o_81 P) (.node (o_57 P) (.node (o_76 P) (.node (o_111 P) .nil .nil) .nil) (.node (o_95 P) (.node (o_127 P) .nil .nil) .nil)) (.node (o_68 P) (.node (o_87 P) (.node (o_119 P) .nil .nil) .nil) (.node (o_103 P) .nil .nil)))) (.node (boot_o_6 P) (.node (boot_o_10 P) (.node (o_55 P) (.node (o_74 P) (.node (o_109 P) .nil .nil) .nil) (.node (o_93 P) (.node (o_125 P) .nil .nil) .nil)) (.node (o_63 P) (.node (o_85 P) (.node (o_117 P) .nil .nil) .nil) (.node (o_101 P) .nil .nil))) (.node (o_46 P) (.node (o_59 P) (.node (o_78 P) (.node (o_113 P) .nil .nil) .nil) (.node (o_97 P) (.node (o_129 P) .nil .nil) .nil)) (.node (o_70 P) (.node (o_89 P) (.node (o_121 P) .nil .nil) .nil) (.node (o_105 P) .nil .nil)))))
noncomputable def tree_215 (P : Params) : BT := .node (boot_o_0 P) (.node (boot_o_1 P) (.node (o_130 P) (.node (boot_o_7 P) (.node (o_52 P) (.node (o_71 P) (.node (o_106 P) (.node (o_172 P) .nil .nil) .nil) (.node (o_140 P) (.node (o_204 P) .nil .nil) .nil)) (.node (o_90 P) (.node (o_122 P) (.node (o_188 P) .nil .nil) .nil) (.node (o_156 P) .nil .nil))) (.node (o_60 P) (.node (o_79 P) (.node (o_114 P) (.node (o_180 P) .nil .nil) .nil) (.node (o_148 P) (.node (o_212 P) .nil .nil) .nil)) (.node (o_98 P) (.node (o_132 P) (.node (o_196 P) .nil .nil) .nil) (.node (o_164 P) .nil .nil)))) (.node (o_43 P) (.node (o_56 P) (.node (o_75 P) (.node (o_110 P) (.node (o_176 P) .nil .nil) .nil) (.node (o_144 P) (.node (o_208 P) .nil .nil) .nil)) (.node (o_94 P) (.node (o_126 P) (.node (o_192 P) .nil .nil) .nil) (.node (o_160 P) .nil .nil))) (.node (o_64 P) (.node (o_86 P) (.node (o_118 P) (.node (o_184 P) .nil .nil) .nil) (.node (o_152 P) .nil .nil)) (.node (o_102 P) (.node (o_136 P) (.node (o_200 P) .nil .nil) .nil) (.node (o_168 P) .nil .nil))))) (.node (boot_o_5 P) (.node (boot_o_9 P) (.node (o_54 P) (.node (o_73 P) (.node (o_108 P) (.node (o_174 P) .nil .nil) .nil) (.node (o_142 P) (.node (o_206 P) .nil .nil) .nil)) (.node (o_92 P) (.node (o_124 P) (.node (o_190 P) .nil .nil) .nil) (.node (o_158 P) .nil .nil))) (.node (o_62 P) (.node (o_84 P) (.node (o_116 P) (.node (o_182 P) .nil .nil) .nil) (.node (o_150 P) (.node (o_214 P) .nil .nil) .nil)) (.node (o_100 P) (.node (o_134 P) (.node (o_198 P) .nil .nil) .nil) (.node (o_166 P) .nil .nil)))) (.node (o_45 P) (.node (o_58 P) (.node (o_77 P) (.node (o_112 P) (.node (o_178 P) .nil .nil) .nil) (.node (o_146 P) (.node (o_210 P) .nil .nil) .nil)) (.node (o_96 P) (.node (o_128 P) (.node (o_194 P) .nil .nil) .nil) (.node (o_162 P) .nil .nil))) (.node (o_69 P) (.node (o_88 P) (.node (o_120 P) (.node (o_186 P) .nil .nil) .nil) (.node (o_154 P) .nil .nil)) (.node (o_104 P) (.node (o_138 P) (.node (o_202 P) .nil .nil) .nil) (.node (o_170 P) .nil .nil)))))) (.node (o_49 P) (.node (boot_o_4 P) (.node (boot_o_8 P) (.node (o_53 P) (.node (o_72 P) (.node (o_107 P) (.node (o_173 P) .nil .nil) .nil) (.node (o_141 P) (.node (o_205 P) .nil .nil) .nil)) (.node (o_91 P) (.node (o_123 P) (.node (o_189 P) .nil .nil) .nil) (.node (o_157 P) .nil .nil))) (.node (o_82 P) (.node (o_83 P) (.node (o_115 P) (.node (o_181 P) .nil .nil) .nil) (.node (o_149 P) (.node (o_213 P) .nil .nil) .nil)) (.node (o_99 P) (.node (o_133 P) (.node (o_197 P) .nil .nil) .nil) (.node (o_165 P) .nil .nil)))) (.node (o_131 P) (.node (o_57 P) (.node (o_76 P) (.node (o_111 P) (.node (o_177 P) .nil .nil) .nil) (.node (o_145 P) (.node (o_209 P) .nil .nil) .nil)) (.node (o_95 P) (.node (o_127 P) (.node (o_193 P) .nil .nil) .nil) (.node (o_161 P) .nil .nil))) (.node (o_68 P) (.node (o_87 P) (.node (o_119 P) (.node (o_185 P) .nil .nil) .nil) (.node (o_153 P) .nil .nil)) (.node (o_103 P) (.node (o_137 P) (.node (o_201 P) .nil .nil) .nil) (.node (o_169 P) .nil .nil))))) (.node (boot_o_6 P) (.node (boot_o_10 P) (.node (o_55 P) (.node (o_74 P) (.node (o_109 P) (.node (o_175 P) .nil .nil) .nil) (.node (o_143 P) (.node (o_207 P) .nil .nil) .nil)) (.node (o_93 P) (.node (o_125 P) (.node (o_191 P) .nil .nil) .nil) (.node (o_159 P) .nil .nil))) (.node (o_63 P) (.node (o_85 P) (.node (o_117 P) (.node (o_183 P) .nil .nil) .nil) (.node (o_151 P) (.node (o_215 P) .nil .nil) .nil)) (.node (o_101 P) (.node (o_135 P) (.node (o_199 P) .nil .nil) .nil) (.node (o_167 P) .nil .nil)))) (.node (o_46 P) (.node (o_59 P) (.node (o_78 P) (.node (o_113 P) (.node (o_179 P) .nil .nil) .nil) (.node (o_147 P) (.node (o_211 P) .nil .nil) .nil)) (.node (o_97 P) (.node (o_129 P) (.node (o_195 P) .nil .nil) .nil) (.node (o_163 P) .nil .nil))) (.node (o_70 P) (.node (o_89 P) (.node (o_121 P) (.node (o_187 P) .nil .nil) .nil) (.node (o_155 P) .nil .nil)) (.node (o_105 P) (.node (o_139 P) (.node (o_203 P) .nil .nil) .nil) (.node (o_171 P) .nil .nil))))))
noncomputable def tree_303 (P : Params) : BT := .node (boot_o_0 P) (.node (boot_o_1 P) (.node (o_216 P) (.node (boot_o_7 P) (.node (o_52 P) (.node (o_71 P) (.node (o_106 P) (.node (o_172 P) (.node (o_302 P) .nil .nil) .nil) (.node (o_238 P) .nil .nil)) (.node (o_140 P) (.node (o_204 P) .nil .nil) (.node (o_270 P) .nil .nil))) (.node (o_90 P) (.node (o_122 P) (.node (o_188 P) .nil .nil) (.node (o_254 P) .nil .nil)) (.node (o_156 P) (.node (o_222 P) .nil .nil) (.node (o_286 P) .nil .nil)))) (.node (o_60 P) (.node (o_79 P) (.node (o_114 P) (.node (o_180 P) .nil .nil) (.node (o_246 P) .nil .nil)) (.node (o_148 P) (.node (o_212 P) .nil .nil) (.node (o_278 P) .nil .nil))) (.node (o_98 P) (.node (o_132 P) (.node (o_196 P) .nil .nil) (.node (o_262 P) .nil .nil)) (.node (o_164 P) (.node (o_230 P) .nil .nil) (.node (o_294 P) .nil .nil))))) (.node (o_43 P) (.node (o_56 P) (.node (o_75 P) (.node (o_110 P) (.node (o_176 P) .nil .nil) (.node (o_242 P) .nil .nil)) (.node (o_144 P) (.node (o_208 P) .nil .nil) (.node (o_274 P) .nil .nil))) (.node (o_94 P) (.node (o_126 P) (.node (o_192 P) .nil .nil) (.node (o_258 P) .nil .nil)) (.node (o_160 P) (.node (o_226 P) .nil .nil) (.node (o_290 P) .nil .nil)))) (.node (o_64 P) (.node (o_86 P) (.node (o_118 P) (.node (o_184 P) .nil .nil) (.node (o_250 P) .nil .nil)) (.node (o_152 P) (.node (o_218 P) .nil .nil) (.node (o_282 P) .nil .nil))) (.node (o_102 P) (.node (o_136 P) (.node (o_200 P) .nil .nil) (.node (o_266 P) .nil .nil)) (.node (o_168 P) (.node (o_234 P) .nil .nil) (.node (o_298 P) .nil .nil)))))) (.node (boot_o_5 P) (.node (boot_o_9 P) (.node (o_54 P) (.node (o_73 P) (.node (o_108 P) (.node (o_174 P) .nil .nil) (.node (o_240 P) .nil .nil)) (.node (o_142 P) (.node (o_206 P) .nil .nil) (.node (o_272 P) .nil .nil))) (.node (o_92 P) (.node (o_124 P) (.node (o_190 P) .nil .nil) (.node (o_256 P) .nil .nil)) (.node (o_158 P) (.node (o_224 P) .nil .nil) (.node (o_288 P) .nil .nil)))) (.node (o_62 P) (.node (o_84 P) (.node (o_116 P) (.node (o_182 P) .nil .nil) (.node (o_248 P) .nil .nil)) (.node (o_150 P) (.node (o_214 P) .nil .nil) (.node (o_280 P) .nil .nil))) (.node (o_100 P) (.node (o_134 P) (.node (o_198 P) .nil .nil) (.node (o_264 P) .nil .nil)) (.node (o_166 P) (.node (o_232 P) .nil .nil) (.node (o_296 P) .nil .nil))))) (.node (o_45 P) (.node (o_58 P) (.node (o_77 P) (.node (o_112 P) (.node (o_178 P) .nil .nil) (.node (o_244 P) .nil .nil)) (.node (o_146 P) (.node (o_210 P) .nil .nil) (.node (o_276 P) .nil .nil))) (.node (o_96 P) (.node (o_128 P) (.node (o_194 P) .nil .nil) (.node (o_260 P) .nil .nil)) (.node (o_162 P) (.node (o_228 P) .nil .nil) (.node (o_292 P) .nil .nil)))) (.node (o_69 P) (.node (o_88 P) (.node (o_120 P) (.node (o_186 P) .nil .nil) (.node (o_252 P) .nil .nil)) (.node (o_154 P) (.node (o_220 P) .nil .nil) (.node (o_284 P) .nil .nil))) (.node (o_104 P) (.node (o_138 P) (.node (o_202 P) .nil .nil) (.node (o_268 P) .nil .nil)) (.node (o_170 P) (.node (o_236 P) .nil .nil) (.node (o_300 P) .nil .nil))))))) (.node (o_49 P) (.node (boot_o_4 P) (.node (boot_o_8 P) (.node (o_53 P) (.node (o_72 P) (.node (o_107 P) (.node (o_173 P) (.node (o_303 P) .nil .nil) .nil) (.node (o_239 P) .nil .nil)) (.node (o_141 P) (.node (o_205 P) .nil .nil) (.node (o_271 P) .nil .nil))) (.node (o_91 P) (.node (o_123 P) (.node (o_189 P) .nil .nil) (.node (o_255 P) .nil .nil)) (.node (o_157 P) (.node (o_223 P) .nil .nil) (.node (o_287 P) .nil .nil)))) (.node (o_82 P) (.node (o_83 P) (.node (o_115 P) (.node (o_181 P) .nil .nil) (.node (o_247 P) .nil .nil)) (.node (o_149 P) (.node (o_213 P) .nil .nil) (.node (o_279 P) .nil .nil))) (.node (o_99 P) (.node (o_133 P) (.node (o_197 P) .nil .nil) (.node (o_263 P) .nil .nil)) (.node (o_165 P) (.node (o_231 P) .nil .nil) (.node (o_295 P) .nil .nil))))) (.node (o_217 P) (.node (o_57 P) (.node (o_76 P) (.node (o_111 P) (.node (o_177 P) .nil .nil) (.node (o_243 P) .nil .nil)) (.node (o_145 P) (.node (o_209 P) .nil .nil) (.node (o_275 P) .nil .nil))) (.node (o_95 P) (.node (o_127 P) (.node (o_193 P) .nil .nil) (.node (o_259 P) .nil .nil)) (.node (o_161 P) (.node (o_227 P) .nil .nil) (.node (o_291 P) .nil .nil)))) (.node (o_68 P) (.node (o_87 P) (.node (o_119 P) (.node (o_185 P) .nil .nil) (.node (o_251 P) .nil .nil)) (.node (o_153 P) (.node (o_219 P) .nil .nil) (.node (o_283 P) .nil .nil))) (.node (o_103 P) (.node (o_137 P) (.node (o_201 P) .nil .nil) (.node (o_267 P) .nil .nil)) (.node (o_169 P) (.node (o_235 P) .nil .nil) (.node (o_299 P) .nil .nil)))))) (.node (boot_o_6 P) (.node (boot_o_10 P) (.node (o_55 P) (.node (o_74 P) (.node (o_109 P) (.node (o_175 P) .nil .nil) (.node (o_241 P) .nil .nil)) (.node (o_143 P) (.node (o_207 P) .nil .nil) (.node (o_273 P) .nil .nil))) (.node (o_93 P) (.node (o_125 P) (.node (o_191 P) .nil .nil) (.node (o_257 P) .nil .nil)) (.node (o_159 P) (.node (o_225 P) .nil .nil) (.node (o_289 P) .nil .nil)))) (.node (o_63 P) (.node (o_85 P) (.node (o_117 P) (.node (o_183 P) .nil .nil) (.node (o_249 P) .nil .nil)) (.node (o_151 P) (.node (o_215 P) .nil .nil) (.node (o_281 P) .nil .nil))) (.node (o_101 P) (.node (o_135 P) (.node (o_199 P) .nil .nil) (.node (o_265 P) .nil .nil)) (.node (o_167 P) (.node (o_233 P) .nil .nil) (.node (o_297 P) .nil .nil))))) (.node (o_46 P) (.node (o_59 P) (.node (o_78 P) (.node (o_113 P) (.node (o_179 P) .nil .nil) (.node (o_245 P) .nil .nil)) (.node (o_147 P) (.node (o_211 P) .nil .nil) (.node (o_277 P) .nil .nil))) (.node (o_97 P) (.node (o_129 P) (.node (o_195 P) .nil .nil) (.node (o_261 P) .nil .nil)) (.node (o_163 P) (.node (o_229 P) .nil .nil) (.node (o_293 P) .nil .nil)))) (.node (o_70 P) (.node (o_89 P) (.node (o_121 P) (.node (o_187 P) .nil .nil) (.node (o_253 P) .nil .nil)) (.node (o_155 P) (.node (o_221 P) .nil .nil) (.node (o_285 P) .nil .nil))) (.node (o_105 P) (.node (o_139 P) (.node (o_203 P) .nil .nil) (.node (o_269 P) .nil .nil)) (.node (o_171 P) (.node (o_237 P) .nil .nil) (.node (o_301 P) .nil .nil)))))))
noncomputable def tree_340 (P : Params) : BT := .node (boot_o_0 P) (.node (boot_o_1 P) (.node (o_304 P) (.node (boot_o_7 P) (.node (o_52 P) (.node (o_71 P) (.node (o_106 P) (.node (o_172 P) (.node (o_302 P) .nil .nil) .nil) (.node (o_238 P) .nil .nil)) (.node (o_140 P) (.node (o_204 P) (.node (o_336 P) .nil .nil) .nil) (.node (o_270 P) .nil .nil))) (.node (o_90 P) (.node (o_122 P) (.node (o_188 P) (.node (o_320 P) .nil .nil) .nil) (.node (o_254 P) .nil .nil)) (.node (o_156 P) (.node (o_222 P) .nil .nil) (.node (o_286 P) .nil .nil)))) (.node (o_60 P) (.node (o_79 P) (.node (o_114 P) (.node (o_180 P) (.node (o_312 P) .nil .nil) .nil) (.node (o_246 P) .nil .nil)) (.node (o_148 P) (.node (o_212 P) .nil .nil) (.node (o_278 P) .nil .nil))) (.node (o_98 P) (.node (o_132 P) (.node (o_196 P) (.node (o_328 P) .nil .nil) .nil) (.node (o_262 P) .nil .nil)) (.node (o_164 P) (.node (o_230 P) .nil .nil) (.node (o_294 P) .nil .nil))))) (.node (o_43 P) (.node (o_56 P) (.node (o_75 P) (.node (o_110 P) (.node (o_176 P) (.node (o_308 P) .nil .nil) .nil) (.node (o_242 P) .nil .nil)) (.node (o_144 P) (.node (o_208 P) (.node (o_340 P) .nil .nil) .nil) (.node (o_274 P) .nil .nil))) (.node (o_94 P) (.node (o_126 P) (.node (o_192 P) (.node (o_324 P) .nil .nil) .nil) (.node (o_258 P) .nil .nil)) (.node (o_160 P) (.node (o_226 P) .nil .nil) (.node (o_290 P) .nil .nil)))) (.node (o_64 P) (.node (o_86 P) (.node (o_118 P) (.node (o_184 P) (.node (o_316 P) .nil .nil) .nil) (.node (o_250 P) .nil .nil)) (.node (o_152 P) (.node (o_218 P) .nil .nil) (.node (o_282 P) .nil .nil))) (.node (o_102 P) (.node (o_136 P) (.node (o_200 P) (.node (o_332 P) .nil .nil) .nil) (.node (o_266 P) .nil .nil)) (.node (o_168 P) (.node (o_234 P) .nil .nil) (.node (o_298 P) .nil .nil)))))) (.node (boot_o_5 P) (.node (boot_o_9 P) (.node (o_54 P) (.node (o_73 P) (.node (o_108 P) (.node (o_174 P) (.node (o_306 P) .nil .nil) .nil) (.node (o_240 P) .nil .nil)) (.node (o_142 P) (.node (o_206 P) (.node (o_338 P) .nil .nil) .nil) (.node (o_272 P) .nil .nil))) (.node (o_92 P) (.node (o_124 P) (.node (o_190 P) (.node (o_322 P) .nil .nil) .nil) (.node (o_256 P) .nil .nil)) (.node (o_158 P) (.node (o_224 P) .nil .nil) (.node (o_288 P) .nil .nil)))) (.node (o_62 P) (.node (o_84 P) (.node (o_116 P) (.node (o_182 P) (.node (o_314 P) .nil .nil) .nil) (.node (o_248 P) .nil .nil)) (.node (o_150 P) (.node (o_214 P) .nil .nil) (.node (o_280 P) .nil .nil))) (.node (o_100 P) (.node (o_134 P) (.node (o_198 P) (.node (o_330 P) .nil .nil) .nil) (.node (o_264 P) .nil .nil)) (.node (o_166 P) (.node (o_232 P) .nil .nil) (.node (o_296 P) .nil .nil))))) (.node (o_45 P) (.node (o_58 P) (.node (o_77 P) (.node (o_112 P) (.node (o_178 P) (.node (o_310 P) .nil .nil) .nil) (.node (o_244 P) .nil .nil)) (.node (o_146 P) (.node (o_210 P) .nil .nil) (.node (o_276 P) .nil .nil))) (.node (o_96 P) (.node (o_128 P) (.node (o_194 P) (.node (o_326 P) .nil .nil) .nil) (.node (o_260 P) .nil .nil)) (.node (o_162 P) (.node (o_228 P) .nil .nil) (.node (o_292 P) .nil .nil)))) (.node (o_69 P) (.node (o_88 P) (.node (o_120 P) (.node (o_186 P) (.node (o_318 P) .nil .nil) .nil) (.node (o_252 P) .nil .nil)) (.node (o_154 P) (.node (o_220 P) .nil .nil) (.node (o_284 P) .nil .nil))) (.node (o_104 P) (.node (o_138 P) (.node (o_202 P) (.node (o_334 P) .nil .nil) .nil) (.node (o_268 P) .nil .nil)) (.node (o_170 P) (.node (o_236 P) .nil .nil) (.node (o_300 P) .nil .nil))))))) (.node (o_49 P) (.node (boot_o_4 P) (.node (boot_o_8 P) (.node (o_53 P) (.node (o_72 P) (.node (o_107 P) (.node (o_173 P) (.node (o_303 P) .nil .nil) .nil) (.node (o_239 P) .nil .nil)) (.node (o_141 P) (.node (o_205 P) (.node (o_337 P) .nil .nil) .nil) (.node (o_271 P) .nil .nil))) (.node (o_91 P) (.node (o_123 P) (.node (o_189 P) (.node (o_321 P) .nil .nil) .nil) (.node (o_255 P) .nil .nil)) (.node (o_157 P) (.node (o_223 P) .nil .nil) (.node (o_287 P) .nil .nil)))) (.node (o_82 P) (.node (o_83 P) (.node (o_115 P) (.node (o_181 P) (.node (o_313 P) .nil .nil) .nil) (.node (o_247 P) .nil .nil)) (.node (o_149 P) (.node (o_213 P) .nil .nil) (.node (o_279 P) .nil .nil))) (.node (o_99 P) (.node (o_133 P) (.node (o_197 P) (.node (o_329 P) .nil .nil) .nil) (.node (o_263 P) .nil .nil)) (.node (o_165 P) (.node (o_231 P) .nil .nil) (.node (o_295 P) .nil .nil))))) (.node (o_305 P) (.node (o_57 P) (.node (o_76 P) (.node (o_111 P) (.node (o_177 P) (.node (o_309 P) .nil .nil) .nil) (.node (o_243 P) .nil .nil)) (.node (o_145 P) (.node (o_209 P) .nil .nil) (.node (o_275 P) .nil .nil))) (.node (o_95 P) (.node (o_127 P) (.node (o_193 P) (.node (o_325 P) .nil .nil) .nil) (.node (o_259 P) .nil .nil)) (.node (o_161 P) (.node (o_227 P) .nil .nil) (.node (o_291 P) .nil .nil)))) (.node (o_68 P) (.node (o_87 P) (.node (o_119 P) (.node (o_185 P) (.node (o_317 P) .nil .nil) .nil) (.node (o_251 P) .nil .nil)) (.node (o_153 P) (.node (o_219 P) .nil .nil) (.node (o_283 P) .nil .nil))) (.node (o_103 P) (.node (o_137 P) (.node (o_201 P) (.node (o_333 P) .nil .nil) .nil) (.node (o_267 P) .nil .nil)) (.node (o_169 P) (.node (o_235 P) .nil .nil) (.node (o_299 P) .nil .nil)))))) (.node (boot_o_6 P) (.node (boot_o_10 P) (.node (o_55 P) (.node (o_74 P) (.node (o_109 P) (.node (o_175 P) (.node (o_307 P) .nil .nil) .nil) (.node (o_241 P) .nil .nil)) (.node (o_143 P) (.node (o_207 P) (.node (o_339 P) .nil .nil) .nil) (.node (o_273 P) .nil .nil))) (.node (o_93 P) (.node (o_125 P) (.node (o_191 P) (.node (o_323 P) .nil .nil) .nil) (.node (o_257 P) .nil .nil)) (.node (o_159 P) (.node (o_225 P) .nil .nil) (.node (o_289 P) .nil .nil)))) (.node (o_63 P) (.node (o_85 P) (.node (o_117 P) (.node (o_183 P) (.node (o_315 P) .nil .nil) .nil) (.node (o_249 P) .nil .nil)) (.node (o_151 P) (.node (o_215 P) .nil .nil) (.node (o_281 P) .nil .nil))) (.node (o_101 P) (.node (o_135 P) (.node (o_199 P) (.node (o_331 P) .nil .nil) .nil) (.node (o_265 P) .nil .nil)) (.node (o_167 P) (.node (o_233 P) .nil .nil) (.node (o_297 P) .nil .nil))))) (.node (o_46 P) (.node (o_59 P) (.node (o_78 P) (.node (o_113 P) (.node (o_179 P) (.node (o_311 P) .nil .nil) .nil) (.node (o_245 P) .nil .nil)) (.node (o_147 P) (.node (o_211 P) .nil .nil) (.node (o_277 P) .nil .nil))) (.node (o_97 P) (.node (o_129 P) (.node (o_195 P) (.node (o_327 P) .nil .nil) .nil) (.node (o_261 P) .nil .nil)) (.node (o_163 P) (.node (o_229 P) .nil .nil) (.node (o_293 P) .nil .nil)))) (.node (o_70 P) (.node (o_89 P) (.node (o_121 P) (.node (o_187 P) (.node (o_319 P) .nil .nil) .nil) (.node (o_253 P) .nil .nil)) (.node (o_155 P) (.node (o_221 P) .nil .nil) (.node (o_285 P) .nil .nil))) (.node (o_105 P) (.node (o_139 P) (.node (o_203 P) (.node (o_335 P) .nil .nil) .nil) (.node (o_269 P) .nil .nil)) (.node (o_171 P) (.node (o_237 P) .nil .nil) (.node (o_301 P) .nil .nil)))))))
noncomputable def heap_341 (P : Params) : Heap := { objs := #[boot_o_0 P, boot_o_1 P, o_49 P, o_304 P, boot_o_4 P, boot_o_5 P, boot_o_6 P, boot_o_7 P, boot_o_8 P, boot_o_9 P, boot_o_10 P, o_43 P, o_305 P, o_45 P, o_46 P, o_52 P, o_53 P, o_54 P, o_55 P, o_56 P, o_57 P, o_58 P, o_59 P, o_60 P, o_82 P, o_62 P, o_63 P, o_64 P, o_68 P, o_69 P, o_70 P, o_71 P, o_72 P, o_73 P, o_74 P, o_75 P, o_76 P, o_77 P, o_78 P, o_79 P, o_83 P, o_84 P, o_85 P, o_86 P, o_87 P, o_88 P, o_89 P, o_90 P, o_91 P, o_92 P, o_93 P, o_94 P, o_95 P, o_96 P, o_97 P, o_98 P, o_99 P, o_100 P, o_101 P, o_102 P, o_103 P, o_104 P, o_105 P, o_106 P, o_107 P, o_108 P, o_109 P, o_110 P, o_111 P, o_112 P, o_113 P, o_114 P, o_115 P, o_116 P, o_117 P, o_118 P, o_119 P, o_120 P, o_121 P, o_122 P, o_123 P, o_124 P, o_125 P, o_126 P, o_127 P, o_128 P, o_129 P, o_132 P, o_133 P, o_134 P, o_135 P, o_136 P, o_137 P, o_138 P, o_139 P, o_140 P, o_141 P, o_142 P, o_143 P, o_144 P, o_145 P, o_146 P, o_147 P, o_148 P, o_149 P, o_150 P, o_151 P, o_152 P, o_153 P, o_154 P, o_155 P, o_156 P, o_157 P, o_158 P, o_159 P, o_160 P, o_161 P, o_162 P, o_163 P, o_164 P, o_165 P, o_166 P, o_167 P, o_168 P, o_169 P, o_170 P, o_171 P, o_172 P, o_173 P, o_174 P, o_175 P, o_176 P, o_177 P, o_178 P, o_179 P, o_180 P, o_181 P, o_182 P, o_183 P, o_184 P, o_185 P, o_186 P, o_187 P, o_188 P, o_189 P, o_190 P, o_191 P, o_192 P, o_193 P, o_194 P, o_195 P, o_196 P, o_197 P, o_198 P, o_199 P, o_200 P, o_201 P, o_202 P, o_203 P, o_204 P, o_205 P, o_206 P, o_207 P, o_208 P, o_209 P, o_210 P, o_211 P, o_212 P, o_213 P, o_214 P, o_215 P, o_218 P, o_219 P, o_220 P, o_221 P, o_222 P, o_223 P, o_224 P, o_225 P, o_226 P, o_227 P, o_228 P, o_229 P, o_230 P, o_231 P, o_232 P, o_233 P, o_234 P, o_235 P, o_236 P, o_237 P, o_238 P, o_239 P, o_240 P, o_241 P, o_242 P, o_243 P, o_244 P, o_245 P, o_246 P, o_247 P, o_248 P, o_249 P, o_250 P, o_251 P, o_252 P, o_253 P, o_254 P, o_255 P, o_256 P, o_257 P, o_258 P, o_259 P, o_260 P, o_261 P, o_262 P, o_263 P, o_264 P, o_265 P, o_266 P, o_267 P, o_268 P, o_269 P, o_270 P, o_271 P, o_272 P, o_273 P, o_274 P, o_275 P, o_276 P, o_277 P, o_278 P, o_279 P, o_280 P, o_281 P, o_282 P, o_283 P, o_284 P, o_285 P, o_286 P, o_287 P, o_288 P, o_289 P, o_290 P, o_291 P, o_292 P, o_293 P, o_294 P, o_295 P, o_296 P, o_297 P, o_298 P, o_299 P, o_300 P, o_301 P, o_302 P, o_303 P, o_306 P, o_307 P, o_308 P, o_309 P, o_310 P, o_311 P, o_312 P, o_313 P, o_314 P, o_315 P, o_316 P, o_317 P, o_318 P, o_319 P, o_320 P, o_321 P, o_322 P, o_323 P, o_324 P, o_325 P, o_326 P, o_327 P, o_328 P, o_329 P, o_330 P, o_331 P, o_332 P, o_333 P, o_334 P, o_335 P, o_336 P, o_337 P, o_338 P, o_339 P, o_340 P] }
noncomputable def heap_39 (P : Params) : Frag := (nat_lit 2, o_49 P) :: (nat_lit 3, o_304 P) :: (nat_lit 15, o_52 P) :: (nat_lit 22, o_59 P) :: (nat_lit 23, o_60 P) :: (nat_lit 24, o_82 P) :: (nat_lit 25, o_62 P) :: (nat_lit 28, o_68 P) :: (nat_lit 35, o_75 P) :: (nat_lit 36, o_76 P) :: (nat_lit 37, o_77 P) :: (nat_lit 40, o_83 P) :: (nat_lit 47, o_90 P) :: (nat_lit 48, o_91 P) :: (nat_lit 49, o_92 P) :: (nat_lit 52, o_95 P) :: (nat_lit 54, o_97 P) :: (nat_lit 55, o_98 P) :: (nat_lit 57, o_100 P) :: (nat_lit 58, o_101 P) :: (nat_lit 59, o_102 P) :: (nat_lit 61, o_104 P) :: (nat_lit 62, o_105 P) :: (nat_lit 64, o_107 P) :: (nat_lit 65, o_108 P) :: (nat_lit 66, o_109 P) :: (nat_lit 68, o_111 P) :: (nat_lit 69, o_112 P) :: (nat_lit 71, o_114 P) :: (nat_lit 72, o_115 P) :: (nat_lit 73, o_116 P) :: (nat_lit 75, o_118 P) :: (nat_lit 76, o_119 P) :: (nat_lit 78, o_121 P) :: (nat_lit 79, o_122 P) :: (nat_lit 80, o_123 P) :: (nat_lit 82, o_125 P) :: (nat_lit 83, o_126 P) :: (nat_lit 85, o_128 P) :: (nat_lit 86, o_129 P) :: (nat_lit 87, o_132 P) :: (nat_lit 89, o_134 P) :: (nat_lit 90, o_135 P) :: (nat_lit 92, o_137 P) :: (nat_lit 93, o_138 P) :: (nat_lit 94, o_139 P) :: (nat_lit 96, o_141 P) :: (nat_lit 97, o_142 P) :: (nat_lit 99, o_144 P) :: (nat_lit 100, o_145 P) :: (nat_lit 101, o_146 P) :: (nat_lit 103, o_148 P) :: (nat_lit 104, o_149 P) :: (nat_lit 106, o_151 P) :: (nat_lit 107, o_152 P) :: (nat_lit 108, o_153 P) :: (nat_lit 110, o_155 P) :: (nat_lit 111, o_156 P) :: (nat_lit 113, o_158 P) :: (nat_lit 114, o_159 P) :: (nat_lit 115, o_160 P) :: (nat_lit 117, o_162 P) :: (nat_lit 118, o_163 P) :: (nat_lit 120, o_165 P) :: (nat_lit 121, o_166 P) :: (nat_lit 122, o_167 P) :: (nat_lit 124, o_169 P) :: (nat_lit 125, o_170 P) :: (nat_lit 127, o_172 P) :: (nat_lit 128, o_173 P) :: (nat_lit 129, o_174 P) :: (nat_lit 131, o_176 P) :: (nat_lit 132, o_177 P) :: (nat_lit 134, o_179 P) :: (nat_lit 135, o_180 P) :: (nat_lit 136, o_181 P) :: (nat_lit 138, o_183 P) :: (nat_lit 139, o_184 P) :: (nat_lit 141, o_186 P) :: (nat_lit 142, o_187 P) :: (nat_lit 143, o_188 P) :: (nat_lit 145, o_190 P) :: (nat_lit 146, o_191 P) :: (nat_lit 148, o_193 P) :: (nat_lit 149, o_194 P) :: (nat_lit 150, o_195 P) :: (nat_lit 152, o_197 P) :: (nat_lit 153, o_198 P) :: (nat_lit 155, o_200 P) :: (nat_lit 156, o_201 P) :: (nat_lit 157, o_202 P) :: (nat_lit 159, o_204 P) :: (nat_lit 160, o_205 P) :: (nat_lit 162, o_207 P) :: (nat_lit 163, o_208 P) :: (nat_lit 164, o_209 P) :: (nat_lit 166, o_211 P) :: (nat_lit 167, o_212 P) :: (nat_lit 169, o_214 P) :: (nat_lit 170, o_215 P) :: (nat_lit 171, o_218 P) :: (nat_lit 172, o_219 P) :: (nat_lit 174, o_221 P) :: (nat_lit 175, o_222 P) :: (nat_lit 177, o_224 P) :: (nat_lit 178, o_225 P) :: (nat_lit 179, o_226 P) :: (nat_lit 180, o_227 P) :: (nat_lit 182, o_229 P) :: (nat_lit 183, o_230 P) :: (nat_lit 185, o_232 P) :: (nat_lit 186, o_233 P) :: (nat_lit 187, o_234 P) :: (nat_lit 189, o_236 P) :: (nat_lit 190, o_237 P) :: (nat_lit 192, o_239 P) :: (nat_lit 193, o_240 P) :: (nat_lit 194, o_241 P) :: (nat_lit 196, o_243 P) :: (nat_lit 197, o_244 P) :: (nat_lit 199, o_246 P) :: (nat_lit 200, o_247 P) :: (nat_lit 201, o_248 P) :: (nat_lit 203, o_250 P) :: (nat_lit 204, o_251 P) :: (nat_lit 206, o_253 P) :: (nat_lit 207, o_254 P) :: (nat_lit 208, o_255 P) :: (nat_lit 210, o_257 P) :: (nat_lit 211, o_258 P) :: (nat_lit 213, o_260 P) :: (nat_lit 214, o_261 P) :: (nat_lit 215, o_262 P) :: (nat_lit 217, o_264 P) :: (nat_lit 218, o_265 P) :: (nat_lit 220, o_267 P) :: (nat_lit 221, o_268 P) :: (nat_lit 222, o_269 P) :: (nat_lit 224, o_271 P) :: (nat_lit 225, o_272 P) :: (nat_lit 227, o_274 P) :: (nat_lit 228, o_275 P) :: (nat_lit 229, o_276 P) :: (nat_lit 231, o_278 P) :: (nat_lit 232, o_279 P) :: (nat_lit 234, o_281 P) :: (nat_lit 235, o_282 P) :: (nat_lit 236, o_283 P) :: (nat_lit 238, o_285 P) :: (nat_lit 239, o_286 P) :: (nat_lit 241, o_288 P) :: (nat_lit 242, o_289 P) :: (nat_lit 243, o_290 P) :: (nat_lit 245, o_292 P) :: (nat_lit 246, o_293 P) :: (nat_lit 248, o_295 P) :: (nat_lit 249, o_296 P) :: (nat_lit 250, o_297 P) :: (nat_lit 252, o_299 P) :: (nat_lit 253, o_300 P) :: (nat_lit 255, o_302 P) :: (nat_lit 256, o_303 P) :: (nat_lit 257, o_306 P) :: (nat_lit 259, o_308 P) :: (nat_lit 260, o_309 P) :: (nat_lit 262, o_311 P) :: (nat_lit 263, o_312 P) :: (nat_lit 264, o_313 P) :: (nat_lit 266, o_315 P) :: (nat_lit 267, o_316 P) :: (nat_lit 269, o_318 P) :: (nat_lit 270, o_319 P) :: (nat_lit 271, o_320 P) :: (nat_lit 273, o_322 P) :: (nat_lit 274, o_323 P) :: (nat_lit 276, o_325 P) :: (nat_lit 277, o_326 P) :: (nat_lit 278, o_327 P) :: (nat_lit 280, o_329 P) :: (nat_lit 281, o_330 P) :: (nat_lit 283, o_332 P) :: (nat_lit 284, o_333 P) :: (nat_lit 285, o_334 P) :: (nat_lit 287, o_336 P) :: (nat_lit 288, o_337 P) :: (nat_lit 290, o_339 P) :: (nat_lit 291, o_340 P) :: []
noncomputable def view : Program := { pr with main := { pr.main with body := [1, 2, 3, 4, 5, 6, 7, 8, 9, 10, 11, 12, 13, 15, 16, 17, 18, 19, 20, 21, 22, 24, 25, 26, 29, 30, 32, 33, 34, 35, 36, 37, 38, 39, 40, 41, 42, 43, 44].map stA } }
noncomputable def sts_49 : List Stmt := ((behindTheImports pr).drop 0).take 2
noncomputable def sts_65 : List Stmt := ((behindTheImports pr).drop 2).take 1
noncomputable def sts_80 : List Stmt := ((behindTheImports pr).drop 3).take 10
noncomputable def sts_130 : List Stmt := ((behindTheImports pr).drop 13).take 14
noncomputable def sts_216 : List Stmt := ((behindTheImports pr).drop 27).take 13
noncomputable def sts_304 : List Stmt := ((behindTheImports pr).drop 40).take 5
noncomputable def env_41 : Env := { scope := pr.main.scope, locals := mainNs, globals := mainNs, cells := [], code := .ref 13, frame := some 14 }
end Mine.hd
end
section
open PySem PySem.W PyProof.Rows
namespace Mine.hd
theorem p47 : ∀ (w : World) (os : OsState), (topGo treeTable pr w 11 (some (Value.ref 6)) 12 { heap := boot_heap w.params, drawn := boot_drawn, toks := boot_toks, os := os } (topStub pr)) = some (({ heap := heap_46 w.params, toks := 187, os := os } : Shared), ({ cur := denote treeTable (Code.body (behindTheImports pr) env_41), code := Code.body (behindTheImports pr) env_41, pos := { line := 0, col := 0, endLine := 0, endCol := 0 }, stack := [topFrame { line := 0, col := 0, endLine := 0, endCol := 0 }] } : Thread)) := by intro w os; kernel_rfl
theorem p49 : ∀ (w : World) (os : OsState), (segRun treeTable pr w 11 (some (Value.ref 6)) 1 1 { heap := heap_46 w.params, toks := 187, os := os } (blockOf (behindTheImports pr) env_41 (Code.body (behindTheImports pr) env_41) { line := 0, col := 0, endLine := 0, endCol := 0 } [topFrame { line := 0, col := 0, endLine := 0, endCol := 0 }])) = some (.next, ({ tree := tree_47 w.params, n := 15, life := { }, gens := #[], drawn := { }, toks := 187, os := os } : SharedT).abs, Code.body (behindTheImports pr) env_41, { line := 0, col := 0, endLine := 0, endCol := 0 }) := by intro w os; kernel_rfl
theorem p65 : ∀ (w : World) (os : OsState), (segRunT treeTable pr w 11 (some (Value.ref 6)) 1 206 { tree := tree_47 w.params, n := 15, life := { }, gens := #[], drawn := { }, toks := 187, os := os } (piecesOf sts_49 env_41 (Code.body (behindTheImports pr) env_41) { line := 0, col := 0, endLine := 0, endCol := 0 } [topFrame { line := 0, col := 0, endLine := 0, endCol := 0 }])) = some (.next, { tree := tree_64 w.params, n := 28, life := { }, gens := #[], drawn := { }, toks := 209, os := os }, Code.body (behindTheImports pr) env_41, { line := 2, col := 0, endLine := 3, endCol := 8 }) := by intro w os; kernel_rfl
theorem p80 : ∀ (w : World) (os : OsState), (segRunT treeTable pr w 11 (some (Value.ref 6)) 1 214 { tree := tree_64 w.params, n := 28, life := { }, gens := #[], drawn := { }, toks := 209, os := os } (piecesOf sts_65 env_41 (Code.body (behindTheImports pr) env_41) { line := 2, col := 0, endLine := 3, endCol := 8 } [topFrame { line := 0, col := 0, endLine := 0, endCol := 0 }])) = some (.next, { tree := tree_79 w.params, n := 40, life := { }, gens := #[], drawn := { }, toks := 225, os := os }, Code.body (behindTheImports pr) env_41, { line := 4, col := 0, endLine := 5, endCol := 8 }) := by intro w os; kernel_rfl
theorem p130 : ∀ (w : World) (os : OsState), (segRunT treeTable pr w 11 (some (Value.ref 6)) 1 396 { tree := tree_79 w.params, n := 40, life := { }, gens := #[], drawn := { }, toks := 225, os := os } (piecesOf sts_80 env_41 (Code.body (behindTheImports pr) env_41) { line := 4, col := 0, endLine := 5, endCol := 8 } [topFrame { line := 0, col := 0, endLine := 0, endCol := 0 }])) = some (.next, { tree := tree_129 w.params, n := 87, life := { }, gens := #[], drawn := { }, toks := 285, os := os }, Code.body (behindTheImports pr) env_41, { line := 26, col := 0, endLine := 27, endCol := 60 }) := by intro w os; kernel_rfl
theorem p216 : ∀ (w : World) (os : OsState), (segRunT treeTable pr w 11 (some (Value.ref 6)) 1 381 { tree := tree_129 w.params, n := 87, life := { }, gens := #[], drawn := { }, toks := 285, os := os } (piecesOf sts_130 env_41 (Code.body (behindTheImports pr) env_41) { line := 26, col := 0, endLine := 27, endCol := 60 } [topFrame { line := 0, col := 0, endLine := 0, endCol := 0 }])) = some (.next, { tree := tree_215 w.params, n := 171, life := { }, gens := #[], drawn := { }, toks := 387, os := os }, Code.body (behindTheImports pr) env_41, { line := 147, col := 0, endLine := 148, endCol := 48 }) := by intro w os; kernel_rfl
theorem p304 : ∀ (w : World) (os : OsState), (segRunT treeTable pr w 11 (some (Value.ref 6)) 1 390 { tree := tree_215 w.params, n := 171, life := { }, gens := #[], drawn := { }, toks := 387, os := os } (piecesOf sts_216 env_41 (Code.body (behindTheImports pr) env_41) { line := 147, col := 0, endLine := 148, endCol := 48 } [topFrame { line := 0, col := 0, endLine := 0, endCol := 0 }])) = some (.next, { tree := tree_303 w.params, n := 257, life := { }, gens := #[], drawn := { }, toks := 503, os := os }, Code.body (behindTheImports pr) env_41, { line := 248, col := 0, endLine := 254, endCol := 27 }) := by intro w os; kernel_rfl
theorem p341 : ∀ (w : World) (os : OsState), (segRunT treeTable pr w 11 (some (Value.ref 6)) 1 162 { tree := tree_303 w.params, n := 257, life := { }, gens := #[], drawn := { }, toks := 503, os := os } (piecesOf sts_304 env_41 (Code.body (behindTheImports pr) env_41) { line := 248, col := 0, endLine := 254, endCol := 27 } [topFrame { line := 0, col := 0, endLine := 0, endCol := 0 }])) = some (.next, { tree := tree_340 w.params, n := 292, life := { }, gens := #[], drawn := { }, toks := 554, os := os }, Code.body (behindTheImports pr) env_41, { line := 306, col := 0, endLine := 316, endCol := 15 }) := by intro w os; kernel_rfl
theorem p343 : ∀ (w : World) (os : OsState), (topRun treeTable pr w 11 (some (Value.ref 6)) 2 ({ tree := tree_340 w.params, n := 292, life := { }, gens := #[], drawn := { }, toks := 554, os := os } : SharedT).abs { cur := doneF .next, code := Code.body (behindTheImports pr) env_41, pos := { line := 306, col := 0, endLine := 316, endCol := 15 }, stack := [topFrame { line := 0, col := 0, endLine := 0, endCol := 0 }] }) = some { heap := heap_341 w.params, toks := 554, os := os } := by intro w os; kernel_rfl
theorem hb : behindTheImports pr = sts_49 ++ (sts_65 ++ (sts_80 ++ (sts_130 ++ (sts_216 ++ (sts_304 ++ []))))) := by kernel_rfl
theorem at_b {T : Type} (F : List Stmt → T) {b b' : List Stmt} (e : b = b') {P : T → Prop} (k : P (F b')) : P (F b) := e ▸ k
theorem run (w : World) (os : OsState) : topRun treeTable pr w 11 (some (.ref 6)) (12 + (1 + (206 + (214 + (396 + (381 + (390 + (162 + 2)))))))) ⟨boot_heap w.params, Array.mk [], boot_drawn, boot_toks, os⟩ (topStub pr) = some ⟨heap_341 w.params, Array.mk [], {}, 554, os⟩ := by
  refine go_top (p47 w os) ?_
  refine piece_block (b := behindTheImports pr) (p49 w os) ?_
  refine at_b (fun b => restOf b env_41 (Code.body (behindTheImports pr) env_41) _ [topFrame _]) hb (P := fun t => topRun treeTable pr w 11 (some (Value.ref 6)) _ _ t = some _) ?_
  refine piece_app (segRun_of (p65 w os)) ?_
  refine piece_app (segRun_of (p80 w os)) ?_
  refine piece_app (segRun_of (p130 w os)) ?_
  refine piece_app (segRun_of (p216 w os)) ?_
  refine piece_app (segRun_of (p304 w os)) ?_
  refine piece_app (segRun_of (p341 w os)) ?_
  exact p343 w os
end Mine.hd
end
section
open PySem PySem.W PyProof.Rows
namespace Mine.hd
abbrev loose : List Str := [Str.ofString "_EncodeVarint", Str.ofString "_EncodeSignedVarint"]
noncomputable abbrev H : Hook := kmHook heap_39 [2, 3, 15, 22, 23, 24, 25, 28, 35, 36, 37, 40, 47, 48, 49, 52, 54, 55, 57, 58, 59, 61, 62, 64, 65, 66, 68, 69, 71, 72, 73, 75, 76, 78, 79, 80, 82, 83, 85, 86, 87, 89, 90, 92, 93, 94, 96, 97, 99, 100, 101, 103, 104, 106, 107, 108, 110, 111, 113, 114, 115, 117, 118, 120, 121, 122, 124, 125, 127, 128, 129, 131, 132, 134, 135, 136, 138, 139, 141, 142, 143, 145, 146, 148, 149, 150, 152, 153, 155, 156, 157, 159, 160, 162, 163, 164, 166, 167, 169, 170, 171, 172, 174, 175, 177, 178, 179, 180, 182, 183, 185, 186, 187, 189, 190, 192, 193, 194, 196, 197, 199, 200, 201, 203, 204, 206, 207, 208, 210, 211, 213, 214, 215, 217, 218, 220, 221, 222, 224, 225, 227, 228, 229, 231, 232, 234, 235, 236, 238, 239, 241, 242, 243, 245, 246, 248, 249, 250, 252, 253, 255, 256, 257, 259, 260, 262, 263, 264, 266, 267, 269, 270, 271, 273, 274, 276, 277, 278, 280, 281, 283, 284, 285, 287, 288, 290, 291] (fun _ => by kernel_rfl) [251, 102, 95, 188]
theorem seen (w : World) (os : OsState) : openSeen view loose (importedModules pr.main.body) (fun s => xlAt view [] s && recOk PySem.Challenge.rw_jd0021_01.row.toRowW.records s) true ⟨heap_341 w.params, Array.mk [], {}, 554, os⟩ = openGood view loose := by kernel_rfl
theorem obs (w : World) (os : OsState) : H.obs ⟨heap_341 w.params, Array.mk [], {}, 554, os⟩ = H.val w := by kernel_rfl
theorem stat (w : World) (os : OsState) : (staticsOk (importedModules pr.main.body) (boot_heap w.params) (heap_341 w.params) && namesBound pr (heap_341 w.params) && gensDone ⟨heap_341 w.params, Array.mk [], {}, 554, os⟩ && laidKept (boot_heap w.params) (heap_341 w.params)) = true := by kernel_rfl
theorem size (w : World) : ((boot_heap w.params).isNs mainGlobals && (Array.mk [] : Array GenState).size == 0, (boot_heap w.params).objs.size, (boot_heap w.params).nsMap mainGlobals "__annotations__") = (true, 11, some (.ref 6)) := by kernel_rfl
theorem opn : opening pr = plainProg pr.main.scope.names := by kernel_rfl
theorem left : LeftO pr view loose (fun s => xlAt view [] s && recOk PySem.Challenge.rw_jd0021_01.row.toRowW.records s) H.obs H.val 3612 :=
  LeftO.of_pieces (H₀ := boot_heap) (H₁ := heap_341) (boot_open opn (by decide) fun _ => rfl) size run (by decide) fun w => funext fun os => Prod.ext (stat w os) (Prod.ext (seen w os) (obs w os))
theorem said3 : namesResolve PySem.Challenge.rw_jd0021_01.row.toRowW.prog = true := by kernel_rfl
theorem said2 : looksOpen PySem.Challenge.rw_jd0021_01.row.toRowW.prog = true := by
  unfold looksOpen
  repeat' (first | with_reducible exact said3 | with_reducible refine look_both ?_ ?_ | kernel_rfl)
theorem said1 : PySem.Challenge.rw_jd0021_01.row.wellSaid = true := by
  unfold OpenRow.wellSaid
  repeat' (first | with_reducible exact said2 | with_reducible refine look_both ?_ ?_ | unfold OpenRow.partSaid | kernel_rfl)
theorem said : PySem.Challenge.rw_jd0021_01.wellSaid = true := by
  unfold OpenLaw.wellSaid
  repeat' (first | with_reducible exact said1 | with_reducible refine look_both ?_ ?_ | kernel_rfl)
theorem hd {d : DefRec} {kwd : List (Str × Expr)} (hdef : defOf view PySem.Challenge.rw_jd0021_01.row.toRowW.name = some (d, kwd)) (hp : pr.theDef PySem.Challenge.rw_jd0021_01.row.toRowW.name = some (d.params, d.body, d.scope)) (hk : kwWritten? d.params.kwonlyargs d.params.kw_defaults = some kwd)
    (call : WalkO view loose (XL view []) H.says PySem.Challenge.rw_jd0021_01.row.toRowW d kwd fun f vs => PySem.call f vs) : PySem.Challenge.rw_jd0021_01.Holds :=
  holds_law said fun k1 => holds_open (q := view) (loose := loose) (Xt := fun s => xlAt view [] s && recOk PySem.Challenge.rw_jd0021_01.row.toRowW.records s) (XP := XL view []) (Yf := H.obs) (Ya := H.val) (YP := H.says) (N := 3612) left H.of H.keeps (fun _ e => xl_of _ (Bool.and_eq_true_iff.mp e).1) XL.keeps hdef hp hk
    (fun _ e => recFacts_of (Bool.and_eq_true_iff.mp e).2) (by kernel_rfl) k1 (by kernel_rfl) ⟨rfl, rfl, rfl, rfl, rfl, by decide +kernel⟩ (by w_witness2) call
end Mine.hd
end
section
open PySem PySem.W PySem.Spec PySem.Calls PyProof.Rows Builtin
namespace Mine
section
variable {prog : Program} {w : World} {A : Around} {E : Value → Shared → Prop} {s : Shared} {b : Array UInt8} {t u : Tok} {k : Int} {ks : List Int}
theorem getItem_bytes_out {Q : Value → Shared → Prop} (hA : A.handled = none) (h0 : 0 ≤ k) (hout : (b.size : Int) ≤ k) (hhi : k < 1099511627776)
    (hE : ∀ h' tk e, Heap.NewExc s.heap h' e "IndexError" → E (.ref e) { s with heap := h', toks := tk }) :
    wpAny (model prog w) A (getItem (.bytes b t) (.int k u)) Q E s := by
  unfold getItem
  try with_reducible refine wpAny_holding ?_
  first | refine wpAny_bind (wpAny_pure ?_) | skip
  refine wpAny_bind (wpAny_callSpecial?_slot (name := Str.ofString "__getitem__") (typeIs_bytes s b t) FB.slot_bytes_getitem
    (wpAny_call_entry FB.slot_bytes_getitem (typeIs_bytes s b t) FB.entry_bytes_getitem ?_ (FB.args_bytes_getitem_2 _ _)))
  show wpAny _ _ (Bytes.subscript? (.int k u) >>= fun r => _) _ _ s
  refine wpAny_bind ?_
  unfold Bytes.subscript?
  refine wpAny_bind (wpAny_specialOf (typeIs_int s k u) F.slot_int_index.lookup ?_)
  have hr : Bytes.fitsIndex k = true := by
    simp only [Bytes.fitsIndex, Bool.and_eq_true, decide_eq_true_eq]; omega
  show wpAny _ _ (if (!Bytes.fitsIndex k) = true then _ else pure (some k)) _ _ s
  rw [hr]
  refine wpAny_pure ?_
  show wpAny _ _ (match (seqIndex? k b.size).bind (b[·]?) with | some x => _ | none => _) _ _ s
  have hidx : (seqIndex? k b.size).bind (b[·]?) = none := by
    have hn : ¬ k < 0 := by omega
    have hm : ¬ k < (b.size : Int) := by omega
    simp [seqIndex?, hn, hm]
  rw [hidx]
  first
    | exact wpAny_bind (wpAny_rule (by exact_raiseError plainExc_IndexError hA hE))
    | exact wpAny_bind (wpAny_rule (wpAny_bind (by exact_raiseError plainExc_IndexError hA hE)))
    | exact wpAny_bind (wpAny_bind (wpAny_rule (by exact_raiseError plainExc_IndexError hA hE)))
    | exact wpAny_rule (by exact_raiseError plainExc_IndexError hA hE)
theorem item_or {ui : Tok} {value slice : PySem.Expr} {Q : Value → Shared → Prop} (hA : A.handled = none) (hk : KBw.bInts b = ks) (hfit : ks.length ≤ 1099511627775) (h0 : 0 ≤ k) (h1 : k ≤ 1099511627775)
    (h : k < (ks.length : Int) → ∀ t' tk, 0 ≤ ks.getD k.toNat 0 → ks.getD k.toNat 0 < 256 → Q (.int (ks.getD k.toNat 0) t') { s with toks := tk })
    (hE : (ks.length : Int) ≤ k → ∀ h' tk e, Heap.NewExc s.heap h' e "IndexError" → E (.ref e) { s with heap := h', toks := tk })
    (hs : subscripted slice false (.bytes b t) (.int k ui) = operate [.bytes b t, .int k ui] (getItem (.bytes b t) (.int k ui)) := by with_unfolding_all rfl)
    (ht : ∀ r, letTemporaryGo value (.bytes b t) r = pure () := by intro _; with_unfolding_all rfl) : wpAny (model prog w) A (subscriptTail value slice (.bytes b t) (.int k ui)) Q E s := by
  by_cases hc : k < (ks.length : Int)
  · exact KBw.item_K hk (by omega) h0 hc (h hc) hs ht
  · refine tail_of_ItemOn ⟨"bytes", _, FB.slot_bytes_getitem.lookup, typeIs_bytes _ _ _, getItem_bytes_out hA h0 ?_ (by omega) (hE (by omega))⟩ hs ht
    have := KBw.ints_length b
    rw [hk] at this
    omega
end
end Mine
end
section
open PySem PySem.W PySem.Spec PySem.Calls PyProof.Rows
namespace Mine
theorem fs_mem {env : Env} {outer : List Env} {L b : Addr} (hf : env.frame = some L) (hm : b ∈ (env :: outer).filterMap (·.frame)) : b = L ∨ b ∈ outer.filterMap (·.frame) := by
  simp only [List.filterMap_cons, hf] at hm
  rcases List.mem_cons.mp hm with h | h
  · exact .inl h
  · exact .inr h
/-- what is hidden while an exception leaves the frame env, whose ground is g -/
theorem hide_three {A : Around} {base g h : Heap} {env : Env} {outer : List Env} {L : Addr} {m : Str → Option Value} {news : List (Addr × Obj)}
    (K : Below A base outer g) (F : Fr g L h m) (N : News g L h news) (hf : env.frame = some L) (hk : env.scope.kind = .function) :
    base.StaysIn (hideAll h ((env :: outer).filterMap (·.frame))) ∧
    (∀ b o, g.get? b = some o → b ∉ outer.filterMap (·.frame) → (hideAll h ((env :: outer).filterMap (·.frame))).get? b = some o) ∧
    (∀ q ∈ news, (hideAll h ((env :: outer).filterMap (·.frame))).get? q.1 = some q.2 ∧ g.get? q.1 = none ∧ base.get? q.1 = none) ∧
    (hideAll h ((env :: outer).filterMap (·.frame))).FunFrames base [] ∧ h.FunFrames (hideAll h ((env :: outer).filterMap (·.frame))) (env :: outer) := by
  have K' := pushX (env := env) K F hf hk
  refine ⟨fun b o q => hideAll_get _ (K'.stays b o q) fun hm => ?_, fun b o q nm => hideAll_get _ (F.keep b o q) fun hm => ?_, fun q hq => ⟨hideAll_get _ (N q hq).1 fun hm => ?_, (N q hq).2.2, fresh_of_stays K.stays (N q hq).2.2⟩, trivial, ?_⟩
  · rw [(K'.frames.mem hm).1] at q; cases q
  · rcases fs_mem hf hm with z | z
    · rw [z, kts_self F] at q; cases q
    · exact nm z
  · rcases fs_mem hf hm with z | z
    · exact (N q hq).2.1 z
    · obtain ⟨_, o, ho, _⟩ := K.frames.mem z
      rw [(N q hq).2.2] at ho; cases ho
  · exact funFrames_hide K'.frames fun env' he b hb => List.mem_filterMap.mpr ⟨env', he, hb⟩
section
variable {M : Model} {A : Around} {E : Value → Shared → Prop} {s' : Shared} {base g g₂ h : Heap} {env : Env} {outer : List Env} {L e : Addr} {m : Str → Option Value} {Q : Unit → Shared → Prop} {news : List (Addr × Obj)}
theorem leaveX_made {cls : Value} {vs : List Value} (K : Below A base outer g) (hx : Heap.MadeExcOf h s'.heap e cls vs) (F : Fr g L h m) (N : News g L h news) (hf : env.frame = some L) (hk : env.scope.kind = .function)
    (hQ : ∀ h', RaisedSN base g outer e cls news h' → g.UpToSlots h' → Q () { s' with heap := h' }) :
    wpAny M (A.deeper env) (leaving env (.ref e)) Q E s' := by
  obtain ⟨st, sg, hl, _, ff⟩ := hide_three (env := env) K F N hf hk
  have K' := pushX (env := env) K F hf hk
  exact wpAny_leaves_madeW K'.stack hf (fun b o q => of_hideAll _ q) ff hx fun h' t x1 _ _ x4 =>
    hQ h' ⟨_, _, st, sg, hl, x1⟩ (((Heap.UpToSlots.of_keeps F.keep).trans (Heap.UpToSlots.of_keeps hx.keeps)).trans x4)
theorem leaveX_new {cls : String} (K : Below A base outer g) (hx : Heap.NewExc h s'.heap e cls) (F : Fr g L h m) (N : News g L h news) (hf : env.frame = some L) (hk : env.scope.kind = .function)
    (hQ : ∀ h', RaisedSN base g outer e (.type cls) news h' → g.UpToSlots h' → Q () { s' with heap := h' }) :
    wpAny M (A.deeper env) (leaving env (.ref e)) Q E s' := by
  obtain ⟨st, sg, hl, _, ff⟩ := hide_three (env := env) K F N hf hk
  have K' := pushX (env := env) K F hf hk
  obtain ⟨ob, tp, he, hcls, hd⟩ := hx.there
  have hen : (hideAll h ((env :: outer).filterMap (·.frame))).get? e = none := by
    cases q : (hideAll h ((env :: outer).filterMap (·.frame))).get? e with
    | none => rfl
    | some o => have := of_hideAll _ q; rw [hx.new] at this; cases this
  refine wpAny_leaving_firstW (a0 := tp) K'.stack (ff.of_keeps fun b o hb _ => ⟨o, hx.keeps b o hb, rfl⟩) hf he (fun b o hb => hx.keeps b o (of_hideAll _ hb)) hen hd rfl rfl fun h' hL => ?_
  obtain ⟨k1, ⟨_, _, k2⟩, k3, k4⟩ := hL
  exact hQ h' ⟨_, tp, st, sg, hl, k1, hen, k2, by rw [← hcls]; exact k3⟩ (((Heap.UpToSlots.of_keeps F.keep).trans (Heap.UpToSlots.of_keeps hx.keeps)).trans k4)
theorem leaveX_on {cls : Value} (K : Below A base outer g) (F : Fr g L g₂ m) (R : RaisedSN base g₂ (env :: outer) e cls news s'.heap) (hsm : g₂.UpToSlots s'.heap) (hf : env.frame = some L)
    (hQ : ∀ h', RaisedSN base g outer e cls news h' → g.UpToSlots h' → Q () { s' with heap := h' }) :
    wpAny M (A.deeper env) (leaving env (.ref e)) Q E s' := by
  obtain ⟨B, a0, hB, hBG, hl, hfl⟩ := R
  exact wpAny_leaves_onW (Around.frames_deeper K.stack) hf hfl fun h' x1 x2 =>
    hQ h' ⟨B, a0, hB, fun b o q nm => hBG b o (F.keep b o q) (fun hm => by
      rcases fs_mem hf hm with z | z
      · rw [z, kts_self F] at q; cases q
      · exact nm z), fun q hq => ⟨(hl q hq).1, kts_none F.keep (hl q hq).2.1, (hl q hq).2.2⟩, x1⟩ ((Heap.UpToSlots.of_keeps F.keep).trans (hsm.trans x2))
end
section
variable {M : Model} {A : Around} {E : Value → Shared → Prop} {s : Shared} {h₀ : Heap} {L a : Addr} {m : Str → Option Value} {cn : Str} {cs : Scope} {ccd : Value} {cl : List (Str × Addr)} {x : Str} {v : Value} {Q : Value → Shared → Prop}
theorem loadX_L (F : Fr h₀ L s.heap m) (hv : m x = some v) (h : Q v s)
    (hk : cs.kind = .function := by rfl) (hx : (envX cn cs L a ccd cl).kindOf x = some .local := by rfl) :
    wpAny M A (loadName (envX cn cs L a ccd cl) x) Q E s := wpAny_loadName_local hk hx F.ns hv h
end
theorem raisedSN_sub {base G : Heap} {l : List Env} {e : Addr} {cls : Value} {news news' : List (Addr × Obj)} {h : Heap} (R : RaisedSN base G l e cls news h) (hs : ∀ p ∈ news', p ∈ news) : RaisedSN base G l e cls news' h := by
  obtain ⟨B, a0, h1, h2, h3, h4⟩ := R
  exact ⟨B, a0, h1, h2, fun q hq => h3 q (hs q hq), h4⟩
end Mine
end
section
open PySem PySem.W PySem.Spec PySem.Calls PyProof.Rows
namespace Mine
theorem band0 (x : Int) : Builtin.bitAnd 0 x = 0 := by
  have h := kbt_mask' x 0
  simpa [Int.emod_one] using h
theorem band_disj : ∀ (k : Nat) (r x : Int), 0 ≤ r → r < 2 ^ k → Builtin.bitAnd r (x * 2 ^ k) = 0
  | 0, r, x, h0, h1 => by
    have : r = 0 := by
      have : r < 1 := by simpa using h1
      omega
    subst this
    exact band0 _
  | k + 1, r, x, h0, h1 => by
    rw [kbt_halves]
    have e1 : x * 2 ^ (k + 1) = 2 * (x * 2 ^ k) := by rw [Int.pow_succ]; simp only [Int.mul_comm, Int.mul_left_comm]
    have e2 : (2 * (x * 2 ^ k)) / 2 = x * 2 ^ k := by omega
    have e3 : (2 * (x * 2 ^ k)) % 2 = 0 := by omega
    have h2 : r / 2 < 2 ^ k := by
      rw [Int.pow_succ] at h1
      omega
    rw [e1, e2, e3, band_disj k (r / 2) x (by omega) h2]
    simp
theorem bor_disj {k : Nat} {r x : Int} (h0 : 0 ≤ r) (h1 : r < 2 ^ k) : Builtin.bitOr r (x * 2 ^ k) = r + x * 2 ^ k := by
  rw [bitOr_and, band_disj k r x h0 h1]; omega
theorem bor_disj' {k : Nat} {r x : Int} (h0 : 0 ≤ r) (h1 : r < 2 ^ k) : Builtin.bitOr (x * 2 ^ k) r = r + x * 2 ^ k := by
  rw [bitOr_and, bitAnd_comm, band_disj k r x h0 h1]; omega
theorem band128 (c : Int) : Builtin.bitAnd c 128 = c / 128 % 2 * 128 := kbt_bit c 7
theorem band64 (c : Int) : Builtin.bitAnd c 18446744073709551615 = c % 18446744073709551616 := kbt_mask c 64
theorem band_m1 (x : Int) : Builtin.bitAnd x (-1) = x := by
  have h := bitAnd_not x 0
  rw [bitAnd_comm x 0, band0] at h
  simpa [Builtin.bitNot] using h
theorem bxor_m1 (x : Int) : Builtin.bitXor x (-1) = -x - 1 := by
  rw [bitXor_and, band_m1]; omega
/-- the sign's turn -/
theorem bxor_sign (k : Nat) {x : Int} (h0 : 0 ≤ x) (h1 : x < 2 * 2 ^ k) : Builtin.bitXor x (2 ^ k) - 2 ^ k = if 2 ^ k ≤ x then x - 2 * 2 ^ k else x := by
  rw [bitXor_and, kbt_bit]
  have hp := kbt_pos k
  by_cases h : (2 : Int) ^ k ≤ x
  · have e : x / 2 ^ k = 1 := by
      refine (kbt_unique hp (r := x - 2 ^ k) (q := 1) ?_ ?_ ?_).1 <;> omega
    rw [if_pos h, e]
    omega
  · have e : x / 2 ^ k = 0 := Int.ediv_eq_zero_of_lt h0 (by omega)
    rw [if_neg h, e]
    omega
theorem bor128 {c : Int} (h0 : 0 ≤ c) (h1 : c < 128) : Builtin.bitOr 128 c = c + 128 := by
  have h := bor_disj' (k := 7) (x := 1) h0 (by simpa using h1)
  simpa using h
section
variable {prog : Program} {w : World} {A : Around} {E : Value → Shared → Prop} {s : Shared} {t u : Tok} {c d r : Int} {Q : Value → Shared → Prop}
theorem and_to (e : Builtin.bitAnd c d = r) (h : Q (.int r s.toks) { s with toks := s.toks + 1 }) : wpAny (model prog w) A (binaryOp .BitAnd (.int c t) (.int d u)) Q E s := by
  subst e; exact and_int h
theorem iand_to (e : Builtin.bitAnd c d = r) (h : Q (.int r s.toks) { s with toks := s.toks + 1 }) : wpAny (model prog w) A (inplaceOp .BitAnd (.int c t) (.int d u)) Q E s := by
  subst e; exact iand_int h
theorem or_to (e : Builtin.bitOr c d = r) (h : Q (.int r s.toks) { s with toks := s.toks + 1 }) : wpAny (model prog w) A (binaryOp .BitOr (.int c t) (.int d u)) Q E s := by
  subst e; exact or_int h
theorem xor_to (e : Builtin.bitXor c d = r) (h : Q (.int r s.toks) { s with toks := s.toks + 1 }) : wpAny (model prog w) A (binaryOp .BitXor (.int c t) (.int d u)) Q E s := by
  subst e; exact xor_int h
theorem shl_to (h0 : 0 ≤ d) (h1 : d ≤ 1000000) (h2 : c.natAbs < 2 ^ 64) (h : Q (.int (c * 2 ^ d.toNat) s.toks) { s with toks := s.toks + 1 }) : wpAny (model prog w) A (binaryOp .LShift (.int c t) (.int d u)) Q E s :=
  lshift_int_small h0 h1 h2 h
end
section
variable {prog : Program} {w : World} {A : Around} {E : Value → Shared → Prop} {s : Shared} {K : Frag} {h₀ : Heap} {L a C : Addr} {m mg mb : Str → Option Value} {cn : Str} {cs : Scope} {ccd : Value} {cl : List (Str × Addr)} {p : Program} {loose : List Str}
  {x : Str} {np cpos pos : Pos} {bmB : List Value} {newId initId B : String} {Q : Flow → Shared → Prop}
theorem RaiseX_own {e₀ : Expr} {rest : List Expr} (F : Fr h₀ L s.heap m) (X : K.In h₀) (T : TopRead p loose mg mb h₀) (e : nsIn K mainGlobals x = some (some (.ref C))) (q : excIn K C bmB newId = true) (FB : ExcBaseFacts B newId initId bmB) (hh : A.handled = none)
    (h : wpAny (model prog w) A (spliced (backTo cpos (starEach (e₀ :: rest) (envX cn cs L a ccd cl)))) (fun vs s₂ => vs.length ≤ sizeLine ∧ (∀ b o, h₀.get? b = some o → s₂.heap.get? b = some o) ∧
      ∀ h' e, Heap.MadeExcOf s₂.heap h' e (.ref C) vs → E (.ref e) { s₂ with heap := h' }) E s)
    (he : starEach (e₀ :: rest) (envX cn cs L a ccd cl) = (false, eval e₀ (envX cn cs L a ccd cl)) :: starEach rest (envX cn cs L a ccd cl) := by rfl)
    (hplain : (backTo cpos (starEach rest (envX cn cs L a ccd cl))).any (·.1) = false := by rfl)
    (hk : cs.kind = .function := by rfl) (hx : (envX cn cs L a ccd cl).kindOf x = some .globalImplicit := by rfl) (hd : (x == ("__debug__" : Str)) = false := by decide) :
    wpAny (model prog w) A (exec (.Raise (some (.Call (.Name x np) (e₀ :: rest) [] cpos)) none pos) (envX cn cs L a ccd cl)) Q E s := by
  obtain ⟨tl, N, nm, q', bs, hdct, sn, sub, ab, col, dd, k0, k1, k2, k3, k5, mN, hC, hN, hni, T'⟩ := (own_of_in X T e q).obj
  refine wpAny_Raise_call_subT (C := C) (nm := nm) (q := q') (N := N) (bs := bs) (bm := tl) (hdct := hdct) (sn := sn) (sub := sub) (ab := ab) (col := col) (dd := dd) (k0 := k0) (k1 := k1) (k2 := k2) (k3 := k3) (k5 := k5)
    FB (mN := mN) (T'.hasType FB.hasBase) hh (by rw [he]; show (false || (backTo cpos (starEach rest (envX cn cs L a ccd cl))).any (·.1)) = false; rw [hplain]; rfl) hni (nameX_K F X T e ⟨rfl, ?_⟩ hk hx hd)
  rw [he] at h ⊢
  exact Calls.evalArgs_plain (wpAny_mono h (fun vs s₂ h₂ => ⟨rfl, h₂.1, h₂.2.1 _ _ hC, hN.keeps h₂.2.1, T'.keeps h₂.2.1, h₂.2.2⟩) fun _ _ y => y)
end
end Mine
end
section
open PySem PySem.W PySem.Spec PySem.Calls PyProof.Rows
namespace Mine
/-- what holds at the ground of all frames -/
structure Bs (w : World) (loose : List Str) (mean : ExcName → Option Value) (mg mb : Str → Option Value) (base : Heap) : Prop where
  X : (Mine.hd.heap_39 w.params).In base
  T : Top topProg loose mean mg mb base
  c1 : CodeHd base 99 95
  c2 : CodeHd base 106 102
  c3 : CodeHd base 192 188
  c4 : CodeHd base 255 251
/-- a call of the function at f: what it gives, what it may raise -/
def Ct (w : World) (f : Addr) (vs : List Value) (d : Nat) (led : List (Addr × Obj)) (R : List (Addr × Obj) → Value → Prop) (X : List (Addr × Obj) → Value → Prop) : Prop :=
  ∀ (loose : List Str) (mean : ExcName → Option Value) (mg mb : Str → Option Value) (dp un : Nat) (gd : Option (List Code)) (cn : Str) (cs : Scope) (a : Addr) (ccd : Value) (cl : List (Str × Addr)) (outer : List Env) (A₀ : Around) (base h₀ : Heap) (L : Addr) (m : Str → Option Value) (s : Shared) (Q E : Value → Shared → Prop),
    Bs w loose mean mg mb base → Below A₀ base outer h₀ → Fr h₀ L s.heap m → News h₀ L s.heap led → cs.kind = .function → dp + d < recursionLimit → un + 8 * d < cLine →
    (∀ v led' h' tk', Fr h₀ L h' m → News h₀ L h' led' → R led' v → Q v { s with heap := h', toks := tk' }) →
    (∀ e cls G led' h' tk', Fr h₀ L G m → RaisedSN base G (envX cn cs L a ccd cl :: outer) e cls led' h' → G.UpToSlots h' → X led' cls → E (.ref e) { s with heap := h', toks := tk' }) →
    wpAny (model PySem.Challenge.rw_jd0021_01.row.prog w) (ktrTop dp un gd cn cs L a ccd cl outer) (call (.ref f) vs) Q E s
theorem Ct.use {w : World} {f : Addr} {vs : List Value} {d : Nat} {led : List (Addr × Obj)} {R : List (Addr × Obj) → Value → Prop} {X : List (Addr × Obj) → Value → Prop} (C : Ct w f vs d led R X)
    {loose : List Str} {mean : ExcName → Option Value} {mg mb : Str → Option Value} {dp un : Nat} {gd : Option (List Code)} {cn : Str} {cs : Scope} {a : Addr} {ccd : Value} {cl : List (Str × Addr)} {outer : List Env} {A₀ : Around} {base h₀ : Heap} {L : Addr} {m : Str → Option Value} {s : Shared} {Q E : Value → Shared → Prop}
    (BS : Bs w loose mean mg mb base) (B : Below A₀ base outer h₀) (F : Fr h₀ L s.heap m) (N : News h₀ L s.heap led) (hk : cs.kind = .function) (hd : dp + d < recursionLimit) (hu : un + 8 * d < cLine)
    (k : ∀ v led' h' tk', Fr h₀ L h' m → News h₀ L h' led' → R led' v → Q v { s with heap := h', toks := tk' })
    (kx : ∀ e cls G led' h' tk', Fr h₀ L G m → RaisedSN base G (envX cn cs L a ccd cl :: outer) e cls led' h' → G.UpToSlots h' → X led' cls → E (.ref e) { s with heap := h', toks := tk' }) :
    wpAny (model PySem.Challenge.rw_jd0021_01.row.prog w) (ktrTop dp un gd cn cs L a ccd cl outer) (call (.ref f) vs) Q E s :=
  C _ _ _ _ _ _ _ _ _ _ _ _ _ _ _ _ _ _ _ _ _ BS B F N hk hd hu k kx
/-- the table of a def that makes one def: empty, or with the code made once -/
def Tb (P : Addr) (ln cl : Int) (qual : Str) (ts : List (Addr × Obj)) : Prop :=
  ts = [(P, tabObj #[])] ∨ ∃ c' oc vs t, ts = [(c', oc), (P, tabObj #[rawInt ln, rawInt cl, .ref c'])] ∧ oc.data = .fields vs ∧ vs[1]? = some (.str qual t) ∧ c' ≠ 95 ∧ c' ≠ 102 ∧ c' ≠ 188 ∧ c' ≠ 251
theorem news_sub {h₀ h : Heap} {L : Addr} {l l' : List (Addr × Obj)} (N : News h₀ L h l) (hs : ∀ p ∈ l', p ∈ l) : News h₀ L h l' := fun p hp => N p (hs p hp)
/-- what the seven-bit groups tell -/
inductive Rd where
  | index
  | many
  | ok (n : Int) (q : Nat)
def scan (ks : List Int) (p : Nat) : Nat → Nat → Int → Rd
  | 0, _, _ => .many
  | r + 1, k, acc => if ks.length ≤ p + k then .index else if ks.getD (p + k) 0 < 128 then .ok (acc + ks.getD (p + k) 0 % 128 * 2 ^ (7 * k)) (p + k + 1) else scan ks p r (k + 1) (acc + ks.getD (p + k) 0 % 128 * 2 ^ (7 * k))
def SInv (ks : List Int) (p : Nat) (r s q : Int) : Prop := ∃ k : Nat, k < 10 ∧ s = 7 * k ∧ q = p + k ∧ 0 ≤ r ∧ r < 2 ^ (7 * k) ∧ scan ks p 10 0 0 = scan ks p (10 - k) k r
end Mine
end
section
open PySem PySem.W PySem.Spec PySem.Calls PyProof.Rows
namespace Mine
theorem p70 {k : Nat} (h : k ≤ 10) : (2 : Int) ^ (7 * k) ≤ 2 ^ 70 := by
  have h1 : (2 : Nat) ^ (7 * k) ≤ 2 ^ 70 := Nat.pow_le_pow_right (by decide) (by omega)
  have h2 : ((2 ^ (7 * k) : Nat) : Int) ≤ ((2 ^ 70 : Nat) : Int) := Int.ofNat_le.mpr h1
  rw [kbt_cast, kbt_cast] at h2
  exact h2
/-- one octet joined -/
theorem join_bounds {k : Nat} {r c : Int} (hk : k < 10) (h0 : 0 ≤ r) (h1 : r < 2 ^ (7 * k)) :
    Builtin.bitOr r (c % 128 * 2 ^ (7 * k)) = r + c % 128 * 2 ^ (7 * k) ∧ 0 ≤ r + c % 128 * 2 ^ (7 * k) ∧ r + c % 128 * 2 ^ (7 * k) < 2 ^ (7 * (k + 1)) := by
  have hp := kbt_pos (7 * k)
  have e : (2 : Int) ^ (7 * (k + 1)) = 128 * 2 ^ (7 * k) := by
    have : 7 * (k + 1) = 7 * k + 7 := by omega
    rw [this, Int.pow_add]
    omega
  have hm0 : 0 ≤ c % 128 := Int.emod_nonneg _ (by decide)
  have hm1 : c % 128 ≤ 127 := by have := Int.emod_lt_of_pos c (by decide : (0 : Int) < 128); omega
  have a0 : 0 ≤ c % 128 * 2 ^ (7 * k) := Int.mul_nonneg hm0 (Int.le_of_lt hp)
  have a1 : c % 128 * 2 ^ (7 * k) ≤ 127 * 2 ^ (7 * k) := Int.mul_le_mul_of_nonneg_right hm1 (Int.le_of_lt hp)
  refine ⟨bor_disj h0 h1, by omega, ?_⟩
  rw [e]
  omega
abbrev SAll (ks : List Int) (p : Nat) (r s q : Int) : Prop := SInv ks p r s q ∧ 0 ≤ q ∧ q ≤ 2000 ∧ 0 ≤ s ∧ s < 70 ∧ 0 ≤ r ∧ r < 2 ^ 70
theorem sall_start {ks : List Int} {p : Int} (h0 : 0 ≤ p) (h1 : p ≤ 1000) : SAll ks p.toNat 0 0 p :=
  ⟨⟨0, by omega, by omega, by omega, by omega, by decide, rfl⟩, by omega, by omega, by omega, by omega, by omega, by decide⟩
theorem sall_more {ks : List Int} {p : Nat} {r s q : Int} (H : SInv ks p r s q) (hl : ks.length ≤ 1000) (hq : q < ks.length) (hc0 : 0 ≤ ks.getD q.toNat 0) (hc : ¬ (ks.getD q.toNat 0 / 128 % 2 * 128 = 0)) (hc1 : ks.getD q.toNat 0 < 256) (hs : ¬ (64 ≤ s + 7)) :
    SAll ks p (Builtin.bitOr r (ks.getD q.toNat 0 % 128 * 2 ^ s.toNat)) (s + 7) (q + 1) := by
  obtain ⟨k, hk, rfl, rfl, h0, h1, e⟩ := H
  have es : ((7 : Int) * (k : Int)).toNat = 7 * k := by omega
  have eq : ((p : Int) + (k : Int)).toNat = p + k := by omega
  rw [eq] at hc0 hc hc1
  rw [es, eq]
  obtain ⟨j1, j2, j3⟩ := join_bounds (c := ks.getD (p + k) 0) hk h0 h1
  rw [j1]
  have h70 := p70 (k := k + 1) (by omega)
  refine ⟨⟨k + 1, by omega, by omega, by omega, j2, j3, ?_⟩, by omega, by omega, by omega, by omega, j2, by omega⟩
  rw [e]
  have e2 : 10 - k = (10 - (k + 1)) + 1 := by omega
  rw [e2, scan, if_neg (by omega), if_neg (by omega)]
theorem scan_done {ks : List Int} {p : Nat} {r s q : Int} (H : SInv ks p r s q) (hq : q < ks.length) (hc0 : 0 ≤ ks.getD q.toNat 0) (hc1 : ks.getD q.toNat 0 < 256) (hc : ks.getD q.toNat 0 / 128 % 2 * 128 = 0) :
    scan ks p 10 0 0 = .ok (Builtin.bitOr r (ks.getD q.toNat 0 % 128 * 2 ^ s.toNat)) (q + 1).toNat ∧ 0 ≤ Builtin.bitOr r (ks.getD q.toNat 0 % 128 * 2 ^ s.toNat) := by
  obtain ⟨k, hk, rfl, rfl, h0, h1, e⟩ := H
  have es : ((7 : Int) * (k : Int)).toNat = 7 * k := by omega
  have eq : ((p : Int) + (k : Int)).toNat = p + k := by omega
  have eq1 : ((p : Int) + (k : Int) + 1).toNat = p + k + 1 := by omega
  rw [eq] at hc0 hc hc1
  rw [es, eq1, eq]
  obtain ⟨j1, j2, j3⟩ := join_bounds (c := ks.getD (p + k) 0) hk h0 h1
  rw [j1]
  refine ⟨?_, j2⟩
  rw [e]
  have e2 : 10 - k = (10 - (k + 1)) + 1 := by omega
  rw [e2, scan, if_neg (by omega), if_pos (by omega)]
theorem scan_many {ks : List Int} {p : Nat} {r s q : Int} (H : SInv ks p r s q) (hq : q < ks.length) (hc0 : 0 ≤ ks.getD q.toNat 0) (hc : ¬ (ks.getD q.toNat 0 / 128 % 2 * 128 = 0)) (hc1 : ks.getD q.toNat 0 < 256) (hs : 64 ≤ s + 7) :
    scan ks p 10 0 0 = .many := by
  obtain ⟨k, hk, rfl, rfl, h0, h1, e⟩ := H
  have eq : ((p : Int) + (k : Int)).toNat = p + k := by omega
  rw [eq] at hc0 hc hc1
  rw [e]
  have e2 : 10 - k = 0 + 1 := by omega
  rw [e2, scan, if_neg (by omega), if_neg (by omega), scan]
theorem scan_index {ks : List Int} {p : Nat} {r s q : Int} (H : SInv ks p r s q) (hq : ks.length ≤ q) : scan ks p 10 0 0 = .index := by
  obtain ⟨k, hk, rfl, rfl, h0, h1, e⟩ := H
  rw [e]
  have e2 : 10 - k = (10 - (k + 1)) + 1 := by omega
  rw [e2, scan, if_pos (by omega)]
abbrev tupObj (vs : List Value) : Obj := { cls := .type "tuple", data := .seq vs.toArray }
/-- what a reader gives: the tuple on the ledger, the table filled -/
def RdR (P : Addr) (ln cl : Int) (qual : Str) (led : List (Addr × Obj)) (ks : List Int) (p : Nat) (fix : Int → Int) (led' : List (Addr × Obj)) (v : Value) : Prop :=
  ∃ ts a n q t1 t2, Tb P ln cl qual ts ∧ scan ks p 10 0 0 = .ok n q ∧ 0 ≤ n ∧ v = .ref a ∧ led' = (a, tupObj [.int (fix n) t1, .int (q : Int) t2]) :: (ts ++ led) ∧ (∀ x ∈ ts ++ led, x.1 < a)
def RdX (P : Addr) (ln cl : Int) (qual : Str) (led : List (Addr × Obj)) (ks : List Int) (p : Nat) (led' : List (Addr × Obj)) (cls : Value) : Prop :=
  ∃ ts, Tb P ln cl qual ts ∧ led' = ts ++ led ∧ ((scan ks p 10 0 0 = .index ∧ cls = .type "IndexError") ∨ (scan ks p 10 0 0 = .many ∧ cls = .ref 37))
theorem tb_new {P : Addr} {ln cl : Nat} {qual : Str} {c' : Addr} {oc : Obj} {vs : Array Value} {t : Tok} (h1 : oc.data = .fields vs) (h2 : vs[1]? = some (.str qual t)) (h3 : c' ≠ 95 ∧ c' ≠ 102 ∧ c' ≠ 188 ∧ c' ≠ 251) :
    Tb P ln cl qual [(c', oc), (P, tabObj (#[] ++ #[rawInt (ln : Int), rawInt (cl : Int), .ref c']))] :=
  .inr ⟨c', oc, vs, t, by rw [Array.empty_append], h1, h2, h3.1, h3.2.1, h3.2.2.1, h3.2.2.2⟩
theorem allLt_mem {d : Addr} : ∀ {l : List (Addr × Obj)}, AllLt d l → ∀ p ∈ l, p.1 < d := fun {_} h p hp => kst_ltOf h p hp
theorem allLt_ne {c P : Addr} {l : List (Addr × Obj)} (h : AllLt c l) (hm : ∃ o, (P, o) ∈ l) : c ≠ P := fun e => by
  obtain ⟨o, ho⟩ := hm
  exact absurd (kst_ltOf h _ ho) (by rw [e]; exact Nat.lt_irrefl _)
end Mine
end
section
open PySem PySem.W PySem.Spec PySem.Calls PyProof.Rows
namespace Mine
def Four (P : Addr) (led : List (Addr × Obj)) : Prop := ∀ P' ∈ ([95, 102, 188, 251] : List Addr), P' = P ∨ ∃ o, (P', o) ∈ led
theorem four_ne {P c' : Addr} {led : List (Addr × Obj)} (hT : Four P led) (h1 : P < c') (h2 : AllLt c' led) : c' ≠ 95 ∧ c' ≠ 102 ∧ c' ≠ 188 ∧ c' ≠ 251 := by
  have one : ∀ P' ∈ ([95, 102, 188, 251] : List Addr), c' ≠ P' := fun P' hP => by
    rcases hT P' hP with h | h
    · rw [h]; exact Nat.ne_of_gt h1
    · exact allLt_ne h2 h
  exact ⟨one _ (by simp), one _ (by simp), one _ (by simp), one _ (by simp)⟩
section
variable {P : Addr} {ln cl : Nat} {qual : Str} {led : List (Addr × Obj)} {ks : List Int} {p : Nat} {fix : Int → Int} {h₀ h' : Heap} {L : Addr} {m : Str → Option Value} {s : Shared} {Q E : Value → Shared → Prop} {tk' : Nat}
  {D c' f Lc : Addr} {r n q : Int} {t1 t2 t : Tok} {x1 o3 oc : Obj} {vs : Array Value}
theorem rd_ret (hret : ∀ v led' h' tk', Fr h₀ L h' m → News h₀ L h' led' → RdR P ln cl qual led ks p fix led' v → Q v { s with heap := h', toks := tk' })
    (kF : Fr h₀ L h' m) (kN : News h₀ L h' ((D, tupObj [.int r t1, .int q t2]) :: (f, x1) :: (c', oc) :: (Lc, o3) :: (P, tabObj (#[] ++ #[rawInt (ln : Int), rawInt (cl : Int), .ref c'])) :: led))
    (h1 : oc.data = .fields vs) (h2 : vs[1]? = some (.str qual t)) (hT : Four P led) (l1 : Lc < c' ∧ P < c' ∧ AllLt c' led) (l2 : f < D ∧ c' < D ∧ Lc < D ∧ P < D ∧ AllLt D led)
    (hs : scan ks p 10 0 0 = .ok n q.toNat ∧ 0 ≤ n) (hq : 0 ≤ q) (hr : r = fix n) : Q (.ref D) { s with heap := h', toks := tk' } := by
  refine hret _ ((D, tupObj [.int r t1, .int q t2]) :: ([(c', oc), (P, tabObj (#[] ++ #[rawInt (ln : Int), rawInt (cl : Int), .ref c']))] ++ led)) _ _ kF (news_sub kN ?_)
    ⟨_, D, n, q.toNat, t1, t2, tb_new h1 h2 (four_ne hT l1.2.1 l1.2.2), hs.1, hs.2, rfl, ?_, ?_⟩
  · intro x hx
    simp only [List.cons_append, List.nil_append] at hx
    rcases List.mem_cons.mp hx with e | hx
    · exact e ▸ .head _
    rcases List.mem_cons.mp hx with e | hx
    · exact e ▸ .tail _ (.tail _ (.head _))
    rcases List.mem_cons.mp hx with e | hx
    · exact e ▸ .tail _ (.tail _ (.tail _ (.tail _ (.head _))))
    · exact .tail _ (.tail _ (.tail _ (.tail _ (.tail _ hx))))
  · rw [hr, Int.toNat_of_nonneg hq]
  · intro x hx
    simp only [List.cons_append, List.nil_append] at hx
    rcases List.mem_cons.mp hx with e | hx
    · subst e; exact l2.2.1
    rcases List.mem_cons.mp hx with e | hx
    · subst e; exact l2.2.2.2.1
    · exact kst_ltOf l2.2.2.2.2 _ hx
theorem rd_exc {G base : Heap} {cn : Str} {cs : Scope} {a : Addr} {ccd : Value} {cl' : List (Str × Addr)} {outer : List Env} {e : Addr} {cls : Value}
    (hX : ∀ e cls G led' h' tk', Fr h₀ L G m → RaisedSN base G (envX cn cs L a ccd cl' :: outer) e cls led' h' → G.UpToSlots h' → RdX P ln cl qual led ks p led' cls → E (.ref e) { s with heap := h', toks := tk' })
    (kF : Fr h₀ L G m) (R : RaisedSN base G (envX cn cs L a ccd cl' :: outer) e cls ((f, x1) :: (c', oc) :: (Lc, o3) :: (P, tabObj (#[] ++ #[rawInt (ln : Int), rawInt (cl : Int), .ref c'])) :: led) h') (U : G.UpToSlots h')
    (h1 : oc.data = .fields vs) (h2 : vs[1]? = some (.str qual t)) (hT : Four P led) (l1 : Lc < c' ∧ P < c' ∧ AllLt c' led)
    (hs : (scan ks p 10 0 0 = .index ∧ cls = .type "IndexError") ∨ (scan ks p 10 0 0 = .many ∧ cls = .ref 37)) : E (.ref e) { s with heap := h', toks := tk' } := by
  refine hX e cls G ([(c', oc), (P, tabObj (#[] ++ #[rawInt (ln : Int), rawInt (cl : Int), .ref c']))] ++ led) h' tk' kF (raisedSN_sub R ?_) U ⟨_, tb_new h1 h2 (four_ne hT l1.2.1 l1.2.2), rfl, hs⟩
  intro x hx
  simp only [List.cons_append, List.nil_append] at hx
  rcases List.mem_cons.mp hx with e | hx
  · exact e ▸ .tail _ (.head _)
  rcases List.mem_cons.mp hx with e | hx
  · exact e ▸ .tail _ (.tail _ (.tail _ (.head _)))
  · exact .tail _ (.tail _ (.tail _ (.tail _ hx)))
end
def qV : Str := Str.ofString "_VarintDecoder.<locals>.DecodeVarint"
def qS : Str := Str.ofString "_SignedVarintDecoder.<locals>.DecodeVarint"
end Mine
end
section
open PySem PySem.W PySem.Spec PySem.Calls PyProof.Rows
namespace Mine
def fU64 (n : Int) : Int := n % 18446744073709551616
def fU32 (n : Int) : Int := n % 4294967296
def fS64 (n : Int) : Int := if 9223372036854775808 ≤ n % 18446744073709551616 then n % 18446744073709551616 - 18446744073709551616 else n % 18446744073709551616
def fS32 (n : Int) : Int := if 2147483648 ≤ n % 4294967296 then n % 4294967296 - 4294967296 else n % 4294967296
theorem sgn64 (n : Int) : Builtin.bitXor (n % 18446744073709551616) (1 * 2 ^ ((64 : Int) - 1).toNat) - 1 * 2 ^ ((64 : Int) - 1).toNat = fS64 n := by
  have e : (1 : Int) * 2 ^ ((64 : Int) - 1).toNat = 2 ^ 63 := rfl
  rw [e]
  have h := bxor_sign 63 (x := n % 18446744073709551616) (Int.emod_nonneg _ (by decide)) (Int.emod_lt_of_pos _ (by decide))
  rw [h]
  rfl
theorem sgn32 (n : Int) : Builtin.bitXor (n % 4294967296) (1 * 2 ^ ((32 : Int) - 1).toNat) - 1 * 2 ^ ((32 : Int) - 1).toNat = fS32 n := by
  have e : (1 : Int) * 2 ^ ((32 : Int) - 1).toNat = 2 ^ 31 := rfl
  rw [e]
  have h := bxor_sign 31 (x := n % 4294967296) (Int.emod_nonneg _ (by decide)) (Int.emod_lt_of_pos _ (by decide))
  rw [h]
  rfl
def StopP (P : Prop) : Prop := P
theorem stop_in {P : Prop} (h : StopP P) : P := h
theorem stop_out {P : Prop} (h : P) : StopP P := h
structure Mk1 : Prop where
  mk :: (one : True)
theorem mk1 : Mk1 := ⟨trivial⟩
theorem allLt_succ {d : Addr} : ∀ {l : List (Addr × Obj)}, AllLt d l → AllLt (d + 1) l
  | [], _ => trivial
  | p :: _, h => ⟨Nat.lt_succ_of_lt h.1, allLt_succ h.2⟩
theorem allLt_app {d : Addr} : ∀ {l l' : List (Addr × Obj)}, AllLt d l → AllLt d l' → AllLt d (l ++ l')
  | [], _, _, h => h
  | _ :: _, _, h, h' => ⟨h.1, allLt_app h.2 h'⟩
theorem codeAmong_one {pos : Pos} {c : Value} : codeAmong pos (#[rawInt (pos.line : Int), rawInt (pos.col : Int), c] : Array Value).toList = some c := by
  simp [codeAmong, rawInt]
theorem triples_one {a b : Int} {c : Value} : TriplesOk (#[rawInt a, rawInt b, c] : Array Value).toList := by
  simp [TriplesOk, rawInt]
section
variable {M : Model} {A : Around} {E : Value → Shared → Prop} {s : Shared} {h₀ : Heap} {L a c P : Addr} {m mg mb : Str → Option Value} {cn : Str} {cs : Scope} {ccd : Value} {cl : List (Str × Addr)} {mid rest ts led : List (Addr × Obj)}
  {p : Program} {loose : List Str} {mean : ExcName → Option Value} {name qual : Str} {params : Arguments} {scope : Scope} {pos : Pos} {firstLine : Nat} {clos : List (Str × Addr)}
/-- a def made in a def: the table filled before or now -/
theorem nestB {body : List Stmt} {Q : Value → Shared → Prop} (F : Fr h₀ L s.heap m) (N : News h₀ L s.heap (mid ++ (ts ++ led))) (T : Top p loose mean mg mb h₀) (C : CodeHd h₀ c P) (hcd : ccd = .ref c)
    (hTb : Tb P pos.line pos.col qual ts) (ho1 : ∀ x ∈ mid, x.1 ≠ P) (ho2 : ∀ x ∈ led, x.1 ≠ P) (hT : Four P led)
    (hcl : closureFor scope (envX cn cs L a ccd cl) = pure clos)
    (h : ∀ f c' oc vs t ctv doc h' tk, Fr h₀ L h' m →
      News h₀ L h' ((f, fnMade name qual params body scope clos doc ((mg "__name__").getD .none) c' ctv) :: (mid ++ (c', oc) :: (P, tabObj #[rawInt pos.line, rawInt pos.col, .ref c']) :: led)) →
      oc.data = .fields vs → vs[1]? = some (.str qual t) → (c' ≠ 95 ∧ c' ≠ 102 ∧ c' ≠ 188 ∧ c' ≠ 251) → (∀ x ∈ mid ++ (c', oc) :: (P, tabObj #[rawInt pos.line, rawInt pos.col, .ref c']) :: led, x.1 < f) → Q (.ref f) { s with heap := h', toks := tk }) :
    wpAny M A (makeFunction name qual params (.stmts body) scope (envX cn cs L a ccd cl) [] [] [] pos firstLine) Q E s := by
  rcases hTb with rfl | ⟨c', oc, vs, t, rfl, e1, e2, n1, n2, n3, n4⟩
  · have N' : News h₀ L s.heap ((P, tabObj #[]) :: (mid ++ led)) := news_sub N fun x hx => by
      rcases List.mem_cons.mp hx with e | hx
      · exact e ▸ List.mem_append_right _ (.head _)
      rcases List.mem_append.mp hx with hx | hx
      · exact List.mem_append_left _ hx
      · exact List.mem_append_right _ (.tail _ hx)
    refine nest_K F N' T C hcd (.head fun x hx => (List.mem_append.mp hx).elim (ho1 x) (ho2 x)) trivial rfl hcl fun f c' oc vs t ctv doc h' tk F' N'' d1 d2 l1 l2 => ?_
    have hlt : ∀ x ∈ mid ++ (c', oc) :: (P, tabObj #[rawInt pos.line, rawInt pos.col, .ref c']) :: led, x.1 < f := fun x hx => by
      rcases List.mem_append.mp hx with hx | hx
      · exact Nat.lt_trans (l1 x (.tail _ (List.mem_append_left _ hx))) l2
      rcases List.mem_cons.mp hx with e | hx
      · subst e; exact l2
      rcases List.mem_cons.mp hx with e | hx
      · subst e; exact Nat.lt_trans (show P < c' from l1 (P, tabObj #[]) (.head _)) l2
      · exact Nat.lt_trans (l1 x (.tail _ (List.mem_append_right _ hx))) l2
    refine h f c' oc vs t ctv doc h' tk F' (news_sub N'' fun x hx => ?_) d1 d2 (four_ne hT (show P < c' from l1 (P, tabObj #[]) (.head _)) (allLt_of fun x hx => l1 x (.tail _ (List.mem_append_right _ hx)))) hlt
    rw [Array.empty_append]
    rcases List.mem_cons.mp hx with e | hx
    · exact e ▸ .head _
    rcases List.mem_append.mp hx with hx | hx
    · exact .tail _ (.tail _ (.tail _ (List.mem_append_left _ hx)))
    rcases List.mem_cons.mp hx with e | hx
    · exact e ▸ .tail _ (.head _)
    rcases List.mem_cons.mp hx with e | hx
    · exact e ▸ .tail _ (.tail _ (.head _))
    · exact .tail _ (.tail _ (.tail _ (List.mem_append_right _ hx)))
  · refine nestHit_K F N T C hcd (List.mem_append_right _ (.tail _ (.head _))) triples_one codeAmong_one hcl fun f ctv doc h' tk F' N'' l => ?_
    exact h f c' oc vs t ctv doc h' tk F' N'' e1 e2 ⟨n1, n2, n3, n4⟩ l
/-- a lambda made in a def: likewise -/
theorem lamB {body : Expr} {Q : Value → Shared → Prop} (F : Fr h₀ L s.heap m) (N : News h₀ L s.heap (mid ++ (ts ++ led))) (T : Top p loose mean mg mb h₀) (C : CodeHd h₀ c P) (hcd : ccd = .ref c)
    (hTb : Tb P pos.line pos.col qual ts) (ho1 : ∀ x ∈ mid, x.1 ≠ P) (ho2 : ∀ x ∈ led, x.1 ≠ P) (hT : Four P led)
    (hcl : closureFor scope (envX cn cs L a ccd cl) = pure clos)
    (h : ∀ f c' oc vs t ctv h' tk, Fr h₀ L h' m →
      News h₀ L h' ((f, kla_obj name qual params body scope clos ((mg "__name__").getD .none) c' ctv) :: (mid ++ (c', oc) :: (P, tabObj #[rawInt pos.line, rawInt pos.col, .ref c']) :: led)) →
      oc.data = .fields vs → vs[1]? = some (.str qual t) → (c' ≠ 95 ∧ c' ≠ 102 ∧ c' ≠ 188 ∧ c' ≠ 251) → (∀ x ∈ mid ++ (c', oc) :: (P, tabObj #[rawInt pos.line, rawInt pos.col, .ref c']) :: led, x.1 < f) → Q (.ref f) { s with heap := h', toks := tk }) :
    wpAny M A (makeFunction name qual params (.expr body) scope (envX cn cs L a ccd cl) [] [] [] pos firstLine) Q E s := by
  rcases hTb with rfl | ⟨c', oc, vs, t, rfl, e1, e2, n1, n2, n3, n4⟩
  · have N' : News h₀ L s.heap ((P, tabObj #[]) :: (mid ++ led)) := news_sub N fun x hx => by
      rcases List.mem_cons.mp hx with e | hx
      · exact e ▸ List.mem_append_right _ (.head _)
      rcases List.mem_append.mp hx with hx | hx
      · exact List.mem_append_left _ hx
      · exact List.mem_append_right _ (.tail _ hx)
    refine kla_nest F N' T C hcd (.head fun x hx => (List.mem_append.mp hx).elim (ho1 x) (ho2 x)) trivial rfl hcl fun f c' oc vs t ctv h' tk F' N'' d1 d2 l1 l2 => ?_
    have hlt : ∀ x ∈ mid ++ (c', oc) :: (P, tabObj #[rawInt pos.line, rawInt pos.col, .ref c']) :: led, x.1 < f := fun x hx => by
      rcases List.mem_append.mp hx with hx | hx
      · exact Nat.lt_trans (l1 x (.tail _ (List.mem_append_left _ hx))) l2
      rcases List.mem_cons.mp hx with e | hx
      · subst e; exact l2
      rcases List.mem_cons.mp hx with e | hx
      · subst e; exact Nat.lt_trans (show P < c' from l1 (P, tabObj #[]) (.head _)) l2
      · exact Nat.lt_trans (l1 x (.tail _ (List.mem_append_right _ hx))) l2
    refine h f c' oc vs t ctv h' tk F' (news_sub N'' fun x hx => ?_) d1 d2 (four_ne hT (show P < c' from l1 (P, tabObj #[]) (.head _)) (allLt_of fun x hx => l1 x (.tail _ (List.mem_append_right _ hx)))) hlt
    rw [Array.empty_append]
    rcases List.mem_cons.mp hx with e | hx
    · exact e ▸ .head _
    rcases List.mem_append.mp hx with hx | hx
    · exact .tail _ (.tail _ (.tail _ (List.mem_append_left _ hx)))
    rcases List.mem_cons.mp hx with e | hx
    · exact e ▸ .tail _ (.head _)
    rcases List.mem_cons.mp hx with e | hx
    · exact e ▸ .tail _ (.tail _ (.head _))
    · exact .tail _ (.tail _ (.tail _ (List.mem_append_right _ hx)))
  · refine kla_hit F N T C hcd (List.mem_append_right _ (.tail _ (.head _))) triples_one codeAmong_one hcl fun f ctv h' tk F' N'' l => ?_
    exact h f c' oc vs t ctv h' tk F' N'' e1 e2 ⟨n1, n2, n3, n4⟩ l
end
section
variable {P : Addr} {ln cl : Nat} {qual : Str} {led l : List (Addr × Obj)} {ks : List Int} {p : Nat} {fix : Int → Int} {h₀ h' : Heap} {L : Addr} {m : Str → Option Value} {s : Shared} {Q E : Value → Shared → Prop} {tk' : Nat}
  {D c' : Addr} {r n q : Int} {t1 t2 t : Tok} {oc : Obj} {vs : Array Value}
theorem tb_here (h1 : oc.data = .fields vs) (h2 : vs[1]? = some (.str qual t)) (h3 : c' ≠ 95 ∧ c' ≠ 102 ∧ c' ≠ 188 ∧ c' ≠ 251) :
    Tb P ln cl qual [(c', oc), (P, tabObj #[rawInt (ln : Int), rawInt (cl : Int), .ref c'])] := .inr ⟨c', oc, vs, t, rfl, h1, h2, h3.1, h3.2.1, h3.2.2.1, h3.2.2.2⟩
theorem rd_retG (hret : ∀ v led' h' tk', Fr h₀ L h' m → News h₀ L h' led' → RdR P ln cl qual led ks p fix led' v → Q v { s with heap := h', toks := tk' })
    (kF : Fr h₀ L h' m) (kN : News h₀ L h' l) (h1 : oc.data = .fields vs) (h2 : vs[1]? = some (.str qual t)) (h3 : c' ≠ 95 ∧ c' ≠ 102 ∧ c' ≠ 188 ∧ c' ≠ 251)
    (hD : (D, tupObj [.int r t1, .int q t2]) ∈ l) (hc : (c', oc) ∈ l) (hP : (P, tabObj #[rawInt (ln : Int), rawInt (cl : Int), .ref c']) ∈ l) (hl : ∀ x ∈ led, x ∈ l)
    (l1 : @LT.lt Nat _ c' D) (l2 : @LT.lt Nat _ P D) (l3 : AllLt D led)
    (hs : scan ks p 10 0 0 = .ok n q.toNat ∧ 0 ≤ n) (hq : 0 ≤ q) (hr : r = fix n) : Q (.ref D) { s with heap := h', toks := tk' } := by
  refine hret _ ((D, tupObj [.int r t1, .int q t2]) :: ([(c', oc), (P, tabObj #[rawInt (ln : Int), rawInt (cl : Int), .ref c'])] ++ led)) _ _ kF (news_sub kN ?_)
    ⟨_, D, n, q.toNat, t1, t2, tb_here h1 h2 h3, hs.1, hs.2, rfl, ?_, ?_⟩
  · intro x hx
    simp only [List.cons_append, List.nil_append] at hx
    rcases List.mem_cons.mp hx with e | hx
    · exact e ▸ hD
    rcases List.mem_cons.mp hx with e | hx
    · exact e ▸ hc
    rcases List.mem_cons.mp hx with e | hx
    · exact e ▸ hP
    · exact hl x hx
  · rw [hr, Int.toNat_of_nonneg hq]
  · intro x hx
    simp only [List.cons_append, List.nil_append] at hx
    rcases List.mem_cons.mp hx with e | hx
    · subst e; exact l1
    rcases List.mem_cons.mp hx with e | hx
    · subst e; exact l2
    · exact kst_ltOf l3 _ hx
theorem rd_excG {G base : Heap} {cn : Str} {cs : Scope} {a : Addr} {ccd : Value} {cl' : List (Str × Addr)} {outer : List Env} {e : Addr} {cls : Value}
    (hX : ∀ e cls G led' h' tk', Fr h₀ L G m → RaisedSN base G (envX cn cs L a ccd cl' :: outer) e cls led' h' → G.UpToSlots h' → RdX P ln cl qual led ks p led' cls → E (.ref e) { s with heap := h', toks := tk' })
    (kF : Fr h₀ L G m) (R : RaisedSN base G (envX cn cs L a ccd cl' :: outer) e cls l h') (U : G.UpToSlots h')
    (h1 : oc.data = .fields vs) (h2 : vs[1]? = some (.str qual t)) (h3 : c' ≠ 95 ∧ c' ≠ 102 ∧ c' ≠ 188 ∧ c' ≠ 251)
    (hc : (c', oc) ∈ l) (hP : (P, tabObj #[rawInt (ln : Int), rawInt (cl : Int), .ref c']) ∈ l) (hl : ∀ x ∈ led, x ∈ l)
    (hs : (scan ks p 10 0 0 = .index ∧ cls = .type "IndexError") ∨ (scan ks p 10 0 0 = .many ∧ cls = .ref 37)) : E (.ref e) { s with heap := h', toks := tk' } := by
  refine hX e cls G ([(c', oc), (P, tabObj #[rawInt (ln : Int), rawInt (cl : Int), .ref c'])] ++ led) h' tk' kF (raisedSN_sub R ?_) U ⟨_, tb_here h1 h2 h3, rfl, hs⟩
  intro x hx
  simp only [List.cons_append, List.nil_append] at hx
  rcases List.mem_cons.mp hx with e | hx
  · exact e ▸ hc
  rcases List.mem_cons.mp hx with e | hx
  · exact e ▸ hP
  · exact hl x hx
end
end Mine
end
section
open PySem PySem.W PySem.Spec PySem.Calls PyProof.Rows
namespace Mine
def tgo (ks : List Int) : Nat → Nat → Option Nat
  | 0, _ => none
  | n + 1, p => if ks.length ≤ p then none else if ks.getD p 0 < 128 then some p else tgo ks n (p + 1)
/-- the place of the first octet from p on whose highest bit is clear -/
def tagEnd (ks : List Int) (p : Nat) : Option Nat := tgo ks (ks.length + 1 - p) p
theorem tagEnd_out {ks : List Int} {p : Nat} (h : ks.length ≤ p) : tagEnd ks p = none := by
  unfold tagEnd
  cases e : ks.length + 1 - p with
  | zero => rfl
  | succ n => rw [tgo, if_pos h]
theorem tagEnd_hit {ks : List Int} {p : Nat} (h : p < ks.length) (hc : ks.getD p 0 < 128) : tagEnd ks p = some p := by
  unfold tagEnd
  have e : ks.length + 1 - p = (ks.length - p) + 1 := by omega
  rw [e, tgo, if_neg (by omega), if_pos hc]
theorem tagEnd_on {ks : List Int} {p : Nat} (h : p < ks.length) (hc : ¬ ks.getD p 0 < 128) : tagEnd ks p = tagEnd ks (p + 1) := by
  have e : ks.length + 1 - p = (ks.length + 1 - (p + 1)) + 1 := by omega
  unfold tagEnd
  rw [e, tgo, if_neg (by omega), if_neg hc]
def TagR (ks : List Int) (p : Nat) (led led' : List (Addr × Obj)) (v : Value) : Prop :=
  ∃ a b n t1 t2, tagEnd ks p = some n ∧ v = .ref a ∧ KBw.bInts b = (ks.drop p).take (n + 1 - p) ∧ led' = (a, tupObj [.bytes b t1, .int ((n + 1 : Nat) : Int) t2]) :: led ∧ (∀ x ∈ led, x.1 < a)
def TagX (ks : List Int) (p : Nat) (led led' : List (Addr × Obj)) (cls : Value) : Prop := led' = led ∧ tagEnd ks p = none ∧ cls = .type "IndexError"
theorem tb_has {P : Addr} {ln cl : Int} {qual : Str} {ts : List (Addr × Obj)} (h : Tb P ln cl qual ts) : ∃ o, (P, o) ∈ ts := by
  rcases h with rfl | ⟨c', oc, vs, t, rfl, _⟩
  · exact ⟨_, .head _⟩
  · exact ⟨_, .tail _ (.head _)⟩
theorem tb_off {P P' : Addr} {ln cl : Int} {qual : Str} {ts : List (Addr × Obj)} (h : Tb P ln cl qual ts) (hne : P ≠ P') (hm : P' = 95 ∨ P' = 102 ∨ P' = 188 ∨ P' = 251) : ∀ x ∈ ts, x.1 ≠ P' := by
  rcases h with rfl | ⟨c', oc, vs, t, rfl, _, _, n1, n2, n3, n4⟩
  · intro x hx
    rcases List.mem_cons.mp hx with rfl | hx
    · exact hne
    · cases hx
  · intro x hx
    rcases List.mem_cons.mp hx with rfl | hx
    · rcases hm with e | e | e | e <;> (rw [e]; assumption)
    rcases List.mem_cons.mp hx with rfl | hx
    · exact hne
    · cases hx
theorem off_app {l l' : List (Addr × Obj)} {P : Addr} (h : ∀ x ∈ l, x.1 ≠ P) (h' : ∀ x ∈ l', x.1 ≠ P) : ∀ x ∈ l ++ l', x.1 ≠ P := fun x hx => (List.mem_append.mp hx).elim (h x) (h' x)
theorem has_l {l l' : List (Addr × Obj)} {P : Addr} (h : ∃ o, (P, o) ∈ l) : ∃ o, (P, o) ∈ l ++ l' := let ⟨o, ho⟩ := h; ⟨o, List.mem_append_left _ ho⟩
theorem has_r {l l' : List (Addr × Obj)} {P : Addr} (h : ∃ o, (P, o) ∈ l') : ∃ o, (P, o) ∈ l ++ l' := let ⟨o, ho⟩ := h; ⟨o, List.mem_append_right _ ho⟩
theorem four_of {P : Addr} {led : List (Addr × Obj)} (h1 : 95 = P ∨ ∃ o, ((95 : Addr), o) ∈ led) (h2 : 102 = P ∨ ∃ o, ((102 : Addr), o) ∈ led) (h3 : 188 = P ∨ ∃ o, ((188 : Addr), o) ∈ led) (h4 : 251 = P ∨ ∃ o, ((251 : Addr), o) ∈ led) : Four P led := by
  intro P' hP
  simp only [List.mem_cons, List.not_mem_nil, or_false] at hP
  rcases hP with rfl | rfl | rfl | rfl <;> assumption
theorem bInts_inj {b c : Array UInt8} (h : KBw.bInts b = KBw.bInts c) : b = c := by
  have h2 : b.toList.map (fun c => (c.toNat : Int)) = c.toList.map (fun c => (c.toNat : Int)) := h
  have inj : ∀ l l' : List UInt8, l.map (fun c => (c.toNat : Int)) = l'.map (fun c => (c.toNat : Int)) → l = l' := by
    intro l
    induction l with
    | nil => intro l' e; cases l' with | nil => rfl | cons _ _ => cases e
    | cons x r ih =>
      intro l' e
      cases l' with
      | nil => cases e
      | cons y r' =>
        injection e with e1 e2
        have e3 : (x.toNat : Int) = (y.toNat : Int) := e1
        rw [ih r' e2, UInt8.toNat_inj.mp (by omega : x.toNat = y.toNat)]
  exact Array.toList_inj.mp (inj _ _ h2)
end Mine
end
section
open PySem PySem.W PySem.Spec PySem.Calls PyProof.Rows
namespace Mine
theorem clip_cut {ks : List Int} {p q : Int} (h0 : 0 ≤ p) (h1 : p ≤ q) (h2 : q < ks.length) :
    List.take (clipAt ks.length (q + 1) - clipAt ks.length p) (List.drop (clipAt ks.length p) ks) = (ks.drop p.toNat).take (q.toNat + 1 - p.toNat) := by
  obtain ⟨a, rfl⟩ : ∃ a : Nat, p = a := ⟨p.toNat, by omega⟩
  obtain ⟨c, rfl⟩ : ∃ c : Nat, q = c := ⟨q.toNat, by omega⟩
  have e1 : ((c : Int) + 1) = ((c + 1 : Nat) : Int) := by omega
  rw [e1, clipAt_nat, clipAt_nat, Nat.min_eq_left (by omega), Nat.min_eq_left (by omega)]
  rfl
section
variable {led : List (Addr × Obj)} {ks : List Int} {h₀ h' : Heap} {L : Addr} {m : Str → Option Value} {s : Shared} {Q E : Value → Shared → Prop} {tk' : Nat} {D : Addr} {p q r : Int} {t1 t2 : Tok} {b' : Array UInt8}
theorem tag_ret (hret : ∀ v led' h' tk', Fr h₀ L h' m → News h₀ L h' led' → TagR ks p.toNat led led' v → Q v { s with heap := h', toks := tk' })
    (kF : Fr h₀ L h' m) (kN : News h₀ L h' ((D, tupObj [.bytes b' t1, .int r t2]) :: led)) (l1 : ∀ x ∈ led, x.1 < D) (e : tagEnd ks p.toNat = tagEnd ks q.toNat) (h0 : 0 ≤ p) (h1 : p ≤ q) (hq : q < ks.length)
    (hc0 : 0 ≤ ks.getD q.toNat 0) (hc1 : ks.getD q.toNat 0 < 256) (hc : ks.getD q.toNat 0 / 128 % 2 * 128 = 0)
    (hk : KBw.bInts b' = List.take (clipAt ks.length (q + 1) - clipAt ks.length p) (List.drop (clipAt ks.length p) ks)) (hr : r = q + 1) : Q (.ref D) { s with heap := h', toks := tk' } := by
  refine hret _ _ _ _ kF kN ⟨D, b', q.toNat, t1, t2, ?_, rfl, by rw [hk, clip_cut h0 h1 hq], ?_, l1⟩
  · rw [e, tagEnd_hit (by omega) (by omega)]
  · have e2 : ((q.toNat + 1 : Nat) : Int) = r := by omega
    rw [e2]
theorem tag_more {ks : List Int} {p q : Int} (hp : 0 ≤ p) (hl : ks.length ≤ 1000) (h1 : p ≤ q) (e : tagEnd ks p.toNat = tagEnd ks q.toNat) (hq : q < ks.length) (hc0 : 0 ≤ ks.getD q.toNat 0) (hc1 : ks.getD q.toNat 0 < 256) (hc : ks.getD q.toNat 0 / 128 % 2 * 128 ≠ 0) :
    p ≤ q + 1 ∧ q + 1 ≤ 2000 ∧ tagEnd ks p.toNat = tagEnd ks (q + 1).toNat := by
  refine ⟨by omega, by omega, ?_⟩
  have e2 : (q + 1).toNat = q.toNat + 1 := by omega
  rw [e, e2, tagEnd_on (by omega) (by omega)]
end
end Mine
end
section
open PySem PySem.W PySem.Spec PySem.Calls PyProof.Rows
namespace Mine
/-- a call that may turn the grounds of the frames above -/
def CtT (w : World) (f : Addr) (vs : List Value) (d : Nat) (led : List (Addr × Obj)) (R : List (Addr × Obj) → Value → Prop) : Prop :=
  ∀ (loose : List Str) (mean : ExcName → Option Value) (mg mb : Str → Option Value) (dp un : Nat) (gd : Option (List Code)) (cn : Str) (cs : Scope) (a : Addr) (ccd : Value) (outer : List Env) (A₀ : Around) (base h₀ : Heap) (L : Addr) (m : Str → Option Value) (s : Shared) (Q E : Value → Shared → Prop),
    Bs w loose mean mg mb base → Below A₀ base outer h₀ → Fr h₀ L s.heap m → News h₀ L s.heap led → KtsDicts (outer.filterMap (·.frame)) h₀ → cs.kind = .function → dp + d < recursionLimit → un + 8 * d < cLine →
    (∀ v led' h' tk' h₀', KtsTurn (outer.filterMap (·.frame)) h₀ h₀' → Fr h₀' L h' m → News h₀' L h' led' → Below A₀ base outer h₀' → KtsDicts (outer.filterMap (·.frame)) h₀' → R led' v → Q v { s with heap := h', toks := tk' }) →
    wpAny (model PySem.Challenge.rw_jd0021_01.row.prog w) (ktrTop dp un gd cn cs L a ccd [] outer) (call (.ref f) vs) Q E s
theorem CtT.use {w : World} {f : Addr} {vs : List Value} {d : Nat} {led : List (Addr × Obj)} {R : List (Addr × Obj) → Value → Prop} (C : CtT w f vs d led R)
    {loose : List Str} {mean : ExcName → Option Value} {mg mb : Str → Option Value} {dp un : Nat} {gd : Option (List Code)} {cn : Str} {cs : Scope} {a : Addr} {ccd : Value} {outer : List Env} {A₀ : Around} {base h₀ : Heap} {L : Addr} {m : Str → Option Value} {s : Shared} {Q E : Value → Shared → Prop}
    (BS : Bs w loose mean mg mb base) (B : Below A₀ base outer h₀) (F : Fr h₀ L s.heap m) (N : News h₀ L s.heap led) (D : KtsDicts (outer.filterMap (·.frame)) h₀) (hk : cs.kind = .function) (hd : dp + d < recursionLimit) (hu : un + 8 * d < cLine)
    (k : ∀ v led' h' tk' h₀', KtsTurn (outer.filterMap (·.frame)) h₀ h₀' → Fr h₀' L h' m → News h₀' L h' led' → Below A₀ base outer h₀' → KtsDicts (outer.filterMap (·.frame)) h₀' → R led' v → Q v { s with heap := h', toks := tk' }) :
    wpAny (model PySem.Challenge.rw_jd0021_01.row.prog w) (ktrTop dp un gd cn cs L a ccd [] outer) (call (.ref f) vs) Q E s :=
  C _ _ _ _ _ _ _ _ _ _ _ _ _ _ _ _ _ _ _ _ BS B F N D hk hd hu k
def fixOf (which n : Int) : Int := if which = 0 then fU64 n else if which = 1 then fU32 n else if which = 2 then fS64 n else fS32 n
abbrev TbV (ts : List (Addr × Obj)) : Prop := Tb 95 ((53 : Nat) : Int) ((4 : Nat) : Int) qV ts
abbrev TbS (ts : List (Addr × Obj)) : Prop := Tb 102 ((71 : Nat) : Int) ((4 : Nat) : Int) qS ts
/-- what a reading gives in the law -/
def RL (which : Int) (ks : List Int) (p : Nat) (led led' : List (Addr × Obj)) (v : Value) : Prop :=
  ∃ t95 t102, TbV t95 ∧ TbS t102 ∧
    ((∃ n q a t1 t2, scan ks p 10 0 0 = .ok n q ∧ v = .ref a ∧ led' = (a, tupObj [.int (fixOf which n) t1, .int (q : Int) t2]) :: (t95 ++ (t102 ++ led)) ∧ (∀ x ∈ t95 ++ (t102 ++ led), x.1 < a)) ∨
     (scan ks p 10 0 0 = .many ∧ led' = t95 ++ (t102 ++ led) ∧ ∃ t, v = .str (Str.ofString "many") t) ∨
     (scan ks p 10 0 0 = .index ∧ led' = t95 ++ (t102 ++ led) ∧ ∃ t, v = .str (Str.ofString "index") t))
def TagL (ks : List Int) (p : Nat) (led led' : List (Addr × Obj)) (v : Value) : Prop :=
  TagR ks p led led' v ∨ (tagEnd ks p = none ∧ led' = led ∧ ∃ t, v = .str (Str.ofString "index") t)
theorem fix0 {which n : Int} (h : which = 0) : fU64 n = fixOf which n := by subst h; rfl
theorem fix1 {which n : Int} (h : which = 1) : fU32 n = fixOf which n := by subst h; rfl
theorem fix2 {which n : Int} (h : which = 2) : fS64 n = fixOf which n := by subst h; rfl
theorem fix3 {which n : Int} (h : which = 3) : fS32 n = fixOf which n := by subst h; rfl
theorem perm9 {a b c : List (Addr × Obj)} : ∀ x ∈ a ++ (b ++ c), x ∈ b ++ (a ++ c) := fun x hx => by
  rcases List.mem_append.mp hx with h | h
  · exact List.mem_append_right _ (List.mem_append_left _ h)
  rcases List.mem_append.mp h with h | h
  · exact List.mem_append_left _ h
  · exact List.mem_append_right _ (List.mem_append_right _ h)
theorem perm9c {y : Addr × Obj} {a b c : List (Addr × Obj)} : ∀ x ∈ y :: (a ++ (b ++ c)), x ∈ y :: (b ++ (a ++ c)) := fun x hx => by
  rcases List.mem_cons.mp hx with h | h
  · exact h ▸ .head _
  · exact .tail _ (perm9 x h)
section
variable {which r n : Int} {ks : List Int} {p q : Nat} {led t95 t102 : List (Addr × Obj)} {a : Addr} {t1 t2 t : Tok}
theorem rl_ok (h95 : TbV t95) (h102 : TbS t102) (hs : scan ks p 10 0 0 = .ok n q) (e : r = fixOf which n) (hlt : ∀ x ∈ t95 ++ (t102 ++ led), x.1 < a) :
    RL which ks p led ((a, tupObj [.int r t1, .int (q : Int) t2]) :: (t95 ++ (t102 ++ led))) (.ref a) := by
  subst e
  exact ⟨t95, t102, h95, h102, .inl ⟨n, q, a, t1, t2, hs, rfl, rfl, hlt⟩⟩
theorem rl_many (h95 : TbV t95) (h102 : TbS t102) (hs : scan ks p 10 0 0 = .many) : RL which ks p led (t95 ++ (t102 ++ led)) (.str (Str.ofString "many") t) :=
  ⟨t95, t102, h95, h102, .inr (.inl ⟨hs, rfl, t, rfl⟩)⟩
theorem rl_index (h95 : TbV t95) (h102 : TbS t102) (hs : scan ks p 10 0 0 = .index) : RL which ks p led (t95 ++ (t102 ++ led)) (.str (Str.ofString "index") t) :=
  ⟨t95, t102, h95, h102, .inr (.inr ⟨hs, rfl, t, rfl⟩)⟩
end
end Mine
end
section
open PySem PySem.W PySem.Spec PySem.Calls PyProof.Rows
namespace Mine
/-- the shortest form -/
def enc (n : Nat) : List Int := if h : n < 128 then [(n : Int)] else ((n % 128 + 128 : Nat) : Int) :: enc (n / 128)
termination_by n
decreasing_by omega
theorem enc_lt {n : Nat} (h : n < 128) : enc n = [(n : Int)] := by rw [enc, dif_pos h]
theorem enc_ge {n : Nat} (h : ¬ n < 128) : enc n = ((n % 128 + 128 : Nat) : Int) :: enc (n / 128) := by rw [enc, dif_neg h]
theorem enc_in : ∀ n : Nat, ∀ k ∈ enc n, 0 ≤ k ∧ k < 256 := by
  intro n
  induction n using Nat.strongRecOn with
  | ind n ih =>
    intro k hk
    by_cases h : n < 128
    · rw [enc_lt h] at hk
      simp only [List.mem_cons, List.not_mem_nil, or_false] at hk
      omega
    · rw [enc_ge h] at hk
      rcases List.mem_cons.mp hk with e | hk
      · omega
      · exact ih (n / 128) (by omega) k hk
theorem enc_len : ∀ (k n : Nat), n < 2 ^ (7 * (k + 1)) → (enc n).length ≤ k + 1
  | 0, n, h => by
    rw [enc_lt (by simpa using h)]
    simp
  | k + 1, n, h => by
    by_cases hn : n < 128
    · rw [enc_lt hn]; simp
    · rw [enc_ge hn, List.length_cons]
      have e : (2 : Nat) ^ (7 * (k + 1 + 1)) = 128 * 2 ^ (7 * (k + 1)) := by
        have : 7 * (k + 1 + 1) = 7 * (k + 1) + 7 := by omega
        rw [this, Nat.pow_add]; omega
      have := enc_len k (n / 128) (by rw [e] at h; omega)
      omega
theorem enc_pos (n : Nat) : 0 < (enc n).length := by
  by_cases hn : n < 128
  · rw [enc_lt hn]; simp
  · rw [enc_ge hn]; simp
theorem enc10 {n : Nat} (h : n < 2 ^ 64) : (enc n).length ≤ 10 := enc_len 9 n (Nat.lt_of_lt_of_le h (Nat.pow_le_pow_right (by decide) (by decide)))
/-- a number of 64 bits, its bound hidden -/
structure Bd (n : Int) : Prop where
  lo : 0 ≤ n
  hi : n < 2 ^ 64
theorem Bd.div {n : Int} (h : Bd n) : Bd (n / 128) := ⟨by have := h.lo; omega, by have := h.lo; have := h.hi; omega⟩
theorem Bd.len {n : Int} (h : Bd n) : (enc n.toNat).length ≤ 10 := enc10 (by have := h.hi; have := h.lo; omega)
def VInv (n : Int) (row : List Int) (m : Int) : Prop := row ++ enc m.toNat = enc n.toNat
theorem vinv_len {n m : Int} {row : List Int} (h : VInv n row m) (hn : Bd n) : row.length < 10 := by
  have h1 := hn.len
  have h2 := enc_pos m.toNat
  unfold VInv at h
  have h3 := congrArg List.length h
  rw [List.length_append] at h3
  omega
theorem vinv_more {n m : Int} {row : List Int} (h : VInv n row m) (hn : Bd n) (hb : Bd m) (hm : 128 ≤ m) :
    VInv n (row ++ [m.fmod 128 + 128]) (m.fdiv 128) ∧ 0 ≤ m.fdiv 128 ∧ Bd (m.fdiv 128) ∧ (row ++ [m.fmod 128 + 128]).length ≤ 20 := by
  have hl := vinv_len h hn
  rw [Int.fmod_eq_emod_of_nonneg _ (by decide : (0 : Int) ≤ 128), Int.fdiv_eq_ediv_of_nonneg _ (by decide : (0 : Int) ≤ 128)]
  refine ⟨?_, by omega, hb.div, by rw [List.length_append, List.length_singleton]; omega⟩
  unfold VInv at h ⊢
  rw [← h, enc_ge (n := m.toNat) (by omega), List.append_assoc]
  have e1 : ((m.toNat % 128 + 128 : Nat) : Int) = m % 128 + 128 := by omega
  have e2 : (m / 128).toNat = m.toNat / 128 := by omega
  rw [e1, e2]
  rfl
theorem fdiv_less {m : Int} (hm : 128 ≤ m) : (m.fdiv 128).toNat < m.toNat := by
  rw [Int.fdiv_eq_ediv_of_nonneg _ (by decide : (0 : Int) ≤ 128)]; omega
theorem ints_snoc {vs : List Value} {ns : List Int} {x : Int} {t : Tok} (h : IntsAre vs ns) : IntsAre (vs ++ [.int x t]) (ns ++ [x]) := by
  induction h with
  | nil => exact .cons _ _ .nil
  | cons i t' _ ih => exact .cons _ _ ih
theorem vinv_done {n m : Int} {row : List Int} (h : VInv n row m) (h0 : 0 ≤ m) (hm : m < 128) : row ++ [m] = enc n.toNat := by
  unfold VInv at h
  rw [← h, enc_lt (n := m.toNat) (by omega), Int.toNat_of_nonneg h0]
theorem vinv_in {n m : Int} {row : List Int} (h : VInv n row m) (h0 : 0 ≤ m) (hm : ¬ 128 ≤ m) : KBa.In (row ++ [m]) := by
  rw [vinv_done h h0 (by omega)]; exact enc_in _
section
variable {prog : Program} {w : World} {A : Around} {E : Value → Shared → Prop} {s : Shared} {h₀ : Heap} {L D : Addr} {m : PySem.Str → Option Value} {led : List (Addr × Obj)} {vs : List Value} {ns : List Int} {x : Int} {t : Tok} {k : Nat}
theorem bytes_snoc {Q : Value → Shared → Prop} (F : Fr h₀ L s.heap m) (N : News h₀ L s.heap ((D, W.listOf (vs.toArray.push (.int x t)) k) :: led)) (hh : A.handled = none) (hi : IntsAre vs ns) (hr : KBa.In (ns ++ [x])) (hn : ns.length ≤ 1000)
    (h : ∀ h' t' k', Fr h₀ L h' m → News h₀ L h' led → KBw.bInts (byteArr (ns ++ [x])) = ns ++ [x] → Q (.bytes (byteArr (ns ++ [x])) t') { s with heap := h', toks := k' }) : wpAny (model prog w) A (call (.type "bytes") [.ref D]) Q E s := by
  have hl : s.heap.IsList D (vs ++ [Value.int x t]).toArray := ⟨_, (N _ (.head _)).1, rfl, k, by show Data.seq (vs.toArray.push (Value.int x t)) k = _; rw [List.push_toArray]⟩
  exact KBa.make_K F N hh hl (ints_snoc hi) hr (by rw [List.length_append, List.length_singleton]; omega) fun h' t' k' F' N' _ => h h' t' k' F' (news_sub N' fun _ hx => .tail _ hx) (KBa.ints_make hr)
end
/-- bytes as an answer, the ledger as it was -/
def BytesR (ks : List Int) (led led' : List (Addr × Obj)) (v : Value) : Prop := ∃ b t, v = .bytes b t ∧ KBw.bInts b = ks ∧ led' = led
end Mine
end
section
open PySem PySem.W PySem.Spec PySem.Calls PyProof.Rows Mine
local macro_rules | `(tactic| k_room) => `(tactic| ((try simp only [depth_mark, depth_under_make, depth_under_kw, depth_in1, depth_deeper, depth_caller]); (try dsimp only [ktrTop]); omega))
local macro_rules | `(tactic| k_units) => `(tactic| ((try simp only [units_under_make, units_in1, units_deeper, Around.mark_units, units_caller]); (try dsimp only [ktrTop]); omega))
local macro_rules | `(tactic| units_room) => `(tactic| ((try simp only [units_under_make, units_in1, units_deeper, Around.mark_units, units_caller]); (try dsimp only [ktrTop]); omega))
local macro_rules | `(tactic| ke_room) => `(tactic| ((try simp only [units_under_make, units_in1, units_deeper, Around.mark_units, units_caller]); (try dsimp only [ktrTop]); omega))
local macro_rules | `(tactic| walk_at "loadName") => `(tactic| k_extra "loadName")
local macro_rules | `(tactic| walk_at "leaving ref") => `(tactic| k_extra "leaving ref")
local macro_rules | `(tactic| walk_at "subscriptTail Name Name bytes int") => `(tactic| k_extra "subscriptTail Name Name bytes int")
local macro_rules | `(tactic| walk_at "exec Raise some none") => `(tactic| k_extra "exec Raise some none")
local macro_rules | `(tactic| walk_at "binaryOp BitAnd int int") => `(tactic| k_extra "binaryOp BitAnd int int")
local macro_rules | `(tactic| walk_at "inplaceOp BitAnd int int") => `(tactic| k_extra "inplaceOp BitAnd int int")
local macro_rules | `(tactic| walk_at "binaryOp LShift int int") => `(tactic| k_extra "binaryOp LShift int int")
local macro_rules | `(tactic| walk_at "exec FunctionDef") => `(tactic| k_extra "exec FunctionDef")
local macro_rules | `(tactic| walk_at "call ref") => `(tactic| k_extra "call ref")
namespace Mine
theorem fill_once (w : World) : (PySem.Challenge.rw_jd0021_01 = PySem.Challenge.rw_jd0021_01) ∧ (Mine.hd.heap_39 w.params = Mine.hd.heap_39 w.params) := by
  k_fill
  exact ⟨rfl, rfl⟩
section
open PySem PySem.W PySem.Spec PySem.Calls PyProof.Rows
set_option maxHeartbeats 4000000 in
theorem rd114 (w : World) (b : Array UInt8) (ks : List Int) (p : Int) (t u : Tok) (ts led : List (Addr × Obj)) (hts : Tb 95 ((53 : Nat) : Int) ((4 : Nat) : Int) qV ts) (hoff : ∀ x ∈ led, x.1 ≠ 95) (hT : Four 95 led) (hb : KBw.bInts b = ks) (hlen : ks.length ≤ 1000) (hp : 0 ≤ p ∧ p ≤ ks.length) :
  Ct w 114 [.bytes b t, .int p u] 3 (ts ++ led) (RdR 95 ((53 : Nat) : Int) ((4 : Nat) : Int) qV led ks p.toNat fU64) (RdX 95 ((53 : Nat) : Int) ((4 : Nat) : Int) qV led ks p.toNat) := by
  unfold Ct
  intro loose mean mg mb dp un gd cn cs a ccd cl outer A₀ base h₀ L m s Q E BS B F N hk hd hu hret hX
  have X := BS.X.keeps B.stays
  have T := BS.T.keeps B.stays
  have cH1 := BS.c1
  have hMk : KstMark := kstMark
  obtain ⟨rest, hr⟩ : ∃ r, r = ts ++ led := ⟨_, rfl⟩
  rw [← hr] at N
  have hL95 : ∀ L' : Nat, (∀ p ∈ rest, p.1 < L') → 95 < L' := fun L' h => by
    rcases hts with e | ⟨c', oc, vs, t, e, _⟩
    · exact h _ (by rw [hr, e]; exact .head _)
    · exact h _ (by rw [hr, e]; exact .tail _ (.head _))
  k_with_none
  k_with "loadName" => (k_here; k_dflt (refine' loadX_L ?k1 ?k2 ?_ ?a ?b; (case a => rfl); (case b => rfl); (case k1 => k_asm); (case k2 => exact rfl); k_whole))
  k_with "leaving ref" => (k_here; k_dflt (first
  | (refine' leaveX_new ?k1 ?k0 ?k2 ?k3 ?k4 ?k5 ?_; (case k0 => assumption); (case k2 => assumption); (case k1 => assumption); (case k3 => k_asm); (case k4 => exact rfl); (case k5 => exact rfl); k_whole; intro h' R' U'; (try dsimp only at R' U' ⊢))
  | (refine' leaveX_made ?k1 ?k0 ?k2 ?k3 ?k4 ?k5 ?_; (case k0 => first | assumption | exact Heap.MadeExc.of (by assumption)); (case k2 => assumption); (case k1 => assumption); (case k3 => k_asm); (case k4 => exact rfl); (case k5 => exact rfl); k_whole; intro h' R' U'; (try dsimp only at R' U' ⊢))
  | (refine' leaveX_on ?k1 ?k2 ?k3 ?k4 ?k5 ?_; (case k3 => assumption); (case k2 => assumption); (case k1 => assumption); (case k4 => assumption); (case k5 => exact rfl); k_whole; intro h' R' U'; (try dsimp only at R' U' ⊢))))
  k_with "subscriptTail Name Name bytes int" => (k_here; (with_reducible show wpAny _ _ (subscriptTail _ _ (Value.bytes _ _) (Value.int _ _)) _ _ _); (with_unfolding_all refine' item_or ?h0 (by kba_ints) ?h1 ?h2 ?h3 ?h4 ?h5 ?h6 ?h7; (case h0 => rfl); (case h1 => omega); (case h2 => omega); (case h3 => omega); (case h6 => with_unfolding_all rfl); (case h7 => (intro _; with_unfolding_all rfl)); k_whole); first | (intro hlt' t' tk' h0' h1') | (intro hge' h' tk' e' x'))
  k_with "exec Raise some none" => (k_here; k_dflt (refine' RaiseX_own ?F ?X ?T ?e ?q PySem.F.excBase_Exception ?h ?_ ?a ?b ?c ?d ?g; (case F => k_asm); (case X => k_asm); (case T => k_asm); (case e => k_is); (case q => k_exc); (case h => first | rfl | assumption); (case a => rfl); (case b => rfl); (case c => rfl); (case d => rfl); (case g => decide); k_whole))
  k_with "binaryOp BitAnd int int" => (first | (refine and_to (bitAnd_m7 _) ?_) | (refine and_to (band128 _) ?_) | (refine and_to (bitAnd_m3 _) ?_) | (refine and_to (bitAnd_m1 _) ?_))
  k_with "inplaceOp BitAnd int int" => (first | (refine iand_to (band64 _) ?_) | (refine iand_to (bitAnd_m32 _) ?_))
  k_with "binaryOp LShift int int" => ((refine shl_to ?_ ?_ ?_ ?_); (focus omega); (focus omega); (focus omega))
  k_with "exec FunctionDef" => (k_here; (rename (_ = _ ++ _) => hr9; subst hr9); k_dflt (refine' nestDef_K ?d0 ?k0 ?a0 ?_; (case d0 => exact rfl); (case k0 => exact rfl); (case a0 => exact rfl)); (first
  | (k_dflt (refine' nestB (mid := [_]) ?F ?N ?T ?C ?cd ?tb ?o1 ?o2 ?hT ?cl ?_; (case F => k_asm); (case T => k_asm); (case cd => exact rfl); (case C => kn_code); (case tb => assumption); (case N => k_asm); (case o2 => assumption); (case hT => assumption); (case o1 => (intro x9 h9; rcases List.mem_cons.mp h9 with e9 | h9; (subst e9; k_ne); cases h9)); (case cl => exact rfl); k_whole))
  | (k_dflt (refine' nestB (mid := [_, _]) ?F ?N ?T ?C ?cd ?tb ?o1 ?o2 ?hT ?cl ?_; (case F => k_asm); (case T => k_asm); (case cd => exact rfl); (case C => kn_code); (case tb => assumption); (case N => k_asm); (case o2 => assumption); (case hT => assumption); (case o1 => (intro x9 h9; rcases List.mem_cons.mp h9 with e9 | h9; (subst e9; k_ne); rcases List.mem_cons.mp h9 with e9 | h9; (subst e9; k_ne); cases h9)); (case cl => exact rfl); k_whole))); (intro f' c' oc' vs' t' ct' dc' h' tk' F' N' d1' d2' n3' l1; (simp only [List.cons_append, List.nil_append] at N' l1); (try k_lt l1)))
  w_top off
  k_with "exec While Constant cons nil" => k_while (fun _ r s q => SInv ks p.toNat r s q ∧ 0 ≤ q ∧ q ≤ 2000 ∧ 0 ≤ s ∧ s < 70 ∧ 0 ≤ r ∧ r < 2 ^ 70) (fun _ r s q => (70 - s).toNat) "result" "shift" "pos"
  k_with "state" => first
    | exact sall_start (by omega) (by omega)
    | exact sall_more (by assumption) (by assumption) (by assumption) (by assumption) (by assumption) (by assumption) (by assumption)
  k_with "exec FunctionDef" => ((fail_if_success (rename Mk1 => x9)); (rename (∀ p : Addr × Obj, p ∈ rest → p.1 < _) => l9); (have l10 := hL95 _ l9); (have m9 : Mk1 := mk1); walk1)
  refine wpAny_call ?_
  k_dflt cell_enter
  k_steps
  all_goals first
    | exact rd_retG hret (by assumption) (by assumption) (by assumption) (by assumption) (by assumption) (by k_mem) (by k_mem) (by k_mem) (by kst_inAny) (by omega) (by omega) (by first | exact And.right (And.right (And.right (And.right (by assumption)))) | exact And.right (And.right (And.right (And.right (And.right (by assumption)))))) (scan_done (by assumption) (by assumption) (by assumption) (by assumption) (by assumption)) (by omega) rfl
    | exact rd_excG hX (by assumption) (by assumption) (by assumption) (by assumption) (by assumption) (by assumption) (by k_mem) (by k_mem) (by kst_inAny) (.inl ⟨scan_index (by assumption) (by assumption), rfl⟩)
    | exact rd_excG hX (by assumption) (by assumption) (by assumption) (by assumption) (by assumption) (by assumption) (by k_mem) (by k_mem) (by kst_inAny) (.inr ⟨scan_many (by assumption) (by assumption) (by assumption) (by assumption) (by assumption) (by assumption), rfl⟩)
set_option maxHeartbeats 4000000 in
theorem rd128 (w : World) (b : Array UInt8) (ks : List Int) (p : Int) (t u : Tok) (ts led : List (Addr × Obj)) (hts : Tb 95 ((53 : Nat) : Int) ((4 : Nat) : Int) qV ts) (hoff : ∀ x ∈ led, x.1 ≠ 95) (hT : Four 95 led) (hb : KBw.bInts b = ks) (hlen : ks.length ≤ 1000) (hp : 0 ≤ p ∧ p ≤ ks.length) :
  Ct w 128 [.bytes b t, .int p u] 3 (ts ++ led) (RdR 95 ((53 : Nat) : Int) ((4 : Nat) : Int) qV led ks p.toNat fU32) (RdX 95 ((53 : Nat) : Int) ((4 : Nat) : Int) qV led ks p.toNat) := by
  unfold Ct
  intro loose mean mg mb dp un gd cn cs a ccd cl outer A₀ base h₀ L m s Q E BS B F N hk hd hu hret hX
  have X := BS.X.keeps B.stays
  have T := BS.T.keeps B.stays
  have cH1 := BS.c1
  have hMk : KstMark := kstMark
  obtain ⟨rest, hr⟩ : ∃ r, r = ts ++ led := ⟨_, rfl⟩
  rw [← hr] at N
  have hL95 : ∀ L' : Nat, (∀ p ∈ rest, p.1 < L') → 95 < L' := fun L' h => by
    rcases hts with e | ⟨c', oc, vs, t, e, _⟩
    · exact h _ (by rw [hr, e]; exact .head _)
    · exact h _ (by rw [hr, e]; exact .tail _ (.head _))
  k_with_none
  k_with "loadName" => (k_here; k_dflt (refine' loadX_L ?k1 ?k2 ?_ ?a ?b; (case a => rfl); (case b => rfl); (case k1 => k_asm); (case k2 => exact rfl); k_whole))
  k_with "leaving ref" => (k_here; k_dflt (first
  | (refine' leaveX_new ?k1 ?k0 ?k2 ?k3 ?k4 ?k5 ?_; (case k0 => assumption); (case k2 => assumption); (case k1 => assumption); (case k3 => k_asm); (case k4 => exact rfl); (case k5 => exact rfl); k_whole; intro h' R' U'; (try dsimp only at R' U' ⊢))
  | (refine' leaveX_made ?k1 ?k0 ?k2 ?k3 ?k4 ?k5 ?_; (case k0 => first | assumption | exact Heap.MadeExc.of (by assumption)); (case k2 => assumption); (case k1 => assumption); (case k3 => k_asm); (case k4 => exact rfl); (case k5 => exact rfl); k_whole; intro h' R' U'; (try dsimp only at R' U' ⊢))
  | (refine' leaveX_on ?k1 ?k2 ?k3 ?k4 ?k5 ?_; (case k3 => assumption); (case k2 => assumption); (case k1 => assumption); (case k4 => assumption); (case k5 => exact rfl); k_whole; intro h' R' U'; (try dsimp only at R' U' ⊢))))
  k_with "subscriptTail Name Name bytes int" => (k_here; (with_reducible show wpAny _ _ (subscriptTail _ _ (Value.bytes _ _) (Value.int _ _)) _ _ _); (with_unfolding_all refine' item_or ?h0 (by kba_ints) ?h1 ?h2 ?h3 ?h4 ?h5 ?h6 ?h7; (case h0 => rfl); (case h1 => omega); (case h2 => omega); (case h3 => omega); (case h6 => with_unfolding_all rfl); (case h7 => (intro _; with_unfolding_all rfl)); k_whole); first | (intro hlt' t' tk' h0' h1') | (intro hge' h' tk' e' x'))
  k_with "exec Raise some none" => (k_here; k_dflt (refine' RaiseX_own ?F ?X ?T ?e ?q PySem.F.excBase_Exception ?h ?_ ?a ?b ?c ?d ?g; (case F => k_asm); (case X => k_asm); (case T => k_asm); (case e => k_is); (case q => k_exc); (case h => first | rfl | assumption); (case a => rfl); (case b => rfl); (case c => rfl); (case d => rfl); (case g => decide); k_whole))
  k_with "binaryOp BitAnd int int" => (first | (refine and_to (bitAnd_m7 _) ?_) | (refine and_to (band128 _) ?_) | (refine and_to (bitAnd_m3 _) ?_) | (refine and_to (bitAnd_m1 _) ?_))
  k_with "inplaceOp BitAnd int int" => (first | (refine iand_to (band64 _) ?_) | (refine iand_to (bitAnd_m32 _) ?_))
  k_with "binaryOp LShift int int" => ((refine shl_to ?_ ?_ ?_ ?_); (focus omega); (focus omega); (focus omega))
  k_with "exec FunctionDef" => (k_here; (rename (_ = _ ++ _) => hr9; subst hr9); k_dflt (refine' nestDef_K ?d0 ?k0 ?a0 ?_; (case d0 => exact rfl); (case k0 => exact rfl); (case a0 => exact rfl)); (first
  | (k_dflt (refine' nestB (mid := [_]) ?F ?N ?T ?C ?cd ?tb ?o1 ?o2 ?hT ?cl ?_; (case F => k_asm); (case T => k_asm); (case cd => exact rfl); (case C => kn_code); (case tb => assumption); (case N => k_asm); (case o2 => assumption); (case hT => assumption); (case o1 => (intro x9 h9; rcases List.mem_cons.mp h9 with e9 | h9; (subst e9; k_ne); cases h9)); (case cl => exact rfl); k_whole))
  | (k_dflt (refine' nestB (mid := [_, _]) ?F ?N ?T ?C ?cd ?tb ?o1 ?o2 ?hT ?cl ?_; (case F => k_asm); (case T => k_asm); (case cd => exact rfl); (case C => kn_code); (case tb => assumption); (case N => k_asm); (case o2 => assumption); (case hT => assumption); (case o1 => (intro x9 h9; rcases List.mem_cons.mp h9 with e9 | h9; (subst e9; k_ne); rcases List.mem_cons.mp h9 with e9 | h9; (subst e9; k_ne); cases h9)); (case cl => exact rfl); k_whole))); (intro f' c' oc' vs' t' ct' dc' h' tk' F' N' d1' d2' n3' l1; (simp only [List.cons_append, List.nil_append] at N' l1); (try k_lt l1)))
  w_top off
  k_with "exec While Constant cons nil" => k_while (fun _ r s q => SInv ks p.toNat r s q ∧ 0 ≤ q ∧ q ≤ 2000 ∧ 0 ≤ s ∧ s < 70 ∧ 0 ≤ r ∧ r < 2 ^ 70) (fun _ r s q => (70 - s).toNat) "result" "shift" "pos"
  k_with "state" => first
    | exact sall_start (by omega) (by omega)
    | exact sall_more (by assumption) (by assumption) (by assumption) (by assumption) (by assumption) (by assumption) (by assumption)
  k_with "exec FunctionDef" => ((fail_if_success (rename Mk1 => x9)); (rename (∀ p : Addr × Obj, p ∈ rest → p.1 < _) => l9); (have l10 := hL95 _ l9); (have m9 : Mk1 := mk1); walk1)
  refine wpAny_call ?_
  k_dflt cell_enter
  k_steps
  all_goals first
    | exact rd_retG hret (by assumption) (by assumption) (by assumption) (by assumption) (by assumption) (by k_mem) (by k_mem) (by k_mem) (by kst_inAny) (by omega) (by omega) (by first | exact And.right (And.right (And.right (And.right (by assumption)))) | exact And.right (And.right (And.right (And.right (And.right (by assumption)))))) (scan_done (by assumption) (by assumption) (by assumption) (by assumption) (by assumption)) (by omega) rfl
    | exact rd_excG hX (by assumption) (by assumption) (by assumption) (by assumption) (by assumption) (by assumption) (by k_mem) (by k_mem) (by kst_inAny) (.inl ⟨scan_index (by assumption) (by assumption), rfl⟩)
    | exact rd_excG hX (by assumption) (by assumption) (by assumption) (by assumption) (by assumption) (by assumption) (by k_mem) (by k_mem) (by kst_inAny) (.inr ⟨scan_many (by assumption) (by assumption) (by assumption) (by assumption) (by assumption) (by assumption), rfl⟩)
set_option maxHeartbeats 4000000 in
theorem rd121 (w : World) (b : Array UInt8) (ks : List Int) (p : Int) (t u : Tok) (ts led : List (Addr × Obj)) (hts : Tb 102 ((71 : Nat) : Int) ((4 : Nat) : Int) qS ts) (hoff : ∀ x ∈ led, x.1 ≠ 102) (hT : Four 102 led) (hb : KBw.bInts b = ks) (hlen : ks.length ≤ 1000) (hp : 0 ≤ p ∧ p ≤ ks.length) :
  Ct w 121 [.bytes b t, .int p u] 3 (ts ++ led) (RdR 102 ((71 : Nat) : Int) ((4 : Nat) : Int) qS led ks p.toNat fS64) (RdX 102 ((71 : Nat) : Int) ((4 : Nat) : Int) qS led ks p.toNat) := by
  unfold Ct
  intro loose mean mg mb dp un gd cn cs a ccd cl outer A₀ base h₀ L m s Q E BS B F N hk hd hu hret hX
  have X := BS.X.keeps B.stays
  have T := BS.T.keeps B.stays
  have cH1 := BS.c2
  have hMk : KstMark := kstMark
  obtain ⟨rest, hr⟩ : ∃ r, r = ts ++ led := ⟨_, rfl⟩
  rw [← hr] at N
  have hL95 : ∀ L' : Nat, (∀ p ∈ rest, p.1 < L') → 102 < L' := fun L' h => by
    rcases hts with e | ⟨c', oc, vs, t, e, _⟩
    · exact h _ (by rw [hr, e]; exact .head _)
    · exact h _ (by rw [hr, e]; exact .tail _ (.head _))
  k_with_none
  k_with "loadName" => (k_here; k_dflt (refine' loadX_L ?k1 ?k2 ?_ ?a ?b; (case a => rfl); (case b => rfl); (case k1 => k_asm); (case k2 => exact rfl); k_whole))
  k_with "leaving ref" => (k_here; k_dflt (first
  | (refine' leaveX_new ?k1 ?k0 ?k2 ?k3 ?k4 ?k5 ?_; (case k0 => assumption); (case k2 => assumption); (case k1 => assumption); (case k3 => k_asm); (case k4 => exact rfl); (case k5 => exact rfl); k_whole; intro h' R' U'; (try dsimp only at R' U' ⊢))
  | (refine' leaveX_made ?k1 ?k0 ?k2 ?k3 ?k4 ?k5 ?_; (case k0 => first | assumption | exact Heap.MadeExc.of (by assumption)); (case k2 => assumption); (case k1 => assumption); (case k3 => k_asm); (case k4 => exact rfl); (case k5 => exact rfl); k_whole; intro h' R' U'; (try dsimp only at R' U' ⊢))
  | (refine' leaveX_on ?k1 ?k2 ?k3 ?k4 ?k5 ?_; (case k3 => assumption); (case k2 => assumption); (case k1 => assumption); (case k4 => assumption); (case k5 => exact rfl); k_whole; intro h' R' U'; (try dsimp only at R' U' ⊢))))
  k_with "subscriptTail Name Name bytes int" => (k_here; (with_reducible show wpAny _ _ (subscriptTail _ _ (Value.bytes _ _) (Value.int _ _)) _ _ _); (with_unfolding_all refine' item_or ?h0 (by kba_ints) ?h1 ?h2 ?h3 ?h4 ?h5 ?h6 ?h7; (case h0 => rfl); (case h1 => omega); (case h2 => omega); (case h3 => omega); (case h6 => with_unfolding_all rfl); (case h7 => (intro _; with_unfolding_all rfl)); k_whole); first | (intro hlt' t' tk' h0' h1') | (intro hge' h' tk' e' x'))
  k_with "exec Raise some none" => (k_here; k_dflt (refine' RaiseX_own ?F ?X ?T ?e ?q PySem.F.excBase_Exception ?h ?_ ?a ?b ?c ?d ?g; (case F => k_asm); (case X => k_asm); (case T => k_asm); (case e => k_is); (case q => k_exc); (case h => first | rfl | assumption); (case a => rfl); (case b => rfl); (case c => rfl); (case d => rfl); (case g => decide); k_whole))
  k_with "binaryOp BitAnd int int" => (first | (refine and_to (bitAnd_m7 _) ?_) | (refine and_to (band128 _) ?_) | (refine and_to (bitAnd_m3 _) ?_) | (refine and_to (bitAnd_m1 _) ?_))
  k_with "inplaceOp BitAnd int int" => (first | (refine iand_to (band64 _) ?_) | (refine iand_to (bitAnd_m32 _) ?_))
  k_with "binaryOp LShift int int" => ((refine shl_to ?_ ?_ ?_ ?_); (focus omega); (focus omega); (focus omega))
  k_with "exec FunctionDef" => (k_here; (rename (_ = _ ++ _) => hr9; subst hr9); k_dflt (refine' nestDef_K ?d0 ?k0 ?a0 ?_; (case d0 => exact rfl); (case k0 => exact rfl); (case a0 => exact rfl)); (first
  | (k_dflt (refine' nestB (mid := [_]) ?F ?N ?T ?C ?cd ?tb ?o1 ?o2 ?hT ?cl ?_; (case F => k_asm); (case T => k_asm); (case cd => exact rfl); (case C => kn_code); (case tb => assumption); (case N => k_asm); (case o2 => assumption); (case hT => assumption); (case o1 => (intro x9 h9; rcases List.mem_cons.mp h9 with e9 | h9; (subst e9; k_ne); cases h9)); (case cl => exact rfl); k_whole))
  | (k_dflt (refine' nestB (mid := [_, _]) ?F ?N ?T ?C ?cd ?tb ?o1 ?o2 ?hT ?cl ?_; (case F => k_asm); (case T => k_asm); (case cd => exact rfl); (case C => kn_code); (case tb => assumption); (case N => k_asm); (case o2 => assumption); (case hT => assumption); (case o1 => (intro x9 h9; rcases List.mem_cons.mp h9 with e9 | h9; (subst e9; k_ne); rcases List.mem_cons.mp h9 with e9 | h9; (subst e9; k_ne); cases h9)); (case cl => exact rfl); k_whole))); (intro f' c' oc' vs' t' ct' dc' h' tk' F' N' d1' d2' n3' l1; (simp only [List.cons_append, List.nil_append] at N' l1); (try k_lt l1)))
  w_top off
  k_with "exec While Constant cons nil" => k_while (fun _ r s q => SInv ks p.toNat r s q ∧ 0 ≤ q ∧ q ≤ 2000 ∧ 0 ≤ s ∧ s < 70 ∧ 0 ≤ r ∧ r < 2 ^ 70) (fun _ r s q => (70 - s).toNat) "result" "shift" "pos"
  k_with "state" => first
    | exact sall_start (by omega) (by omega)
    | exact sall_more (by assumption) (by assumption) (by assumption) (by assumption) (by assumption) (by assumption) (by assumption)
  k_with "exec FunctionDef" => ((fail_if_success (rename Mk1 => x9)); (rename (∀ p : Addr × Obj, p ∈ rest → p.1 < _) => l9); (have l10 := hL95 _ l9); (have m9 : Mk1 := mk1); walk1)
  k_with "storeName" => ((fail_if_success (rename Mk1 => x9)); (rename (∀ p : Addr × Obj, p ∈ rest → p.1 < _) => l9); (have l10 := hL95 _ l9); (have l11 := allLt_succ (allLt_of l9)); (have l12 := allLt_succ l11); (have m9 : Mk1 := mk1); walk1)
  refine wpAny_call ?_
  k_dflt cell_enter
  k_steps
  all_goals first
    | exact rd_retG hret (by assumption) (by assumption) (by assumption) (by assumption) (by assumption) (by k_mem) (by k_mem) (by k_mem) (by kst_inAny) (by omega) (by omega) (by first | exact And.right (And.right (And.right (And.right (by assumption)))) | exact And.right (And.right (And.right (And.right (And.right (by assumption)))))) (scan_done (by assumption) (by assumption) (by assumption) (by assumption) (by assumption)) (by omega) (sgn64 _)
    | exact rd_excG hX (by assumption) (by assumption) (by assumption) (by assumption) (by assumption) (by assumption) (by k_mem) (by k_mem) (by kst_inAny) (.inl ⟨scan_index (by assumption) (by assumption), rfl⟩)
    | exact rd_excG hX (by assumption) (by assumption) (by assumption) (by assumption) (by assumption) (by assumption) (by k_mem) (by k_mem) (by kst_inAny) (.inr ⟨scan_many (by assumption) (by assumption) (by assumption) (by assumption) (by assumption) (by assumption), rfl⟩)
set_option maxHeartbeats 4000000 in
theorem rd135 (w : World) (b : Array UInt8) (ks : List Int) (p : Int) (t u : Tok) (ts led : List (Addr × Obj)) (hts : Tb 102 ((71 : Nat) : Int) ((4 : Nat) : Int) qS ts) (hoff : ∀ x ∈ led, x.1 ≠ 102) (hT : Four 102 led) (hb : KBw.bInts b = ks) (hlen : ks.length ≤ 1000) (hp : 0 ≤ p ∧ p ≤ ks.length) :
  Ct w 135 [.bytes b t, .int p u] 3 (ts ++ led) (RdR 102 ((71 : Nat) : Int) ((4 : Nat) : Int) qS led ks p.toNat fS32) (RdX 102 ((71 : Nat) : Int) ((4 : Nat) : Int) qS led ks p.toNat) := by
  unfold Ct
  intro loose mean mg mb dp un gd cn cs a ccd cl outer A₀ base h₀ L m s Q E BS B F N hk hd hu hret hX
  have X := BS.X.keeps B.stays
  have T := BS.T.keeps B.stays
  have cH1 := BS.c2
  have hMk : KstMark := kstMark
  obtain ⟨rest, hr⟩ : ∃ r, r = ts ++ led := ⟨_, rfl⟩
  rw [← hr] at N
  have hL95 : ∀ L' : Nat, (∀ p ∈ rest, p.1 < L') → 102 < L' := fun L' h => by
    rcases hts with e | ⟨c', oc, vs, t, e, _⟩
    · exact h _ (by rw [hr, e]; exact .head _)
    · exact h _ (by rw [hr, e]; exact .tail _ (.head _))
  k_with_none
  k_with "loadName" => (k_here; k_dflt (refine' loadX_L ?k1 ?k2 ?_ ?a ?b; (case a => rfl); (case b => rfl); (case k1 => k_asm); (case k2 => exact rfl); k_whole))
  k_with "leaving ref" => (k_here; k_dflt (first
  | (refine' leaveX_new ?k1 ?k0 ?k2 ?k3 ?k4 ?k5 ?_; (case k0 => assumption); (case k2 => assumption); (case k1 => assumption); (case k3 => k_asm); (case k4 => exact rfl); (case k5 => exact rfl); k_whole; intro h' R' U'; (try dsimp only at R' U' ⊢))
  | (refine' leaveX_made ?k1 ?k0 ?k2 ?k3 ?k4 ?k5 ?_; (case k0 => first | assumption | exact Heap.MadeExc.of (by assumption)); (case k2 => assumption); (case k1 => assumption); (case k3 => k_asm); (case k4 => exact rfl); (case k5 => exact rfl); k_whole; intro h' R' U'; (try dsimp only at R' U' ⊢))
  | (refine' leaveX_on ?k1 ?k2 ?k3 ?k4 ?k5 ?_; (case k3 => assumption); (case k2 => assumption); (case k1 => assumption); (case k4 => assumption); (case k5 => exact rfl); k_whole; intro h' R' U'; (try dsimp only at R' U' ⊢))))
  k_with "subscriptTail Name Name bytes int" => (k_here; (with_reducible show wpAny _ _ (subscriptTail _ _ (Value.bytes _ _) (Value.int _ _)) _ _ _); (with_unfolding_all refine' item_or ?h0 (by kba_ints) ?h1 ?h2 ?h3 ?h4 ?h5 ?h6 ?h7; (case h0 => rfl); (case h1 => omega); (case h2 => omega); (case h3 => omega); (case h6 => with_unfolding_all rfl); (case h7 => (intro _; with_unfolding_all rfl)); k_whole); first | (intro hlt' t' tk' h0' h1') | (intro hge' h' tk' e' x'))
  k_with "exec Raise some none" => (k_here; k_dflt (refine' RaiseX_own ?F ?X ?T ?e ?q PySem.F.excBase_Exception ?h ?_ ?a ?b ?c ?d ?g; (case F => k_asm); (case X => k_asm); (case T => k_asm); (case e => k_is); (case q => k_exc); (case h => first | rfl | assumption); (case a => rfl); (case b => rfl); (case c => rfl); (case d => rfl); (case g => decide); k_whole))
  k_with "binaryOp BitAnd int int" => (first | (refine and_to (bitAnd_m7 _) ?_) | (refine and_to (band128 _) ?_) | (refine and_to (bitAnd_m3 _) ?_) | (refine and_to (bitAnd_m1 _) ?_))
  k_with "inplaceOp BitAnd int int" => (first | (refine iand_to (band64 _) ?_) | (refine iand_to (bitAnd_m32 _) ?_))
  k_with "binaryOp LShift int int" => ((refine shl_to ?_ ?_ ?_ ?_); (focus omega); (focus omega); (focus omega))
  k_with "exec FunctionDef" => (k_here; (rename (_ = _ ++ _) => hr9; subst hr9); k_dflt (refine' nestDef_K ?d0 ?k0 ?a0 ?_; (case d0 => exact rfl); (case k0 => exact rfl); (case a0 => exact rfl)); (first
  | (k_dflt (refine' nestB (mid := [_]) ?F ?N ?T ?C ?cd ?tb ?o1 ?o2 ?hT ?cl ?_; (case F => k_asm); (case T => k_asm); (case cd => exact rfl); (case C => kn_code); (case tb => assumption); (case N => k_asm); (case o2 => assumption); (case hT => assumption); (case o1 => (intro x9 h9; rcases List.mem_cons.mp h9 with e9 | h9; (subst e9; k_ne); cases h9)); (case cl => exact rfl); k_whole))
  | (k_dflt (refine' nestB (mid := [_, _]) ?F ?N ?T ?C ?cd ?tb ?o1 ?o2 ?hT ?cl ?_; (case F => k_asm); (case T => k_asm); (case cd => exact rfl); (case C => kn_code); (case tb => assumption); (case N => k_asm); (case o2 => assumption); (case hT => assumption); (case o1 => (intro x9 h9; rcases List.mem_cons.mp h9 with e9 | h9; (subst e9; k_ne); rcases List.mem_cons.mp h9 with e9 | h9; (subst e9; k_ne); cases h9)); (case cl => exact rfl); k_whole))); (intro f' c' oc' vs' t' ct' dc' h' tk' F' N' d1' d2' n3' l1; (simp only [List.cons_append, List.nil_append] at N' l1); (try k_lt l1)))
  w_top off
  k_with "exec While Constant cons nil" => k_while (fun _ r s q => SInv ks p.toNat r s q ∧ 0 ≤ q ∧ q ≤ 2000 ∧ 0 ≤ s ∧ s < 70 ∧ 0 ≤ r ∧ r < 2 ^ 70) (fun _ r s q => (70 - s).toNat) "result" "shift" "pos"
  k_with "state" => first
    | exact sall_start (by omega) (by omega)
    | exact sall_more (by assumption) (by assumption) (by assumption) (by assumption) (by assumption) (by assumption) (by assumption)
  k_with "exec FunctionDef" => ((fail_if_success (rename Mk1 => x9)); (rename (∀ p : Addr × Obj, p ∈ rest → p.1 < _) => l9); (have l10 := hL95 _ l9); (have m9 : Mk1 := mk1); walk1)
  k_with "storeName" => ((fail_if_success (rename Mk1 => x9)); (rename (∀ p : Addr × Obj, p ∈ rest → p.1 < _) => l9); (have l10 := hL95 _ l9); (have l11 := allLt_succ (allLt_of l9)); (have l12 := allLt_succ l11); (have m9 : Mk1 := mk1); walk1)
  refine wpAny_call ?_
  k_dflt cell_enter
  k_steps
  all_goals first
    | exact rd_retG hret (by assumption) (by assumption) (by assumption) (by assumption) (by assumption) (by k_mem) (by k_mem) (by k_mem) (by kst_inAny) (by omega) (by omega) (by first | exact And.right (And.right (And.right (And.right (by assumption)))) | exact And.right (And.right (And.right (And.right (And.right (by assumption)))))) (scan_done (by assumption) (by assumption) (by assumption) (by assumption) (by assumption)) (by omega) (sgn32 _)
    | exact rd_excG hX (by assumption) (by assumption) (by assumption) (by assumption) (by assumption) (by assumption) (by k_mem) (by k_mem) (by kst_inAny) (.inl ⟨scan_index (by assumption) (by assumption), rfl⟩)
    | exact rd_excG hX (by assumption) (by assumption) (by assumption) (by assumption) (by assumption) (by assumption) (by k_mem) (by k_mem) (by kst_inAny) (.inr ⟨scan_many (by assumption) (by assumption) (by assumption) (by assumption) (by assumption) (by assumption), rfl⟩)
end
section
open PySem PySem.W PySem.Spec PySem.Calls PyProof.Rows
set_option maxHeartbeats 4000000 in
theorem rd142 (w : World) (b : Array UInt8) (ks : List Int) (p : Int) (t u : Tok) (led : List (Addr × Obj)) (hb : KBw.bInts b = ks) (hlen : ks.length ≤ 1000) (hp0 : 0 ≤ p) (hp1 : p ≤ ks.length) :
  Ct w 142 [.bytes b t, .int p u] 2 led (TagR ks p.toNat led) (TagX ks p.toNat led) := by
  unfold Ct
  intro loose mean mg mb dp un gd cn cs a ccd cl outer A₀ base h₀ L m s Q E BS B F N hk hd hu hret hX
  have X := BS.X.keeps B.stays
  have T := BS.T.keeps B.stays
  have hMk : KstMark := kstMark
  k_with_none
  k_with "loadName" => (k_here; k_dflt (refine' loadX_L ?k1 ?k2 ?_ ?a ?b; (case a => rfl); (case b => rfl); (case k1 => k_asm); (case k2 => exact rfl); k_whole))
  k_with "leaving ref" => (k_here; k_dflt (first
  | (refine' leaveX_new ?k1 ?k0 ?k2 ?k3 ?k4 ?k5 ?_; (case k0 => assumption); (case k2 => assumption); (case k1 => assumption); (case k3 => k_asm); (case k4 => exact rfl); (case k5 => exact rfl); k_whole; intro h' R' U'; (try dsimp only at R' U' ⊢))
  | (refine' leaveX_made ?k1 ?k0 ?k2 ?k3 ?k4 ?k5 ?_; (case k0 => first | assumption | exact Heap.MadeExc.of (by assumption)); (case k2 => assumption); (case k1 => assumption); (case k3 => k_asm); (case k4 => exact rfl); (case k5 => exact rfl); k_whole; intro h' R' U'; (try dsimp only at R' U' ⊢))
  | (refine' leaveX_on ?k1 ?k2 ?k3 ?k4 ?k5 ?_; (case k3 => assumption); (case k2 => assumption); (case k1 => assumption); (case k4 => assumption); (case k5 => exact rfl); k_whole; intro h' R' U'; (try dsimp only at R' U' ⊢))))
  k_with "subscriptTail Name Name bytes int" => (k_here; (with_reducible show wpAny _ _ (subscriptTail _ _ (Value.bytes _ _) (Value.int _ _)) _ _ _); (with_unfolding_all refine' item_or ?h0 (by kba_ints) ?h1 ?h2 ?h3 ?h4 ?h5 ?h6 ?h7; (case h0 => rfl); (case h1 => omega); (case h2 => omega); (case h3 => omega); (case h6 => with_unfolding_all rfl); (case h7 => (intro _; with_unfolding_all rfl)); k_whole); first | (intro hlt' t' tk' h0' h1') | (intro hge' h' tk' e' x'))
  k_with "exec Raise some none" => (k_here; k_dflt (refine' RaiseX_own ?F ?X ?T ?e ?q PySem.F.excBase_Exception ?h ?_ ?a ?b ?c ?d ?g; (case F => k_asm); (case X => k_asm); (case T => k_asm); (case e => k_is); (case q => k_exc); (case h => first | rfl | assumption); (case a => rfl); (case b => rfl); (case c => rfl); (case d => rfl); (case g => decide); k_whole))
  k_with "binaryOp BitAnd int int" => (first | (refine and_to (bitAnd_m7 _) ?_) | (refine and_to (band128 _) ?_) | (refine and_to (bitAnd_m3 _) ?_) | (refine and_to (bitAnd_m1 _) ?_))
  k_with "inplaceOp BitAnd int int" => (first | (refine iand_to (band64 _) ?_) | (refine iand_to (bitAnd_m32 _) ?_))
  k_with "binaryOp LShift int int" => ((refine shl_to ?_ ?_ ?_ ?_); (focus omega); (focus omega); (focus omega))
  k_with "exec FunctionDef" => (k_here; (rename (_ = _ ++ _) => hr9; subst hr9); k_dflt (refine' nestDef_K ?d0 ?k0 ?a0 ?_; (case d0 => exact rfl); (case k0 => exact rfl); (case a0 => exact rfl)); (first
  | (k_dflt (refine' nestB (mid := [_]) ?F ?N ?T ?C ?cd ?tb ?o1 ?o2 ?hT ?cl ?_; (case F => k_asm); (case T => k_asm); (case cd => exact rfl); (case C => kn_code); (case tb => assumption); (case N => k_asm); (case o2 => assumption); (case hT => assumption); (case o1 => (intro x9 h9; rcases List.mem_cons.mp h9 with e9 | h9; (subst e9; k_ne); cases h9)); (case cl => exact rfl); k_whole))
  | (k_dflt (refine' nestB (mid := [_, _]) ?F ?N ?T ?C ?cd ?tb ?o1 ?o2 ?hT ?cl ?_; (case F => k_asm); (case T => k_asm); (case cd => exact rfl); (case C => kn_code); (case tb => assumption); (case N => k_asm); (case o2 => assumption); (case hT => assumption); (case o1 => (intro x9 h9; rcases List.mem_cons.mp h9 with e9 | h9; (subst e9; k_ne); rcases List.mem_cons.mp h9 with e9 | h9; (subst e9; k_ne); cases h9)); (case cl => exact rfl); k_whole))); (intro f' c' oc' vs' t' ct' dc' h' tk' F' N' d1' d2' n3' l1; (simp only [List.cons_append, List.nil_append] at N' l1); (try k_lt l1)))
  w_top off
  k_with "exec While BinOp cons nil" => k_while (fun _ q => p ≤ q ∧ q ≤ 2000 ∧ tagEnd ks p.toNat = tagEnd ks q.toNat) (fun _ q => (2001 - q).toNat) "pos"
  k_with "state" => first
    | exact ⟨by omega, by omega, rfl⟩
    | exact tag_more hp0 hlen (by assumption) (by assumption) (by assumption) (by assumption) (by assumption) (by assumption)
  refine wpAny_call ?_
  k_dflt cell_enter
  k_steps
  all_goals first
    | exact tag_ret hret (by assumption) (by assumption) (by assumption) (by assumption) hp0 (by assumption) (by assumption) (by assumption) (by assumption) (by assumption) (by assumption) rfl
    | exact hX _ _ _ _ _ _ (by assumption) (by assumption) (by assumption) ⟨rfl, (by assumption : tagEnd ks p.toNat = _).trans (tagEnd_out (by omega)), rfl⟩
end
section
open PySem PySem.W PySem.Spec PySem.Calls PyProof.Rows
set_option maxHeartbeats 4000000 in
theorem c235 (w : World) (b : Array UInt8) (ks : List Int) (p which : Int) (t u v0 : Tok) (t95 t102 led : List (Addr × Obj)) (h95 : TbV t95) (h102 : TbS t102) (o95 : ∀ x ∈ led, x.1 ≠ 95) (o102 : ∀ x ∈ led, x.1 ≠ 102) (i188 : ∃ o, ((188 : Addr), o) ∈ led) (i251 : ∃ o, ((251 : Addr), o) ∈ led)
    (hb : KBw.bInts b = ks) (hlen : ks.length ≤ 1000) (hp0 : 0 ≤ p) (hp1 : p ≤ ks.length) (hw0 : 0 ≤ which) (hw3 : which ≤ 3) :
  CtT w 235 [.int which v0, .bytes b t, .int p u] 6 (t95 ++ (t102 ++ led)) (RL which ks p.toNat led) := by
  unfold CtT
  intro loose mean mg mb dp un gd cn cs a ccd outer A₀ base h₀ L m s Q E BS B F N D hk hd hu hret
  have X := BS.X.keeps B.stays
  have T := BS.T.keeps B.stays
  have XB := BS.X
  have TB := BS.T
  have hMk : KstMark := kstMark
  have f95 : Four 95 (t102 ++ led) := four_of (.inl rfl) (.inr (has_l (tb_has h102))) (.inr (has_r i188)) (.inr (has_r i251))
  have f102 : Four 102 (t95 ++ led) := four_of (.inr (has_l (tb_has h95))) (.inl rfl) (.inr (has_r i188)) (.inr (has_r i251))
  have q95 : ∀ x ∈ t102 ++ led, x.1 ≠ 95 := off_app (tb_off h102 (by decide) (.inl rfl)) o95
  have q102 : ∀ x ∈ t95 ++ led, x.1 ≠ 102 := off_app (tb_off h95 (by decide) (.inr (.inl rfl))) o102
  have perm : ∀ x ∈ t102 ++ (t95 ++ led), x ∈ t95 ++ (t102 ++ led) := fun x hx => by
    simp only [List.mem_append] at hx ⊢
    rcases hx with h | h | h <;> simp [h]
  k_with_none
  k_with "loadName" => (k_here; k_dflt (refine' loadX_L ?k1 ?k2 ?_ ?a ?b; (case a => rfl); (case b => rfl); (case k1 => k_asm); (case k2 => exact rfl); k_whole))
  k_with "leaving ref" => (k_here; k_dflt (first
  | (refine' leaveX_new ?k1 ?k0 ?k2 ?k3 ?k4 ?k5 ?_; (case k0 => assumption); (case k2 => assumption); (case k1 => assumption); (case k3 => k_asm); (case k4 => exact rfl); (case k5 => exact rfl); k_whole; intro h' R' U'; (try dsimp only at R' U' ⊢))
  | (refine' leaveX_made ?k1 ?k0 ?k2 ?k3 ?k4 ?k5 ?_; (case k0 => first | assumption | exact Heap.MadeExc.of (by assumption)); (case k2 => assumption); (case k1 => assumption); (case k3 => k_asm); (case k4 => exact rfl); (case k5 => exact rfl); k_whole; intro h' R' U'; (try dsimp only at R' U' ⊢))
  | (refine' leaveX_on ?k1 ?k2 ?k3 ?k4 ?k5 ?_; (case k3 => assumption); (case k2 => assumption); (case k1 => assumption); (case k4 => assumption); (case k5 => exact rfl); k_whole; intro h' R' U'; (try dsimp only at R' U' ⊢))))
  k_with "subscriptTail Name Name bytes int" => (k_here; (with_reducible show wpAny _ _ (subscriptTail _ _ (Value.bytes _ _) (Value.int _ _)) _ _ _); (with_unfolding_all refine' item_or ?h0 (by kba_ints) ?h1 ?h2 ?h3 ?h4 ?h5 ?h6 ?h7; (case h0 => rfl); (case h1 => omega); (case h2 => omega); (case h3 => omega); (case h6 => with_unfolding_all rfl); (case h7 => (intro _; with_unfolding_all rfl)); k_whole); first | (intro hlt' t' tk' h0' h1') | (intro hge' h' tk' e' x'))
  k_with "exec Raise some none" => (k_here; k_dflt (refine' RaiseX_own ?F ?X ?T ?e ?q PySem.F.excBase_Exception ?h ?_ ?a ?b ?c ?d ?g; (case F => k_asm); (case X => k_asm); (case T => k_asm); (case e => k_is); (case q => k_exc); (case h => first | rfl | assumption); (case a => rfl); (case b => rfl); (case c => rfl); (case d => rfl); (case g => decide); k_whole))
  k_with "binaryOp BitAnd int int" => (first | (refine and_to (bitAnd_m7 _) ?_) | (refine and_to (band128 _) ?_) | (refine and_to (bitAnd_m3 _) ?_) | (refine and_to (bitAnd_m1 _) ?_))
  k_with "inplaceOp BitAnd int int" => (first | (refine iand_to (band64 _) ?_) | (refine iand_to (bitAnd_m32 _) ?_))
  k_with "binaryOp LShift int int" => ((refine shl_to ?_ ?_ ?_ ?_); (focus omega); (focus omega); (focus omega))
  k_with "exec FunctionDef" => (k_here; (rename (_ = _ ++ _) => hr9; subst hr9); k_dflt (refine' nestDef_K ?d0 ?k0 ?a0 ?_; (case d0 => exact rfl); (case k0 => exact rfl); (case a0 => exact rfl)); (first
  | (k_dflt (refine' nestB (mid := [_]) ?F ?N ?T ?C ?cd ?tb ?o1 ?o2 ?hT ?cl ?_; (case F => k_asm); (case T => k_asm); (case cd => exact rfl); (case C => kn_code); (case tb => assumption); (case N => k_asm); (case o2 => assumption); (case hT => assumption); (case o1 => (intro x9 h9; rcases List.mem_cons.mp h9 with e9 | h9; (subst e9; k_ne); cases h9)); (case cl => exact rfl); k_whole))
  | (k_dflt (refine' nestB (mid := [_, _]) ?F ?N ?T ?C ?cd ?tb ?o1 ?o2 ?hT ?cl ?_; (case F => k_asm); (case T => k_asm); (case cd => exact rfl); (case C => kn_code); (case tb => assumption); (case N => k_asm); (case o2 => assumption); (case hT => assumption); (case o1 => (intro x9 h9; rcases List.mem_cons.mp h9 with e9 | h9; (subst e9; k_ne); rcases List.mem_cons.mp h9 with e9 | h9; (subst e9; k_ne); cases h9)); (case cl => exact rfl); k_whole))); (intro f' c' oc' vs' t' ct' dc' h' tk' F' N' d1' d2' n3' l1; (simp only [List.cons_append, List.nil_append] at N' l1); (try k_lt l1)))
  w_top off
  k_with "call ref" => k_dflt (first | ((fail_if_success (exfalso; omega)); (first | (refine' Ct.use (rd114 w b ks p _ _ t95 (t102 ++ led) h95 q95 f95 hb hlen ⟨hp0, hp1⟩) BS ?cB ?cF ?cN ?ck ?cd ?cu ?_ ?_) | (refine' Ct.use (rd128 w b ks p _ _ t95 (t102 ++ led) h95 q95 f95 hb hlen ⟨hp0, hp1⟩) BS ?cB ?cF ?cN ?ck ?cd ?cu ?_ ?_) | (refine' Ct.use (rd121 w b ks p _ _ t102 (t95 ++ led) h102 q102 f102 hb hlen ⟨hp0, hp1⟩) BS ?cB ?cF ?cN ?ck ?cd ?cu ?_ ?_) | (refine' Ct.use (rd135 w b ks p _ _ t102 (t95 ++ led) h102 q102 f102 hb hlen ⟨hp0, hp1⟩) BS ?cB ?cF ?cN ?ck ?cd ?cu ?_ ?_)); (case cB => assumption); (case cF => assumption); (case cN => first | assumption | exact news_sub (by assumption) perm); (case ck => exact rfl); (case cd => k_room); (case cu => k_units); (all_goals first | (intro e9 cls9 G9 led9 h9 tk9 F9 R9 U9 x9; obtain ⟨ts9, hT9, rfl, y9⟩ := x9; rcases y9 with ⟨hs9, rfl⟩ | ⟨hs9, rfl⟩ <;> (try dsimp only)) | (intro v9 led9 h9 tk9 F9 N9 x9; obtain ⟨ts9, a9, n9, q9, t19, t29, hT9, hs9, hn9, rfl, rfl, hlt9⟩ := x9; (try dsimp only)))) | (exfalso; omega))
  refine wpAny_call ?_
  k_dflt (refine' code_defS B F X N T XB TB D KtsTurn.refl ?kA ?k6 ?k7 ?k8 ?k9 ?kB ?_ hk ?c2 ?c3 ?c4 ?c5; (case kA => exact rfl); (case k6 => k_is); (case k7 => k_is); (case k8 => k_room); (case k9 => exact BindsTo.of_eq rfl); (case c5 => decide); (case kB => exact locs rfl); (case c2 => exact rfl); (case c3 => exact rfl); (case c4 => exact rfl); k_whole; intro g' L' h' FG' F' N' B' X' T' D'; (try dsimp only); (try k_lift B'); (try k_fold))
  k_steps
  all_goals first
    | exact hret _ _ _ _ h₀ KtsTurn.refl (by assumption) (by assumption) B D (rl_ok hT9 h102 hs9 (by first | exact fix0 (by assumption) | exact fix1 (by assumption)) hlt9)
    | exact hret _ _ _ _ h₀ KtsTurn.refl (by assumption) (news_sub (by assumption) perm9c) B D (rl_ok h95 hT9 hs9 (by first | exact fix2 (by assumption) | exact fix3 (by assumption)) (fun x hx => hlt9 x (perm9 x hx)))
    | exact hret _ _ _ _ _ (by assumption) (by assumption) (by assumption) (by assumption) (by assumption) (rl_many hT9 h102 hs9)
    | exact hret _ _ _ _ _ (by assumption) (by assumption) (by assumption) (by assumption) (by assumption) (rl_index hT9 h102 hs9)
    | exact hret _ _ _ _ _ (by assumption) (by assumption) (news_sub (by assumption) perm9) (by assumption) (by assumption) (rl_many h95 hT9 hs9)
    | exact hret _ _ _ _ _ (by assumption) (by assumption) (news_sub (by assumption) perm9) (by assumption) (by assumption) (rl_index h95 hT9 hs9)
end
section
open PySem PySem.W PySem.Spec PySem.Calls PyProof.Rows
set_option maxHeartbeats 4000000 in
theorem c235t (w : World) (b : Array UInt8) (ks : List Int) (p : Int) (t u v0 : Tok) (led : List (Addr × Obj))
    (hb : KBw.bInts b = ks) (hlen : ks.length ≤ 1000) (hp0 : 0 ≤ p) (hp1 : p ≤ ks.length) :
  CtT w 235 [.int 4 v0, .bytes b t, .int p u] 6 led (TagL ks p.toNat led) := by
  unfold CtT
  intro loose mean mg mb dp un gd cn cs a ccd outer A₀ base h₀ L m s Q E BS B F N D hk hd hu hret
  have X := BS.X.keeps B.stays
  have T := BS.T.keeps B.stays
  have XB := BS.X
  have TB := BS.T
  have hMk : KstMark := kstMark
  k_with_none
  k_with "loadName" => (k_here; k_dflt (refine' loadX_L ?k1 ?k2 ?_ ?a ?b; (case a => rfl); (case b => rfl); (case k1 => k_asm); (case k2 => exact rfl); k_whole))
  k_with "leaving ref" => (k_here; k_dflt (first
  | (refine' leaveX_new ?k1 ?k0 ?k2 ?k3 ?k4 ?k5 ?_; (case k0 => assumption); (case k2 => assumption); (case k1 => assumption); (case k3 => k_asm); (case k4 => exact rfl); (case k5 => exact rfl); k_whole; intro h' R' U'; (try dsimp only at R' U' ⊢))
  | (refine' leaveX_made ?k1 ?k0 ?k2 ?k3 ?k4 ?k5 ?_; (case k0 => first | assumption | exact Heap.MadeExc.of (by assumption)); (case k2 => assumption); (case k1 => assumption); (case k3 => k_asm); (case k4 => exact rfl); (case k5 => exact rfl); k_whole; intro h' R' U'; (try dsimp only at R' U' ⊢))
  | (refine' leaveX_on ?k1 ?k2 ?k3 ?k4 ?k5 ?_; (case k3 => assumption); (case k2 => assumption); (case k1 => assumption); (case k4 => assumption); (case k5 => exact rfl); k_whole; intro h' R' U'; (try dsimp only at R' U' ⊢))))
  k_with "subscriptTail Name Name bytes int" => (k_here; (with_reducible show wpAny _ _ (subscriptTail _ _ (Value.bytes _ _) (Value.int _ _)) _ _ _); (with_unfolding_all refine' item_or ?h0 (by kba_ints) ?h1 ?h2 ?h3 ?h4 ?h5 ?h6 ?h7; (case h0 => rfl); (case h1 => omega); (case h2 => omega); (case h3 => omega); (case h6 => with_unfolding_all rfl); (case h7 => (intro _; with_unfolding_all rfl)); k_whole); first | (intro hlt' t' tk' h0' h1') | (intro hge' h' tk' e' x'))
  k_with "exec Raise some none" => (k_here; k_dflt (refine' RaiseX_own ?F ?X ?T ?e ?q PySem.F.excBase_Exception ?h ?_ ?a ?b ?c ?d ?g; (case F => k_asm); (case X => k_asm); (case T => k_asm); (case e => k_is); (case q => k_exc); (case h => first | rfl | assumption); (case a => rfl); (case b => rfl); (case c => rfl); (case d => rfl); (case g => decide); k_whole))
  k_with "binaryOp BitAnd int int" => (first | (refine and_to (bitAnd_m7 _) ?_) | (refine and_to (band128 _) ?_) | (refine and_to (bitAnd_m3 _) ?_) | (refine and_to (bitAnd_m1 _) ?_))
  k_with "inplaceOp BitAnd int int" => (first | (refine iand_to (band64 _) ?_) | (refine iand_to (bitAnd_m32 _) ?_))
  k_with "binaryOp LShift int int" => ((refine shl_to ?_ ?_ ?_ ?_); (focus omega); (focus omega); (focus omega))
  k_with "exec FunctionDef" => (k_here; (rename (_ = _ ++ _) => hr9; subst hr9); k_dflt (refine' nestDef_K ?d0 ?k0 ?a0 ?_; (case d0 => exact rfl); (case k0 => exact rfl); (case a0 => exact rfl)); (first
  | (k_dflt (refine' nestB (mid := [_]) ?F ?N ?T ?C ?cd ?tb ?o1 ?o2 ?hT ?cl ?_; (case F => k_asm); (case T => k_asm); (case cd => exact rfl); (case C => kn_code); (case tb => assumption); (case N => k_asm); (case o2 => assumption); (case hT => assumption); (case o1 => (intro x9 h9; rcases List.mem_cons.mp h9 with e9 | h9; (subst e9; k_ne); cases h9)); (case cl => exact rfl); k_whole))
  | (k_dflt (refine' nestB (mid := [_, _]) ?F ?N ?T ?C ?cd ?tb ?o1 ?o2 ?hT ?cl ?_; (case F => k_asm); (case T => k_asm); (case cd => exact rfl); (case C => kn_code); (case tb => assumption); (case N => k_asm); (case o2 => assumption); (case hT => assumption); (case o1 => (intro x9 h9; rcases List.mem_cons.mp h9 with e9 | h9; (subst e9; k_ne); rcases List.mem_cons.mp h9 with e9 | h9; (subst e9; k_ne); cases h9)); (case cl => exact rfl); k_whole))); (intro f' c' oc' vs' t' ct' dc' h' tk' F' N' d1' d2' n3' l1; (simp only [List.cons_append, List.nil_append] at N' l1); (try k_lt l1)))
  w_top off
  k_with "call ref" => k_dflt ((refine' Ct.use (rd142 w b ks p _ _ led hb hlen hp0 hp1) BS ?cB ?cF ?cN ?ck ?cd ?cu ?_ ?_); (case cB => assumption); (case cF => assumption); (case cN => assumption); (case ck => exact rfl); (case cd => k_room); (case cu => k_units); (all_goals first | (intro e9 cls9 G9 led9 h9 tk9 F9 R9 U9 x9; obtain ⟨rfl, hs9, rfl⟩ := x9; (try dsimp only)) | (intro v9 led9 h9 tk9 F9 N9 x9; have y9 := x9; obtain ⟨a9, b9, n9, t19, t29, hs9, rfl, hk9, rfl, hlt9⟩ := x9; (try dsimp only))))
  refine wpAny_call ?_
  k_dflt (refine' code_defS B F X N T XB TB D KtsTurn.refl ?kA ?k6 ?k7 ?k8 ?k9 ?kB ?_ hk ?c2 ?c3 ?c4 ?c5; (case kA => exact rfl); (case k6 => k_is); (case k7 => k_is); (case k8 => k_room); (case k9 => exact BindsTo.of_eq rfl); (case c5 => decide); (case kB => exact locs rfl); (case c2 => exact rfl); (case c3 => exact rfl); (case c4 => exact rfl); k_whole; intro g' L' h' FG' F' N' B' X' T' D'; (try dsimp only); (try k_lift B'); (try k_fold))
  k_steps
  all_goals first
    | exact hret _ _ _ _ h₀ KtsTurn.refl (by assumption) (by assumption) B D (.inl y9)
    | exact hret _ _ _ _ _ (by assumption) (by assumption) (by assumption) (by assumption) (by assumption) (.inr ⟨hs9, rfl, _, rfl⟩)
end
section
open PySem PySem.W PySem.Spec PySem.Calls PyProof.Rows
set_option maxHeartbeats 4000000 in
theorem c221 (w : World) (n : Int) (t : Tok) (led : List (Addr × Obj)) (hn0 : 0 ≤ n) (hn1 : Bd n) :
  Ct w 221 [.int n t] 2 led (BytesR (enc n.toNat) led) (fun _ _ => False) := by
  unfold Ct
  intro loose mean mg mb dp un gd cn cs a ccd cl outer A₀ base h₀ L m s Q E BS B F N hk hd hu hret hX
  have X := BS.X.keeps B.stays
  have T := BS.T.keeps B.stays
  have hMk : KstMark := kstMark
  have hnil : IntsAre ([] : List Value) [] := .nil
  k_with_none
  k_with "loadName" => (k_here; k_dflt (refine' loadX_L ?k1 ?k2 ?_ ?a ?b; (case a => rfl); (case b => rfl); (case k1 => k_asm); (case k2 => exact rfl); k_whole))
  k_with "leaving ref" => (k_here; k_dflt (first
  | (refine' leaveX_new ?k1 ?k0 ?k2 ?k3 ?k4 ?k5 ?_; (case k0 => assumption); (case k2 => assumption); (case k1 => assumption); (case k3 => k_asm); (case k4 => exact rfl); (case k5 => exact rfl); k_whole; intro h' R' U'; (try dsimp only at R' U' ⊢))
  | (refine' leaveX_made ?k1 ?k0 ?k2 ?k3 ?k4 ?k5 ?_; (case k0 => first | assumption | exact Heap.MadeExc.of (by assumption)); (case k2 => assumption); (case k1 => assumption); (case k3 => k_asm); (case k4 => exact rfl); (case k5 => exact rfl); k_whole; intro h' R' U'; (try dsimp only at R' U' ⊢))
  | (refine' leaveX_on ?k1 ?k2 ?k3 ?k4 ?k5 ?_; (case k3 => assumption); (case k2 => assumption); (case k1 => assumption); (case k4 => assumption); (case k5 => exact rfl); k_whole; intro h' R' U'; (try dsimp only at R' U' ⊢))))
  k_with "subscriptTail Name Name bytes int" => (k_here; (with_reducible show wpAny _ _ (subscriptTail _ _ (Value.bytes _ _) (Value.int _ _)) _ _ _); (with_unfolding_all refine' item_or ?h0 (by kba_ints) ?h1 ?h2 ?h3 ?h4 ?h5 ?h6 ?h7; (case h0 => rfl); (case h1 => omega); (case h2 => omega); (case h3 => omega); (case h6 => with_unfolding_all rfl); (case h7 => (intro _; with_unfolding_all rfl)); k_whole); first | (intro hlt' t' tk' h0' h1') | (intro hge' h' tk' e' x'))
  k_with "exec Raise some none" => (k_here; k_dflt (refine' RaiseX_own ?F ?X ?T ?e ?q PySem.F.excBase_Exception ?h ?_ ?a ?b ?c ?d ?g; (case F => k_asm); (case X => k_asm); (case T => k_asm); (case e => k_is); (case q => k_exc); (case h => first | rfl | assumption); (case a => rfl); (case b => rfl); (case c => rfl); (case d => rfl); (case g => decide); k_whole))
  k_with "binaryOp BitAnd int int" => (first | (refine and_to (bitAnd_m7 _) ?_) | (refine and_to (band128 _) ?_) | (refine and_to (bitAnd_m3 _) ?_) | (refine and_to (bitAnd_m1 _) ?_))
  k_with "inplaceOp BitAnd int int" => (first | (refine iand_to (band64 _) ?_) | (refine iand_to (bitAnd_m32 _) ?_))
  k_with "binaryOp LShift int int" => ((refine shl_to ?_ ?_ ?_ ?_); (focus omega); (focus omega); (focus omega))
  k_with "exec FunctionDef" => (k_here; (rename (_ = _ ++ _) => hr9; subst hr9); k_dflt (refine' nestDef_K ?d0 ?k0 ?a0 ?_; (case d0 => exact rfl); (case k0 => exact rfl); (case a0 => exact rfl)); (first
  | (k_dflt (refine' nestB (mid := [_]) ?F ?N ?T ?C ?cd ?tb ?o1 ?o2 ?hT ?cl ?_; (case F => k_asm); (case T => k_asm); (case cd => exact rfl); (case C => kn_code); (case tb => assumption); (case N => k_asm); (case o2 => assumption); (case hT => assumption); (case o1 => (intro x9 h9; rcases List.mem_cons.mp h9 with e9 | h9; (subst e9; k_ne); cases h9)); (case cl => exact rfl); k_whole))
  | (k_dflt (refine' nestB (mid := [_, _]) ?F ?N ?T ?C ?cd ?tb ?o1 ?o2 ?hT ?cl ?_; (case F => k_asm); (case T => k_asm); (case cd => exact rfl); (case C => kn_code); (case tb => assumption); (case N => k_asm); (case o2 => assumption); (case hT => assumption); (case o1 => (intro x9 h9; rcases List.mem_cons.mp h9 with e9 | h9; (subst e9; k_ne); rcases List.mem_cons.mp h9 with e9 | h9; (subst e9; k_ne); cases h9)); (case cl => exact rfl); k_whole))); (intro f' c' oc' vs' t' ct' dc' h' tk' F' N' d1' d2' n3' l1; (simp only [List.cons_append, List.nil_append] at N' l1); (try k_lt l1)))
  w_top off
  k_with "exec While Compare cons nil" => k_while (fun _ row m => VInv n row m ∧ 0 ≤ m ∧ Bd m ∧ row.length ≤ 20) (fun _ row m => m.toNat) "row" "number"
  k_with "state" => first
    | exact ⟨rfl, by omega, by assumption, by decide⟩
    | exact vinv_more (by assumption) hn1 (by assumption) (by assumption)
  k_with "KswEnd" => k_dflt ((rename News _ _ _ _ => nE9); (try simp only [List.push_toArray] at nE9); (refine ksw_end ⟨_, _, _, _, _⟩ (by assumption) nE9 (by kst_in) (by exact ints_snoc (by assumption)) (by kst_all) (by ksw_same) (by kst_p) (by exact fdiv_less (by assumption))))
  k_with "call type:bytes" => k_dflt ((refine' bytes_snoc (by assumption) (by assumption) rfl (by assumption) (vinv_in (by assumption) (by assumption) (by assumption)) (by omega) ?_); intro h9 t9 k9 F9 N9 hb9)
  refine wpAny_call ?_
  k_dflt cell_enter
  k_steps
  all_goals first
    | exact hret _ _ _ _ (by assumption) (by assumption) ⟨_, _, rfl, hb9.trans (vinv_done (by assumption) (by assumption) (by omega)), rfl⟩
end
section
open PySem PySem.W PySem.Spec PySem.Calls PyProof.Rows Builtin
theorem slot_join : Slot "bytes" "join" "bytes.join" :=
  .of (owner := "bytes") (n := "join") (by rw [typeLookup_type, builtinLookup_eq_fast]; kernel_rfl) (by decide +kernel) (by decide +kernel) (by decide +kernel)
    (by first | exact .inl (by decide +kernel) | exact .inr (by decide +kernel)) (by rw [isSubtype_type]; kernel_rfl)
theorem type_join : typeOf (.builtin "bytes.join") = pure (.type "method_descriptor") := by show builtinType _ = _; rw [builtinType_eq_fast]; kernel_rfl
theorem entry_join : entryFor table "bytes.join" = some Builtin.«bytes.join» := entryFor_of_tree (by kernel_rfl)
theorem args_join (a b : Value) : argsOk "bytes.join" ⟨[a, b], []⟩ := by
  unfold argsOk; rw [signature?_of (id := "bytes.join") (n := ['n', 'i', 'o', 'j']) (o := ['s', 'e', 't', 'y', 'b']) (by kernel_rfl) FB.owner_bytes]; kernel_rfl
/-- pieces in a list -/
inductive BytesAre : List Value → List (Array UInt8) → Prop where
  | nil : BytesAre [] []
  | cons (b : Array UInt8) (t : Tok) {vs ps} : BytesAre vs ps → BytesAre (.bytes b t :: vs) (b :: ps)
theorem BytesAre.length {vs : List Value} {ps : List (Array UInt8)} (h : BytesAre vs ps) : vs.length = ps.length := by
  induction h with
  | nil => rfl
  | cons b t _ ih => simp [ih]
theorem BytesAre.at {vs : List Value} {ps : List (Array UInt8)} (h : BytesAre vs ps) : ∀ i, i < vs.length → ∃ t, vs.getD i .none = .bytes (ps.getD i #[]) t := by
  induction h with
  | nil => intro i hi; exact absurd hi (Nat.not_lt_zero _)
  | cons b t _ ih =>
    intro i hi
    cases i with
    | zero => exact ⟨t, rfl⟩
    | succ i => exact ih i (Nat.lt_of_succ_lt_succ hi)
def cat (ps : List (Array UInt8)) : Array UInt8 := ps.foldl (· ++ ·) #[]
theorem joined_fold (l : List (Array UInt8)) : ∀ (n : Nat) (acc : Array UInt8), ((l.zipIdx n).foldl (fun out (p, i) => (if i > 0 then out ++ (#[] : Array UInt8) else out) ++ p) acc) = l.foldl (· ++ ·) acc := by
  induction l with
  | nil => intro n acc; rfl
  | cons x l ih =>
    intro n acc
    rw [List.zipIdx_cons, List.foldl_cons, ih]
    have e : (if n > 0 then acc ++ (#[] : Array UInt8) else acc) = acc := by split <;> simp
    show List.foldl _ ((if n > 0 then acc ++ (#[] : Array UInt8) else acc) ++ x) l = _
    rw [e]
    rfl
theorem joined_nil (ps : List (Array UInt8)) : Bytes.joined #[] ps = cat ps := joined_fold ps 0 #[]
section
variable {M : Model} {A : Around} {E : Value → Shared → Prop} {s : Shared}
theorem wpAny_seqItems {D : Addr} {vs : Array Value} {Q : Option (Array Value) → Shared → Prop} (hl : s.heap.IsList D vs) (h : Q (some vs) s) : wpAny M A (seqItems? (.ref D)) Q E s := by
  obtain ⟨o, ho, _, k, hd⟩ := hl
  unfold seqItems?
  refine wpAny_bind (wpAny_load ho ?_)
  have hd' : o.data = .seq vs k := hd
  rw [hd']
  exact wpAny_pure h
theorem take_eq {b : Array UInt8} {t : Tok} {id : String} : Bytes.takeBufferQuiet? id (.bytes b t) 0 = pure (some (b, none)) := by
  have e : Bytes.takeBuffer? id (.bytes b t) 0 = pure (some (b, none)) := by
    unfold Bytes.takeBuffer?
    rw [KBy.special_eq KBy.look_buffer, KBy.own_buffer]
    simp only [pure_bind, Bool.not_true]
    have e0 : ((0 : Int) == Bytes.fullReadOnly) = false := by decide +kernel
    rw [e0, KBy.buffer_eq]
    rfl
  unfold Bytes.takeBufferQuiet?
  rw [e]
  rfl
end
theorem letGo_none {M : Model} {A : Around} {E : Value → Shared → Prop} {s : Shared} {keep : List Value} {Q : Unit → Shared → Prop} : ∀ {l : List (Value × Option Value)}, (∀ x ∈ l, x.2 = none) → Q () s → wpAny M A (Bytes.joinLetGo l keep) Q E s
  | [], _, h => wpAny_pure h
  | (x, w) :: r, hl, h => by
    have e : w = none := hl (x, w) (.head _)
    subst e
    show wpAny _ _ (letGo _ _ >>= fun _ => _) _ _ _
    exact wpAny_bind (wpAny_letGo (letGo_none (fun y hy => hl y (.tail _ hy)) h))
theorem cat_size (ps : List (Array UInt8)) : (cat ps).size = ps.foldl (fun n p => n + p.size) 0 := by
  have key : ∀ (l : List (Array UInt8)) (acc : Array UInt8) (n : Nat), acc.size = n → (l.foldl (· ++ ·) acc).size = l.foldl (fun n p => n + p.size) n := by
    intro l
    induction l with
    | nil => intro acc n h; exact h
    | cons x l ih => intro acc n h; exact ih _ _ (by rw [Array.size_append, h])
  exact key ps #[] 0 rfl
theorem meets_join {D : Addr} {vs : List Value} {ps : List (Array UInt8)} {t : Tok} (hb : BytesAre vs ps) :
    Meets (Builtin.«bytes.join» ⟨[.bytes #[] t, .ref D], []⟩) (fun _ R s => s.heap.IsList D vs.toArray ∧ (ps.foldl (fun n p => n + p.size) 0) ≤ 16777216 ∧ ∀ t' k, R (.ok (.ret (.bytes (cat ps) t'))) { s with toks := k }) := by
  refine .of_wp fun prog w A R s hS => ?_
  obtain ⟨hl, hsz, h⟩ := hS
  show wpAny _ _ (Bytes.joinItems (.ref D) >>= fun r => _) _ _ s
  unfold Bytes.joinItems
  refine wpAny_bind (wpAny_bind (wpAny_typeOf hl.typeIs ?_))
  refine bm_if_true (by decide) ?_
  refine wpAny_pure ?_
  refine wpAny_bind (wpAny_seqItems hl ?_)
  dsimp only
  refine bm_if_true (by decide) ?_
  have one : vs.length = 1 ∨ vs.length ≠ 1 := by omega
  rcases one with one | one
  · obtain ⟨x, hx⟩ := List.length_eq_one_iff.mp one
    subst hx
    cases hb with
    | cons b tb hb =>
      cases hb
      refine wpAny_bind (wpAny_typeOf (typeIs_bytes _ _ _) ?_)
      refine bm_if_true (by decide) ?_
      refine wpAny_bind (wpAny_rule (wpAny_pure ⟨_, rfl, ?_⟩))
      have e : cat [b] = b := by simp [cat]
      have := h tb s.toks
      rw [e] at this
      exact this
  obtain ⟨xs, hxs⟩ : ∃ xs, xs = vs.toArray := ⟨_, rfl⟩
  rw [← hxs]
  have one' : xs.size ≠ 1 := by subst hxs; simpa using one
  rcases xs with ⟨_ | ⟨x, _ | ⟨y, r⟩⟩⟩
  rotate_left
  · exact absurd rfl one'
  all_goals (show wpAny _ _ (forIn _ _ _ >>= _) _ _ _)
  all_goals (rw [hxs]; rw [Std.Legacy.Range.forIn_eq_forIn_range']; (refine wpAny_bind (wpAny_forIn_list _ (fun l b s' => ∃ i, i ≤ vs.length ∧ l = List.range' i (vs.length - i) ∧ b.1 = (ps.take i).toArray ∧ (∀ x ∈ b.2, x.2 = none ∧ x.1.onHeap = false) ∧ s' = s) _ ?_ ?_ _ _ ?_)))
  all_goals first
    | (focus (intro i0 rest b s' H; obtain ⟨i, hi, hl', hb1, hb2, hs'⟩ := H; subst hs'; cases hk : vs.length - i with
        | zero => (rw [hk] at hl'; cases hl')
        | succ k =>
          rw [hk, List.range'_succ] at hl'
          cases hl'
          have hlt : i0 < vs.length := by omega
          obtain ⟨tt, ht⟩ := hb.at i0 hlt
          have ht' : vs.toArray.getD i0 .none = .bytes (ps.getD i0 #[]) tt := by
            rw [← ht]; simp
          have hany : (b.2.any fun x => x.1.onHeap) = false := List.any_eq_false.mpr fun x hx => by rw [(hb2 x hx).2]; decide
          refine wpAny_bind (wpAny_seqItems hl ?_)
          dsimp only
          refine bm_if_false (by rw [hany]; decide) ?_
          rw [ht']
          refine wpAny_bind (wpAny_holding (wpAny_of_eq take_eq ?_))
          dsimp only
          refine wpAny_bind (wpAny_seqItems hl ?_)
          dsimp only
          refine bm_if_false (by simp) ?_
          refine wpAny_pure ⟨i0 + 1, hlt, ?_, ?_, ?_, rfl⟩
          · have : vs.length - (i0 + 1) = k := by omega
            rw [this]
          · dsimp only
            have hlt2 : i0 < ps.length := by rw [← hb.length]; exact hlt
            rw [hb1, List.push_toArray, List.take_add_one, List.getD_eq_getElem?_getD, List.getElem?_eq_getElem hlt2]
            rfl
          · intro x hx
            rcases List.mem_append.mp hx with h1 | h1
            · exact hb2 x h1
            · cases List.mem_singleton.mp h1
              exact ⟨rfl, rfl⟩))
    | (focus (intro b s' H; obtain ⟨i, hi, hl', hb1, hb2, hs'⟩ := H; subst hs'
              have hi' : i = vs.length := by
                cases hk : vs.length - i with
                | zero => omega
                | succ k => (rw [hk, List.range'_succ] at hl'; cases hl')
              have hall : b.1 = ps.toArray := by rw [hb1, hi', hb.length, List.take_length]
              refine wpAny_bind ?_
              unfold Bytes.payload Bytes.payload?
              refine wpAny_bind (wpAny_pure (wpAny_pure ?_))
              rw [hall]
              refine bm_if_false ?_ ?_
              · refine KBy.tooLong_not ?_
                simpa using hsz
              refine wpAny_bind ?_
              show wpAny _ _ (mkBytes _) _ _ _
              rw [List.toList_toArray, joined_nil]
              refine wpAny_mkBytes ?_ (by rw [sizeLine_eq, cat_size]; exact hsz)
              refine wpAny_bind (wpAny_holding (wpAny_point ?_))
              refine wpAny_bind (letGo_none (fun x hx => (hb2 x hx).1) ?_)
              exact wpAny_pure ⟨_, rfl, h _ _⟩))
    | (refine ⟨0, Nat.zero_le _, ?_, rfl, (fun x hx => nomatch hx), rfl⟩; simp [Std.Legacy.Range.size])
section
variable {prog : Program} {w : World} {A : Around} {E : Value → Shared → Prop} {s : Shared} {t : Tok}
theorem join_bytes {D : Addr} {vs : List Value} {ps : List (Array UInt8)} {Q : Value → Shared → Prop} (hl : s.heap.IsList D vs.toArray) (hb : BytesAre vs ps) (hsz : (cat ps).size ≤ 16777216)
    (h : ∀ t' k, Q (.bytes (cat ps) t') { s with toks := k }) : wpAny (model prog w) A (call (.builtin "bytes.join") [.bytes #[] t, .ref D]) Q E s :=
  call_meets slot_join (typeIs_bytes _ _ _) entry_join (args_join _ _) (meets_join hb) ⟨hl, by rw [← cat_size]; exact hsz, h⟩
theorem method_join {M : Model} {b : Array UInt8} {pl : Sem Bool} {Q : Value × List Value → Shared → Prop} (h : Q (.builtin "bytes.join", [.bytes b t]) s) : wpAny M A (getMethod (.bytes b t) "join" pl) Q E s := by
  with_reducible exact KBd.method_of (.bytes b t) (typeIs_bytes _ _ _) slot_join type_join KBd.noRef h
theorem bm_bytes : specialOf (.bytes b t) "__bytes__" = pure (some (.builtin "bytes.__bytes__")) := KBy.special_eq (by rw [typeLookup_type, builtinLookup_eq_fast]; kernel_rfl)
end
theorem bints_append (a b : Array UInt8) : KBw.bInts (a ++ b) = KBw.bInts a ++ KBw.bInts b := by
  unfold KBw.bInts
  simp
theorem cat_ints (ps : List (Array UInt8)) : KBw.bInts (cat ps) = (ps.map KBw.bInts).flatten := by
  have key : ∀ (l : List (Array UInt8)) (acc : Array UInt8), KBw.bInts (l.foldl (· ++ ·) acc) = KBw.bInts acc ++ (l.map KBw.bInts).flatten := by
    intro l
    induction l with
    | nil => intro acc; simp
    | cons x l ih => intro acc; rw [List.foldl_cons, ih, bints_append]; simp
  have := key ps #[]
  rw [show KBw.bInts (#[] : Array UInt8) = [] from rfl, List.nil_append] at this
  exact this
section
variable {prog : Program} {w : World} {A : Around} {E : Value → Shared → Prop} {s : Shared} {b : Array UInt8} {t : Tok}
theorem bb_new {Q : Value → Shared → Prop} (hQ : Q (.bytes b t) s) :
    codeAny (model prog w) A (.call (.builtin "bytes.__new__") ⟨[.type "bytes", .bytes b t], []⟩) (wants Q E) s := by
  refine codeAny_of_tree ?_
  show wpAny _ A.in1 (do checkBuiltinCall "bytes.__new__" ⟨[.type "bytes", .bytes b t], []⟩; again (.builtin "bytes.__new__" ⟨[.type "bytes", .bytes b t], []⟩)) _ _ s
  refine wpAny_bind (wpAny_of_eq (F.bm_newCall _) (wpAny_pure ⟨plainId_quiet F.bm_plain _, codeAny_builtin F.bm_entry ?_⟩))
  rw [Around.under_plainId F.bm_plain _]
  unfold Builtin.«bytes.__new__»
  refine wpAny_bind (wpAny_of_eq (a := true) rfl ?_)
  refine bm_if_false rfl ?_
  refine wpAny_bind (wpAny_of_eq F.bm_sub ?_)
  refine bm_if_false rfl ?_
  refine wpAny_bind (wpAny_of_eq (F.bm_bind _) ?_)
  refine wpAny_bind (wpAny_of_eq (a := ()) rfl ?_)
  refine wpAny_bind (wpAny_of_eq (a := ()) rfl ?_)
  refine bm_if_false rfl ?_
  refine wpAny_bind (wpAny_of_eq bm_bytes ?_)
  refine wpAny_bind (wpAny_rule ?_)
  refine wpAny_bind (wpAny_typeOf (typeIs_bytes _ _ _) ?_)
  refine bm_if_true (by decide) ?_
  show wpAny _ _ (ret (.bytes b t)) _ _ _
  exact wpAny_pure hQ
theorem bytes_bytes {Q : Value → Shared → Prop} (hQ : Q (.bytes b t) s) : wpAny (model prog w) A (call (.type "bytes") [.bytes b t]) Q E s := by
  refine callType_codes (Q₁ := fun obj s₁ => s₁.TypeIs obj "bytes" ∧ Q obj s₁) F.bm_called (F.bm_typeCall _) F.entry_object_init
    (bb_new ⟨PySem.W.typeIs_bytes _ _ _, hQ⟩) fun obj s₁ h₁ => ?_
  exact ⟨h₁.1, F.args_object_init_2 obj _, object_init_meets F.bm_called.init.lookup F.bm_called.made (by decide) prog w A.in1 _ s₁ ⟨h₁.1, rfl, h₁.2⟩⟩
end
end
section
open PySem PySem.W PySem.Spec PySem.Calls PyProof.Rows
/-- a writer that puts a piece at the end of the list at D -/
def Wr (w : World) (f D : Addr) (rest : List (Addr × Obj)) : Prop :=
  ∀ (vs : List Value) (k : Nat) (b : Array UInt8) (t : Tok), vs.length ≤ 1000 →
    Ct w f [.bytes b t] 2 ((D, W.listOf vs.toArray k) :: rest) (fun led' v => v = .none ∧ ∃ k', led' = (D, W.listOf (vs.toArray.push (.bytes b t)) k') :: rest) (fun _ _ => False)
theorem Wr.use {w : World} {f D : Addr} {rest : List (Addr × Obj)} (C : Wr w f D rest) {x : Addr × Obj} {vs : List Value} {k : Nat} {b : Array UInt8} {t : Tok}
    {loose : List Str} {mean : ExcName → Option Value} {mg mb : Str → Option Value} {dp un : Nat} {gd : Option (List Code)} {cn : Str} {cs : Scope} {a : Addr} {ccd : Value} {cl : List (Str × Addr)} {outer : List Env} {A₀ : Around} {base h₀ : Heap} {L : Addr} {m : Str → Option Value} {s : Shared} {Q E : Value → Shared → Prop}
    (BS : Bs w loose mean mg mb base) (B : Below A₀ base outer h₀) (F : Fr h₀ L s.heap m) (N : News h₀ L s.heap (x :: (D, W.listOf vs.toArray k) :: rest)) (hl : vs.length ≤ 1000) (hk : cs.kind = .function) (hd : dp + 2 < recursionLimit) (hu : un + 16 < cLine)
    (h : ∀ k' h' tk', Fr h₀ L h' m → News h₀ L h' ((D, W.listOf (vs ++ [Value.bytes b t]).toArray k') :: rest) → Q .none { s with heap := h', toks := tk' }) :
    wpAny (model PySem.Challenge.rw_jd0021_01.row.prog w) (ktrTop dp un gd cn cs L a ccd cl outer) (call (.ref f) [.bytes b t]) Q E s := by
  refine Ct.use (C vs k b t hl) BS B F (news_sub N fun _ hx => .tail _ hx) hk hd hu ?_ ?_
  · intro v led' h' tk' F' N' hR
    obtain ⟨e, k', e'⟩ := hR
    subst e
    subst e'
    rw [List.push_toArray] at N'
    exact h k' h' tk' F' N'
  · intro e cls G led' h' tk' _ _ _ x
    exact x.elim
def FnIn (f : Addr) (rest : List (Addr × Obj)) : Prop := ∃ oc od fd sl, (f, (⟨oc, od, .func fd, sl⟩ : Obj)) ∈ rest
theorem fn_at {h₀ h : Heap} {L f : Addr} {rest news : List (Addr × Obj)} (N : News h₀ L h news) (hf : FnIn f rest) (hs : ∀ x ∈ rest, x ∈ news) : FnAt f h := by
  obtain ⟨oc, od, fd, sl, hm⟩ := hf
  exact FnAt.of N (hs _ hm)
structure Ng (n m : Int) : Prop where
  eq : n + 2 ^ 64 = m
def EInv (n : Int) (ps : List (Array UInt8)) (bits v : Int) : Prop :=
  (∀ p ∈ ps, (KBw.bInts p).length = 1) ∧ (ps.map KBw.bInts).flatten ++ enc (v.toNat * 128 + bits.toNat) = enc n.toNat ∧ 0 ≤ bits ∧ bits < 128 ∧ 0 ≤ v
theorem einv_start {n : Int} (h : 0 ≤ n) : EInv n [] (n % 128) (n / 128) := by
  refine ⟨(fun _ hp => by cases hp), ?_, by omega, by omega, by omega⟩
  have e : (n / 128).toNat * 128 + (n % 128).toNat = n.toNat := by omega
  rw [e]
  rfl
theorem einv_more {n bits v : Int} {ps : List (Array UInt8)} {b : Array UInt8} (h : EInv n ps bits v) (hv : ¬ v = 0) (hb : KBw.bInts b = [128 + bits]) : EInv n (ps ++ [b]) (v % 128) (v / 128) := by
  obtain ⟨h1, h2, h3, h4, h5⟩ := h
  refine ⟨?_, ?_, by omega, by omega, by omega⟩
  · intro p hp
    rcases List.mem_append.mp hp with hp | hp
    · exact h1 p hp
    · rw [List.mem_singleton.mp hp, hb]; rfl
  · rw [← h2, enc_ge (n := v.toNat * 128 + bits.toNat) (by omega), List.map_append, List.flatten_append]
    have e1 : (((v.toNat * 128 + bits.toNat) % 128 + 128 : Nat) : Int) = 128 + bits := by omega
    have e2 : (v.toNat * 128 + bits.toNat) / 128 = (v / 128).toNat * 128 + (v % 128).toNat := by omega
    rw [e1, e2]
    simp [hb]
theorem einv_start7 {n : Int} (h : 0 ≤ n) : EInv n [] (n % 128) (n.fdiv (2 ^ Int.toNat 7)) := by
  have e : n.fdiv (2 ^ Int.toNat 7) = n / 128 := Int.fdiv_eq_ediv_of_nonneg _ (by decide)
  rw [e]
  exact einv_start h
theorem einv_startN {n m : Int} (h : Ng n m) (hm : Bd m) : EInv m [] ((n + 1 * 2 ^ Int.toNat 64) % 128) ((n + 1 * 2 ^ Int.toNat 64).fdiv (2 ^ Int.toNat 7)) := by
  have e : n + 1 * 2 ^ Int.toNat 64 = m := by rw [← h.eq, Int.one_mul]; rfl
  rw [e]
  exact einv_start7 hm.lo
theorem einv_more7 {n bits v : Int} {ps : List (Array UInt8)} {b : Array UInt8} (h : EInv n ps bits v) (hv : ¬ v = 0) (hb : KBw.bInts b = [128 + bits]) : EInv n (ps ++ [b]) (v % 128) (v.fdiv (2 ^ Int.toNat 7)) := by
  have e : v.fdiv (2 ^ Int.toNat 7) = v / 128 := Int.fdiv_eq_ediv_of_nonneg _ (by decide)
  rw [e]
  exact einv_more h hv hb
theorem shr_less {v : Int} (h0 : 0 ≤ v) (h : ¬ v = 0) : (v.fdiv (2 ^ Int.toNat 7)).toNat < v.toNat := by
  have e : v.fdiv (2 ^ Int.toNat 7) = v / 128 := Int.fdiv_eq_ediv_of_nonneg _ (by decide)
  rw [e]
  omega
theorem einv_done {n bits v : Int} {ps : List (Array UInt8)} {b : Array UInt8} (h : EInv n ps bits v) (hv : v = 0) (hb : KBw.bInts b = [bits]) : ((ps ++ [b]).map KBw.bInts).flatten = enc n.toNat := by
  obtain ⟨h1, h2, h3, h4, h5⟩ := h
  subst hv
  rw [← h2, enc_lt (by omega)]
  have e1 : (((0 : Int).toNat * 128 + bits.toNat : Nat) : Int) = bits := by omega
  rw [e1]
  simp [hb]
theorem flat_len {ps : List (Array UInt8)} (h : ∀ p ∈ ps, (KBw.bInts p).length = 1) : (ps.map KBw.bInts).flatten.length = ps.length := by
  induction ps with
  | nil => rfl
  | cons p r ih =>
    rw [List.map_cons, List.flatten_cons, List.length_append, ih fun x hx => h x (.tail _ hx), h p (.head _), List.length_cons]
    omega
theorem einv_len {n bits v : Int} {ps : List (Array UInt8)} (h : EInv n ps bits v) (hn : Bd n) : ps.length < 10 := by
  have h1 := hn.len
  have h2 := enc_pos (v.toNat * 128 + bits.toNat)
  have h3 := congrArg List.length h.2.1
  rw [List.length_append, flat_len h.1] at h3
  omega
theorem bints_one {x : Int} (h : ((x.toNat.toUInt8.toNat : Nat) : Int) = x) : KBw.bInts (List.toArray [x.toNat.toUInt8]) = [x] := by
  show [((x.toNat.toUInt8.toNat : Nat) : Int)] = [x]
  rw [h]
theorem bytes_are_snoc {vs : List Value} {ps : List (Array UInt8)} {b : Array UInt8} {t : Tok} (h : BytesAre vs ps) : BytesAre (vs ++ [.bytes b t]) (ps ++ [b]) := by
  induction h with
  | nil => exact .cons _ _ .nil
  | cons c u _ ih => exact .cons _ _ ih
/-- what a writing gives: the pieces on the ledger -/
def PcsR (D : Addr) (rest : List (Addr × Obj)) (ks : List Int) (led' : List (Addr × Obj)) (v : Value) : Prop :=
  ∃ vs ps k, v = .none ∧ led' = (D, W.listOf vs.toArray k) :: rest ∧ BytesAre vs ps ∧ (ps.map KBw.bInts).flatten = ks
abbrev Sg : Type := List Value × List (Array UInt8) × Nat × Int × Tok × Int × Tok
section
variable {prog : Program} {w : World} {A : Around} {E : Value → Shared → Prop} {Q : Flow → Shared → Prop} {s : Shared} {env : Env} {h₀ : Heap} {L : Addr}
abbrev sgLed (D : Addr) (rest : List (Addr × Obj)) (c : Sg) : List (Addr × Obj) := (D, W.listOf c.1.toArray c.2.2.1) :: rest
abbrev sgPs (c : Sg) : List (Str × Value) := [(Str.ofString "bits", .int c.2.2.2.1 c.2.2.2.2.1), (Str.ofString "value", .int c.2.2.2.2.2.1 c.2.2.2.2.2.2)]
abbrev sgP (n : Int) (c : Sg) : Prop := EInv n c.2.1 c.2.2.2.1 c.2.2.2.2.2.1
abbrev sgM (c : Sg) : Nat := c.2.2.2.2.2.1.toNat
theorem sg_while {test : Expr} {body : List Stmt} {pos : Pos} {m₀ : Str → Option Value} {D : Addr} {rest : List (Addr × Obj)} {n bits v : Int} {k : Nat} {tb tv : Tok}
    (F : Fr h₀ L s.heap m₀) (N : News h₀ L s.heap ((D, W.listOf ([] : List Value).toArray k) :: rest)) (h1 : m₀ (Str.ofString "bits") = some (.int bits tb)) (h2 : m₀ (Str.ofString "value") = some (.int v tv)) (hp : EInv n [] bits v)
    (turn : ∀ (vs : List Value) (ps : List (Array UInt8)) (k : Nat) (bits : Int) (tb : Tok) (v : Int) (tv : Tok) (u : Str → Option Value) h tk, BytesAre vs ps → EInv n ps bits v →
      Fr h₀ L h (kstB (fun z => if ([] : List Str).contains z then u z else m₀ z) [(Str.ofString "bits", .int bits tb), (Str.ofString "value", .int v tv)]) → News h₀ L h ((D, W.listOf vs.toArray k) :: rest) →
      wpAny (model prog w) A (isTrue test env (eval test env)) (fun b s₂ =>
        if b = true then wpAny (model prog w) A (execs body env) (KswPost h₀ L s (sgLed D rest) sgPs (fun c => BytesAre c.1 c.2.1) [] m₀ (sgP n) sgM Q (vs, ps, k, bits, tb, v, tv)) E s₂ else Q .next s₂) E { s with heap := h, toks := tk })
    (hE : PassesOwn (model prog w) A env E := by passes_own) :
    wpAny (model prog w) A (exec (.While test body [] pos) env) Q E s :=
  ksw_while (sgLed D rest) sgPs (fun c => BytesAre c.1 c.2.1) [] (sgP n) sgM ([], [], k, bits, tb, v, tv) F N .nil
    (fun p hp => by
      rcases List.mem_cons.mp hp with e | hp
      · subst e; exact h1
      · cases List.mem_singleton.mp hp; exact h2) hp
    (fun c u h tk hf hp' hF hN => by obtain ⟨vs, ps, k, bits, tb, v, tv⟩ := c; exact turn vs ps k bits tb v tv u h tk hf hp' hF hN) hE
theorem sg_end {h' : Heap} {tk : Nat} {m₀ m' : Str → Option Value} {D : Addr} {rest : List (Addr × Obj)} {n bits v bits' v' : Int} {k k' : Nat} {tb tv tb' tv' : Tok} {vs vs' : List Value} {ps ps' : List (Array UInt8)}
    (F : Fr h₀ L h' m') (N : News h₀ L h' ((D, W.listOf vs'.toArray k') :: rest)) (hb : BytesAre vs' ps') (h1 : m' (Str.ofString "bits") = some (.int bits' tb')) (h2 : m' (Str.ofString "value") = some (.int v' tv'))
    (hr : ∀ z, (∀ p ∈ [((Str.ofString "bits"), Value.int bits' tb'), (Str.ofString "value", Value.int v' tv')], z ≠ p.1) → ([] : List Str).contains z = false → m' z = m₀ z) (hp : EInv n ps' bits' v') (hm : v'.toNat < v.toNat) :
    KswEnd h₀ L s (sgLed D rest) sgPs (fun c => BytesAre c.1 c.2.1) [] m₀ (sgP n) sgM (vs, ps, k, bits, tb, v, tv) { s with heap := h', toks := tk } :=
  ksw_end (vs', ps', k', bits', tb', v', tv') F N (fun _ h => h) hb
    (fun p hp => by
      rcases List.mem_cons.mp hp with e | hp
      · subst e; exact h1
      · cases List.mem_singleton.mp hp; exact h2) hr hp hm
theorem bints_or {x : Int} (h : ((x + 128).toNat.toUInt8.toNat : Int) = x + 128) : KBw.bInts (List.toArray [(x + 128).toNat.toUInt8]) = [128 + x] := by
  rw [bints_one h, Int.add_comm]
end
end
section
open PySem PySem.W PySem.Spec PySem.Calls PyProof.Rows
local macro_rules | `(tactic| walk_at "callWith ref") => `(tactic| k_extra "callWith ref")
local macro_rules | `(tactic| walk_at "FnAt") => `(tactic| k_extra "FnAt")
local macro_rules | `(tactic| walk_at "binaryOp BitOr int int") => `(tactic| (refine or_to (bor128 (by omega) (by omega)) ?_))
set_option maxHeartbeats 4000000 in
theorem c178 (w : World) (f D : Addr) (rest : List (Addr × Obj)) (k : Nat) (n : Int) (t : Tok) (hn0 : 0 ≤ n) (hn1 : Bd n) (hW : Wr w f D rest) (hfn : FnIn f rest) :
  Ct w 178 [.ref f, .int n t, .bool true] 4 ((D, W.listOf ([] : List Value).toArray k) :: rest) (PcsR D rest (enc n.toNat)) (fun _ _ => False) := by
  unfold Ct
  intro loose mean mg mb dp un gd cn cs a ccd cl outer A₀ base h₀ L m s Q E BS B F N hk hd hu hret hX
  have X := BS.X.keeps B.stays
  have T := BS.T.keeps B.stays
  have hMk : KstMark := kstMark
  k_with_none
  k_with "loadName" => (k_here; k_dflt (refine' loadX_L ?k1 ?k2 ?_ ?a ?b; (case a => rfl); (case b => rfl); (case k1 => k_asm); (case k2 => exact rfl); k_whole))
  k_with "leaving ref" => (k_here; k_dflt (first
  | (refine' leaveX_new ?k1 ?k0 ?k2 ?k3 ?k4 ?k5 ?_; (case k0 => assumption); (case k2 => assumption); (case k1 => assumption); (case k3 => k_asm); (case k4 => exact rfl); (case k5 => exact rfl); k_whole; intro h' R' U'; (try dsimp only at R' U' ⊢))
  | (refine' leaveX_made ?k1 ?k0 ?k2 ?k3 ?k4 ?k5 ?_; (case k0 => first | assumption | exact Heap.MadeExc.of (by assumption)); (case k2 => assumption); (case k1 => assumption); (case k3 => k_asm); (case k4 => exact rfl); (case k5 => exact rfl); k_whole; intro h' R' U'; (try dsimp only at R' U' ⊢))
  | (refine' leaveX_on ?k1 ?k2 ?k3 ?k4 ?k5 ?_; (case k3 => assumption); (case k2 => assumption); (case k1 => assumption); (case k4 => assumption); (case k5 => exact rfl); k_whole; intro h' R' U'; (try dsimp only at R' U' ⊢))))
  k_with "subscriptTail Name Name bytes int" => (k_here; (with_reducible show wpAny _ _ (subscriptTail _ _ (Value.bytes _ _) (Value.int _ _)) _ _ _); (with_unfolding_all refine' item_or ?h0 (by kba_ints) ?h1 ?h2 ?h3 ?h4 ?h5 ?h6 ?h7; (case h0 => rfl); (case h1 => omega); (case h2 => omega); (case h3 => omega); (case h6 => with_unfolding_all rfl); (case h7 => (intro _; with_unfolding_all rfl)); k_whole); first | (intro hlt' t' tk' h0' h1') | (intro hge' h' tk' e' x'))
  k_with "exec Raise some none" => (k_here; k_dflt (refine' RaiseX_own ?F ?X ?T ?e ?q PySem.F.excBase_Exception ?h ?_ ?a ?b ?c ?d ?g; (case F => k_asm); (case X => k_asm); (case T => k_asm); (case e => k_is); (case q => k_exc); (case h => first | rfl | assumption); (case a => rfl); (case b => rfl); (case c => rfl); (case d => rfl); (case g => decide); k_whole))
  k_with "binaryOp BitAnd int int" => (first | (refine and_to (bitAnd_m7 _) ?_) | (refine and_to (band128 _) ?_) | (refine and_to (bitAnd_m3 _) ?_) | (refine and_to (bitAnd_m1 _) ?_))
  k_with "inplaceOp BitAnd int int" => (first | (refine iand_to (band64 _) ?_) | (refine iand_to (bitAnd_m32 _) ?_))
  k_with "binaryOp LShift int int" => ((refine shl_to ?_ ?_ ?_ ?_); (focus omega); (focus omega); (focus omega))
  k_with "exec FunctionDef" => (k_here; (rename (_ = _ ++ _) => hr9; subst hr9); k_dflt (refine' nestDef_K ?d0 ?k0 ?a0 ?_; (case d0 => exact rfl); (case k0 => exact rfl); (case a0 => exact rfl)); (first
  | (k_dflt (refine' nestB (mid := [_]) ?F ?N ?T ?C ?cd ?tb ?o1 ?o2 ?hT ?cl ?_; (case F => k_asm); (case T => k_asm); (case cd => exact rfl); (case C => kn_code); (case tb => assumption); (case N => k_asm); (case o2 => assumption); (case hT => assumption); (case o1 => (intro x9 h9; rcases List.mem_cons.mp h9 with e9 | h9; (subst e9; k_ne); cases h9)); (case cl => exact rfl); k_whole))
  | (k_dflt (refine' nestB (mid := [_, _]) ?F ?N ?T ?C ?cd ?tb ?o1 ?o2 ?hT ?cl ?_; (case F => k_asm); (case T => k_asm); (case cd => exact rfl); (case C => kn_code); (case tb => assumption); (case N => k_asm); (case o2 => assumption); (case hT => assumption); (case o1 => (intro x9 h9; rcases List.mem_cons.mp h9 with e9 | h9; (subst e9; k_ne); rcases List.mem_cons.mp h9 with e9 | h9; (subst e9; k_ne); cases h9)); (case cl => exact rfl); k_whole))); (intro f' c' oc' vs' t' ct' dc' h' tk' F' N' d1' d2' n3' l1; (simp only [List.cons_append, List.nil_append] at N' l1); (try k_lt l1)))
  k_with "callWith ref" => (k_here; k_dflt (refine' callWith_F ?k1 ?_; (case k1 => exact fn_at (by assumption) (by assumption) (by kst_inAny)); k_whole))
  k_with "FnAt" => (k_dflt (exact fn_at (by assumption) (by assumption) (by kst_inAny)))
  w_top off
  k_with "exec While Name cons nil" => k_dflt ((refine' sg_while (n := n) ?F ?N ?h1 ?h2 ?hp ?_ ?hE; (case F => assumption); (case N => assumption); (case h1 => exact rfl); (case h2 => exact rfl); (case hp => exact einv_start7 hn0); (case hE => passes_own)); (intro vs9 ps9 k9 bits9 tb9 v9 tv9 u9 h9 tk9 hba9 inv9 F9 N9); (obtain ⟨i1, i2, i3, i4, i5⟩ := id inv9); (have i6 := einv_len inv9 hn1); (have i7 := hba9.length))
  k_with "KswEnd" => k_dflt (refine' sg_end ?eF ?eN ?eb ?e1 ?e2 ?er ?ep ?em; (case eF => assumption); (case eN => assumption); (case eb => exact bytes_are_snoc (by assumption)); (case e1 => exact rfl); (case e2 => exact rfl); (case er => (intro z h2 h3; have a1 := h2 _ (.head _); have a2 := h2 _ (.tail _ (.head _)); dsimp only at a1 a2 ⊢; rw [if_neg a2, if_neg a1]; simp [kstB, a1, a2])); (case ep => exact einv_more7 (by assumption) (by assumption) (bints_or (by assumption))); (case em => exact shr_less (by assumption) (by assumption)))
  k_with "call ref" => k_dflt ((refine' Wr.use hW BS ?cB ?cF ?cN ?cl ?ck ?cd ?cu ?_); (case cB => assumption); (case cF => assumption); (case cN => assumption); (case cl => omega); (case ck => exact rfl); (case cd => k_room); (case cu => k_units); (intro k8 h8 tk8 F8 N8))
  refine wpAny_call ?_
  k_dflt (refine' code_def ?k1 ?k2 ?k3 ?k4 ?k5 ?kA ?kF ?kK ?k6 ?k7 ?k8 ?k9 ?kB ?_ ?c2 ?c3 ?c4 ?c5; (case kA => exact rfl); (case kF => exact rfl); (case kK => assumption); (case k1 => k_asm); (case k2 => k_asm); (case k3 => k_asm); (case k4 => k_asm); (case k5 => k_asm); (case k6 => k_is); (case k7 => k_is); (case k8 => ktr_room); (case k9 => (refine' kp_binds (binds := [(Str.ofString "write", .ref f), (Str.ofString "value", .int n t), (Str.ofString "unused_deterministic", .bool true)]) ?kx ?ke; (case kx => exact X.keeps F.keep); (case ke => exact fun _ => rfl))); (case c5 => decide); (case kB => exact locs rfl); (case c2 => exact rfl); (case c3 => exact rfl); (case c4 => exact rfl); k_whole; intro g' L' h' FG' F' N' B' X' T'; (try dsimp only); (try k_lift B'); (try k_fold))
  k_steps
  all_goals first
    | exact hret _ _ _ _ (by assumption) (by assumption) ⟨_, _, _, rfl, rfl, bytes_are_snoc (by assumption), einv_done (by assumption) (by assumption) (bints_one (by assumption))⟩
    | (exfalso; omega)
set_option maxHeartbeats 4000000 in
theorem c178b (w : World) (f D : Addr) (rest : List (Addr × Obj)) (k : Nat) (n : Int) (t : Tok) (hn0 : 0 ≤ n) (hn1 : Bd n) (hW : Wr w f D rest) (hfn : FnIn f rest) :
  Ct w 178 [.ref f, .int n t] 4 ((D, W.listOf ([] : List Value).toArray k) :: rest) (PcsR D rest (enc n.toNat)) (fun _ _ => False) := by
  unfold Ct
  intro loose mean mg mb dp un gd cn cs a ccd cl outer A₀ base h₀ L m s Q E BS B F N hk hd hu hret hX
  have X := BS.X.keeps B.stays
  have T := BS.T.keeps B.stays
  have hMk : KstMark := kstMark
  k_with_none
  k_with "loadName" => (k_here; k_dflt (refine' loadX_L ?k1 ?k2 ?_ ?a ?b; (case a => rfl); (case b => rfl); (case k1 => k_asm); (case k2 => exact rfl); k_whole))
  k_with "leaving ref" => (k_here; k_dflt (first
  | (refine' leaveX_new ?k1 ?k0 ?k2 ?k3 ?k4 ?k5 ?_; (case k0 => assumption); (case k2 => assumption); (case k1 => assumption); (case k3 => k_asm); (case k4 => exact rfl); (case k5 => exact rfl); k_whole; intro h' R' U'; (try dsimp only at R' U' ⊢))
  | (refine' leaveX_made ?k1 ?k0 ?k2 ?k3 ?k4 ?k5 ?_; (case k0 => first | assumption | exact Heap.MadeExc.of (by assumption)); (case k2 => assumption); (case k1 => assumption); (case k3 => k_asm); (case k4 => exact rfl); (case k5 => exact rfl); k_whole; intro h' R' U'; (try dsimp only at R' U' ⊢))
  | (refine' leaveX_on ?k1 ?k2 ?k3 ?k4 ?k5 ?_; (case k3 => assumption); (case k2 => assumption); (case k1 => assumption); (case k4 => assumption); (case k5 => exact rfl); k_whole; intro h' R' U'; (try dsimp only at R' U' ⊢))))
  k_with "subscriptTail Name Name bytes int" => (k_here; (with_reducible show wpAny _ _ (subscriptTail _ _ (Value.bytes _ _) (Value.int _ _)) _ _ _); (with_unfolding_all refine' item_or ?h0 (by kba_ints) ?h1 ?h2 ?h3 ?h4 ?h5 ?h6 ?h7; (case h0 => rfl); (case h1 => omega); (case h2 => omega); (case h3 => omega); (case h6 => with_unfolding_all rfl); (case h7 => (intro _; with_unfolding_all rfl)); k_whole); first | (intro hlt' t' tk' h0' h1') | (intro hge' h' tk' e' x'))
  k_with "exec Raise some none" => (k_here; k_dflt (refine' RaiseX_own ?F ?X ?T ?e ?q PySem.F.excBase_Exception ?h ?_ ?a ?b ?c ?d ?g; (case F => k_asm); (case X => k_asm); (case T => k_asm); (case e => k_is); (case q => k_exc); (case h => first | rfl | assumption); (case a => rfl); (case b => rfl); (case c => rfl); (case d => rfl); (case g => decide); k_whole))
  k_with "binaryOp BitAnd int int" => (first | (refine and_to (bitAnd_m7 _) ?_) | (refine and_to (band128 _) ?_) | (refine and_to (bitAnd_m3 _) ?_) | (refine and_to (bitAnd_m1 _) ?_))
  k_with "inplaceOp BitAnd int int" => (first | (refine iand_to (band64 _) ?_) | (refine iand_to (bitAnd_m32 _) ?_))
  k_with "binaryOp LShift int int" => ((refine shl_to ?_ ?_ ?_ ?_); (focus omega); (focus omega); (focus omega))
  k_with "exec FunctionDef" => (k_here; (rename (_ = _ ++ _) => hr9; subst hr9); k_dflt (refine' nestDef_K ?d0 ?k0 ?a0 ?_; (case d0 => exact rfl); (case k0 => exact rfl); (case a0 => exact rfl)); (first
  | (k_dflt (refine' nestB (mid := [_]) ?F ?N ?T ?C ?cd ?tb ?o1 ?o2 ?hT ?cl ?_; (case F => k_asm); (case T => k_asm); (case cd => exact rfl); (case C => kn_code); (case tb => assumption); (case N => k_asm); (case o2 => assumption); (case hT => assumption); (case o1 => (intro x9 h9; rcases List.mem_cons.mp h9 with e9 | h9; (subst e9; k_ne); cases h9)); (case cl => exact rfl); k_whole))
  | (k_dflt (refine' nestB (mid := [_, _]) ?F ?N ?T ?C ?cd ?tb ?o1 ?o2 ?hT ?cl ?_; (case F => k_asm); (case T => k_asm); (case cd => exact rfl); (case C => kn_code); (case tb => assumption); (case N => k_asm); (case o2 => assumption); (case hT => assumption); (case o1 => (intro x9 h9; rcases List.mem_cons.mp h9 with e9 | h9; (subst e9; k_ne); rcases List.mem_cons.mp h9 with e9 | h9; (subst e9; k_ne); cases h9)); (case cl => exact rfl); k_whole))); (intro f' c' oc' vs' t' ct' dc' h' tk' F' N' d1' d2' n3' l1; (simp only [List.cons_append, List.nil_append] at N' l1); (try k_lt l1)))
  k_with "callWith ref" => (k_here; k_dflt (refine' callWith_F ?k1 ?_; (case k1 => exact fn_at (by assumption) (by assumption) (by kst_inAny)); k_whole))
  k_with "FnAt" => (k_dflt (exact fn_at (by assumption) (by assumption) (by kst_inAny)))
  w_top off
  k_with "exec While Name cons nil" => k_dflt ((refine' sg_while (n := n) ?F ?N ?h1 ?h2 ?hp ?_ ?hE; (case F => assumption); (case N => assumption); (case h1 => exact rfl); (case h2 => exact rfl); (case hp => exact einv_start7 hn0); (case hE => passes_own)); (intro vs9 ps9 k9 bits9 tb9 v9 tv9 u9 h9 tk9 hba9 inv9 F9 N9); (obtain ⟨i1, i2, i3, i4, i5⟩ := id inv9); (have i6 := einv_len inv9 hn1); (have i7 := hba9.length))
  k_with "KswEnd" => k_dflt (refine' sg_end ?eF ?eN ?eb ?e1 ?e2 ?er ?ep ?em; (case eF => assumption); (case eN => assumption); (case eb => exact bytes_are_snoc (by assumption)); (case e1 => exact rfl); (case e2 => exact rfl); (case er => (intro z h2 h3; have a1 := h2 _ (.head _); have a2 := h2 _ (.tail _ (.head _)); dsimp only at a1 a2 ⊢; rw [if_neg a2, if_neg a1]; simp [kstB, a1, a2])); (case ep => exact einv_more7 (by assumption) (by assumption) (bints_or (by assumption))); (case em => exact shr_less (by assumption) (by assumption)))
  k_with "call ref" => k_dflt ((refine' Wr.use hW BS ?cB ?cF ?cN ?cl ?ck ?cd ?cu ?_); (case cB => assumption); (case cF => assumption); (case cN => assumption); (case cl => omega); (case ck => exact rfl); (case cd => k_room); (case cu => k_units); (intro k8 h8 tk8 F8 N8))
  refine wpAny_call ?_
  k_dflt (refine' code_def ?k1 ?k2 ?k3 ?k4 ?k5 ?kA ?kF ?kK ?k6 ?k7 ?k8 ?k9 ?kB ?_ ?c2 ?c3 ?c4 ?c5; (case kA => exact rfl); (case kF => exact rfl); (case kK => assumption); (case k1 => k_asm); (case k2 => k_asm); (case k3 => k_asm); (case k4 => k_asm); (case k5 => k_asm); (case k6 => k_is); (case k7 => k_is); (case k8 => ktr_room); (case k9 => (refine' kp_binds (binds := [(Str.ofString "write", .ref f), (Str.ofString "value", .int n t), (Str.ofString "unused_deterministic", .none)]) ?kx ?ke; (case kx => exact X.keeps F.keep); (case ke => exact fun _ => rfl))); (case c5 => decide); (case kB => exact locs rfl); (case c2 => exact rfl); (case c3 => exact rfl); (case c4 => exact rfl); k_whole; intro g' L' h' FG' F' N' B' X' T'; (try dsimp only); (try k_lift B'); (try k_fold))
  k_steps
  all_goals first
    | exact hret _ _ _ _ (by assumption) (by assumption) ⟨_, _, _, rfl, rfl, bytes_are_snoc (by assumption), einv_done (by assumption) (by assumption) (bints_one (by assumption))⟩
    | (exfalso; omega)
set_option maxHeartbeats 4000000 in
theorem c186p (w : World) (f D : Addr) (rest : List (Addr × Obj)) (k : Nat) (n : Int) (t : Tok) (hn0 : 0 ≤ n) (hn1 : Bd n) (hW : Wr w f D rest) (hfn : FnIn f rest) :
  Ct w 186 [.ref f, .int n t] 4 ((D, W.listOf ([] : List Value).toArray k) :: rest) (PcsR D rest (enc n.toNat)) (fun _ _ => False) := by
  unfold Ct
  intro loose mean mg mb dp un gd cn cs a ccd cl outer A₀ base h₀ L m s Q E BS B F N hk hd hu hret hX
  have X := BS.X.keeps B.stays
  have T := BS.T.keeps B.stays
  have hMk : KstMark := kstMark
  k_with_none
  k_with "loadName" => (k_here; k_dflt (refine' loadX_L ?k1 ?k2 ?_ ?a ?b; (case a => rfl); (case b => rfl); (case k1 => k_asm); (case k2 => exact rfl); k_whole))
  k_with "leaving ref" => (k_here; k_dflt (first
  | (refine' leaveX_new ?k1 ?k0 ?k2 ?k3 ?k4 ?k5 ?_; (case k0 => assumption); (case k2 => assumption); (case k1 => assumption); (case k3 => k_asm); (case k4 => exact rfl); (case k5 => exact rfl); k_whole; intro h' R' U'; (try dsimp only at R' U' ⊢))
  | (refine' leaveX_made ?k1 ?k0 ?k2 ?k3 ?k4 ?k5 ?_; (case k0 => first | assumption | exact Heap.MadeExc.of (by assumption)); (case k2 => assumption); (case k1 => assumption); (case k3 => k_asm); (case k4 => exact rfl); (case k5 => exact rfl); k_whole; intro h' R' U'; (try dsimp only at R' U' ⊢))
  | (refine' leaveX_on ?k1 ?k2 ?k3 ?k4 ?k5 ?_; (case k3 => assumption); (case k2 => assumption); (case k1 => assumption); (case k4 => assumption); (case k5 => exact rfl); k_whole; intro h' R' U'; (try dsimp only at R' U' ⊢))))
  k_with "subscriptTail Name Name bytes int" => (k_here; (with_reducible show wpAny _ _ (subscriptTail _ _ (Value.bytes _ _) (Value.int _ _)) _ _ _); (with_unfolding_all refine' item_or ?h0 (by kba_ints) ?h1 ?h2 ?h3 ?h4 ?h5 ?h6 ?h7; (case h0 => rfl); (case h1 => omega); (case h2 => omega); (case h3 => omega); (case h6 => with_unfolding_all rfl); (case h7 => (intro _; with_unfolding_all rfl)); k_whole); first | (intro hlt' t' tk' h0' h1') | (intro hge' h' tk' e' x'))
  k_with "exec Raise some none" => (k_here; k_dflt (refine' RaiseX_own ?F ?X ?T ?e ?q PySem.F.excBase_Exception ?h ?_ ?a ?b ?c ?d ?g; (case F => k_asm); (case X => k_asm); (case T => k_asm); (case e => k_is); (case q => k_exc); (case h => first | rfl | assumption); (case a => rfl); (case b => rfl); (case c => rfl); (case d => rfl); (case g => decide); k_whole))
  k_with "binaryOp BitAnd int int" => (first | (refine and_to (bitAnd_m7 _) ?_) | (refine and_to (band128 _) ?_) | (refine and_to (bitAnd_m3 _) ?_) | (refine and_to (bitAnd_m1 _) ?_))
  k_with "inplaceOp BitAnd int int" => (first | (refine iand_to (band64 _) ?_) | (refine iand_to (bitAnd_m32 _) ?_))
  k_with "binaryOp LShift int int" => ((refine shl_to ?_ ?_ ?_ ?_); (focus omega); (focus omega); (focus omega))
  k_with "exec FunctionDef" => (k_here; (rename (_ = _ ++ _) => hr9; subst hr9); k_dflt (refine' nestDef_K ?d0 ?k0 ?a0 ?_; (case d0 => exact rfl); (case k0 => exact rfl); (case a0 => exact rfl)); (first
  | (k_dflt (refine' nestB (mid := [_]) ?F ?N ?T ?C ?cd ?tb ?o1 ?o2 ?hT ?cl ?_; (case F => k_asm); (case T => k_asm); (case cd => exact rfl); (case C => kn_code); (case tb => assumption); (case N => k_asm); (case o2 => assumption); (case hT => assumption); (case o1 => (intro x9 h9; rcases List.mem_cons.mp h9 with e9 | h9; (subst e9; k_ne); cases h9)); (case cl => exact rfl); k_whole))
  | (k_dflt (refine' nestB (mid := [_, _]) ?F ?N ?T ?C ?cd ?tb ?o1 ?o2 ?hT ?cl ?_; (case F => k_asm); (case T => k_asm); (case cd => exact rfl); (case C => kn_code); (case tb => assumption); (case N => k_asm); (case o2 => assumption); (case hT => assumption); (case o1 => (intro x9 h9; rcases List.mem_cons.mp h9 with e9 | h9; (subst e9; k_ne); rcases List.mem_cons.mp h9 with e9 | h9; (subst e9; k_ne); cases h9)); (case cl => exact rfl); k_whole))); (intro f' c' oc' vs' t' ct' dc' h' tk' F' N' d1' d2' n3' l1; (simp only [List.cons_append, List.nil_append] at N' l1); (try k_lt l1)))
  k_with "callWith ref" => (k_here; k_dflt (refine' callWith_F ?k1 ?_; (case k1 => exact fn_at (by assumption) (by assumption) (by kst_inAny)); k_whole))
  k_with "FnAt" => (k_dflt (exact fn_at (by assumption) (by assumption) (by kst_inAny)))
  w_top off
  k_with "exec While Name cons nil" => k_dflt ((refine' sg_while (n := n) ?F ?N ?h1 ?h2 ?hp ?_ ?hE; (case F => assumption); (case N => assumption); (case h1 => exact rfl); (case h2 => exact rfl); (case hp => exact einv_start7 hn0); (case hE => passes_own)); (intro vs9 ps9 k9 bits9 tb9 v9 tv9 u9 h9 tk9 hba9 inv9 F9 N9); (obtain ⟨i1, i2, i3, i4, i5⟩ := id inv9); (have i6 := einv_len inv9 hn1); (have i7 := hba9.length))
  k_with "KswEnd" => k_dflt (refine' sg_end ?eF ?eN ?eb ?e1 ?e2 ?er ?ep ?em; (case eF => assumption); (case eN => assumption); (case eb => exact bytes_are_snoc (by assumption)); (case e1 => exact rfl); (case e2 => exact rfl); (case er => (intro z h2 h3; have a1 := h2 _ (.head _); have a2 := h2 _ (.tail _ (.head _)); dsimp only at a1 a2 ⊢; rw [if_neg a2, if_neg a1]; simp [kstB, a1, a2])); (case ep => exact einv_more7 (by assumption) (by assumption) (bints_or (by assumption))); (case em => exact shr_less (by assumption) (by assumption)))
  k_with "call ref" => k_dflt ((refine' Wr.use hW BS ?cB ?cF ?cN ?cl ?ck ?cd ?cu ?_); (case cB => assumption); (case cF => assumption); (case cN => assumption); (case cl => omega); (case ck => exact rfl); (case cd => k_room); (case cu => k_units); (intro k8 h8 tk8 F8 N8))
  refine wpAny_call ?_
  k_dflt (refine' code_def ?k1 ?k2 ?k3 ?k4 ?k5 ?kA ?kF ?kK ?k6 ?k7 ?k8 ?k9 ?kB ?_ ?c2 ?c3 ?c4 ?c5; (case kA => exact rfl); (case kF => exact rfl); (case kK => assumption); (case k1 => k_asm); (case k2 => k_asm); (case k3 => k_asm); (case k4 => k_asm); (case k5 => k_asm); (case k6 => k_is); (case k7 => k_is); (case k8 => ktr_room); (case k9 => (refine' kp_binds (binds := [(Str.ofString "write", .ref f), (Str.ofString "value", .int n t), (Str.ofString "unused_deterministic", .none)]) ?kx ?ke; (case kx => exact X.keeps F.keep); (case ke => exact fun _ => rfl))); (case c5 => decide); (case kB => exact locs rfl); (case c2 => exact rfl); (case c3 => exact rfl); (case c4 => exact rfl); k_whole; intro g' L' h' FG' F' N' B' X' T'; (try dsimp only); (try k_lift B'); (try k_fold))
  k_steps
  all_goals first
    | exact hret _ _ _ _ (by assumption) (by assumption) ⟨_, _, _, rfl, rfl, bytes_are_snoc (by assumption), einv_done (by assumption) (by assumption) (bints_one (by assumption))⟩
    | (exfalso; omega)
set_option maxHeartbeats 4000000 in
theorem c186n (w : World) (f D : Addr) (rest : List (Addr × Obj)) (k : Nat) (n nn : Int) (t : Tok) (hn0 : n < 0) (hng : Ng n nn) (hn1 : Bd nn) (hW : Wr w f D rest) (hfn : FnIn f rest) :
  Ct w 186 [.ref f, .int n t] 4 ((D, W.listOf ([] : List Value).toArray k) :: rest) (PcsR D rest (enc nn.toNat)) (fun _ _ => False) := by
  unfold Ct
  intro loose mean mg mb dp un gd cn cs a ccd cl outer A₀ base h₀ L m s Q E BS B F N hk hd hu hret hX
  have X := BS.X.keeps B.stays
  have T := BS.T.keeps B.stays
  have hMk : KstMark := kstMark
  k_with_none
  k_with "loadName" => (k_here; k_dflt (refine' loadX_L ?k1 ?k2 ?_ ?a ?b; (case a => rfl); (case b => rfl); (case k1 => k_asm); (case k2 => exact rfl); k_whole))
  k_with "leaving ref" => (k_here; k_dflt (first
  | (refine' leaveX_new ?k1 ?k0 ?k2 ?k3 ?k4 ?k5 ?_; (case k0 => assumption); (case k2 => assumption); (case k1 => assumption); (case k3 => k_asm); (case k4 => exact rfl); (case k5 => exact rfl); k_whole; intro h' R' U'; (try dsimp only at R' U' ⊢))
  | (refine' leaveX_made ?k1 ?k0 ?k2 ?k3 ?k4 ?k5 ?_; (case k0 => first | assumption | exact Heap.MadeExc.of (by assumption)); (case k2 => assumption); (case k1 => assumption); (case k3 => k_asm); (case k4 => exact rfl); (case k5 => exact rfl); k_whole; intro h' R' U'; (try dsimp only at R' U' ⊢))
  | (refine' leaveX_on ?k1 ?k2 ?k3 ?k4 ?k5 ?_; (case k3 => assumption); (case k2 => assumption); (case k1 => assumption); (case k4 => assumption); (case k5 => exact rfl); k_whole; intro h' R' U'; (try dsimp only at R' U' ⊢))))
  k_with "subscriptTail Name Name bytes int" => (k_here; (with_reducible show wpAny _ _ (subscriptTail _ _ (Value.bytes _ _) (Value.int _ _)) _ _ _); (with_unfolding_all refine' item_or ?h0 (by kba_ints) ?h1 ?h2 ?h3 ?h4 ?h5 ?h6 ?h7; (case h0 => rfl); (case h1 => omega); (case h2 => omega); (case h3 => omega); (case h6 => with_unfolding_all rfl); (case h7 => (intro _; with_unfolding_all rfl)); k_whole); first | (intro hlt' t' tk' h0' h1') | (intro hge' h' tk' e' x'))
  k_with "exec Raise some none" => (k_here; k_dflt (refine' RaiseX_own ?F ?X ?T ?e ?q PySem.F.excBase_Exception ?h ?_ ?a ?b ?c ?d ?g; (case F => k_asm); (case X => k_asm); (case T => k_asm); (case e => k_is); (case q => k_exc); (case h => first | rfl | assumption); (case a => rfl); (case b => rfl); (case c => rfl); (case d => rfl); (case g => decide); k_whole))
  k_with "binaryOp BitAnd int int" => (first | (refine and_to (bitAnd_m7 _) ?_) | (refine and_to (band128 _) ?_) | (refine and_to (bitAnd_m3 _) ?_) | (refine and_to (bitAnd_m1 _) ?_))
  k_with "inplaceOp BitAnd int int" => (first | (refine iand_to (band64 _) ?_) | (refine iand_to (bitAnd_m32 _) ?_))
  k_with "binaryOp LShift int int" => ((refine shl_to ?_ ?_ ?_ ?_); (focus omega); (focus omega); (focus omega))
  k_with "exec FunctionDef" => (k_here; (rename (_ = _ ++ _) => hr9; subst hr9); k_dflt (refine' nestDef_K ?d0 ?k0 ?a0 ?_; (case d0 => exact rfl); (case k0 => exact rfl); (case a0 => exact rfl)); (first
  | (k_dflt (refine' nestB (mid := [_]) ?F ?N ?T ?C ?cd ?tb ?o1 ?o2 ?hT ?cl ?_; (case F => k_asm); (case T => k_asm); (case cd => exact rfl); (case C => kn_code); (case tb => assumption); (case N => k_asm); (case o2 => assumption); (case hT => assumption); (case o1 => (intro x9 h9; rcases List.mem_cons.mp h9 with e9 | h9; (subst e9; k_ne); cases h9)); (case cl => exact rfl); k_whole))
  | (k_dflt (refine' nestB (mid := [_, _]) ?F ?N ?T ?C ?cd ?tb ?o1 ?o2 ?hT ?cl ?_; (case F => k_asm); (case T => k_asm); (case cd => exact rfl); (case C => kn_code); (case tb => assumption); (case N => k_asm); (case o2 => assumption); (case hT => assumption); (case o1 => (intro x9 h9; rcases List.mem_cons.mp h9 with e9 | h9; (subst e9; k_ne); rcases List.mem_cons.mp h9 with e9 | h9; (subst e9; k_ne); cases h9)); (case cl => exact rfl); k_whole))); (intro f' c' oc' vs' t' ct' dc' h' tk' F' N' d1' d2' n3' l1; (simp only [List.cons_append, List.nil_append] at N' l1); (try k_lt l1)))
  k_with "callWith ref" => (k_here; k_dflt (refine' callWith_F ?k1 ?_; (case k1 => exact fn_at (by assumption) (by assumption) (by kst_inAny)); k_whole))
  k_with "FnAt" => (k_dflt (exact fn_at (by assumption) (by assumption) (by kst_inAny)))
  w_top off
  k_with "exec While Name cons nil" => k_dflt ((refine' sg_while (n := nn) ?F ?N ?h1 ?h2 ?hp ?_ ?hE; (case F => assumption); (case N => assumption); (case h1 => exact rfl); (case h2 => exact rfl); (case hp => exact einv_startN hng hn1); (case hE => passes_own)); (intro vs9 ps9 k9 bits9 tb9 v9 tv9 u9 h9 tk9 hba9 inv9 F9 N9); (obtain ⟨i1, i2, i3, i4, i5⟩ := id inv9); (have i6 := einv_len inv9 hn1); (have i7 := hba9.length))
  k_with "KswEnd" => k_dflt (refine' sg_end ?eF ?eN ?eb ?e1 ?e2 ?er ?ep ?em; (case eF => assumption); (case eN => assumption); (case eb => exact bytes_are_snoc (by assumption)); (case e1 => exact rfl); (case e2 => exact rfl); (case er => (intro z h2 h3; have a1 := h2 _ (.head _); have a2 := h2 _ (.tail _ (.head _)); dsimp only at a1 a2 ⊢; rw [if_neg a2, if_neg a1]; simp [kstB, a1, a2])); (case ep => exact einv_more7 (by assumption) (by assumption) (bints_or (by assumption))); (case em => exact shr_less (by assumption) (by assumption)))
  k_with "call ref" => k_dflt ((refine' Wr.use hW BS ?cB ?cF ?cN ?cl ?ck ?cd ?cu ?_); (case cB => assumption); (case cF => assumption); (case cN => assumption); (case cl => omega); (case ck => exact rfl); (case cd => k_room); (case cu => k_units); (intro k8 h8 tk8 F8 N8))
  refine wpAny_call ?_
  k_dflt (refine' code_def ?k1 ?k2 ?k3 ?k4 ?k5 ?kA ?kF ?kK ?k6 ?k7 ?k8 ?k9 ?kB ?_ ?c2 ?c3 ?c4 ?c5; (case kA => exact rfl); (case kF => exact rfl); (case kK => assumption); (case k1 => k_asm); (case k2 => k_asm); (case k3 => k_asm); (case k4 => k_asm); (case k5 => k_asm); (case k6 => k_is); (case k7 => k_is); (case k8 => ktr_room); (case k9 => (refine' kp_binds (binds := [(Str.ofString "write", .ref f), (Str.ofString "value", .int n t), (Str.ofString "unused_deterministic", .none)]) ?kx ?ke; (case kx => exact X.keeps F.keep); (case ke => exact fun _ => rfl))); (case c5 => decide); (case kB => exact locs rfl); (case c2 => exact rfl); (case c3 => exact rfl); (case c4 => exact rfl); k_whole; intro g' L' h' FG' F' N' B' X' T'; (try dsimp only); (try k_lift B'); (try k_fold))
  k_steps
  all_goals first
    | exact hret _ _ _ _ (by assumption) (by assumption) ⟨_, _, _, rfl, rfl, bytes_are_snoc (by assumption), einv_done (by assumption) (by assumption) (bints_one (by assumption))⟩
    | (exfalso; omega)
end
section
open PySem PySem.W PySem.Spec PySem.Calls PyProof.Rows
/-- a writer called with a lambda -/
theorem enc_use {w : World} {fn f D : Addr} {args : List Value} {oc : Value} {od : Option Addr} {fd : FuncData} {sl : Array (Option Value)} {r : List (Addr × Obj)} {k : Nat} {ks : List Int}
    {loose : List Str} {mean : ExcName → Option Value} {mg mb : Str → Option Value} {dp un : Nat} {gd : Option (List Code)} {cn : Str} {cs : Scope} {a : Addr} {ccd : Value} {cl : List (Str × Addr)} {outer : List Env} {A₀ : Around} {base h₀ : Heap} {L : Addr} {m : Str → Option Value} {s : Shared} {Q E : Value → Shared → Prop}
    (hC : Wr w f D ((f, ⟨oc, od, .func fd, sl⟩) :: r) → FnIn f ((f, ⟨oc, od, .func fd, sl⟩) :: r) → Ct w fn args 4 ((D, W.listOf ([] : List Value).toArray k) :: (f, ⟨oc, od, .func fd, sl⟩) :: r) (PcsR D ((f, ⟨oc, od, .func fd, sl⟩) :: r) ks) (fun _ _ => False))
    (BS : Bs w loose mean mg mb base) (B : Below A₀ base outer h₀) (F : Fr h₀ L s.heap m) (N : News h₀ L s.heap ((f, ⟨oc, od, .func fd, sl⟩) :: (D, W.listOf ([] : List Value).toArray k) :: r)) (hk : cs.kind = .function) (hd : dp + 4 < recursionLimit) (hu : un + 32 < cLine)
    (hW : Wr w f D ((f, ⟨oc, od, .func fd, sl⟩) :: r))
    (h : ∀ vs ps k h' tk', Fr h₀ L h' m → News h₀ L h' ((D, W.listOf vs.toArray k) :: (f, ⟨oc, od, .func fd, sl⟩) :: r) → BytesAre vs ps → (ps.map KBw.bInts).flatten = ks → Q .none { s with heap := h', toks := tk' }) :
    wpAny (model PySem.Challenge.rw_jd0021_01.row.prog w) (ktrTop dp un gd cn cs L a ccd cl outer) (call (.ref fn) args) Q E s := by
  refine Ct.use (hC hW ⟨_, _, _, _, .head _⟩) BS B F (news_sub N fun x hx => ?_) hk hd hu ?_ ?_
  · rcases List.mem_cons.mp hx with e | hx
    · exact e ▸ .tail _ (.head _)
    rcases List.mem_cons.mp hx with e | hx
    · exact e ▸ .head _
    · exact .tail _ (.tail _ hx)
  · intro v led' h' tk' F' N' hR
    obtain ⟨vs, ps, k', e1, e2, e3, e4⟩ := hR
    subst e1
    subst e2
    exact h vs ps k' h' tk' F' N' e3 e4
  · intro e cls G led' h' tk' _ _ _ x
    exact x.elim
theorem news_ne {h₀ h : Heap} {L a b : Addr} {oa ob : Obj} {l : List (Addr × Obj)} (N : News h₀ L h l) (ha : (a, oa) ∈ l) (hb : (b, ob) ∈ l) (hne : oa ≠ ob) : a ≠ b := fun e => by
  subst e
  have h1 := (N _ ha).1
  have h2 := (N _ hb).1
  rw [h1] at h2
  exact hne (Option.some.inj h2)
theorem code_ne {h₀ h : Heap} {L f D c : Addr} {fo oc : Obj} {x : Addr × Obj} {v : Array Value} {vs : Array Value} {k : Nat} {r : List (Addr × Obj)} (N : News h₀ L h ((f, fo) :: (D, W.listOf v k) :: x :: (c, oc) :: r)) (hd : oc.data = .fields vs) : @Ne Nat c D :=
  news_ne N (.tail _ (.tail _ (.tail _ (.head _)))) (.tail _ (.head _)) (fun e => by rw [e] at hd; cases hd)
theorem cat_fits {ps : List (Array UInt8)} {ks : List Int} (h : (ps.map KBw.bInts).flatten = ks) (hk : ks.length ≤ 10) : (cat ps).size ≤ 16777216 := by
  have e := KBw.ints_length (cat ps)
  rw [cat_ints, h] at e
  omega
def qB : Str := Str.ofString "_VarintBytes.<locals>.<lambda>"
abbrev TbB (ts : List (Addr × Obj)) : Prop := Tb 188 ((169 : Nat) : Int) ((18 : Nat) : Int) qB ts
/-- what _VarintBytes gives -/
def VbR (ks : List Int) (led led' : List (Addr × Obj)) (v : Value) : Prop := ∃ ts b t, TbB ts ∧ v = .bytes b t ∧ KBw.bInts b = ks ∧ led' = ts ++ led
theorem vb_ret {ks : List Int} {led l : List (Addr × Obj)} {h₀ h' : Heap} {L : Addr} {m : Str → Option Value} {s : Shared} {Q : Value → Shared → Prop} {tk' : Nat} {c' : Addr} {oc : Obj} {vs : Array Value} {t : Tok} {ps : List (Array UInt8)} {tt : Tok}
    (hret : ∀ v led' h' tk', Fr h₀ L h' m → News h₀ L h' led' → VbR ks led led' v → Q v { s with heap := h', toks := tk' })
    (kF : Fr h₀ L h' m) (kN : News h₀ L h' l) (h1 : oc.data = .fields vs) (h2 : vs[1]? = some (.str qB t)) (h3 : c' ≠ 95 ∧ c' ≠ 102 ∧ c' ≠ 188 ∧ c' ≠ 251)
    (hc : (c', oc) ∈ l) (hP : (188, tabObj #[rawInt ((169 : Nat) : Int), rawInt ((18 : Nat) : Int), .ref c']) ∈ l) (hl : ∀ x ∈ led, x ∈ l) (hf : (ps.map KBw.bInts).flatten = ks) : Q (.bytes (cat ps) tt) { s with heap := h', toks := tk' } := by
  refine hret _ ([(c', oc), (188, tabObj #[rawInt ((169 : Nat) : Int), rawInt ((18 : Nat) : Int), .ref c'])] ++ led) _ _ kF (news_sub kN ?_) ⟨_, _, _, tb_here h1 h2 h3, rfl, by rw [cat_ints, hf], rfl⟩
  intro x hx
  simp only [List.cons_append, List.nil_append] at hx
  rcases List.mem_cons.mp hx with e | hx
  · exact e ▸ hc
  rcases List.mem_cons.mp hx with e | hx
  · exact e ▸ hP
  · exact hl x hx
end
section
open PySem PySem.W PySem.Spec PySem.Calls PyProof.Rows
local macro_rules | `(tactic| walk_at "mine pad") => `(tactic| skip)
local macro_rules | `(tactic| walk_at "getMethod bytes") => `(tactic| (k_here; (with_reducible refine method_join ?_)))
local macro_rules | `(tactic| walk_at "call builtin:bytes.join") => `(tactic| k_extra "call builtin:bytes.join")
local macro_rules | `(tactic| walk_at "eval Lambda") => `(tactic| k_extra "eval Lambda")
theorem c193 (w : World) (n : Int) (t : Tok) (ts led : List (Addr × Obj)) (hts : TbB ts) (hoff : ∀ x ∈ led, x.1 ≠ 188) (hT : Four 188 led) (hn0 : 0 ≤ n) (hn1 : Bd n) :
  Ct w 193 [.int n t] 6 (ts ++ led) (VbR (enc n.toNat) led) (fun _ _ => False) := by
  unfold Ct
  intro loose mean mg mb dp un gd cn cs a ccd cl outer A₀ base h₀ L m s Q E BS B F N hk hd hu hret hX
  have X := BS.X.keeps B.stays
  have T := BS.T.keeps B.stays
  have cH1 := BS.c3
  have hMk : KstMark := kstMark
  obtain ⟨rest, hr⟩ : ∃ r, r = ts ++ led := ⟨_, rfl⟩
  rw [← hr] at N
  k_with_none
  k_with "loadName" => (k_here; k_dflt (refine' loadX_L ?k1 ?k2 ?_ ?a ?b; (case a => rfl); (case b => rfl); (case k1 => k_asm); (case k2 => exact rfl); k_whole))
  k_with "leaving ref" => (k_here; k_dflt (first
  | (refine' leaveX_new ?k1 ?k0 ?k2 ?k3 ?k4 ?k5 ?_; (case k0 => assumption); (case k2 => assumption); (case k1 => assumption); (case k3 => k_asm); (case k4 => exact rfl); (case k5 => exact rfl); k_whole; intro h' R' U'; (try dsimp only at R' U' ⊢))
  | (refine' leaveX_made ?k1 ?k0 ?k2 ?k3 ?k4 ?k5 ?_; (case k0 => first | assumption | exact Heap.MadeExc.of (by assumption)); (case k2 => assumption); (case k1 => assumption); (case k3 => k_asm); (case k4 => exact rfl); (case k5 => exact rfl); k_whole; intro h' R' U'; (try dsimp only at R' U' ⊢))
  | (refine' leaveX_on ?k1 ?k2 ?k3 ?k4 ?k5 ?_; (case k3 => assumption); (case k2 => assumption); (case k1 => assumption); (case k4 => assumption); (case k5 => exact rfl); k_whole; intro h' R' U'; (try dsimp only at R' U' ⊢))))
  k_with "subscriptTail Name Name bytes int" => (k_here; (with_reducible show wpAny _ _ (subscriptTail _ _ (Value.bytes _ _) (Value.int _ _)) _ _ _); (with_unfolding_all refine' item_or ?h0 (by kba_ints) ?h1 ?h2 ?h3 ?h4 ?h5 ?h6 ?h7; (case h0 => rfl); (case h1 => omega); (case h2 => omega); (case h3 => omega); (case h6 => with_unfolding_all rfl); (case h7 => (intro _; with_unfolding_all rfl)); k_whole); first | (intro hlt' t' tk' h0' h1') | (intro hge' h' tk' e' x'))
  k_with "exec Raise some none" => (k_here; k_dflt (refine' RaiseX_own ?F ?X ?T ?e ?q PySem.F.excBase_Exception ?h ?_ ?a ?b ?c ?d ?g; (case F => k_asm); (case X => k_asm); (case T => k_asm); (case e => k_is); (case q => k_exc); (case h => first | rfl | assumption); (case a => rfl); (case b => rfl); (case c => rfl); (case d => rfl); (case g => decide); k_whole))
  k_with "binaryOp BitAnd int int" => (first | (refine and_to (bitAnd_m7 _) ?_) | (refine and_to (band128 _) ?_) | (refine and_to (bitAnd_m3 _) ?_) | (refine and_to (bitAnd_m1 _) ?_))
  k_with "inplaceOp BitAnd int int" => (first | (refine iand_to (band64 _) ?_) | (refine iand_to (bitAnd_m32 _) ?_))
  k_with "binaryOp LShift int int" => ((refine shl_to ?_ ?_ ?_ ?_); (focus omega); (focus omega); (focus omega))
  k_with "exec FunctionDef" => (k_here; (rename (_ = _ ++ _) => hr9; subst hr9); k_dflt (refine' nestDef_K ?d0 ?k0 ?a0 ?_; (case d0 => exact rfl); (case k0 => exact rfl); (case a0 => exact rfl)); (first
  | (k_dflt (refine' nestB (mid := [_]) ?F ?N ?T ?C ?cd ?tb ?o1 ?o2 ?hT ?cl ?_; (case F => k_asm); (case T => k_asm); (case cd => exact rfl); (case C => kn_code); (case tb => assumption); (case N => k_asm); (case o2 => assumption); (case hT => assumption); (case o1 => (intro x9 h9; rcases List.mem_cons.mp h9 with e9 | h9; (subst e9; k_ne); cases h9)); (case cl => exact rfl); k_whole))
  | (k_dflt (refine' nestB (mid := [_, _]) ?F ?N ?T ?C ?cd ?tb ?o1 ?o2 ?hT ?cl ?_; (case F => k_asm); (case T => k_asm); (case cd => exact rfl); (case C => kn_code); (case tb => assumption); (case N => k_asm); (case o2 => assumption); (case hT => assumption); (case o1 => (intro x9 h9; rcases List.mem_cons.mp h9 with e9 | h9; (subst e9; k_ne); rcases List.mem_cons.mp h9 with e9 | h9; (subst e9; k_ne); cases h9)); (case cl => exact rfl); k_whole))); (intro f' c' oc' vs' t' ct' dc' h' tk' F' N' d1' d2' n3' l1; (simp only [List.cons_append, List.nil_append] at N' l1); (try k_lt l1)))
  k_with "call builtin:bytes.join" => (k_here; k_dflt (refine' join_bytes ?hl ?hb ?hz ?_; (case hb => assumption); (case hz => assumption); (case hl => exact News.isList (by assumption) (by k_mem))); intro tj9 kj9)
  w_top off
  have hL188 : ∀ L' : Nat, (∀ p ∈ rest, p.1 < L') → @LT.lt Nat _ 188 L' := fun L' h => by
    rcases hts with e | ⟨c', oc, vs, t, e, _⟩
    · exact h _ (by rw [hr, e]; exact .head _)
    · exact h _ (by rw [hr, e]; exact .tail _ (.head _))
  k_with "eval Lambda" => ((subst hr); k_dflt (refine' kla_eval ?d0 ?_; (case d0 => exact rfl)); (k_dflt (refine' lamB (mid := [_, _]) ?F ?N ?T ?C ?cd ?tb ?o1 ?o2 ?hT ?cl ?_; (case F => k_asm); (case T => k_asm); (case cd => exact rfl); (case C => kn_code); (case tb => assumption); (case N => k_asm); (case o2 => assumption); (case hT => assumption); (case o1 => (intro x9 h9; rcases List.mem_cons.mp h9 with e9 | h9; (subst e9; k_ne); rcases List.mem_cons.mp h9 with e9 | h9; (subst e9; k_ne); cases h9)); (case cl => exact rfl); k_whole)); (intro f8 c8 oc8 vs8 t8 ct8 h8 tk8 F8 N8 d18 d28 n38 l8; (simp only [List.cons_append, List.nil_append] at N8 l8); (try k_lt l8)))
  k_with "call ref" => (refine stop_in ?_)
  refine wpAny_call ?_
  k_dflt (refine' code_defC ?k1 ?k2 ?k3 ?k4 ?k5 ?kA ?kF ?kK ?k6 ?k7 ?k8 ?k9 ?kB ?kD ?_ ?c2 ?c3 ?c4; (case kA => exact rfl); (case kF => exact rfl); (case kK => assumption); (case k1 => k_asm); (case k2 => k_asm); (case k3 => k_asm); (case k4 => k_asm); (case k5 => k_asm); (case k6 => k_is); (case k7 => k_is); (case k8 => ktr_room); (case k9 => exact BindsTo.of_eq rfl); (case kB => exact rfl); (case kD => decide +kernel); (case c2 => exact rfl); (case c3 => exact rfl); (case c4 => exact rfl); k_whole; intro g' L' h' tk' cells' FG' F' N' Y' B' X' T' l1; (try k_lt l1); k_cells Y'; (try simp only [List.cons_append, List.nil_append] at N'); (try dsimp only); (try k_lift B'); (try k_fold))
  have l3 := hL188 _ l1
  have l2 : ∀ p ∈ rest, p.1 < L' + 1 := fun p hp => Nat.lt_succ_of_lt (l1 p hp)
  k_steps
  refine stop_out ?_
  have n9 := code_ne N8 d18
  refine' enc_use (fun x9 y9 => c178 w _ _ _ _ n _ hn0 hn1 x9 y9) BS ?cB ?cF ?cN ?ck ?cd ?cu ?cW ?_
  case cB => assumption
  case cF => assumption
  case cN => assumption
  case ck => exact rfl
  case cd => k_room
  case cu => k_units
  case cW =>
    intro vs9 k9 b9 t9 hl9
    unfold Ct
    intro loose mean mg mb dp un gd cn cs a ccd cl outer A₀ base h₀ L m s Q E BS B F N hk hd hu hret hX
    have X := BS.X.keeps B.stays
    have T := BS.T.keeps B.stays
    refine wpAny_call ?_
    k_dflt (refine' kla_code ?k1 ?k2 ?k3 ?k4 ?k5 ?kA ?kF ?kK ?k6 ?k7 ?k8 ?k9 ?kB ?_ ?c2 ?c3 ?c4 ?c5; (case kA => exact rfl); (case kF => exact rfl); (case kK => exact hk); (case k1 => k_asm); (case k2 => k_asm); (case k3 => k_asm); (case k4 => k_asm); (case k5 => k_asm); (case k6 => k_mem); (case k7 => exact codeRec_news (by k_asm) (by k_mem) (by assumption) (by assumption)); (case k8 => k_room); (case k9 => exact rfl); (case c5 => decide); (case kB => exact locs rfl); (case c2 => exact rfl); (case c3 => exact rfl); (case c4 => exact rfl); k_whole; intro g' L' h' FG' F' N' B' X' T'; (try dsimp only); (try k_lift B'); (try k_fold))
    k_steps
    all_goals first
      | exact hret _ _ _ _ (by assumption) (by assumption) ⟨rfl, _, rfl⟩
  intro vs7 ps7 k7 h7 tk7 F7 N7 hb7 hf7
  have z7 := cat_fits hf7 hn1.len
  k_steps
  all_goals first
    | exact vb_ret hret (by assumption) (by assumption) d18 d28 n38 (by k_mem) (by k_mem) (by kst_inAny) hf7
end
section
open PySem PySem.W PySem.Spec PySem.Calls PyProof.Rows
/-- a writer of the number: its pieces -/
def EncC (w : World) (fn : Addr) (args : List Value) (ks : List Int) : Prop :=
  ∀ (f D : Addr) (rest : List (Addr × Obj)) (k : Nat), Wr w f D rest → FnIn f rest → Ct w fn (.ref f :: args) 4 ((D, W.listOf ([] : List Value).toArray k) :: rest) (PcsR D rest ks) (fun _ _ => False)
theorem encC_use {w : World} {fn f D : Addr} {args : List Value} {r : List (Addr × Obj)} (pre : List (Addr × Obj)) {k : Nat} {ks : List Int}
    {loose : List Str} {mean : ExcName → Option Value} {mg mb : Str → Option Value} {dp un : Nat} {gd : Option (List Code)} {cn : Str} {cs : Scope} {a : Addr} {ccd : Value} {cl : List (Str × Addr)} {outer : List Env} {A₀ : Around} {base h₀ : Heap} {L : Addr} {m : Str → Option Value} {s : Shared} {Q E : Value → Shared → Prop}
    (hC : EncC w fn args ks)
    (BS : Bs w loose mean mg mb base) (B : Below A₀ base outer h₀) (F : Fr h₀ L s.heap m) (N : News h₀ L s.heap (pre ++ (D, W.listOf ([] : List Value).toArray k) :: r)) (hk : cs.kind = .function) (hd : dp + 4 < recursionLimit) (hu : un + 32 < cLine)
    (hf : FnIn f (pre ++ r)) (hW : Wr w f D (pre ++ r))
    (h : ∀ vs ps k h' tk', Fr h₀ L h' m → News h₀ L h' ((D, W.listOf vs.toArray k) :: (pre ++ r)) → BytesAre vs ps → (ps.map KBw.bInts).flatten = ks → Q .none { s with heap := h', toks := tk' }) :
    wpAny (model PySem.Challenge.rw_jd0021_01.row.prog w) (ktrTop dp un gd cn cs L a ccd cl outer) (call (.ref fn) (.ref f :: args)) Q E s := by
  refine Ct.use (hC f D (pre ++ r) k hW hf) BS B F (news_sub N fun x hx => ?_) hk hd hu ?_ ?_
  · rcases List.mem_cons.mp hx with e | hx
    · exact e ▸ List.mem_append_right _ (.head _)
    rcases List.mem_append.mp hx with hx | hx
    · exact List.mem_append_left _ hx
    · exact List.mem_append_right _ (.tail _ hx)
  · intro v led' h' tk' F' N' hR
    obtain ⟨vs, ps, k', e1, e2, e3, e4⟩ := hR
    subst e1
    subst e2
    exact h vs ps k' h' tk' F' N' e3 e4
  · intro e cls G led' h' tk' _ _ _ x
    exact x.elim
def qW : Str := Str.ofString "_law_written.<locals>.<lambda>"
def CodeQ (c : Addr) (oc : Obj) : Prop := ∃ vs t, oc.data = .fields vs ∧ vs[1]? = some (.str qW t) ∧ c ≠ 95 ∧ c ≠ 102 ∧ c ≠ 188 ∧ c ≠ 251
abbrev tabB (c : Addr) : Obj := tabObj #[rawInt ((253 : Nat) : Int), rawInt ((22 : Nat) : Int), .ref c]
abbrev tabBA (c d : Addr) : Obj := tabObj #[rawInt ((253 : Nat) : Int), rawInt ((22 : Nat) : Int), .ref c, rawInt ((251 : Nat) : Int), rawInt ((28 : Nat) : Int), .ref d]
def TwN (ts : List (Addr × Obj)) : Prop := ts = [(251, tabObj #[])]
def TwB (ts : List (Addr × Obj)) : Prop := ∃ c oc, ts = [(c, oc), (251, tabB c)] ∧ CodeQ c oc
def TwBA (ts : List (Addr × Obj)) : Prop := ∃ c oc d od, ts = [(c, oc), (d, od), (251, tabBA c d)] ∧ CodeQ c oc ∧ CodeQ d od
/-- what _law_written gives -/
def WrR (T : List (Addr × Obj) → Prop) (ks : List Int) (led led' : List (Addr × Obj)) (v : Value) : Prop := ∃ ts b t, T ts ∧ v = .bytes b t ∧ KBw.bInts b = ks ∧ led' = ts ++ led
theorem wr_ret {T : List (Addr × Obj) → Prop} {ts : List (Addr × Obj)} {ks : List Int} {led l : List (Addr × Obj)} {h₀ h' : Heap} {L : Addr} {m : Str → Option Value} {s : Shared} {Q : Value → Shared → Prop} {tk' : Nat} {ps : List (Array UInt8)} {tt : Tok}
    (hret : ∀ v led' h' tk', Fr h₀ L h' m → News h₀ L h' led' → WrR T ks led led' v → Q v { s with heap := h', toks := tk' })
    (kF : Fr h₀ L h' m) (kN : News h₀ L h' l) (hT : T ts) (h1 : ∀ x ∈ ts, x ∈ l) (hl : ∀ x ∈ led, x ∈ l) (hf : (ps.map KBw.bInts).flatten = ks) : Q (.bytes (cat ps) tt) { s with heap := h', toks := tk' } :=
  hret _ (ts ++ led) _ _ kF (news_sub kN fun x hx => (List.mem_append.mp hx).elim (h1 x) (hl x)) ⟨_, _, _, hT, rfl, by rw [cat_ints, hf], rfl⟩
theorem codeQ_new {c : Addr} {oc : Obj} {vs : Array Value} {t : Tok} (h1 : oc.data = .fields vs) (h2 : vs[1]? = some (.str qW t)) (l : @LT.lt Nat _ 251 c) : CodeQ c oc :=
  ⟨vs, t, h1, h2, neN (by omega), neN (by omega), neN (by omega), neN (by omega)⟩
section
variable {ks : List Int} {led l : List (Addr × Obj)} {h₀ h' : Heap} {L : Addr} {m : Str → Option Value} {s : Shared} {Q : Value → Shared → Prop} {tk' : Nat} {ps : List (Array UInt8)} {tt : Tok} {c d : Addr} {oc od : Obj} {vs : Array Value} {t : Tok}
theorem wr_retB (hret : ∀ v led' h' tk', Fr h₀ L h' m → News h₀ L h' led' → WrR TwB ks led led' v → Q v { s with heap := h', toks := tk' })
    (kF : Fr h₀ L h' m) (kN : News h₀ L h' l) (hP : (251, tabObj (#[] ++ #[rawInt ((253 : Nat) : Int), rawInt ((22 : Nat) : Int), .ref c])) ∈ l) (hc : (c, oc) ∈ l) (h1 : oc.data = .fields vs) (h2 : vs[1]? = some (.str qW t)) (lt : @LT.lt Nat _ 251 c)
    (hl : ∀ x ∈ led, x ∈ l) (hf : (ps.map KBw.bInts).flatten = ks) : Q (.bytes (cat ps) tt) { s with heap := h', toks := tk' } := by
  rw [Array.empty_append] at hP
  refine wr_ret hret kF kN ⟨c, oc, rfl, codeQ_new h1 h2 lt⟩ (fun x hx => ?_) hl hf
  rcases List.mem_cons.mp hx with e | hx
  · exact e ▸ hc
  rcases List.mem_cons.mp hx with e | hx
  · exact e ▸ hP
  · cases hx
theorem wr_retBA (hret : ∀ v led' h' tk', Fr h₀ L h' m → News h₀ L h' led' → WrR TwBA ks led led' v → Q v { s with heap := h', toks := tk' })
    (kF : Fr h₀ L h' m) (kN : News h₀ L h' l) (hP : (251, tabObj (#[rawInt ((253 : Nat) : Int), rawInt ((22 : Nat) : Int), .ref c] ++ #[rawInt ((251 : Nat) : Int), rawInt ((28 : Nat) : Int), .ref d])) ∈ l) (hc : (c, oc) ∈ l) (hq : CodeQ c oc) (hd : (d, od) ∈ l) (h1 : od.data = .fields vs) (h2 : vs[1]? = some (.str qW t)) (lt : @LT.lt Nat _ 251 d)
    (hl : ∀ x ∈ led, x ∈ l) (hf : (ps.map KBw.bInts).flatten = ks) : Q (.bytes (cat ps) tt) { s with heap := h', toks := tk' } := by
  refine wr_ret hret kF kN ⟨c, oc, d, od, rfl, hq, codeQ_new h1 h2 lt⟩ (fun x hx => ?_) hl hf
  rcases List.mem_cons.mp hx with e | hx
  · exact e ▸ hc
  rcases List.mem_cons.mp hx with e | hx
  · exact e ▸ hd
  rcases List.mem_cons.mp hx with e | hx
  · exact e ▸ hP
  · cases hx
theorem wr_retH (hret : ∀ v led' h' tk', Fr h₀ L h' m → News h₀ L h' led' → WrR TwBA ks led led' v → Q v { s with heap := h', toks := tk' })
    (kF : Fr h₀ L h' m) (kN : News h₀ L h' l) (hP : (251, tabBA c d) ∈ l) (hc : (c, oc) ∈ l) (hq : CodeQ c oc) (hd : (d, od) ∈ l) (hq2 : CodeQ d od)
    (hl : ∀ x ∈ led, x ∈ l) (hf : (ps.map KBw.bInts).flatten = ks) : Q (.bytes (cat ps) tt) { s with heap := h', toks := tk' } := by
  refine wr_ret hret kF kN ⟨c, oc, d, od, rfl, hq, hq2⟩ (fun x hx => ?_) hl hf
  rcases List.mem_cons.mp hx with e | hx
  · exact e ▸ hc
  rcases List.mem_cons.mp hx with e | hx
  · exact e ▸ hd
  rcases List.mem_cons.mp hx with e | hx
  · exact e ▸ hP
  · cases hx
end
end
section
open PySem PySem.W PySem.Spec PySem.Calls PyProof.Rows
local macro_rules | `(tactic| walk_at "callWith ref") => `(tactic| k_extra "callWith ref")
local macro_rules | `(tactic| walk_at "getMethod bytes") => `(tactic| (k_here; (with_reducible refine method_join ?_)))
local macro_rules | `(tactic| walk_at "call builtin:bytes.join") => `(tactic| k_extra "call builtin:bytes.join")
local macro_rules | `(tactic| k_all) => `(tactic| assumption)
set_option maxHeartbeats 4000000 in
theorem w256f0 (w : World) (n : Int) (t : Tok) (ks : List Int) (ts led : List (Addr × Obj)) (hts : TwN ts) (hoff : ∀ x ∈ led, x.1 ≠ 251) (hC : EncC w 178 [.int n t] ks) (hk10 : ks.length ≤ 10) :
  Ct w 256 [.int n t, .bool false] 6 (ts ++ led) (WrR TwB ks led) (fun _ _ => False) := by
  unfold Ct
  intro loose mean mg mb dp un gd cn cs a ccd cl outer A₀ base h₀ L m s Q E BS B F N hk hd hu hret hX
  have X := BS.X.keeps B.stays
  have T := BS.T.keeps B.stays
  have cH1 := BS.c4
  have hMk : KstMark := kstMark
  subst hts
  simp only [List.cons_append, List.nil_append] at N
  k_with_none
  k_with "loadName" => (k_here; k_dflt (refine' loadX_L ?k1 ?k2 ?_ ?a ?b; (case a => rfl); (case b => rfl); (case k1 => k_asm); (case k2 => exact rfl); k_whole))
  k_with "leaving ref" => (k_here; k_dflt (first
  | (refine' leaveX_new ?k1 ?k0 ?k2 ?k3 ?k4 ?k5 ?_; (case k0 => assumption); (case k2 => assumption); (case k1 => assumption); (case k3 => k_asm); (case k4 => exact rfl); (case k5 => exact rfl); k_whole; intro h' R' U'; (try dsimp only at R' U' ⊢))
  | (refine' leaveX_made ?k1 ?k0 ?k2 ?k3 ?k4 ?k5 ?_; (case k0 => first | assumption | exact Heap.MadeExc.of (by assumption)); (case k2 => assumption); (case k1 => assumption); (case k3 => k_asm); (case k4 => exact rfl); (case k5 => exact rfl); k_whole; intro h' R' U'; (try dsimp only at R' U' ⊢))
  | (refine' leaveX_on ?k1 ?k2 ?k3 ?k4 ?k5 ?_; (case k3 => assumption); (case k2 => assumption); (case k1 => assumption); (case k4 => assumption); (case k5 => exact rfl); k_whole; intro h' R' U'; (try dsimp only at R' U' ⊢))))
  k_with "subscriptTail Name Name bytes int" => (k_here; (with_reducible show wpAny _ _ (subscriptTail _ _ (Value.bytes _ _) (Value.int _ _)) _ _ _); (with_unfolding_all refine' item_or ?h0 (by kba_ints) ?h1 ?h2 ?h3 ?h4 ?h5 ?h6 ?h7; (case h0 => rfl); (case h1 => omega); (case h2 => omega); (case h3 => omega); (case h6 => with_unfolding_all rfl); (case h7 => (intro _; with_unfolding_all rfl)); k_whole); first | (intro hlt' t' tk' h0' h1') | (intro hge' h' tk' e' x'))
  k_with "exec Raise some none" => (k_here; k_dflt (refine' RaiseX_own ?F ?X ?T ?e ?q PySem.F.excBase_Exception ?h ?_ ?a ?b ?c ?d ?g; (case F => k_asm); (case X => k_asm); (case T => k_asm); (case e => k_is); (case q => k_exc); (case h => first | rfl | assumption); (case a => rfl); (case b => rfl); (case c => rfl); (case d => rfl); (case g => decide); k_whole))
  k_with "binaryOp BitAnd int int" => (first | (refine and_to (bitAnd_m7 _) ?_) | (refine and_to (band128 _) ?_) | (refine and_to (bitAnd_m3 _) ?_) | (refine and_to (bitAnd_m1 _) ?_))
  k_with "inplaceOp BitAnd int int" => (first | (refine iand_to (band64 _) ?_) | (refine iand_to (bitAnd_m32 _) ?_))
  k_with "binaryOp LShift int int" => ((refine shl_to ?_ ?_ ?_ ?_); (focus omega); (focus omega); (focus omega))
  k_with "exec FunctionDef" => (k_here; (rename (_ = _ ++ _) => hr9; subst hr9); k_dflt (refine' nestDef_K ?d0 ?k0 ?a0 ?_; (case d0 => exact rfl); (case k0 => exact rfl); (case a0 => exact rfl)); (first
  | (k_dflt (refine' nestB (mid := [_]) ?F ?N ?T ?C ?cd ?tb ?o1 ?o2 ?hT ?cl ?_; (case F => k_asm); (case T => k_asm); (case cd => exact rfl); (case C => kn_code); (case tb => assumption); (case N => k_asm); (case o2 => assumption); (case hT => assumption); (case o1 => (intro x9 h9; rcases List.mem_cons.mp h9 with e9 | h9; (subst e9; k_ne); cases h9)); (case cl => exact rfl); k_whole))
  | (k_dflt (refine' nestB (mid := [_, _]) ?F ?N ?T ?C ?cd ?tb ?o1 ?o2 ?hT ?cl ?_; (case F => k_asm); (case T => k_asm); (case cd => exact rfl); (case C => kn_code); (case tb => assumption); (case N => k_asm); (case o2 => assumption); (case hT => assumption); (case o1 => (intro x9 h9; rcases List.mem_cons.mp h9 with e9 | h9; (subst e9; k_ne); rcases List.mem_cons.mp h9 with e9 | h9; (subst e9; k_ne); cases h9)); (case cl => exact rfl); k_whole))); (intro f' c' oc' vs' t' ct' dc' h' tk' F' N' d1' d2' n3' l1; (simp only [List.cons_append, List.nil_append] at N' l1); (try k_lt l1)))
  k_with "callWith ref" => (k_here; k_dflt (refine' callWith_K ?k1 ?k2 ?_; (case k1 => k_asm); (case k2 => k_is); k_whole))
  k_with "call builtin:bytes.join" => (k_here; k_dflt (refine' join_bytes ?hl ?hb ?hz ?_; (case hb => assumption); (case hz => assumption); (case hl => exact News.isList (by assumption) (by k_mem))); intro tj9 kj9)
  w_top off
  k_with "call ref" => (refine stop_in ?_)
  refine wpAny_call ?_
  k_dflt (refine' code_defC ?k1 ?k2 ?k3 ?k4 ?k5 ?kA ?kF ?kK ?k6 ?k7 ?k8 ?k9 ?kB ?kD ?_ ?c2 ?c3 ?c4; (case kA => exact rfl); (case kF => exact rfl); (case kK => assumption); (case k1 => k_asm); (case k2 => k_asm); (case k3 => k_asm); (case k4 => k_asm); (case k5 => k_asm); (case k6 => k_is); (case k7 => k_is); (case k8 => ktr_room); (case k9 => exact BindsTo.of_eq rfl); (case kB => exact rfl); (case kD => decide +kernel); (case c2 => exact rfl); (case c3 => exact rfl); (case c4 => exact rfl); k_whole; intro g' L' h' tk' cells' FG' F' N' Y' B' X' T' l1; (try k_lt l1); k_cells Y'; (try simp only [List.cons_append, List.nil_append] at N'); (try dsimp only); (try k_lift B'); (try k_fold))
  have l2 := allLt_succ l1.2
  k_steps
  refine stop_out ?_
  refine' encC_use [_, _] hC BS ?cB ?cF ?cN ?ck ?cd ?cu ?cf ?cW ?_
  case cB => assumption
  case cF => assumption
  case cN => (simp only [List.cons_append, List.nil_append]; assumption)
  case ck => exact rfl
  case cd => k_room
  case cu => k_units
  case cf => exact ⟨_, _, _, _, .head _⟩
  case cW =>
    simp only [List.cons_append, List.nil_append]
    intro vs9 k9 b9 t9 hl9
    unfold Ct
    intro loose mean mg mb dp un gd cn cs a ccd cl outer A₀ base h₀ L m s Q E BS B F N hk hd hu hret hX
    have X := BS.X.keeps B.stays
    have T := BS.T.keeps B.stays
    refine wpAny_call ?_
    k_dflt (refine' kla_code ?k1 ?k2 ?k3 ?k4 ?k5 ?kA ?kF ?kK ?k6 ?k7 ?k8 ?k9 ?kB ?_ ?c2 ?c3 ?c4 ?c5; (case kA => exact rfl); (case kF => exact rfl); (case kK => exact hk); (case k1 => k_asm); (case k2 => k_asm); (case k3 => k_asm); (case k4 => k_asm); (case k5 => k_asm); (case k6 => k_mem); (case k7 => exact codeRec_news (by k_asm) (by k_mem) (by assumption) (by assumption)); (case k8 => k_room); (case k9 => exact rfl); (case c5 => decide); (case kB => exact locs rfl); (case c2 => exact rfl); (case c3 => exact rfl); (case c4 => exact rfl); k_whole; intro g' L' h' FG' F' N' B' X' T'; (try dsimp only); (try k_lift B'); (try k_fold))
    k_steps
    all_goals first
      | exact hret _ _ _ _ (by assumption) (by assumption) ⟨rfl, _, rfl⟩
  simp only [List.cons_append, List.nil_append]
  intro vs7 ps7 k7 h7 tk7 F7 N7 hb7 hf7
  have z7 := cat_fits hf7 hk10
  k_steps
  all_goals first
    | exact wr_retB hret (by assumption) (by assumption) (by k_mem) (by k_mem) (by assumption) (by assumption) (by omega) (by kst_inAny) hf7
set_option maxHeartbeats 4000000 in
theorem w256f2 (w : World) (n : Int) (t : Tok) (ks : List Int) (ts led : List (Addr × Obj)) (hts : TwBA ts) (hoff : ∀ x ∈ led, x.1 ≠ 251) (hC : EncC w 178 [.int n t] ks) (hk10 : ks.length ≤ 10) :
  Ct w 256 [.int n t, .bool false] 6 (ts ++ led) (WrR TwBA ks led) (fun _ _ => False) := by
  unfold Ct
  intro loose mean mg mb dp un gd cn cs a ccd cl outer A₀ base h₀ L m s Q E BS B F N hk hd hu hret hX
  have X := BS.X.keeps B.stays
  have T := BS.T.keeps B.stays
  have cH1 := BS.c4
  have hMk : KstMark := kstMark
  (obtain ⟨c0, oc0, c1, oc1, e0, q0, q1⟩ := hts; subst e0; obtain ⟨vs0, t0, d10, d20, n10, n20, n30, n40⟩ := id q0; obtain ⟨vs1, t1, d11, d21, n11, n21, n31, n41⟩ := id q1)
  simp only [List.cons_append, List.nil_append] at N
  k_with_none
  k_with "loadName" => (k_here; k_dflt (refine' loadX_L ?k1 ?k2 ?_ ?a ?b; (case a => rfl); (case b => rfl); (case k1 => k_asm); (case k2 => exact rfl); k_whole))
  k_with "leaving ref" => (k_here; k_dflt (first
  | (refine' leaveX_new ?k1 ?k0 ?k2 ?k3 ?k4 ?k5 ?_; (case k0 => assumption); (case k2 => assumption); (case k1 => assumption); (case k3 => k_asm); (case k4 => exact rfl); (case k5 => exact rfl); k_whole; intro h' R' U'; (try dsimp only at R' U' ⊢))
  | (refine' leaveX_made ?k1 ?k0 ?k2 ?k3 ?k4 ?k5 ?_; (case k0 => first | assumption | exact Heap.MadeExc.of (by assumption)); (case k2 => assumption); (case k1 => assumption); (case k3 => k_asm); (case k4 => exact rfl); (case k5 => exact rfl); k_whole; intro h' R' U'; (try dsimp only at R' U' ⊢))
  | (refine' leaveX_on ?k1 ?k2 ?k3 ?k4 ?k5 ?_; (case k3 => assumption); (case k2 => assumption); (case k1 => assumption); (case k4 => assumption); (case k5 => exact rfl); k_whole; intro h' R' U'; (try dsimp only at R' U' ⊢))))
  k_with "subscriptTail Name Name bytes int" => (k_here; (with_reducible show wpAny _ _ (subscriptTail _ _ (Value.bytes _ _) (Value.int _ _)) _ _ _); (with_unfolding_all refine' item_or ?h0 (by kba_ints) ?h1 ?h2 ?h3 ?h4 ?h5 ?h6 ?h7; (case h0 => rfl); (case h1 => omega); (case h2 => omega); (case h3 => omega); (case h6 => with_unfolding_all rfl); (case h7 => (intro _; with_unfolding_all rfl)); k_whole); first | (intro hlt' t' tk' h0' h1') | (intro hge' h' tk' e' x'))
  k_with "exec Raise some none" => (k_here; k_dflt (refine' RaiseX_own ?F ?X ?T ?e ?q PySem.F.excBase_Exception ?h ?_ ?a ?b ?c ?d ?g; (case F => k_asm); (case X => k_asm); (case T => k_asm); (case e => k_is); (case q => k_exc); (case h => first | rfl | assumption); (case a => rfl); (case b => rfl); (case c => rfl); (case d => rfl); (case g => decide); k_whole))
  k_with "binaryOp BitAnd int int" => (first | (refine and_to (bitAnd_m7 _) ?_) | (refine and_to (band128 _) ?_) | (refine and_to (bitAnd_m3 _) ?_) | (refine and_to (bitAnd_m1 _) ?_))
  k_with "inplaceOp BitAnd int int" => (first | (refine iand_to (band64 _) ?_) | (refine iand_to (bitAnd_m32 _) ?_))
  k_with "binaryOp LShift int int" => ((refine shl_to ?_ ?_ ?_ ?_); (focus omega); (focus omega); (focus omega))
  k_with "exec FunctionDef" => (k_here; (rename (_ = _ ++ _) => hr9; subst hr9); k_dflt (refine' nestDef_K ?d0 ?k0 ?a0 ?_; (case d0 => exact rfl); (case k0 => exact rfl); (case a0 => exact rfl)); (first
  | (k_dflt (refine' nestB (mid := [_]) ?F ?N ?T ?C ?cd ?tb ?o1 ?o2 ?hT ?cl ?_; (case F => k_asm); (case T => k_asm); (case cd => exact rfl); (case C => kn_code); (case tb => assumption); (case N => k_asm); (case o2 => assumption); (case hT => assumption); (case o1 => (intro x9 h9; rcases List.mem_cons.mp h9 with e9 | h9; (subst e9; k_ne); cases h9)); (case cl => exact rfl); k_whole))
  | (k_dflt (refine' nestB (mid := [_, _]) ?F ?N ?T ?C ?cd ?tb ?o1 ?o2 ?hT ?cl ?_; (case F => k_asm); (case T => k_asm); (case cd => exact rfl); (case C => kn_code); (case tb => assumption); (case N => k_asm); (case o2 => assumption); (case hT => assumption); (case o1 => (intro x9 h9; rcases List.mem_cons.mp h9 with e9 | h9; (subst e9; k_ne); rcases List.mem_cons.mp h9 with e9 | h9; (subst e9; k_ne); cases h9)); (case cl => exact rfl); k_whole))); (intro f' c' oc' vs' t' ct' dc' h' tk' F' N' d1' d2' n3' l1; (simp only [List.cons_append, List.nil_append] at N' l1); (try k_lt l1)))
  k_with "callWith ref" => (k_here; k_dflt (refine' callWith_K ?k1 ?k2 ?_; (case k1 => k_asm); (case k2 => k_is); k_whole))
  k_with "call builtin:bytes.join" => (k_here; k_dflt (refine' join_bytes ?hl ?hb ?hz ?_; (case hb => assumption); (case hz => assumption); (case hl => exact News.isList (by assumption) (by k_mem))); intro tj9 kj9)
  w_top off
  k_with "call ref" => (refine stop_in ?_)
  refine wpAny_call ?_
  k_dflt (refine' code_defC ?k1 ?k2 ?k3 ?k4 ?k5 ?kA ?kF ?kK ?k6 ?k7 ?k8 ?k9 ?kB ?kD ?_ ?c2 ?c3 ?c4; (case kA => exact rfl); (case kF => exact rfl); (case kK => assumption); (case k1 => k_asm); (case k2 => k_asm); (case k3 => k_asm); (case k4 => k_asm); (case k5 => k_asm); (case k6 => k_is); (case k7 => k_is); (case k8 => ktr_room); (case k9 => exact BindsTo.of_eq rfl); (case kB => exact rfl); (case kD => decide +kernel); (case c2 => exact rfl); (case c3 => exact rfl); (case c4 => exact rfl); k_whole; intro g' L' h' tk' cells' FG' F' N' Y' B' X' T' l1; (try k_lt l1); k_cells Y'; (try simp only [List.cons_append, List.nil_append] at N'); (try dsimp only); (try k_lift B'); (try k_fold))
  have l2 := allLt_succ l1.2.2.2
  k_steps
  refine stop_out ?_
  refine' encC_use [_] hC BS ?cB ?cF ?cN ?ck ?cd ?cu ?cf ?cW ?_
  case cB => assumption
  case cF => assumption
  case cN => (simp only [List.cons_append, List.nil_append]; assumption)
  case ck => exact rfl
  case cd => k_room
  case cu => k_units
  case cf => exact ⟨_, _, _, _, .head _⟩
  case cW =>
    simp only [List.cons_append, List.nil_append]
    intro vs9 k9 b9 t9 hl9
    unfold Ct
    intro loose mean mg mb dp un gd cn cs a ccd cl outer A₀ base h₀ L m s Q E BS B F N hk hd hu hret hX
    have X := BS.X.keeps B.stays
    have T := BS.T.keeps B.stays
    refine wpAny_call ?_
    k_dflt (refine' kla_code ?k1 ?k2 ?k3 ?k4 ?k5 ?kA ?kF ?kK ?k6 ?k7 ?k8 ?k9 ?kB ?_ ?c2 ?c3 ?c4 ?c5; (case kA => exact rfl); (case kF => exact rfl); (case kK => exact hk); (case k1 => k_asm); (case k2 => k_asm); (case k3 => k_asm); (case k4 => k_asm); (case k5 => k_asm); (case k6 => k_mem); (case k7 => exact codeRec_news (by k_asm) (by k_mem) (by assumption) (by assumption)); (case k8 => k_room); (case k9 => exact rfl); (case c5 => decide); (case kB => exact locs rfl); (case c2 => exact rfl); (case c3 => exact rfl); (case c4 => exact rfl); k_whole; intro g' L' h' FG' F' N' B' X' T'; (try dsimp only); (try k_lift B'); (try k_fold))
    k_steps
    all_goals first
      | exact hret _ _ _ _ (by assumption) (by assumption) ⟨rfl, _, rfl⟩
  simp only [List.cons_append, List.nil_append]
  intro vs7 ps7 k7 h7 tk7 F7 N7 hb7 hf7
  have z7 := cat_fits hf7 hk10
  k_steps
  all_goals first
    | exact wr_retH hret (by assumption) (by assumption) (by k_mem) (by k_mem) q0 (by k_mem) q1 (by kst_inAny) hf7
set_option maxHeartbeats 4000000 in
theorem w256t1 (w : World) (n : Int) (t : Tok) (ks : List Int) (ts led : List (Addr × Obj)) (hts : TwB ts) (hoff : ∀ x ∈ led, x.1 ≠ 251) (hC : EncC w 186 [.int n t] ks) (hk10 : ks.length ≤ 10) :
  Ct w 256 [.int n t, .bool true] 6 (ts ++ led) (WrR TwBA ks led) (fun _ _ => False) := by
  unfold Ct
  intro loose mean mg mb dp un gd cn cs a ccd cl outer A₀ base h₀ L m s Q E BS B F N hk hd hu hret hX
  have X := BS.X.keeps B.stays
  have T := BS.T.keeps B.stays
  have cH1 := BS.c4
  have hMk : KstMark := kstMark
  (obtain ⟨c0, oc0, e0, q0⟩ := hts; subst e0; obtain ⟨vs0, t0, d10, d20, n10, n20, n30, n40⟩ := id q0; have n41 : @Ne Nat c0 251 := n40)
  simp only [List.cons_append, List.nil_append] at N
  k_with_none
  k_with "loadName" => (k_here; k_dflt (refine' loadX_L ?k1 ?k2 ?_ ?a ?b; (case a => rfl); (case b => rfl); (case k1 => k_asm); (case k2 => exact rfl); k_whole))
  k_with "leaving ref" => (k_here; k_dflt (first
  | (refine' leaveX_new ?k1 ?k0 ?k2 ?k3 ?k4 ?k5 ?_; (case k0 => assumption); (case k2 => assumption); (case k1 => assumption); (case k3 => k_asm); (case k4 => exact rfl); (case k5 => exact rfl); k_whole; intro h' R' U'; (try dsimp only at R' U' ⊢))
  | (refine' leaveX_made ?k1 ?k0 ?k2 ?k3 ?k4 ?k5 ?_; (case k0 => first | assumption | exact Heap.MadeExc.of (by assumption)); (case k2 => assumption); (case k1 => assumption); (case k3 => k_asm); (case k4 => exact rfl); (case k5 => exact rfl); k_whole; intro h' R' U'; (try dsimp only at R' U' ⊢))
  | (refine' leaveX_on ?k1 ?k2 ?k3 ?k4 ?k5 ?_; (case k3 => assumption); (case k2 => assumption); (case k1 => assumption); (case k4 => assumption); (case k5 => exact rfl); k_whole; intro h' R' U'; (try dsimp only at R' U' ⊢))))
  k_with "subscriptTail Name Name bytes int" => (k_here; (with_reducible show wpAny _ _ (subscriptTail _ _ (Value.bytes _ _) (Value.int _ _)) _ _ _); (with_unfolding_all refine' item_or ?h0 (by kba_ints) ?h1 ?h2 ?h3 ?h4 ?h5 ?h6 ?h7; (case h0 => rfl); (case h1 => omega); (case h2 => omega); (case h3 => omega); (case h6 => with_unfolding_all rfl); (case h7 => (intro _; with_unfolding_all rfl)); k_whole); first | (intro hlt' t' tk' h0' h1') | (intro hge' h' tk' e' x'))
  k_with "exec Raise some none" => (k_here; k_dflt (refine' RaiseX_own ?F ?X ?T ?e ?q PySem.F.excBase_Exception ?h ?_ ?a ?b ?c ?d ?g; (case F => k_asm); (case X => k_asm); (case T => k_asm); (case e => k_is); (case q => k_exc); (case h => first | rfl | assumption); (case a => rfl); (case b => rfl); (case c => rfl); (case d => rfl); (case g => decide); k_whole))
  k_with "binaryOp BitAnd int int" => (first | (refine and_to (bitAnd_m7 _) ?_) | (refine and_to (band128 _) ?_) | (refine and_to (bitAnd_m3 _) ?_) | (refine and_to (bitAnd_m1 _) ?_))
  k_with "inplaceOp BitAnd int int" => (first | (refine iand_to (band64 _) ?_) | (refine iand_to (bitAnd_m32 _) ?_))
  k_with "binaryOp LShift int int" => ((refine shl_to ?_ ?_ ?_ ?_); (focus omega); (focus omega); (focus omega))
  k_with "exec FunctionDef" => (k_here; (rename (_ = _ ++ _) => hr9; subst hr9); k_dflt (refine' nestDef_K ?d0 ?k0 ?a0 ?_; (case d0 => exact rfl); (case k0 => exact rfl); (case a0 => exact rfl)); (first
  | (k_dflt (refine' nestB (mid := [_]) ?F ?N ?T ?C ?cd ?tb ?o1 ?o2 ?hT ?cl ?_; (case F => k_asm); (case T => k_asm); (case cd => exact rfl); (case C => kn_code); (case tb => assumption); (case N => k_asm); (case o2 => assumption); (case hT => assumption); (case o1 => (intro x9 h9; rcases List.mem_cons.mp h9 with e9 | h9; (subst e9; k_ne); cases h9)); (case cl => exact rfl); k_whole))
  | (k_dflt (refine' nestB (mid := [_, _]) ?F ?N ?T ?C ?cd ?tb ?o1 ?o2 ?hT ?cl ?_; (case F => k_asm); (case T => k_asm); (case cd => exact rfl); (case C => kn_code); (case tb => assumption); (case N => k_asm); (case o2 => assumption); (case hT => assumption); (case o1 => (intro x9 h9; rcases List.mem_cons.mp h9 with e9 | h9; (subst e9; k_ne); rcases List.mem_cons.mp h9 with e9 | h9; (subst e9; k_ne); cases h9)); (case cl => exact rfl); k_whole))); (intro f' c' oc' vs' t' ct' dc' h' tk' F' N' d1' d2' n3' l1; (simp only [List.cons_append, List.nil_append] at N' l1); (try k_lt l1)))
  k_with "callWith ref" => (k_here; k_dflt (refine' callWith_K ?k1 ?k2 ?_; (case k1 => k_asm); (case k2 => k_is); k_whole))
  k_with "call builtin:bytes.join" => (k_here; k_dflt (refine' join_bytes ?hl ?hb ?hz ?_; (case hb => assumption); (case hz => assumption); (case hl => exact News.isList (by assumption) (by k_mem))); intro tj9 kj9)
  w_top off
  k_with "call ref" => (refine stop_in ?_)
  refine wpAny_call ?_
  k_dflt (refine' code_defC ?k1 ?k2 ?k3 ?k4 ?k5 ?kA ?kF ?kK ?k6 ?k7 ?k8 ?k9 ?kB ?kD ?_ ?c2 ?c3 ?c4; (case kA => exact rfl); (case kF => exact rfl); (case kK => assumption); (case k1 => k_asm); (case k2 => k_asm); (case k3 => k_asm); (case k4 => k_asm); (case k5 => k_asm); (case k6 => k_is); (case k7 => k_is); (case k8 => ktr_room); (case k9 => exact BindsTo.of_eq rfl); (case kB => exact rfl); (case kD => decide +kernel); (case c2 => exact rfl); (case c3 => exact rfl); (case c4 => exact rfl); k_whole; intro g' L' h' tk' cells' FG' F' N' Y' B' X' T' l1; (try k_lt l1); k_cells Y'; (try simp only [List.cons_append, List.nil_append] at N'); (try dsimp only); (try k_lift B'); (try k_fold))
  have l2 := allLt_succ l1.2.2
  k_steps
  refine stop_out ?_
  refine' encC_use [_, _] hC BS ?cB ?cF ?cN ?ck ?cd ?cu ?cf ?cW ?_
  case cB => assumption
  case cF => assumption
  case cN => (simp only [List.cons_append, List.nil_append]; assumption)
  case ck => exact rfl
  case cd => k_room
  case cu => k_units
  case cf => exact ⟨_, _, _, _, .head _⟩
  case cW =>
    simp only [List.cons_append, List.nil_append]
    intro vs9 k9 b9 t9 hl9
    unfold Ct
    intro loose mean mg mb dp un gd cn cs a ccd cl outer A₀ base h₀ L m s Q E BS B F N hk hd hu hret hX
    have X := BS.X.keeps B.stays
    have T := BS.T.keeps B.stays
    refine wpAny_call ?_
    k_dflt (refine' kla_code ?k1 ?k2 ?k3 ?k4 ?k5 ?kA ?kF ?kK ?k6 ?k7 ?k8 ?k9 ?kB ?_ ?c2 ?c3 ?c4 ?c5; (case kA => exact rfl); (case kF => exact rfl); (case kK => exact hk); (case k1 => k_asm); (case k2 => k_asm); (case k3 => k_asm); (case k4 => k_asm); (case k5 => k_asm); (case k6 => k_mem); (case k7 => exact codeRec_news (by k_asm) (by k_mem) (by assumption) (by assumption)); (case k8 => k_room); (case k9 => exact rfl); (case c5 => decide); (case kB => exact locs rfl); (case c2 => exact rfl); (case c3 => exact rfl); (case c4 => exact rfl); k_whole; intro g' L' h' FG' F' N' B' X' T'; (try dsimp only); (try k_lift B'); (try k_fold))
    k_steps
    all_goals first
      | exact hret _ _ _ _ (by assumption) (by assumption) ⟨rfl, _, rfl⟩
  simp only [List.cons_append, List.nil_append]
  intro vs7 ps7 k7 h7 tk7 F7 N7 hb7 hf7
  have z7 := cat_fits hf7 hk10
  k_steps
  all_goals first
    | exact wr_retBA hret (by assumption) (by assumption) (by k_mem) (by k_mem) q0 (by k_mem) (by assumption) (by assumption) (by omega) (by kst_inAny) hf7
set_option maxHeartbeats 4000000 in
theorem w256t2 (w : World) (n : Int) (t : Tok) (ks : List Int) (ts led : List (Addr × Obj)) (hts : TwBA ts) (hoff : ∀ x ∈ led, x.1 ≠ 251) (hC : EncC w 186 [.int n t] ks) (hk10 : ks.length ≤ 10) :
  Ct w 256 [.int n t, .bool true] 6 (ts ++ led) (WrR TwBA ks led) (fun _ _ => False) := by
  unfold Ct
  intro loose mean mg mb dp un gd cn cs a ccd cl outer A₀ base h₀ L m s Q E BS B F N hk hd hu hret hX
  have X := BS.X.keeps B.stays
  have T := BS.T.keeps B.stays
  have cH1 := BS.c4
  have hMk : KstMark := kstMark
  (obtain ⟨c0, oc0, c1, oc1, e0, q0, q1⟩ := hts; subst e0; obtain ⟨vs0, t0, d10, d20, n10, n20, n30, n40⟩ := id q0; obtain ⟨vs1, t1, d11, d21, n11, n21, n31, n41⟩ := id q1)
  simp only [List.cons_append, List.nil_append] at N
  k_with_none
  k_with "loadName" => (k_here; k_dflt (refine' loadX_L ?k1 ?k2 ?_ ?a ?b; (case a => rfl); (case b => rfl); (case k1 => k_asm); (case k2 => exact rfl); k_whole))
  k_with "leaving ref" => (k_here; k_dflt (first
  | (refine' leaveX_new ?k1 ?k0 ?k2 ?k3 ?k4 ?k5 ?_; (case k0 => assumption); (case k2 => assumption); (case k1 => assumption); (case k3 => k_asm); (case k4 => exact rfl); (case k5 => exact rfl); k_whole; intro h' R' U'; (try dsimp only at R' U' ⊢))
  | (refine' leaveX_made ?k1 ?k0 ?k2 ?k3 ?k4 ?k5 ?_; (case k0 => first | assumption | exact Heap.MadeExc.of (by assumption)); (case k2 => assumption); (case k1 => assumption); (case k3 => k_asm); (case k4 => exact rfl); (case k5 => exact rfl); k_whole; intro h' R' U'; (try dsimp only at R' U' ⊢))
  | (refine' leaveX_on ?k1 ?k2 ?k3 ?k4 ?k5 ?_; (case k3 => assumption); (case k2 => assumption); (case k1 => assumption); (case k4 => assumption); (case k5 => exact rfl); k_whole; intro h' R' U'; (try dsimp only at R' U' ⊢))))
  k_with "subscriptTail Name Name bytes int" => (k_here; (with_reducible show wpAny _ _ (subscriptTail _ _ (Value.bytes _ _) (Value.int _ _)) _ _ _); (with_unfolding_all refine' item_or ?h0 (by kba_ints) ?h1 ?h2 ?h3 ?h4 ?h5 ?h6 ?h7; (case h0 => rfl); (case h1 => omega); (case h2 => omega); (case h3 => omega); (case h6 => with_unfolding_all rfl); (case h7 => (intro _; with_unfolding_all rfl)); k_whole); first | (intro hlt' t' tk' h0' h1') | (intro hge' h' tk' e' x'))
  k_with "exec Raise some none" => (k_here; k_dflt (refine' RaiseX_own ?F ?X ?T ?e ?q PySem.F.excBase_Exception ?h ?_ ?a ?b ?c ?d ?g; (case F => k_asm); (case X => k_asm); (case T => k_asm); (case e => k_is); (case q => k_exc); (case h => first | rfl | assumption); (case a => rfl); (case b => rfl); (case c => rfl); (case d => rfl); (case g => decide); k_whole))
  k_with "binaryOp BitAnd int int" => (first | (refine and_to (bitAnd_m7 _) ?_) | (refine and_to (band128 _) ?_) | (refine and_to (bitAnd_m3 _) ?_) | (refine and_to (bitAnd_m1 _) ?_))
  k_with "inplaceOp BitAnd int int" => (first | (refine iand_to (band64 _) ?_) | (refine iand_to (bitAnd_m32 _) ?_))
  k_with "binaryOp LShift int int" => ((refine shl_to ?_ ?_ ?_ ?_); (focus omega); (focus omega); (focus omega))
  k_with "exec FunctionDef" => (k_here; (rename (_ = _ ++ _) => hr9; subst hr9); k_dflt (refine' nestDef_K ?d0 ?k0 ?a0 ?_; (case d0 => exact rfl); (case k0 => exact rfl); (case a0 => exact rfl)); (first
  | (k_dflt (refine' nestB (mid := [_]) ?F ?N ?T ?C ?cd ?tb ?o1 ?o2 ?hT ?cl ?_; (case F => k_asm); (case T => k_asm); (case cd => exact rfl); (case C => kn_code); (case tb => assumption); (case N => k_asm); (case o2 => assumption); (case hT => assumption); (case o1 => (intro x9 h9; rcases List.mem_cons.mp h9 with e9 | h9; (subst e9; k_ne); cases h9)); (case cl => exact rfl); k_whole))
  | (k_dflt (refine' nestB (mid := [_, _]) ?F ?N ?T ?C ?cd ?tb ?o1 ?o2 ?hT ?cl ?_; (case F => k_asm); (case T => k_asm); (case cd => exact rfl); (case C => kn_code); (case tb => assumption); (case N => k_asm); (case o2 => assumption); (case hT => assumption); (case o1 => (intro x9 h9; rcases List.mem_cons.mp h9 with e9 | h9; (subst e9; k_ne); rcases List.mem_cons.mp h9 with e9 | h9; (subst e9; k_ne); cases h9)); (case cl => exact rfl); k_whole))); (intro f' c' oc' vs' t' ct' dc' h' tk' F' N' d1' d2' n3' l1; (simp only [List.cons_append, List.nil_append] at N' l1); (try k_lt l1)))
  k_with "callWith ref" => (k_here; k_dflt (refine' callWith_K ?k1 ?k2 ?_; (case k1 => k_asm); (case k2 => k_is); k_whole))
  k_with "call builtin:bytes.join" => (k_here; k_dflt (refine' join_bytes ?hl ?hb ?hz ?_; (case hb => assumption); (case hz => assumption); (case hl => exact News.isList (by assumption) (by k_mem))); intro tj9 kj9)
  w_top off
  k_with "call ref" => (refine stop_in ?_)
  refine wpAny_call ?_
  k_dflt (refine' code_defC ?k1 ?k2 ?k3 ?k4 ?k5 ?kA ?kF ?kK ?k6 ?k7 ?k8 ?k9 ?kB ?kD ?_ ?c2 ?c3 ?c4; (case kA => exact rfl); (case kF => exact rfl); (case kK => assumption); (case k1 => k_asm); (case k2 => k_asm); (case k3 => k_asm); (case k4 => k_asm); (case k5 => k_asm); (case k6 => k_is); (case k7 => k_is); (case k8 => ktr_room); (case k9 => exact BindsTo.of_eq rfl); (case kB => exact rfl); (case kD => decide +kernel); (case c2 => exact rfl); (case c3 => exact rfl); (case c4 => exact rfl); k_whole; intro g' L' h' tk' cells' FG' F' N' Y' B' X' T' l1; (try k_lt l1); k_cells Y'; (try simp only [List.cons_append, List.nil_append] at N'); (try dsimp only); (try k_lift B'); (try k_fold))
  have l2 := allLt_succ l1.2.2.2
  k_steps
  refine stop_out ?_
  refine' encC_use [_] hC BS ?cB ?cF ?cN ?ck ?cd ?cu ?cf ?cW ?_
  case cB => assumption
  case cF => assumption
  case cN => (simp only [List.cons_append, List.nil_append]; assumption)
  case ck => exact rfl
  case cd => k_room
  case cu => k_units
  case cf => exact ⟨_, _, _, _, .head _⟩
  case cW =>
    simp only [List.cons_append, List.nil_append]
    intro vs9 k9 b9 t9 hl9
    unfold Ct
    intro loose mean mg mb dp un gd cn cs a ccd cl outer A₀ base h₀ L m s Q E BS B F N hk hd hu hret hX
    have X := BS.X.keeps B.stays
    have T := BS.T.keeps B.stays
    refine wpAny_call ?_
    k_dflt (refine' kla_code ?k1 ?k2 ?k3 ?k4 ?k5 ?kA ?kF ?kK ?k6 ?k7 ?k8 ?k9 ?kB ?_ ?c2 ?c3 ?c4 ?c5; (case kA => exact rfl); (case kF => exact rfl); (case kK => exact hk); (case k1 => k_asm); (case k2 => k_asm); (case k3 => k_asm); (case k4 => k_asm); (case k5 => k_asm); (case k6 => k_mem); (case k7 => exact codeRec_news (by k_asm) (by k_mem) (by assumption) (by assumption)); (case k8 => k_room); (case k9 => exact rfl); (case c5 => decide); (case kB => exact locs rfl); (case c2 => exact rfl); (case c3 => exact rfl); (case c4 => exact rfl); k_whole; intro g' L' h' FG' F' N' B' X' T'; (try dsimp only); (try k_lift B'); (try k_fold))
    k_steps
    all_goals first
      | exact hret _ _ _ _ (by assumption) (by assumption) ⟨rfl, _, rfl⟩
  simp only [List.cons_append, List.nil_append]
  intro vs7 ps7 k7 h7 tk7 F7 N7 hb7 hf7
  have z7 := cat_fits hf7 hk10
  k_steps
  all_goals first
    | exact wr_retH hret (by assumption) (by assumption) (by k_mem) (by k_mem) q0 (by k_mem) q1 (by kst_inAny) hf7
end
section
open PySem PySem.W PySem.Spec PySem.Calls PyProof.Rows
/-- a number as an answer, the ledger as it was -/
def IR (k : Int) (led led' : List (Addr × Obj)) (v : Value) : Prop := ∃ t, v = .int k t ∧ led' = led
theorem tag_or {n w : Int} (h0 : 0 ≤ w) (h1 : w ≤ 5) : Builtin.bitOr (n * 2 ^ Int.toNat 3) w = 8 * n + w := by
  have h := bor_disj' (k := 3) (x := n) (r := w) h0 (by show w < 8; omega)
  show Builtin.bitOr (n * 2 ^ 3) w = _
  rw [h]
  show w + n * 8 = _
  omega
/-- the size of the shortest form -/
def vsz (n : Int) : Int := ((enc n.toNat).length : Int)
theorem enc_size : ∀ (k n : Nat), 128 ^ k ≤ n → n < 128 ^ (k + 1) → (enc n).length = k + 1
  | 0, n, _, h => by rw [enc_lt (by simpa using h)]; rfl
  | k + 1, n, h0, h1 => by
    have e0 : (128 : Nat) ^ (k + 1) = 128 * 128 ^ k := by rw [Nat.pow_succ]; omega
    have e1 : (128 : Nat) ^ (k + 1 + 1) = 128 * 128 ^ (k + 1) := by rw [Nat.pow_succ]; omega
    have hp : 0 < (128 : Nat) ^ k := Nat.pow_pos (by decide)
    rw [enc_ge (by omega), List.length_cons, enc_size k (n / 128) (by omega) (by omega)]
theorem vsz1 {n : Int} (h0 : 0 ≤ n) (h : n ≤ 127) : 1 = vsz n := by
  unfold vsz; rw [enc_lt (by omega)]; rfl
theorem vsz2 {n : Int} (h0 : ¬ n ≤ 127) (h : n ≤ 16383) : 2 = vsz n := by
  unfold vsz; rw [enc_size 1 _ (by omega) (by omega)]; rfl
theorem vsz3 {n : Int} (h0 : ¬ n ≤ 16383) (h : n ≤ 2097151) : 3 = vsz n := by
  unfold vsz; rw [enc_size 2 _ (by omega) (by omega)]; rfl
theorem vsz4 {n : Int} (h0 : ¬ n ≤ 2097151) (h : n ≤ 268435455) : 4 = vsz n := by
  unfold vsz; rw [enc_size 3 _ (by omega) (by omega)]; rfl
theorem vsz5 {n : Int} (h0 : ¬ n ≤ 268435455) (h : n ≤ 34359738367) : 5 = vsz n := by
  unfold vsz; rw [enc_size 4 _ (by omega) (by omega)]; rfl
theorem vsz6 {n : Int} (h0 : ¬ n ≤ 34359738367) (h : n ≤ 4398046511103) : 6 = vsz n := by
  unfold vsz; rw [enc_size 5 _ (by omega) (by omega)]; rfl
theorem vsz7 {n : Int} (h0 : ¬ n ≤ 4398046511103) (h : n ≤ 562949953421311) : 7 = vsz n := by
  unfold vsz; rw [enc_size 6 _ (by omega) (by omega)]; rfl
theorem vsz8 {n : Int} (h0 : ¬ n ≤ 562949953421311) (h : n ≤ 72057594037927935) : 8 = vsz n := by
  unfold vsz; rw [enc_size 7 _ (by omega) (by omega)]; rfl
theorem vsz9 {n : Int} (h0 : ¬ n ≤ 72057594037927935) (h : n ≤ 9223372036854775807) : 9 = vsz n := by
  unfold vsz; rw [enc_size 8 _ (by omega) (by omega)]; rfl
theorem vsz10 {n : Int} (h0 : ¬ n ≤ 9223372036854775807) (hn : Bd n) : 10 = vsz n := by
  have := hn.hi
  unfold vsz; rw [enc_size 9 _ (by omega) (by omega)]; rfl
theorem ir_ret {k n : Int} {t : Tok} {led l : List (Addr × Obj)} {h₀ h' : Heap} {L : Addr} {m : Str → Option Value} {s : Shared} {Q : Value → Shared → Prop} {tk' : Nat}
    (hret : ∀ v led' h' tk', Fr h₀ L h' m → News h₀ L h' led' → IR n led led' v → Q v { s with heap := h', toks := tk' })
    (e : k = n) (kF : Fr h₀ L h' m) (kN : News h₀ L h' l) (hl : ∀ x ∈ led, x ∈ l) : Q (.int k t) { s with heap := h', toks := tk' } := by
  subst e
  exact hret _ _ _ _ kF (news_sub kN hl) ⟨_, rfl, rfl⟩
/-- signed numbers of 64 bits -/
structure Sd (n : Int) : Prop where
  lo : -2 ^ 63 ≤ n
  hi : n < 2 ^ 63
theorem Sd.fits {n : Int} (h : Sd n) : n.natAbs < 2 ^ 64 := by have := h.lo; have := h.hi; omega
theorem zz_pos {n : Int} : n * 2 ^ Int.toNat 1 = 2 * n := by show n * 2 = _; omega
theorem zz_neg {n : Int} : Builtin.bitXor (n * 2 ^ Int.toNat 1) (-1) = -2 * n - 1 := by rw [bxor_m1]; show -(n * 2) - 1 = _; omega
/-- zigzag -/
def zz (n : Int) : Int := if n < 0 then -2 * n - 1 else 2 * n
end
section
open PySem PySem.W PySem.Spec PySem.Calls PyProof.Rows
local macro_rules | `(tactic| walk_at "binaryOp BitOr int int") => `(tactic| (refine or_to (tag_or (by omega) (by omega)) ?_))
set_option maxHeartbeats 4000000 in
theorem c58 (w : World) (n k : Int) (t u : Tok) (led : List (Addr × Obj)) (hn0 : 0 ≤ n) (hn1 : n ≤ 1099511627776) (hk0 : 0 ≤ k) (hk1 : k ≤ 5) :
  Ct w 58 [.int n t, .int k u] 1 led (IR (8 * n + k) led) (fun _ _ => False) := by
  unfold Ct
  intro loose mean mg mb dp un gd cn cs a ccd cl outer A₀ base h₀ L m s Q E BS B F N hk hd hu hret hX
  have X := BS.X.keeps B.stays
  have T := BS.T.keeps B.stays
  have hMk : KstMark := kstMark
  k_with_none
  k_with "loadName" => (k_here; k_dflt (refine' loadX_L ?k1 ?k2 ?_ ?a ?b; (case a => rfl); (case b => rfl); (case k1 => k_asm); (case k2 => exact rfl); k_whole))
  k_with "leaving ref" => (k_here; k_dflt (first
  | (refine' leaveX_new ?k1 ?k0 ?k2 ?k3 ?k4 ?k5 ?_; (case k0 => assumption); (case k2 => assumption); (case k1 => assumption); (case k3 => k_asm); (case k4 => exact rfl); (case k5 => exact rfl); k_whole; intro h' R' U'; (try dsimp only at R' U' ⊢))
  | (refine' leaveX_made ?k1 ?k0 ?k2 ?k3 ?k4 ?k5 ?_; (case k0 => first | assumption | exact Heap.MadeExc.of (by assumption)); (case k2 => assumption); (case k1 => assumption); (case k3 => k_asm); (case k4 => exact rfl); (case k5 => exact rfl); k_whole; intro h' R' U'; (try dsimp only at R' U' ⊢))
  | (refine' leaveX_on ?k1 ?k2 ?k3 ?k4 ?k5 ?_; (case k3 => assumption); (case k2 => assumption); (case k1 => assumption); (case k4 => assumption); (case k5 => exact rfl); k_whole; intro h' R' U'; (try dsimp only at R' U' ⊢))))
  k_with "subscriptTail Name Name bytes int" => (k_here; (with_reducible show wpAny _ _ (subscriptTail _ _ (Value.bytes _ _) (Value.int _ _)) _ _ _); (with_unfolding_all refine' item_or ?h0 (by kba_ints) ?h1 ?h2 ?h3 ?h4 ?h5 ?h6 ?h7; (case h0 => rfl); (case h1 => omega); (case h2 => omega); (case h3 => omega); (case h6 => with_unfolding_all rfl); (case h7 => (intro _; with_unfolding_all rfl)); k_whole); first | (intro hlt' t' tk' h0' h1') | (intro hge' h' tk' e' x'))
  k_with "exec Raise some none" => (k_here; k_dflt (refine' RaiseX_own ?F ?X ?T ?e ?q PySem.F.excBase_Exception ?h ?_ ?a ?b ?c ?d ?g; (case F => k_asm); (case X => k_asm); (case T => k_asm); (case e => k_is); (case q => k_exc); (case h => first | rfl | assumption); (case a => rfl); (case b => rfl); (case c => rfl); (case d => rfl); (case g => decide); k_whole))
  k_with "binaryOp BitAnd int int" => (first | (refine and_to (bitAnd_m7 _) ?_) | (refine and_to (band128 _) ?_) | (refine and_to (bitAnd_m3 _) ?_) | (refine and_to (bitAnd_m1 _) ?_))
  k_with "inplaceOp BitAnd int int" => (first | (refine iand_to (band64 _) ?_) | (refine iand_to (bitAnd_m32 _) ?_))
  k_with "binaryOp LShift int int" => ((refine shl_to ?_ ?_ ?_ ?_); (focus omega); (focus omega); (focus omega))
  k_with "exec FunctionDef" => (k_here; (rename (_ = _ ++ _) => hr9; subst hr9); k_dflt (refine' nestDef_K ?d0 ?k0 ?a0 ?_; (case d0 => exact rfl); (case k0 => exact rfl); (case a0 => exact rfl)); (first
  | (k_dflt (refine' nestB (mid := [_]) ?F ?N ?T ?C ?cd ?tb ?o1 ?o2 ?hT ?cl ?_; (case F => k_asm); (case T => k_asm); (case cd => exact rfl); (case C => kn_code); (case tb => assumption); (case N => k_asm); (case o2 => assumption); (case hT => assumption); (case o1 => (intro x9 h9; rcases List.mem_cons.mp h9 with e9 | h9; (subst e9; k_ne); cases h9)); (case cl => exact rfl); k_whole))
  | (k_dflt (refine' nestB (mid := [_, _]) ?F ?N ?T ?C ?cd ?tb ?o1 ?o2 ?hT ?cl ?_; (case F => k_asm); (case T => k_asm); (case cd => exact rfl); (case C => kn_code); (case tb => assumption); (case N => k_asm); (case o2 => assumption); (case hT => assumption); (case o1 => (intro x9 h9; rcases List.mem_cons.mp h9 with e9 | h9; (subst e9; k_ne); rcases List.mem_cons.mp h9 with e9 | h9; (subst e9; k_ne); cases h9)); (case cl => exact rfl); k_whole))); (intro f' c' oc' vs' t' ct' dc' h' tk' F' N' d1' d2' n3' l1; (simp only [List.cons_append, List.nil_append] at N' l1); (try k_lt l1)))
  w_top off
  refine wpAny_call ?_
  k_dflt cell_enter
  k_steps
  all_goals first
    | exact ir_ret hret rfl (by assumption) (by assumption) (by kst_inAny)
    | (exfalso; omega)
set_option maxHeartbeats 4000000 in
theorem c156 (w : World) (n : Int) (t : Tok) (led : List (Addr × Obj)) (hn0 : 0 ≤ n) (hn1 : Bd n) :
  Ct w 156 [.int n t] 1 led (IR (vsz n) led) (fun _ _ => False) := by
  unfold Ct
  intro loose mean mg mb dp un gd cn cs a ccd cl outer A₀ base h₀ L m s Q E BS B F N hk hd hu hret hX
  have X := BS.X.keeps B.stays
  have T := BS.T.keeps B.stays
  have hMk : KstMark := kstMark
  k_with_none
  k_with "loadName" => (k_here; k_dflt (refine' loadX_L ?k1 ?k2 ?_ ?a ?b; (case a => rfl); (case b => rfl); (case k1 => k_asm); (case k2 => exact rfl); k_whole))
  k_with "leaving ref" => (k_here; k_dflt (first
  | (refine' leaveX_new ?k1 ?k0 ?k2 ?k3 ?k4 ?k5 ?_; (case k0 => assumption); (case k2 => assumption); (case k1 => assumption); (case k3 => k_asm); (case k4 => exact rfl); (case k5 => exact rfl); k_whole; intro h' R' U'; (try dsimp only at R' U' ⊢))
  | (refine' leaveX_made ?k1 ?k0 ?k2 ?k3 ?k4 ?k5 ?_; (case k0 => first | assumption | exact Heap.MadeExc.of (by assumption)); (case k2 => assumption); (case k1 => assumption); (case k3 => k_asm); (case k4 => exact rfl); (case k5 => exact rfl); k_whole; intro h' R' U'; (try dsimp only at R' U' ⊢))
  | (refine' leaveX_on ?k1 ?k2 ?k3 ?k4 ?k5 ?_; (case k3 => assumption); (case k2 => assumption); (case k1 => assumption); (case k4 => assumption); (case k5 => exact rfl); k_whole; intro h' R' U'; (try dsimp only at R' U' ⊢))))
  k_with "subscriptTail Name Name bytes int" => (k_here; (with_reducible show wpAny _ _ (subscriptTail _ _ (Value.bytes _ _) (Value.int _ _)) _ _ _); (with_unfolding_all refine' item_or ?h0 (by kba_ints) ?h1 ?h2 ?h3 ?h4 ?h5 ?h6 ?h7; (case h0 => rfl); (case h1 => omega); (case h2 => omega); (case h3 => omega); (case h6 => with_unfolding_all rfl); (case h7 => (intro _; with_unfolding_all rfl)); k_whole); first | (intro hlt' t' tk' h0' h1') | (intro hge' h' tk' e' x'))
  k_with "exec Raise some none" => (k_here; k_dflt (refine' RaiseX_own ?F ?X ?T ?e ?q PySem.F.excBase_Exception ?h ?_ ?a ?b ?c ?d ?g; (case F => k_asm); (case X => k_asm); (case T => k_asm); (case e => k_is); (case q => k_exc); (case h => first | rfl | assumption); (case a => rfl); (case b => rfl); (case c => rfl); (case d => rfl); (case g => decide); k_whole))
  k_with "binaryOp BitAnd int int" => (first | (refine and_to (bitAnd_m7 _) ?_) | (refine and_to (band128 _) ?_) | (refine and_to (bitAnd_m3 _) ?_) | (refine and_to (bitAnd_m1 _) ?_))
  k_with "inplaceOp BitAnd int int" => (first | (refine iand_to (band64 _) ?_) | (refine iand_to (bitAnd_m32 _) ?_))
  k_with "binaryOp LShift int int" => ((refine shl_to ?_ ?_ ?_ ?_); (focus omega); (focus omega); (focus omega))
  k_with "exec FunctionDef" => (k_here; (rename (_ = _ ++ _) => hr9; subst hr9); k_dflt (refine' nestDef_K ?d0 ?k0 ?a0 ?_; (case d0 => exact rfl); (case k0 => exact rfl); (case a0 => exact rfl)); (first
  | (k_dflt (refine' nestB (mid := [_]) ?F ?N ?T ?C ?cd ?tb ?o1 ?o2 ?hT ?cl ?_; (case F => k_asm); (case T => k_asm); (case cd => exact rfl); (case C => kn_code); (case tb => assumption); (case N => k_asm); (case o2 => assumption); (case hT => assumption); (case o1 => (intro x9 h9; rcases List.mem_cons.mp h9 with e9 | h9; (subst e9; k_ne); cases h9)); (case cl => exact rfl); k_whole))
  | (k_dflt (refine' nestB (mid := [_, _]) ?F ?N ?T ?C ?cd ?tb ?o1 ?o2 ?hT ?cl ?_; (case F => k_asm); (case T => k_asm); (case cd => exact rfl); (case C => kn_code); (case tb => assumption); (case N => k_asm); (case o2 => assumption); (case hT => assumption); (case o1 => (intro x9 h9; rcases List.mem_cons.mp h9 with e9 | h9; (subst e9; k_ne); rcases List.mem_cons.mp h9 with e9 | h9; (subst e9; k_ne); cases h9)); (case cl => exact rfl); k_whole))); (intro f' c' oc' vs' t' ct' dc' h' tk' F' N' d1' d2' n3' l1; (simp only [List.cons_append, List.nil_append] at N' l1); (try k_lt l1)))
  w_top off
  refine wpAny_call ?_
  k_dflt cell_enter
  k_steps
  all_goals first
    | exact ir_ret hret (by first | exact vsz1 (by omega) (by omega) | exact vsz2 (by omega) (by omega) | exact vsz3 (by omega) (by omega) | exact vsz4 (by omega) (by omega) | exact vsz5 (by omega) (by omega) | exact vsz6 (by omega) (by omega) | exact vsz7 (by omega) (by omega) | exact vsz8 (by omega) (by omega) | exact vsz9 (by omega) (by omega) | exact vsz10 (by omega) hn1) (by assumption) (by assumption) (by kst_inAny)
set_option maxHeartbeats 4000000 in
theorem c163 (w : World) (n : Int) (t : Tok) (led : List (Addr × Obj)) (hn0 : 0 ≤ n) (hn1 : Bd n) :
  Ct w 163 [.int n t] 1 led (IR (vsz n) led) (fun _ _ => False) := by
  unfold Ct
  intro loose mean mg mb dp un gd cn cs a ccd cl outer A₀ base h₀ L m s Q E BS B F N hk hd hu hret hX
  have X := BS.X.keeps B.stays
  have T := BS.T.keeps B.stays
  have hMk : KstMark := kstMark
  k_with_none
  k_with "loadName" => (k_here; k_dflt (refine' loadX_L ?k1 ?k2 ?_ ?a ?b; (case a => rfl); (case b => rfl); (case k1 => k_asm); (case k2 => exact rfl); k_whole))
  k_with "leaving ref" => (k_here; k_dflt (first
  | (refine' leaveX_new ?k1 ?k0 ?k2 ?k3 ?k4 ?k5 ?_; (case k0 => assumption); (case k2 => assumption); (case k1 => assumption); (case k3 => k_asm); (case k4 => exact rfl); (case k5 => exact rfl); k_whole; intro h' R' U'; (try dsimp only at R' U' ⊢))
  | (refine' leaveX_made ?k1 ?k0 ?k2 ?k3 ?k4 ?k5 ?_; (case k0 => first | assumption | exact Heap.MadeExc.of (by assumption)); (case k2 => assumption); (case k1 => assumption); (case k3 => k_asm); (case k4 => exact rfl); (case k5 => exact rfl); k_whole; intro h' R' U'; (try dsimp only at R' U' ⊢))
  | (refine' leaveX_on ?k1 ?k2 ?k3 ?k4 ?k5 ?_; (case k3 => assumption); (case k2 => assumption); (case k1 => assumption); (case k4 => assumption); (case k5 => exact rfl); k_whole; intro h' R' U'; (try dsimp only at R' U' ⊢))))
  k_with "subscriptTail Name Name bytes int" => (k_here; (with_reducible show wpAny _ _ (subscriptTail _ _ (Value.bytes _ _) (Value.int _ _)) _ _ _); (with_unfolding_all refine' item_or ?h0 (by kba_ints) ?h1 ?h2 ?h3 ?h4 ?h5 ?h6 ?h7; (case h0 => rfl); (case h1 => omega); (case h2 => omega); (case h3 => omega); (case h6 => with_unfolding_all rfl); (case h7 => (intro _; with_unfolding_all rfl)); k_whole); first | (intro hlt' t' tk' h0' h1') | (intro hge' h' tk' e' x'))
  k_with "exec Raise some none" => (k_here; k_dflt (refine' RaiseX_own ?F ?X ?T ?e ?q PySem.F.excBase_Exception ?h ?_ ?a ?b ?c ?d ?g; (case F => k_asm); (case X => k_asm); (case T => k_asm); (case e => k_is); (case q => k_exc); (case h => first | rfl | assumption); (case a => rfl); (case b => rfl); (case c => rfl); (case d => rfl); (case g => decide); k_whole))
  k_with "binaryOp BitAnd int int" => (first | (refine and_to (bitAnd_m7 _) ?_) | (refine and_to (band128 _) ?_) | (refine and_to (bitAnd_m3 _) ?_) | (refine and_to (bitAnd_m1 _) ?_))
  k_with "inplaceOp BitAnd int int" => (first | (refine iand_to (band64 _) ?_) | (refine iand_to (bitAnd_m32 _) ?_))
  k_with "binaryOp LShift int int" => ((refine shl_to ?_ ?_ ?_ ?_); (focus omega); (focus omega); (focus omega))
  k_with "exec FunctionDef" => (k_here; (rename (_ = _ ++ _) => hr9; subst hr9); k_dflt (refine' nestDef_K ?d0 ?k0 ?a0 ?_; (case d0 => exact rfl); (case k0 => exact rfl); (case a0 => exact rfl)); (first
  | (k_dflt (refine' nestB (mid := [_]) ?F ?N ?T ?C ?cd ?tb ?o1 ?o2 ?hT ?cl ?_; (case F => k_asm); (case T => k_asm); (case cd => exact rfl); (case C => kn_code); (case tb => assumption); (case N => k_asm); (case o2 => assumption); (case hT => assumption); (case o1 => (intro x9 h9; rcases List.mem_cons.mp h9 with e9 | h9; (subst e9; k_ne); cases h9)); (case cl => exact rfl); k_whole))
  | (k_dflt (refine' nestB (mid := [_, _]) ?F ?N ?T ?C ?cd ?tb ?o1 ?o2 ?hT ?cl ?_; (case F => k_asm); (case T => k_asm); (case cd => exact rfl); (case C => kn_code); (case tb => assumption); (case N => k_asm); (case o2 => assumption); (case hT => assumption); (case o1 => (intro x9 h9; rcases List.mem_cons.mp h9 with e9 | h9; (subst e9; k_ne); rcases List.mem_cons.mp h9 with e9 | h9; (subst e9; k_ne); cases h9)); (case cl => exact rfl); k_whole))); (intro f' c' oc' vs' t' ct' dc' h' tk' F' N' d1' d2' n3' l1; (simp only [List.cons_append, List.nil_append] at N' l1); (try k_lt l1)))
  w_top off
  refine wpAny_call ?_
  k_dflt cell_enter
  k_steps
  all_goals first
    | exact ir_ret hret (by first | exact vsz1 (by omega) (by omega) | exact vsz2 (by omega) (by omega) | exact vsz3 (by omega) (by omega) | exact vsz4 (by omega) (by omega) | exact vsz5 (by omega) (by omega) | exact vsz6 (by omega) (by omega) | exact vsz7 (by omega) (by omega) | exact vsz8 (by omega) (by omega) | exact vsz9 (by omega) (by omega) | exact vsz10 (by omega) hn1) (by assumption) (by assumption) (by kst_inAny)
    | (exfalso; omega)
set_option maxHeartbeats 4000000 in
theorem c163n (w : World) (n : Int) (t : Tok) (led : List (Addr × Obj)) (hn0 : n < 0) :
  Ct w 163 [.int n t] 1 led (IR 10 led) (fun _ _ => False) := by
  unfold Ct
  intro loose mean mg mb dp un gd cn cs a ccd cl outer A₀ base h₀ L m s Q E BS B F N hk hd hu hret hX
  have X := BS.X.keeps B.stays
  have T := BS.T.keeps B.stays
  have hMk : KstMark := kstMark
  k_with_none
  k_with "loadName" => (k_here; k_dflt (refine' loadX_L ?k1 ?k2 ?_ ?a ?b; (case a => rfl); (case b => rfl); (case k1 => k_asm); (case k2 => exact rfl); k_whole))
  k_with "leaving ref" => (k_here; k_dflt (first
  | (refine' leaveX_new ?k1 ?k0 ?k2 ?k3 ?k4 ?k5 ?_; (case k0 => assumption); (case k2 => assumption); (case k1 => assumption); (case k3 => k_asm); (case k4 => exact rfl); (case k5 => exact rfl); k_whole; intro h' R' U'; (try dsimp only at R' U' ⊢))
  | (refine' leaveX_made ?k1 ?k0 ?k2 ?k3 ?k4 ?k5 ?_; (case k0 => first | assumption | exact Heap.MadeExc.of (by assumption)); (case k2 => assumption); (case k1 => assumption); (case k3 => k_asm); (case k4 => exact rfl); (case k5 => exact rfl); k_whole; intro h' R' U'; (try dsimp only at R' U' ⊢))
  | (refine' leaveX_on ?k1 ?k2 ?k3 ?k4 ?k5 ?_; (case k3 => assumption); (case k2 => assumption); (case k1 => assumption); (case k4 => assumption); (case k5 => exact rfl); k_whole; intro h' R' U'; (try dsimp only at R' U' ⊢))))
  k_with "subscriptTail Name Name bytes int" => (k_here; (with_reducible show wpAny _ _ (subscriptTail _ _ (Value.bytes _ _) (Value.int _ _)) _ _ _); (with_unfolding_all refine' item_or ?h0 (by kba_ints) ?h1 ?h2 ?h3 ?h4 ?h5 ?h6 ?h7; (case h0 => rfl); (case h1 => omega); (case h2 => omega); (case h3 => omega); (case h6 => with_unfolding_all rfl); (case h7 => (intro _; with_unfolding_all rfl)); k_whole); first | (intro hlt' t' tk' h0' h1') | (intro hge' h' tk' e' x'))
  k_with "exec Raise some none" => (k_here; k_dflt (refine' RaiseX_own ?F ?X ?T ?e ?q PySem.F.excBase_Exception ?h ?_ ?a ?b ?c ?d ?g; (case F => k_asm); (case X => k_asm); (case T => k_asm); (case e => k_is); (case q => k_exc); (case h => first | rfl | assumption); (case a => rfl); (case b => rfl); (case c => rfl); (case d => rfl); (case g => decide); k_whole))
  k_with "binaryOp BitAnd int int" => (first | (refine and_to (bitAnd_m7 _) ?_) | (refine and_to (band128 _) ?_) | (refine and_to (bitAnd_m3 _) ?_) | (refine and_to (bitAnd_m1 _) ?_))
  k_with "inplaceOp BitAnd int int" => (first | (refine iand_to (band64 _) ?_) | (refine iand_to (bitAnd_m32 _) ?_))
  k_with "binaryOp LShift int int" => ((refine shl_to ?_ ?_ ?_ ?_); (focus omega); (focus omega); (focus omega))
  k_with "exec FunctionDef" => (k_here; (rename (_ = _ ++ _) => hr9; subst hr9); k_dflt (refine' nestDef_K ?d0 ?k0 ?a0 ?_; (case d0 => exact rfl); (case k0 => exact rfl); (case a0 => exact rfl)); (first
  | (k_dflt (refine' nestB (mid := [_]) ?F ?N ?T ?C ?cd ?tb ?o1 ?o2 ?hT ?cl ?_; (case F => k_asm); (case T => k_asm); (case cd => exact rfl); (case C => kn_code); (case tb => assumption); (case N => k_asm); (case o2 => assumption); (case hT => assumption); (case o1 => (intro x9 h9; rcases List.mem_cons.mp h9 with e9 | h9; (subst e9; k_ne); cases h9)); (case cl => exact rfl); k_whole))
  | (k_dflt (refine' nestB (mid := [_, _]) ?F ?N ?T ?C ?cd ?tb ?o1 ?o2 ?hT ?cl ?_; (case F => k_asm); (case T => k_asm); (case cd => exact rfl); (case C => kn_code); (case tb => assumption); (case N => k_asm); (case o2 => assumption); (case hT => assumption); (case o1 => (intro x9 h9; rcases List.mem_cons.mp h9 with e9 | h9; (subst e9; k_ne); rcases List.mem_cons.mp h9 with e9 | h9; (subst e9; k_ne); cases h9)); (case cl => exact rfl); k_whole))); (intro f' c' oc' vs' t' ct' dc' h' tk' F' N' d1' d2' n3' l1; (simp only [List.cons_append, List.nil_append] at N' l1); (try k_lt l1)))
  w_top off
  refine wpAny_call ?_
  k_dflt cell_enter
  k_steps
  all_goals first
    | exact ir_ret hret rfl (by assumption) (by assumption) (by kst_inAny)
    | (exfalso; omega)
set_option maxHeartbeats 4000000 in
theorem c93 (w : World) (n : Int) (t : Tok) (led : List (Addr × Obj)) (hn0 : 0 ≤ n) (hn1 : n ≤ 34359738367) :
  Ct w 93 [.int n t] 1 led (IR (vsz n) led) (fun _ _ => False) := by
  unfold Ct
  intro loose mean mg mb dp un gd cn cs a ccd cl outer A₀ base h₀ L m s Q E BS B F N hk hd hu hret hX
  have X := BS.X.keeps B.stays
  have T := BS.T.keeps B.stays
  have hMk : KstMark := kstMark
  k_with_none
  k_with "loadName" => (k_here; k_dflt (refine' loadX_L ?k1 ?k2 ?_ ?a ?b; (case a => rfl); (case b => rfl); (case k1 => k_asm); (case k2 => exact rfl); k_whole))
  k_with "leaving ref" => (k_here; k_dflt (first
  | (refine' leaveX_new ?k1 ?k0 ?k2 ?k3 ?k4 ?k5 ?_; (case k0 => assumption); (case k2 => assumption); (case k1 => assumption); (case k3 => k_asm); (case k4 => exact rfl); (case k5 => exact rfl); k_whole; intro h' R' U'; (try dsimp only at R' U' ⊢))
  | (refine' leaveX_made ?k1 ?k0 ?k2 ?k3 ?k4 ?k5 ?_; (case k0 => first | assumption | exact Heap.MadeExc.of (by assumption)); (case k2 => assumption); (case k1 => assumption); (case k3 => k_asm); (case k4 => exact rfl); (case k5 => exact rfl); k_whole; intro h' R' U'; (try dsimp only at R' U' ⊢))
  | (refine' leaveX_on ?k1 ?k2 ?k3 ?k4 ?k5 ?_; (case k3 => assumption); (case k2 => assumption); (case k1 => assumption); (case k4 => assumption); (case k5 => exact rfl); k_whole; intro h' R' U'; (try dsimp only at R' U' ⊢))))
  k_with "subscriptTail Name Name bytes int" => (k_here; (with_reducible show wpAny _ _ (subscriptTail _ _ (Value.bytes _ _) (Value.int _ _)) _ _ _); (with_unfolding_all refine' item_or ?h0 (by kba_ints) ?h1 ?h2 ?h3 ?h4 ?h5 ?h6 ?h7; (case h0 => rfl); (case h1 => omega); (case h2 => omega); (case h3 => omega); (case h6 => with_unfolding_all rfl); (case h7 => (intro _; with_unfolding_all rfl)); k_whole); first | (intro hlt' t' tk' h0' h1') | (intro hge' h' tk' e' x'))
  k_with "exec Raise some none" => (k_here; k_dflt (refine' RaiseX_own ?F ?X ?T ?e ?q PySem.F.excBase_Exception ?h ?_ ?a ?b ?c ?d ?g; (case F => k_asm); (case X => k_asm); (case T => k_asm); (case e => k_is); (case q => k_exc); (case h => first | rfl | assumption); (case a => rfl); (case b => rfl); (case c => rfl); (case d => rfl); (case g => decide); k_whole))
  k_with "binaryOp BitAnd int int" => (first | (refine and_to (bitAnd_m7 _) ?_) | (refine and_to (band128 _) ?_) | (refine and_to (bitAnd_m3 _) ?_) | (refine and_to (bitAnd_m1 _) ?_))
  k_with "inplaceOp BitAnd int int" => (first | (refine iand_to (band64 _) ?_) | (refine iand_to (bitAnd_m32 _) ?_))
  k_with "binaryOp LShift int int" => ((refine shl_to ?_ ?_ ?_ ?_); (focus omega); (focus omega); (focus omega))
  k_with "exec FunctionDef" => (k_here; (rename (_ = _ ++ _) => hr9; subst hr9); k_dflt (refine' nestDef_K ?d0 ?k0 ?a0 ?_; (case d0 => exact rfl); (case k0 => exact rfl); (case a0 => exact rfl)); (first
  | (k_dflt (refine' nestB (mid := [_]) ?F ?N ?T ?C ?cd ?tb ?o1 ?o2 ?hT ?cl ?_; (case F => k_asm); (case T => k_asm); (case cd => exact rfl); (case C => kn_code); (case tb => assumption); (case N => k_asm); (case o2 => assumption); (case hT => assumption); (case o1 => (intro x9 h9; rcases List.mem_cons.mp h9 with e9 | h9; (subst e9; k_ne); cases h9)); (case cl => exact rfl); k_whole))
  | (k_dflt (refine' nestB (mid := [_, _]) ?F ?N ?T ?C ?cd ?tb ?o1 ?o2 ?hT ?cl ?_; (case F => k_asm); (case T => k_asm); (case cd => exact rfl); (case C => kn_code); (case tb => assumption); (case N => k_asm); (case o2 => assumption); (case hT => assumption); (case o1 => (intro x9 h9; rcases List.mem_cons.mp h9 with e9 | h9; (subst e9; k_ne); rcases List.mem_cons.mp h9 with e9 | h9; (subst e9; k_ne); cases h9)); (case cl => exact rfl); k_whole))); (intro f' c' oc' vs' t' ct' dc' h' tk' F' N' d1' d2' n3' l1; (simp only [List.cons_append, List.nil_append] at N' l1); (try k_lt l1)))
  w_top off
  refine wpAny_call ?_
  k_dflt cell_enter
  k_steps
  all_goals first
    | exact ir_ret hret (by first | exact vsz1 (by omega) (by omega) | exact vsz2 (by omega) (by omega) | exact vsz3 (by omega) (by omega) | exact vsz4 (by omega) (by omega) | exact vsz5 (by omega) (by omega) | exact vsz6 (by omega) (by omega) | exact vsz7 (by omega) (by omega) | exact vsz8 (by omega) (by omega) | exact vsz9 (by omega) (by omega)) (by assumption) (by assumption) (by kst_inAny)
    | (exfalso; omega)
end
section
open PySem PySem.W PySem.Spec PySem.Calls PyProof.Rows
theorem bd_small {n : Int} (h0 : 0 ≤ n) (h1 : n ≤ 1099511627776) : Bd n := ⟨h0, by omega⟩
/-- a pair of numbers as an answer -/
def UnR (x y : Int) (led led' : List (Addr × Obj)) (v : Value) : Prop :=
  ∃ a t1 t2, v = .ref a ∧ led' = (a, tupObj [.int x t1, .int y t2]) :: led ∧ (∀ p ∈ led, p.1 < a)
theorem un_ret {x y x' y' : Int} {t1 t2 : Tok} {D : Addr} {led l : List (Addr × Obj)} {h₀ h' : Heap} {L : Addr} {m : Str → Option Value} {s : Shared} {Q : Value → Shared → Prop} {tk' : Nat}
    (hret : ∀ v led' h' tk', Fr h₀ L h' m → News h₀ L h' led' → UnR x y led led' v → Q v { s with heap := h', toks := tk' })
    (e1 : x' = x) (e2 : y' = y) (kF : Fr h₀ L h' m) (kN : News h₀ L h' l) (hD : (D, tupObj [.int x' t1, .int y' t2]) ∈ l) (hl : ∀ p ∈ led, p ∈ l) (hlt : ∀ p ∈ led, p.1 < D) : Q (.ref D) { s with heap := h', toks := tk' } := by
  subst e1
  subst e2
  refine hret _ _ _ _ kF (news_sub kN fun p hp => ?_) ⟨D, t1, t2, rfl, rfl, hlt⟩
  rcases List.mem_cons.mp hp with e | hp
  · exact e ▸ hD
  · exact hl p hp
theorem zz_up {n : Int} (h : 0 ≤ n) : n * 2 ^ Int.toNat 1 = zz n := by
  unfold zz; rw [if_neg (by omega)]; exact zz_pos
theorem zz_dn {n : Int} (h : ¬ 0 ≤ n) : Builtin.bitXor (n * 2 ^ Int.toNat 1) (-1) = zz n := by
  unfold zz; rw [if_pos (by omega)]; exact zz_neg
theorem zz_back0 {n z : Int} (hz : z = zz n) (h : z % 2 = 0) : z.fdiv (2 ^ Int.toNat 1) = n := by
  have e : z.fdiv (2 ^ Int.toNat 1) = z / 2 := Int.fdiv_eq_ediv_of_nonneg _ (by decide)
  rw [e]
  unfold zz at hz
  split at hz <;> omega
theorem zz_back1 {n z : Int} (hz : z = zz n) (h : ¬ z % 2 = 0) : Builtin.bitXor (z.fdiv (2 ^ Int.toNat 1)) (-1) = n := by
  have e : z.fdiv (2 ^ Int.toNat 1) = z / 2 := Int.fdiv_eq_ediv_of_nonneg _ (by decide)
  rw [e, bxor_m1]
  unfold zz at hz
  split at hz <;> omega
end
end Mine
local macro_rules | `(tactic| walk_at "eval Call") => `(tactic| (k_here; k_dflt (refine Call_ ?_)))
namespace Mine
section
open PySem PySem.W PySem.Spec PySem.Calls PyProof.Rows
local macro_rules | `(tactic| walk_at "mine pad") => `(tactic| skip)
local macro_rules | `(tactic| walk_at "binaryOp LShift int int") => `(tactic| k_extra "binaryOp LShift int int")
set_option maxHeartbeats 4000000 in
theorem c86 (w : World) (n : Int) (t : Tok) (led : List (Addr × Obj)) (hn0 : 0 ≤ n) (hn1 : n ≤ 1073741824) :
  Ct w 86 [.int n t] 3 led (IR (vsz (8 * n)) led) (fun _ _ => False) := by
  unfold Ct
  intro loose mean mg mb dp un gd cn cs a ccd cl outer A₀ base h₀ L m s Q E BS B F N hk hd hu hret hX
  have X := BS.X.keeps B.stays
  have T := BS.T.keeps B.stays
  have hMk : KstMark := kstMark
  k_with_none
  k_with "loadName" => (k_here; k_dflt (refine' loadX_L ?k1 ?k2 ?_ ?a ?b; (case a => rfl); (case b => rfl); (case k1 => k_asm); (case k2 => exact rfl); k_whole))
  k_with "leaving ref" => (k_here; k_dflt (first
  | (refine' leaveX_new ?k1 ?k0 ?k2 ?k3 ?k4 ?k5 ?_; (case k0 => assumption); (case k2 => assumption); (case k1 => assumption); (case k3 => k_asm); (case k4 => exact rfl); (case k5 => exact rfl); k_whole; intro h' R' U'; (try dsimp only at R' U' ⊢))
  | (refine' leaveX_made ?k1 ?k0 ?k2 ?k3 ?k4 ?k5 ?_; (case k0 => first | assumption | exact Heap.MadeExc.of (by assumption)); (case k2 => assumption); (case k1 => assumption); (case k3 => k_asm); (case k4 => exact rfl); (case k5 => exact rfl); k_whole; intro h' R' U'; (try dsimp only at R' U' ⊢))
  | (refine' leaveX_on ?k1 ?k2 ?k3 ?k4 ?k5 ?_; (case k3 => assumption); (case k2 => assumption); (case k1 => assumption); (case k4 => assumption); (case k5 => exact rfl); k_whole; intro h' R' U'; (try dsimp only at R' U' ⊢))))
  k_with "subscriptTail Name Name bytes int" => (k_here; (with_reducible show wpAny _ _ (subscriptTail _ _ (Value.bytes _ _) (Value.int _ _)) _ _ _); (with_unfolding_all refine' item_or ?h0 (by kba_ints) ?h1 ?h2 ?h3 ?h4 ?h5 ?h6 ?h7; (case h0 => rfl); (case h1 => omega); (case h2 => omega); (case h3 => omega); (case h6 => with_unfolding_all rfl); (case h7 => (intro _; with_unfolding_all rfl)); k_whole); first | (intro hlt' t' tk' h0' h1') | (intro hge' h' tk' e' x'))
  k_with "exec Raise some none" => (k_here; k_dflt (refine' RaiseX_own ?F ?X ?T ?e ?q PySem.F.excBase_Exception ?h ?_ ?a ?b ?c ?d ?g; (case F => k_asm); (case X => k_asm); (case T => k_asm); (case e => k_is); (case q => k_exc); (case h => first | rfl | assumption); (case a => rfl); (case b => rfl); (case c => rfl); (case d => rfl); (case g => decide); k_whole))
  k_with "binaryOp BitAnd int int" => (first | (refine and_to (bitAnd_m7 _) ?_) | (refine and_to (band128 _) ?_) | (refine and_to (bitAnd_m3 _) ?_) | (refine and_to (bitAnd_m1 _) ?_))
  k_with "inplaceOp BitAnd int int" => (first | (refine iand_to (band64 _) ?_) | (refine iand_to (bitAnd_m32 _) ?_))
  k_with "binaryOp LShift int int" => ((refine shl_to ?_ ?_ ?_ ?_); (focus omega); (focus omega); (focus omega))
  k_with "exec FunctionDef" => (k_here; (rename (_ = _ ++ _) => hr9; subst hr9); k_dflt (refine' nestDef_K ?d0 ?k0 ?a0 ?_; (case d0 => exact rfl); (case k0 => exact rfl); (case a0 => exact rfl)); (first
  | (k_dflt (refine' nestB (mid := [_]) ?F ?N ?T ?C ?cd ?tb ?o1 ?o2 ?hT ?cl ?_; (case F => k_asm); (case T => k_asm); (case cd => exact rfl); (case C => kn_code); (case tb => assumption); (case N => k_asm); (case o2 => assumption); (case hT => assumption); (case o1 => (intro x9 h9; rcases List.mem_cons.mp h9 with e9 | h9; (subst e9; k_ne); cases h9)); (case cl => exact rfl); k_whole))
  | (k_dflt (refine' nestB (mid := [_, _]) ?F ?N ?T ?C ?cd ?tb ?o1 ?o2 ?hT ?cl ?_; (case F => k_asm); (case T => k_asm); (case cd => exact rfl); (case C => kn_code); (case tb => assumption); (case N => k_asm); (case o2 => assumption); (case hT => assumption); (case o1 => (intro x9 h9; rcases List.mem_cons.mp h9 with e9 | h9; (subst e9; k_ne); rcases List.mem_cons.mp h9 with e9 | h9; (subst e9; k_ne); cases h9)); (case cl => exact rfl); k_whole))); (intro f' c' oc' vs' t' ct' dc' h' tk' F' N' d1' d2' n3' l1; (simp only [List.cons_append, List.nil_append] at N' l1); (try k_lt l1)))
  k_with "binaryOp LShift int int" => ((refine shl_to ?_ ?_ ?_ ?_); (focus omega); (focus omega); (focus (exact Sd.fits (by assumption))))
  w_top off
  k_with "call ref" => k_dflt (first | ((refine' Ct.use (c58 w _ _ _ _ _ (by omega) (by omega) (by omega) (by omega)) BS ?cB ?cF ?cN ?ck ?cd ?cu ?_ ?_); (case cB => assumption); (case cF => assumption); (case cN => assumption); (case ck => exact rfl); (case cd => k_room); (case cu => k_units); (all_goals first | (intro e9 cls9 G9 led9 h9 tk9 F9 R9 U9 x9; exact x9.elim) | (intro v9 led9 h9 tk9 F9 N9 x9; obtain ⟨t9, e9, e9'⟩ := x9; subst e9; subst e9'))) | ((refine' Ct.use (c93 w _ _ _ (by omega) (by omega)) BS ?cB ?cF ?cN ?ck ?cd ?cu ?_ ?_); (case cB => assumption); (case cF => assumption); (case cN => assumption); (case ck => exact rfl); (case cd => k_room); (case cu => k_units); (all_goals first | (intro e9 cls9 G9 led9 h9 tk9 F9 R9 U9 x9; exact x9.elim) | (intro v9 led9 h9 tk9 F9 N9 x9; obtain ⟨t9, e9, e9'⟩ := x9; subst e9; subst e9'))))
  refine wpAny_call ?_
  k_dflt cell_enter
  k_steps
  all_goals first
    | exact ir_ret hret (by rw [Int.add_zero]) (by assumption) (by assumption) (by kst_inAny)
    | (exfalso; omega)
set_option maxHeartbeats 4000000 in
theorem c170 (w : World) (n : Int) (t : Tok) (led : List (Addr × Obj)) (hn0 : 0 ≤ n) (hn1 : n ≤ 1073741824) :
  Ct w 170 [.int n t] 3 led (IR (vsz (8 * n)) led) (fun _ _ => False) := by
  unfold Ct
  intro loose mean mg mb dp un gd cn cs a ccd cl outer A₀ base h₀ L m s Q E BS B F N hk hd hu hret hX
  have X := BS.X.keeps B.stays
  have T := BS.T.keeps B.stays
  have hMk : KstMark := kstMark
  k_with_none
  k_with "loadName" => (k_here; k_dflt (refine' loadX_L ?k1 ?k2 ?_ ?a ?b; (case a => rfl); (case b => rfl); (case k1 => k_asm); (case k2 => exact rfl); k_whole))
  k_with "leaving ref" => (k_here; k_dflt (first
  | (refine' leaveX_new ?k1 ?k0 ?k2 ?k3 ?k4 ?k5 ?_; (case k0 => assumption); (case k2 => assumption); (case k1 => assumption); (case k3 => k_asm); (case k4 => exact rfl); (case k5 => exact rfl); k_whole; intro h' R' U'; (try dsimp only at R' U' ⊢))
  | (refine' leaveX_made ?k1 ?k0 ?k2 ?k3 ?k4 ?k5 ?_; (case k0 => first | assumption | exact Heap.MadeExc.of (by assumption)); (case k2 => assumption); (case k1 => assumption); (case k3 => k_asm); (case k4 => exact rfl); (case k5 => exact rfl); k_whole; intro h' R' U'; (try dsimp only at R' U' ⊢))
  | (refine' leaveX_on ?k1 ?k2 ?k3 ?k4 ?k5 ?_; (case k3 => assumption); (case k2 => assumption); (case k1 => assumption); (case k4 => assumption); (case k5 => exact rfl); k_whole; intro h' R' U'; (try dsimp only at R' U' ⊢))))
  k_with "subscriptTail Name Name bytes int" => (k_here; (with_reducible show wpAny _ _ (subscriptTail _ _ (Value.bytes _ _) (Value.int _ _)) _ _ _); (with_unfolding_all refine' item_or ?h0 (by kba_ints) ?h1 ?h2 ?h3 ?h4 ?h5 ?h6 ?h7; (case h0 => rfl); (case h1 => omega); (case h2 => omega); (case h3 => omega); (case h6 => with_unfolding_all rfl); (case h7 => (intro _; with_unfolding_all rfl)); k_whole); first | (intro hlt' t' tk' h0' h1') | (intro hge' h' tk' e' x'))
  k_with "exec Raise some none" => (k_here; k_dflt (refine' RaiseX_own ?F ?X ?T ?e ?q PySem.F.excBase_Exception ?h ?_ ?a ?b ?c ?d ?g; (case F => k_asm); (case X => k_asm); (case T => k_asm); (case e => k_is); (case q => k_exc); (case h => first | rfl | assumption); (case a => rfl); (case b => rfl); (case c => rfl); (case d => rfl); (case g => decide); k_whole))
  k_with "binaryOp BitAnd int int" => (first | (refine and_to (bitAnd_m7 _) ?_) | (refine and_to (band128 _) ?_) | (refine and_to (bitAnd_m3 _) ?_) | (refine and_to (bitAnd_m1 _) ?_))
  k_with "inplaceOp BitAnd int int" => (first | (refine iand_to (band64 _) ?_) | (refine iand_to (bitAnd_m32 _) ?_))
  k_with "binaryOp LShift int int" => ((refine shl_to ?_ ?_ ?_ ?_); (focus omega); (focus omega); (focus omega))
  k_with "exec FunctionDef" => (k_here; (rename (_ = _ ++ _) => hr9; subst hr9); k_dflt (refine' nestDef_K ?d0 ?k0 ?a0 ?_; (case d0 => exact rfl); (case k0 => exact rfl); (case a0 => exact rfl)); (first
  | (k_dflt (refine' nestB (mid := [_]) ?F ?N ?T ?C ?cd ?tb ?o1 ?o2 ?hT ?cl ?_; (case F => k_asm); (case T => k_asm); (case cd => exact rfl); (case C => kn_code); (case tb => assumption); (case N => k_asm); (case o2 => assumption); (case hT => assumption); (case o1 => (intro x9 h9; rcases List.mem_cons.mp h9 with e9 | h9; (subst e9; k_ne); cases h9)); (case cl => exact rfl); k_whole))
  | (k_dflt (refine' nestB (mid := [_, _]) ?F ?N ?T ?C ?cd ?tb ?o1 ?o2 ?hT ?cl ?_; (case F => k_asm); (case T => k_asm); (case cd => exact rfl); (case C => kn_code); (case tb => assumption); (case N => k_asm); (case o2 => assumption); (case hT => assumption); (case o1 => (intro x9 h9; rcases List.mem_cons.mp h9 with e9 | h9; (subst e9; k_ne); rcases List.mem_cons.mp h9 with e9 | h9; (subst e9; k_ne); cases h9)); (case cl => exact rfl); k_whole))); (intro f' c' oc' vs' t' ct' dc' h' tk' F' N' d1' d2' n3' l1; (simp only [List.cons_append, List.nil_append] at N' l1); (try k_lt l1)))
  k_with "binaryOp LShift int int" => ((refine shl_to ?_ ?_ ?_ ?_); (focus omega); (focus omega); (focus (exact Sd.fits (by assumption))))
  w_top off
  k_with "call ref" => k_dflt (first | ((refine' Ct.use (c58 w _ _ _ _ _ (by omega) (by omega) (by omega) (by omega)) BS ?cB ?cF ?cN ?ck ?cd ?cu ?_ ?_); (case cB => assumption); (case cF => assumption); (case cN => assumption); (case ck => exact rfl); (case cd => k_room); (case cu => k_units); (all_goals first | (intro e9 cls9 G9 led9 h9 tk9 F9 R9 U9 x9; exact x9.elim) | (intro v9 led9 h9 tk9 F9 N9 x9; obtain ⟨t9, e9, e9'⟩ := x9; subst e9; subst e9'))) | ((refine' Ct.use (c156 w _ _ _ (by omega) (by exact bd_small (by omega) (by omega))) BS ?cB ?cF ?cN ?ck ?cd ?cu ?_ ?_); (case cB => assumption); (case cF => assumption); (case cN => assumption); (case ck => exact rfl); (case cd => k_room); (case cu => k_units); (all_goals first | (intro e9 cls9 G9 led9 h9 tk9 F9 R9 U9 x9; exact x9.elim) | (intro v9 led9 h9 tk9 F9 N9 x9; obtain ⟨t9, e9, e9'⟩ := x9; subst e9; subst e9'))))
  refine wpAny_call ?_
  k_dflt cell_enter
  k_steps
  all_goals first
    | exact ir_ret hret (by rw [Int.add_zero]) (by assumption) (by assumption) (by kst_inAny)
    | (exfalso; omega)
set_option maxHeartbeats 4000000 in
theorem c65 (w : World) (n : Int) (t : Tok) (led : List (Addr × Obj)) (hn0 : 0 ≤ n) (hn1 : n ≤ 1099511627776) :
  Ct w 65 [.int n t] 1 led (UnR (n / 8) (n % 8) led) (fun _ _ => False) := by
  unfold Ct
  intro loose mean mg mb dp un gd cn cs a ccd cl outer A₀ base h₀ L m s Q E BS B F N hk hd hu hret hX
  have X := BS.X.keeps B.stays
  have T := BS.T.keeps B.stays
  have hMk : KstMark := kstMark
  k_with_none
  k_with "loadName" => (k_here; k_dflt (refine' loadX_L ?k1 ?k2 ?_ ?a ?b; (case a => rfl); (case b => rfl); (case k1 => k_asm); (case k2 => exact rfl); k_whole))
  k_with "leaving ref" => (k_here; k_dflt (first
  | (refine' leaveX_new ?k1 ?k0 ?k2 ?k3 ?k4 ?k5 ?_; (case k0 => assumption); (case k2 => assumption); (case k1 => assumption); (case k3 => k_asm); (case k4 => exact rfl); (case k5 => exact rfl); k_whole; intro h' R' U'; (try dsimp only at R' U' ⊢))
  | (refine' leaveX_made ?k1 ?k0 ?k2 ?k3 ?k4 ?k5 ?_; (case k0 => first | assumption | exact Heap.MadeExc.of (by assumption)); (case k2 => assumption); (case k1 => assumption); (case k3 => k_asm); (case k4 => exact rfl); (case k5 => exact rfl); k_whole; intro h' R' U'; (try dsimp only at R' U' ⊢))
  | (refine' leaveX_on ?k1 ?k2 ?k3 ?k4 ?k5 ?_; (case k3 => assumption); (case k2 => assumption); (case k1 => assumption); (case k4 => assumption); (case k5 => exact rfl); k_whole; intro h' R' U'; (try dsimp only at R' U' ⊢))))
  k_with "subscriptTail Name Name bytes int" => (k_here; (with_reducible show wpAny _ _ (subscriptTail _ _ (Value.bytes _ _) (Value.int _ _)) _ _ _); (with_unfolding_all refine' item_or ?h0 (by kba_ints) ?h1 ?h2 ?h3 ?h4 ?h5 ?h6 ?h7; (case h0 => rfl); (case h1 => omega); (case h2 => omega); (case h3 => omega); (case h6 => with_unfolding_all rfl); (case h7 => (intro _; with_unfolding_all rfl)); k_whole); first | (intro hlt' t' tk' h0' h1') | (intro hge' h' tk' e' x'))
  k_with "exec Raise some none" => (k_here; k_dflt (refine' RaiseX_own ?F ?X ?T ?e ?q PySem.F.excBase_Exception ?h ?_ ?a ?b ?c ?d ?g; (case F => k_asm); (case X => k_asm); (case T => k_asm); (case e => k_is); (case q => k_exc); (case h => first | rfl | assumption); (case a => rfl); (case b => rfl); (case c => rfl); (case d => rfl); (case g => decide); k_whole))
  k_with "binaryOp BitAnd int int" => (first | (refine and_to (bitAnd_m7 _) ?_) | (refine and_to (band128 _) ?_) | (refine and_to (bitAnd_m3 _) ?_) | (refine and_to (bitAnd_m1 _) ?_))
  k_with "inplaceOp BitAnd int int" => (first | (refine iand_to (band64 _) ?_) | (refine iand_to (bitAnd_m32 _) ?_))
  k_with "binaryOp LShift int int" => ((refine shl_to ?_ ?_ ?_ ?_); (focus omega); (focus omega); (focus omega))
  k_with "exec FunctionDef" => (k_here; (rename (_ = _ ++ _) => hr9; subst hr9); k_dflt (refine' nestDef_K ?d0 ?k0 ?a0 ?_; (case d0 => exact rfl); (case k0 => exact rfl); (case a0 => exact rfl)); (first
  | (k_dflt (refine' nestB (mid := [_]) ?F ?N ?T ?C ?cd ?tb ?o1 ?o2 ?hT ?cl ?_; (case F => k_asm); (case T => k_asm); (case cd => exact rfl); (case C => kn_code); (case tb => assumption); (case N => k_asm); (case o2 => assumption); (case hT => assumption); (case o1 => (intro x9 h9; rcases List.mem_cons.mp h9 with e9 | h9; (subst e9; k_ne); cases h9)); (case cl => exact rfl); k_whole))
  | (k_dflt (refine' nestB (mid := [_, _]) ?F ?N ?T ?C ?cd ?tb ?o1 ?o2 ?hT ?cl ?_; (case F => k_asm); (case T => k_asm); (case cd => exact rfl); (case C => kn_code); (case tb => assumption); (case N => k_asm); (case o2 => assumption); (case hT => assumption); (case o1 => (intro x9 h9; rcases List.mem_cons.mp h9 with e9 | h9; (subst e9; k_ne); rcases List.mem_cons.mp h9 with e9 | h9; (subst e9; k_ne); cases h9)); (case cl => exact rfl); k_whole))); (intro f' c' oc' vs' t' ct' dc' h' tk' F' N' d1' d2' n3' l1; (simp only [List.cons_append, List.nil_append] at N' l1); (try k_lt l1)))
  k_with "binaryOp LShift int int" => ((refine shl_to ?_ ?_ ?_ ?_); (focus omega); (focus omega); (focus (exact Sd.fits (by assumption))))
  w_top off
  refine wpAny_call ?_
  k_dflt cell_enter
  k_steps
  all_goals first
    | exact un_ret hret (Int.fdiv_eq_ediv_of_nonneg _ (by decide)) rfl (by assumption) (by assumption) (by k_mem) (by kst_inAny) (by assumption)
    | (exfalso; omega)
set_option maxHeartbeats 4000000 in
theorem c72 (w : World) (n : Int) (t : Tok) (led : List (Addr × Obj)) (hn : Sd n) :
  Ct w 72 [.int n t] 1 led (IR (zz n) led) (fun _ _ => False) := by
  unfold Ct
  intro loose mean mg mb dp un gd cn cs a ccd cl outer A₀ base h₀ L m s Q E BS B F N hk hd hu hret hX
  have X := BS.X.keeps B.stays
  have T := BS.T.keeps B.stays
  have hMk : KstMark := kstMark
  k_with_none
  k_with "loadName" => (k_here; k_dflt (refine' loadX_L ?k1 ?k2 ?_ ?a ?b; (case a => rfl); (case b => rfl); (case k1 => k_asm); (case k2 => exact rfl); k_whole))
  k_with "leaving ref" => (k_here; k_dflt (first
  | (refine' leaveX_new ?k1 ?k0 ?k2 ?k3 ?k4 ?k5 ?_; (case k0 => assumption); (case k2 => assumption); (case k1 => assumption); (case k3 => k_asm); (case k4 => exact rfl); (case k5 => exact rfl); k_whole; intro h' R' U'; (try dsimp only at R' U' ⊢))
  | (refine' leaveX_made ?k1 ?k0 ?k2 ?k3 ?k4 ?k5 ?_; (case k0 => first | assumption | exact Heap.MadeExc.of (by assumption)); (case k2 => assumption); (case k1 => assumption); (case k3 => k_asm); (case k4 => exact rfl); (case k5 => exact rfl); k_whole; intro h' R' U'; (try dsimp only at R' U' ⊢))
  | (refine' leaveX_on ?k1 ?k2 ?k3 ?k4 ?k5 ?_; (case k3 => assumption); (case k2 => assumption); (case k1 => assumption); (case k4 => assumption); (case k5 => exact rfl); k_whole; intro h' R' U'; (try dsimp only at R' U' ⊢))))
  k_with "subscriptTail Name Name bytes int" => (k_here; (with_reducible show wpAny _ _ (subscriptTail _ _ (Value.bytes _ _) (Value.int _ _)) _ _ _); (with_unfolding_all refine' item_or ?h0 (by kba_ints) ?h1 ?h2 ?h3 ?h4 ?h5 ?h6 ?h7; (case h0 => rfl); (case h1 => omega); (case h2 => omega); (case h3 => omega); (case h6 => with_unfolding_all rfl); (case h7 => (intro _; with_unfolding_all rfl)); k_whole); first | (intro hlt' t' tk' h0' h1') | (intro hge' h' tk' e' x'))
  k_with "exec Raise some none" => (k_here; k_dflt (refine' RaiseX_own ?F ?X ?T ?e ?q PySem.F.excBase_Exception ?h ?_ ?a ?b ?c ?d ?g; (case F => k_asm); (case X => k_asm); (case T => k_asm); (case e => k_is); (case q => k_exc); (case h => first | rfl | assumption); (case a => rfl); (case b => rfl); (case c => rfl); (case d => rfl); (case g => decide); k_whole))
  k_with "binaryOp BitAnd int int" => (first | (refine and_to (bitAnd_m7 _) ?_) | (refine and_to (band128 _) ?_) | (refine and_to (bitAnd_m3 _) ?_) | (refine and_to (bitAnd_m1 _) ?_))
  k_with "inplaceOp BitAnd int int" => (first | (refine iand_to (band64 _) ?_) | (refine iand_to (bitAnd_m32 _) ?_))
  k_with "binaryOp LShift int int" => ((refine shl_to ?_ ?_ ?_ ?_); (focus omega); (focus omega); (focus omega))
  k_with "exec FunctionDef" => (k_here; (rename (_ = _ ++ _) => hr9; subst hr9); k_dflt (refine' nestDef_K ?d0 ?k0 ?a0 ?_; (case d0 => exact rfl); (case k0 => exact rfl); (case a0 => exact rfl)); (first
  | (k_dflt (refine' nestB (mid := [_]) ?F ?N ?T ?C ?cd ?tb ?o1 ?o2 ?hT ?cl ?_; (case F => k_asm); (case T => k_asm); (case cd => exact rfl); (case C => kn_code); (case tb => assumption); (case N => k_asm); (case o2 => assumption); (case hT => assumption); (case o1 => (intro x9 h9; rcases List.mem_cons.mp h9 with e9 | h9; (subst e9; k_ne); cases h9)); (case cl => exact rfl); k_whole))
  | (k_dflt (refine' nestB (mid := [_, _]) ?F ?N ?T ?C ?cd ?tb ?o1 ?o2 ?hT ?cl ?_; (case F => k_asm); (case T => k_asm); (case cd => exact rfl); (case C => kn_code); (case tb => assumption); (case N => k_asm); (case o2 => assumption); (case hT => assumption); (case o1 => (intro x9 h9; rcases List.mem_cons.mp h9 with e9 | h9; (subst e9; k_ne); rcases List.mem_cons.mp h9 with e9 | h9; (subst e9; k_ne); cases h9)); (case cl => exact rfl); k_whole))); (intro f' c' oc' vs' t' ct' dc' h' tk' F' N' d1' d2' n3' l1; (simp only [List.cons_append, List.nil_append] at N' l1); (try k_lt l1)))
  k_with "binaryOp LShift int int" => ((refine shl_to ?_ ?_ ?_ ?_); (focus omega); (focus omega); (focus (exact Sd.fits (by assumption))))
  w_top off
  refine wpAny_call ?_
  k_dflt cell_enter
  k_steps
  all_goals first
    | exact ir_ret hret (zz_up (by omega)) (by assumption) (by assumption) (by kst_inAny)
    | exact ir_ret hret (zz_dn (by omega)) (by assumption) (by assumption) (by kst_inAny)
    | (exfalso; omega)
set_option maxHeartbeats 4000000 in
theorem c79 (w : World) (n z : Int) (t : Tok) (led : List (Addr × Obj)) (hz : z = zz n) :
  Ct w 79 [.int z t] 1 led (IR n led) (fun _ _ => False) := by
  unfold Ct
  intro loose mean mg mb dp un gd cn cs a ccd cl outer A₀ base h₀ L m s Q E BS B F N hk hd hu hret hX
  have X := BS.X.keeps B.stays
  have T := BS.T.keeps B.stays
  have hMk : KstMark := kstMark
  k_with_none
  k_with "loadName" => (k_here; k_dflt (refine' loadX_L ?k1 ?k2 ?_ ?a ?b; (case a => rfl); (case b => rfl); (case k1 => k_asm); (case k2 => exact rfl); k_whole))
  k_with "leaving ref" => (k_here; k_dflt (first
  | (refine' leaveX_new ?k1 ?k0 ?k2 ?k3 ?k4 ?k5 ?_; (case k0 => assumption); (case k2 => assumption); (case k1 => assumption); (case k3 => k_asm); (case k4 => exact rfl); (case k5 => exact rfl); k_whole; intro h' R' U'; (try dsimp only at R' U' ⊢))
  | (refine' leaveX_made ?k1 ?k0 ?k2 ?k3 ?k4 ?k5 ?_; (case k0 => first | assumption | exact Heap.MadeExc.of (by assumption)); (case k2 => assumption); (case k1 => assumption); (case k3 => k_asm); (case k4 => exact rfl); (case k5 => exact rfl); k_whole; intro h' R' U'; (try dsimp only at R' U' ⊢))
  | (refine' leaveX_on ?k1 ?k2 ?k3 ?k4 ?k5 ?_; (case k3 => assumption); (case k2 => assumption); (case k1 => assumption); (case k4 => assumption); (case k5 => exact rfl); k_whole; intro h' R' U'; (try dsimp only at R' U' ⊢))))
  k_with "subscriptTail Name Name bytes int" => (k_here; (with_reducible show wpAny _ _ (subscriptTail _ _ (Value.bytes _ _) (Value.int _ _)) _ _ _); (with_unfolding_all refine' item_or ?h0 (by kba_ints) ?h1 ?h2 ?h3 ?h4 ?h5 ?h6 ?h7; (case h0 => rfl); (case h1 => omega); (case h2 => omega); (case h3 => omega); (case h6 => with_unfolding_all rfl); (case h7 => (intro _; with_unfolding_all rfl)); k_whole); first | (intro hlt' t' tk' h0' h1') | (intro hge' h' tk' e' x'))
  k_with "exec Raise some none" => (k_here; k_dflt (refine' RaiseX_own ?F ?X ?T ?e ?q PySem.F.excBase_Exception ?h ?_ ?a ?b ?c ?d ?g; (case F => k_asm); (case X => k_asm); (case T => k_asm); (case e => k_is); (case q => k_exc); (case h => first | rfl | assumption); (case a => rfl); (case b => rfl); (case c => rfl); (case d => rfl); (case g => decide); k_whole))
  k_with "binaryOp BitAnd int int" => (first | (refine and_to (bitAnd_m7 _) ?_) | (refine and_to (band128 _) ?_) | (refine and_to (bitAnd_m3 _) ?_) | (refine and_to (bitAnd_m1 _) ?_))
  k_with "inplaceOp BitAnd int int" => (first | (refine iand_to (band64 _) ?_) | (refine iand_to (bitAnd_m32 _) ?_))
  k_with "binaryOp LShift int int" => ((refine shl_to ?_ ?_ ?_ ?_); (focus omega); (focus omega); (focus omega))
  k_with "exec FunctionDef" => (k_here; (rename (_ = _ ++ _) => hr9; subst hr9); k_dflt (refine' nestDef_K ?d0 ?k0 ?a0 ?_; (case d0 => exact rfl); (case k0 => exact rfl); (case a0 => exact rfl)); (first
  | (k_dflt (refine' nestB (mid := [_]) ?F ?N ?T ?C ?cd ?tb ?o1 ?o2 ?hT ?cl ?_; (case F => k_asm); (case T => k_asm); (case cd => exact rfl); (case C => kn_code); (case tb => assumption); (case N => k_asm); (case o2 => assumption); (case hT => assumption); (case o1 => (intro x9 h9; rcases List.mem_cons.mp h9 with e9 | h9; (subst e9; k_ne); cases h9)); (case cl => exact rfl); k_whole))
  | (k_dflt (refine' nestB (mid := [_, _]) ?F ?N ?T ?C ?cd ?tb ?o1 ?o2 ?hT ?cl ?_; (case F => k_asm); (case T => k_asm); (case cd => exact rfl); (case C => kn_code); (case tb => assumption); (case N => k_asm); (case o2 => assumption); (case hT => assumption); (case o1 => (intro x9 h9; rcases List.mem_cons.mp h9 with e9 | h9; (subst e9; k_ne); rcases List.mem_cons.mp h9 with e9 | h9; (subst e9; k_ne); cases h9)); (case cl => exact rfl); k_whole))); (intro f' c' oc' vs' t' ct' dc' h' tk' F' N' d1' d2' n3' l1; (simp only [List.cons_append, List.nil_append] at N' l1); (try k_lt l1)))
  k_with "binaryOp LShift int int" => ((refine shl_to ?_ ?_ ?_ ?_); (focus omega); (focus omega); (focus (exact Sd.fits (by assumption))))
  w_top off
  refine wpAny_call ?_
  k_dflt cell_enter
  k_steps
  all_goals first
    | exact ir_ret hret (zz_back0 hz (by assumption)) (by assumption) (by assumption) (by kst_inAny)
    | exact ir_ret hret (zz_back1 hz (by assumption)) (by assumption) (by assumption) (by kst_inAny)
    | (exfalso; omega)
end
section
open PySem PySem.W PySem.Spec PySem.Calls PyProof.Rows
local macro_rules | `(tactic| walk_at "call type:bytes") => `(tactic| (k_here; k_dflt (refine bytes_bytes ?_)))
set_option maxHeartbeats 4000000 in
theorem c58x (w : World) (n k : Int) (t u : Tok) (led : List (Addr × Obj)) (hn0 : 0 ≤ n) (hn1 : n ≤ 1099511627776) (hkk : 5 < k) (hk9 : k ≤ 10) :
  Ct w 58 [.int n t, .int k u] 1 led (fun _ _ => False) (fun led' cls => led' = led ∧ cls = .ref 49) := by
  unfold Ct
  intro loose mean mg mb dp un gd cn cs a ccd cl outer A₀ base h₀ L m s Q E BS B F N hk hd hu hret hX
  have X := BS.X.keeps B.stays
  have T := BS.T.keeps B.stays
  have hMk : KstMark := kstMark
  k_with_none
  k_with "loadName" => (k_here; k_dflt (refine' loadX_L ?k1 ?k2 ?_ ?a ?b; (case a => rfl); (case b => rfl); (case k1 => k_asm); (case k2 => exact rfl); k_whole))
  k_with "leaving ref" => (k_here; k_dflt (first
  | (refine' leaveX_new ?k1 ?k0 ?k2 ?k3 ?k4 ?k5 ?_; (case k0 => assumption); (case k2 => assumption); (case k1 => assumption); (case k3 => k_asm); (case k4 => exact rfl); (case k5 => exact rfl); k_whole; intro h' R' U'; (try dsimp only at R' U' ⊢))
  | (refine' leaveX_made ?k1 ?k0 ?k2 ?k3 ?k4 ?k5 ?_; (case k0 => first | assumption | exact Heap.MadeExc.of (by assumption)); (case k2 => assumption); (case k1 => assumption); (case k3 => k_asm); (case k4 => exact rfl); (case k5 => exact rfl); k_whole; intro h' R' U'; (try dsimp only at R' U' ⊢))
  | (refine' leaveX_on ?k1 ?k2 ?k3 ?k4 ?k5 ?_; (case k3 => assumption); (case k2 => assumption); (case k1 => assumption); (case k4 => assumption); (case k5 => exact rfl); k_whole; intro h' R' U'; (try dsimp only at R' U' ⊢))))
  k_with "subscriptTail Name Name bytes int" => (k_here; (with_reducible show wpAny _ _ (subscriptTail _ _ (Value.bytes _ _) (Value.int _ _)) _ _ _); (with_unfolding_all refine' item_or ?h0 (by kba_ints) ?h1 ?h2 ?h3 ?h4 ?h5 ?h6 ?h7; (case h0 => rfl); (case h1 => omega); (case h2 => omega); (case h3 => omega); (case h6 => with_unfolding_all rfl); (case h7 => (intro _; with_unfolding_all rfl)); k_whole); first | (intro hlt' t' tk' h0' h1') | (intro hge' h' tk' e' x'))
  k_with "exec Raise some none" => (k_here; k_dflt (refine' RaiseX_own ?F ?X ?T ?e ?q PySem.F.excBase_Exception ?h ?_ ?a ?b ?c ?d ?g; (case F => k_asm); (case X => k_asm); (case T => k_asm); (case e => k_is); (case q => k_exc); (case h => first | rfl | assumption); (case a => rfl); (case b => rfl); (case c => rfl); (case d => rfl); (case g => decide); k_whole))
  k_with "binaryOp BitAnd int int" => (first | (refine and_to (bitAnd_m7 _) ?_) | (refine and_to (band128 _) ?_) | (refine and_to (bitAnd_m3 _) ?_) | (refine and_to (bitAnd_m1 _) ?_))
  k_with "inplaceOp BitAnd int int" => (first | (refine iand_to (band64 _) ?_) | (refine iand_to (bitAnd_m32 _) ?_))
  k_with "binaryOp LShift int int" => ((refine shl_to ?_ ?_ ?_ ?_); (focus omega); (focus omega); (focus omega))
  k_with "exec FunctionDef" => (k_here; (rename (_ = _ ++ _) => hr9; subst hr9); k_dflt (refine' nestDef_K ?d0 ?k0 ?a0 ?_; (case d0 => exact rfl); (case k0 => exact rfl); (case a0 => exact rfl)); (first
  | (k_dflt (refine' nestB (mid := [_]) ?F ?N ?T ?C ?cd ?tb ?o1 ?o2 ?hT ?cl ?_; (case F => k_asm); (case T => k_asm); (case cd => exact rfl); (case C => kn_code); (case tb => assumption); (case N => k_asm); (case o2 => assumption); (case hT => assumption); (case o1 => (intro x9 h9; rcases List.mem_cons.mp h9 with e9 | h9; (subst e9; k_ne); cases h9)); (case cl => exact rfl); k_whole))
  | (k_dflt (refine' nestB (mid := [_, _]) ?F ?N ?T ?C ?cd ?tb ?o1 ?o2 ?hT ?cl ?_; (case F => k_asm); (case T => k_asm); (case cd => exact rfl); (case C => kn_code); (case tb => assumption); (case N => k_asm); (case o2 => assumption); (case hT => assumption); (case o1 => (intro x9 h9; rcases List.mem_cons.mp h9 with e9 | h9; (subst e9; k_ne); rcases List.mem_cons.mp h9 with e9 | h9; (subst e9; k_ne); cases h9)); (case cl => exact rfl); k_whole))); (intro f' c' oc' vs' t' ct' dc' h' tk' F' N' d1' d2' n3' l1; (simp only [List.cons_append, List.nil_append] at N' l1); (try k_lt l1)))
  w_top off
  refine wpAny_call ?_
  k_dflt cell_enter
  k_steps
  all_goals first
    | exact hX _ _ _ _ _ _ (by assumption) (by assumption) (by assumption) ⟨rfl, rfl⟩
    | (exfalso; omega)
set_option maxHeartbeats 4000000 in
theorem c58n (w : World) (n : Int) (t u : Tok) (led : List (Addr × Obj)) (hn0 : 0 ≤ n) (hn1 : n ≤ 1099511627776) :
  Ct w 58 [.int n t, .int (-1) u] 1 led (fun _ _ => False) (fun led' cls => led' = led ∧ cls = .ref 49) := by
  unfold Ct
  intro loose mean mg mb dp un gd cn cs a ccd cl outer A₀ base h₀ L m s Q E BS B F N hk hd hu hret hX
  have X := BS.X.keeps B.stays
  have T := BS.T.keeps B.stays
  have hMk : KstMark := kstMark
  k_with_none
  k_with "loadName" => (k_here; k_dflt (refine' loadX_L ?k1 ?k2 ?_ ?a ?b; (case a => rfl); (case b => rfl); (case k1 => k_asm); (case k2 => exact rfl); k_whole))
  k_with "leaving ref" => (k_here; k_dflt (first
  | (refine' leaveX_new ?k1 ?k0 ?k2 ?k3 ?k4 ?k5 ?_; (case k0 => assumption); (case k2 => assumption); (case k1 => assumption); (case k3 => k_asm); (case k4 => exact rfl); (case k5 => exact rfl); k_whole; intro h' R' U'; (try dsimp only at R' U' ⊢))
  | (refine' leaveX_made ?k1 ?k0 ?k2 ?k3 ?k4 ?k5 ?_; (case k0 => first | assumption | exact Heap.MadeExc.of (by assumption)); (case k2 => assumption); (case k1 => assumption); (case k3 => k_asm); (case k4 => exact rfl); (case k5 => exact rfl); k_whole; intro h' R' U'; (try dsimp only at R' U' ⊢))
  | (refine' leaveX_on ?k1 ?k2 ?k3 ?k4 ?k5 ?_; (case k3 => assumption); (case k2 => assumption); (case k1 => assumption); (case k4 => assumption); (case k5 => exact rfl); k_whole; intro h' R' U'; (try dsimp only at R' U' ⊢))))
  k_with "subscriptTail Name Name bytes int" => (k_here; (with_reducible show wpAny _ _ (subscriptTail _ _ (Value.bytes _ _) (Value.int _ _)) _ _ _); (with_unfolding_all refine' item_or ?h0 (by kba_ints) ?h1 ?h2 ?h3 ?h4 ?h5 ?h6 ?h7; (case h0 => rfl); (case h1 => omega); (case h2 => omega); (case h3 => omega); (case h6 => with_unfolding_all rfl); (case h7 => (intro _; with_unfolding_all rfl)); k_whole); first | (intro hlt' t' tk' h0' h1') | (intro hge' h' tk' e' x'))
  k_with "exec Raise some none" => (k_here; k_dflt (refine' RaiseX_own ?F ?X ?T ?e ?q PySem.F.excBase_Exception ?h ?_ ?a ?b ?c ?d ?g; (case F => k_asm); (case X => k_asm); (case T => k_asm); (case e => k_is); (case q => k_exc); (case h => first | rfl | assumption); (case a => rfl); (case b => rfl); (case c => rfl); (case d => rfl); (case g => decide); k_whole))
  k_with "binaryOp BitAnd int int" => (first | (refine and_to (bitAnd_m7 _) ?_) | (refine and_to (band128 _) ?_) | (refine and_to (bitAnd_m3 _) ?_) | (refine and_to (bitAnd_m1 _) ?_))
  k_with "inplaceOp BitAnd int int" => (first | (refine iand_to (band64 _) ?_) | (refine iand_to (bitAnd_m32 _) ?_))
  k_with "binaryOp LShift int int" => ((refine shl_to ?_ ?_ ?_ ?_); (focus omega); (focus omega); (focus omega))
  k_with "exec FunctionDef" => (k_here; (rename (_ = _ ++ _) => hr9; subst hr9); k_dflt (refine' nestDef_K ?d0 ?k0 ?a0 ?_; (case d0 => exact rfl); (case k0 => exact rfl); (case a0 => exact rfl)); (first
  | (k_dflt (refine' nestB (mid := [_]) ?F ?N ?T ?C ?cd ?tb ?o1 ?o2 ?hT ?cl ?_; (case F => k_asm); (case T => k_asm); (case cd => exact rfl); (case C => kn_code); (case tb => assumption); (case N => k_asm); (case o2 => assumption); (case hT => assumption); (case o1 => (intro x9 h9; rcases List.mem_cons.mp h9 with e9 | h9; (subst e9; k_ne); cases h9)); (case cl => exact rfl); k_whole))
  | (k_dflt (refine' nestB (mid := [_, _]) ?F ?N ?T ?C ?cd ?tb ?o1 ?o2 ?hT ?cl ?_; (case F => k_asm); (case T => k_asm); (case cd => exact rfl); (case C => kn_code); (case tb => assumption); (case N => k_asm); (case o2 => assumption); (case hT => assumption); (case o1 => (intro x9 h9; rcases List.mem_cons.mp h9 with e9 | h9; (subst e9; k_ne); rcases List.mem_cons.mp h9 with e9 | h9; (subst e9; k_ne); cases h9)); (case cl => exact rfl); k_whole))); (intro f' c' oc' vs' t' ct' dc' h' tk' F' N' d1' d2' n3' l1; (simp only [List.cons_append, List.nil_append] at N' l1); (try k_lt l1)))
  w_top off
  refine wpAny_call ?_
  k_dflt cell_enter
  k_steps
  all_goals first
    | exact hX _ _ _ _ _ _ (by assumption) (by assumption) (by assumption) ⟨rfl, rfl⟩
    | (exfalso; omega)
theorem c58e (w : World) (n k : Int) (t u : Tok) (led : List (Addr × Obj)) (hn0 : 0 ≤ n) (hn1 : n ≤ 1099511627776) (hkk : k = -1 ∨ 5 < k) (hk9 : k ≤ 10) :
  Ct w 58 [.int n t, .int k u] 1 led (fun _ _ => False) (fun led' cls => led' = led ∧ cls = .ref 49) := by
  rcases hkk with e | e
  · subst e; exact c58n w n t u led hn0 hn1
  · exact c58x w n k t u led hn0 hn1 e hk9
set_option maxHeartbeats 4000000 in
theorem c200 (w : World) (n k : Int) (t u : Tok) (ts led : List (Addr × Obj)) (hts : TbB ts) (hoff : ∀ x ∈ led, x.1 ≠ 188) (hT : Four 188 led) (hn0 : 0 ≤ n) (hn1 : n ≤ 1073741824) (hk0 : 0 ≤ k) (hk1 : k ≤ 5) :
  Ct w 200 [.int n t, .int k u] 8 (ts ++ led) (VbR (enc (8 * n + k).toNat) led) (fun _ _ => False) := by
  unfold Ct
  intro loose mean mg mb dp un gd cn cs a ccd cl outer A₀ base h₀ L m s Q E BS B F N hk hd hu hret hX
  have X := BS.X.keeps B.stays
  have T := BS.T.keeps B.stays
  have hMk : KstMark := kstMark
  k_with_none
  k_with "loadName" => (k_here; k_dflt (refine' loadX_L ?k1 ?k2 ?_ ?a ?b; (case a => rfl); (case b => rfl); (case k1 => k_asm); (case k2 => exact rfl); k_whole))
  k_with "leaving ref" => (k_here; k_dflt (first
  | (refine' leaveX_new ?k1 ?k0 ?k2 ?k3 ?k4 ?k5 ?_; (case k0 => assumption); (case k2 => assumption); (case k1 => assumption); (case k3 => k_asm); (case k4 => exact rfl); (case k5 => exact rfl); k_whole; intro h' R' U'; (try dsimp only at R' U' ⊢))
  | (refine' leaveX_made ?k1 ?k0 ?k2 ?k3 ?k4 ?k5 ?_; (case k0 => first | assumption | exact Heap.MadeExc.of (by assumption)); (case k2 => assumption); (case k1 => assumption); (case k3 => k_asm); (case k4 => exact rfl); (case k5 => exact rfl); k_whole; intro h' R' U'; (try dsimp only at R' U' ⊢))
  | (refine' leaveX_on ?k1 ?k2 ?k3 ?k4 ?k5 ?_; (case k3 => assumption); (case k2 => assumption); (case k1 => assumption); (case k4 => assumption); (case k5 => exact rfl); k_whole; intro h' R' U'; (try dsimp only at R' U' ⊢))))
  k_with "subscriptTail Name Name bytes int" => (k_here; (with_reducible show wpAny _ _ (subscriptTail _ _ (Value.bytes _ _) (Value.int _ _)) _ _ _); (with_unfolding_all refine' item_or ?h0 (by kba_ints) ?h1 ?h2 ?h3 ?h4 ?h5 ?h6 ?h7; (case h0 => rfl); (case h1 => omega); (case h2 => omega); (case h3 => omega); (case h6 => with_unfolding_all rfl); (case h7 => (intro _; with_unfolding_all rfl)); k_whole); first | (intro hlt' t' tk' h0' h1') | (intro hge' h' tk' e' x'))
  k_with "exec Raise some none" => (k_here; k_dflt (refine' RaiseX_own ?F ?X ?T ?e ?q PySem.F.excBase_Exception ?h ?_ ?a ?b ?c ?d ?g; (case F => k_asm); (case X => k_asm); (case T => k_asm); (case e => k_is); (case q => k_exc); (case h => first | rfl | assumption); (case a => rfl); (case b => rfl); (case c => rfl); (case d => rfl); (case g => decide); k_whole))
  k_with "binaryOp BitAnd int int" => (first | (refine and_to (bitAnd_m7 _) ?_) | (refine and_to (band128 _) ?_) | (refine and_to (bitAnd_m3 _) ?_) | (refine and_to (bitAnd_m1 _) ?_))
  k_with "inplaceOp BitAnd int int" => (first | (refine iand_to (band64 _) ?_) | (refine iand_to (bitAnd_m32 _) ?_))
  k_with "binaryOp LShift int int" => ((refine shl_to ?_ ?_ ?_ ?_); (focus omega); (focus omega); (focus omega))
  k_with "exec FunctionDef" => (k_here; (rename (_ = _ ++ _) => hr9; subst hr9); k_dflt (refine' nestDef_K ?d0 ?k0 ?a0 ?_; (case d0 => exact rfl); (case k0 => exact rfl); (case a0 => exact rfl)); (first
  | (k_dflt (refine' nestB (mid := [_]) ?F ?N ?T ?C ?cd ?tb ?o1 ?o2 ?hT ?cl ?_; (case F => k_asm); (case T => k_asm); (case cd => exact rfl); (case C => kn_code); (case tb => assumption); (case N => k_asm); (case o2 => assumption); (case hT => assumption); (case o1 => (intro x9 h9; rcases List.mem_cons.mp h9 with e9 | h9; (subst e9; k_ne); cases h9)); (case cl => exact rfl); k_whole))
  | (k_dflt (refine' nestB (mid := [_, _]) ?F ?N ?T ?C ?cd ?tb ?o1 ?o2 ?hT ?cl ?_; (case F => k_asm); (case T => k_asm); (case cd => exact rfl); (case C => kn_code); (case tb => assumption); (case N => k_asm); (case o2 => assumption); (case hT => assumption); (case o1 => (intro x9 h9; rcases List.mem_cons.mp h9 with e9 | h9; (subst e9; k_ne); rcases List.mem_cons.mp h9 with e9 | h9; (subst e9; k_ne); cases h9)); (case cl => exact rfl); k_whole))); (intro f' c' oc' vs' t' ct' dc' h' tk' F' N' d1' d2' n3' l1; (simp only [List.cons_append, List.nil_append] at N' l1); (try k_lt l1)))
  w_top off
  obtain ⟨rest, hr⟩ : ∃ r, r = ts ++ led := ⟨_, rfl⟩
  rw [← hr] at N
  have V := fun t9 => c193 w (8 * n + k) t9 ts led hts hoff hT (by omega) (bd_small (by omega) (by omega))
  simp only [← hr] at V
  k_with "call ref" => k_dflt (first | ((refine' Ct.use (c58 w n k _ _ _ (by omega) (by omega) (by omega) (by omega)) BS ?cB ?cF ?cN ?ck ?cd ?cu ?_ ?_); (case cB => assumption); (case cF => assumption); (case cN => assumption); (case ck => exact rfl); (case cd => k_room); (case cu => k_units); (all_goals first | (intro e9 cls9 G9 led9 h9 tk9 F9 R9 U9 x9; exact x9.elim) | (intro v9 led9 h9 tk9 F9 N9 x9; obtain ⟨t9, e9, e9'⟩ := x9; subst e9; subst e9'))) | ((refine' Ct.use (V _) BS ?cB ?cF ?cN ?ck ?cd ?cu ?_ ?_); (case cB => assumption); (case cF => assumption); (case cN => assumption); (case ck => exact rfl); (case cd => k_room); (case cu => k_units); (all_goals first | (intro e9 cls9 G9 led9 h9 tk9 F9 R9 U9 x9; exact x9.elim) | (intro v9 led9 h9 tk9 F9 N9 x9; obtain ⟨ts9, b9, t9, hT9, e9, hb9, e9'⟩ := x9; subst e9; subst e9'))))
  refine wpAny_call ?_
  k_dflt cell_enter
  k_steps
  all_goals first
    | exact hret _ _ _ _ (by assumption) (by assumption) ⟨_, _, _, hT9, rfl, hb9, rfl⟩
    | (exfalso; omega)
set_option maxHeartbeats 4000000 in
theorem c200x (w : World) (n k : Int) (t u : Tok) (led : List (Addr × Obj)) (hn0 : 0 ≤ n) (hn1 : n ≤ 1073741824) (hkk : k = -1 ∨ 5 < k) (hk9 : k ≤ 10) :
  Ct w 200 [.int n t, .int k u] 8 led (fun _ _ => False) (fun led' cls => led' = led ∧ cls = .ref 49) := by
  unfold Ct
  intro loose mean mg mb dp un gd cn cs a ccd cl outer A₀ base h₀ L m s Q E BS B F N hk hd hu hret hX
  have X := BS.X.keeps B.stays
  have T := BS.T.keeps B.stays
  have hMk : KstMark := kstMark
  k_with_none
  k_with "loadName" => (k_here; k_dflt (refine' loadX_L ?k1 ?k2 ?_ ?a ?b; (case a => rfl); (case b => rfl); (case k1 => k_asm); (case k2 => exact rfl); k_whole))
  k_with "leaving ref" => (k_here; k_dflt (first
  | (refine' leaveX_new ?k1 ?k0 ?k2 ?k3 ?k4 ?k5 ?_; (case k0 => assumption); (case k2 => assumption); (case k1 => assumption); (case k3 => k_asm); (case k4 => exact rfl); (case k5 => exact rfl); k_whole; intro h' R' U'; (try dsimp only at R' U' ⊢))
  | (refine' leaveX_made ?k1 ?k0 ?k2 ?k3 ?k4 ?k5 ?_; (case k0 => first | assumption | exact Heap.MadeExc.of (by assumption)); (case k2 => assumption); (case k1 => assumption); (case k3 => k_asm); (case k4 => exact rfl); (case k5 => exact rfl); k_whole; intro h' R' U'; (try dsimp only at R' U' ⊢))
  | (refine' leaveX_on ?k1 ?k2 ?k3 ?k4 ?k5 ?_; (case k3 => assumption); (case k2 => assumption); (case k1 => assumption); (case k4 => assumption); (case k5 => exact rfl); k_whole; intro h' R' U'; (try dsimp only at R' U' ⊢))))
  k_with "subscriptTail Name Name bytes int" => (k_here; (with_reducible show wpAny _ _ (subscriptTail _ _ (Value.bytes _ _) (Value.int _ _)) _ _ _); (with_unfolding_all refine' item_or ?h0 (by kba_ints) ?h1 ?h2 ?h3 ?h4 ?h5 ?h6 ?h7; (case h0 => rfl); (case h1 => omega); (case h2 => omega); (case h3 => omega); (case h6 => with_unfolding_all rfl); (case h7 => (intro _; with_unfolding_all rfl)); k_whole); first | (intro hlt' t' tk' h0' h1') | (intro hge' h' tk' e' x'))
  k_with "exec Raise some none" => (k_here; k_dflt (refine' RaiseX_own ?F ?X ?T ?e ?q PySem.F.excBase_Exception ?h ?_ ?a ?b ?c ?d ?g; (case F => k_asm); (case X => k_asm); (case T => k_asm); (case e => k_is); (case q => k_exc); (case h => first | rfl | assumption); (case a => rfl); (case b => rfl); (case c => rfl); (case d => rfl); (case g => decide); k_whole))
  k_with "binaryOp BitAnd int int" => (first | (refine and_to (bitAnd_m7 _) ?_) | (refine and_to (band128 _) ?_) | (refine and_to (bitAnd_m3 _) ?_) | (refine and_to (bitAnd_m1 _) ?_))
  k_with "inplaceOp BitAnd int int" => (first | (refine iand_to (band64 _) ?_) | (refine iand_to (bitAnd_m32 _) ?_))
  k_with "binaryOp LShift int int" => ((refine shl_to ?_ ?_ ?_ ?_); (focus omega); (focus omega); (focus omega))
  k_with "exec FunctionDef" => (k_here; (rename (_ = _ ++ _) => hr9; subst hr9); k_dflt (refine' nestDef_K ?d0 ?k0 ?a0 ?_; (case d0 => exact rfl); (case k0 => exact rfl); (case a0 => exact rfl)); (first
  | (k_dflt (refine' nestB (mid := [_]) ?F ?N ?T ?C ?cd ?tb ?o1 ?o2 ?hT ?cl ?_; (case F => k_asm); (case T => k_asm); (case cd => exact rfl); (case C => kn_code); (case tb => assumption); (case N => k_asm); (case o2 => assumption); (case hT => assumption); (case o1 => (intro x9 h9; rcases List.mem_cons.mp h9 with e9 | h9; (subst e9; k_ne); cases h9)); (case cl => exact rfl); k_whole))
  | (k_dflt (refine' nestB (mid := [_, _]) ?F ?N ?T ?C ?cd ?tb ?o1 ?o2 ?hT ?cl ?_; (case F => k_asm); (case T => k_asm); (case cd => exact rfl); (case C => kn_code); (case tb => assumption); (case N => k_asm); (case o2 => assumption); (case hT => assumption); (case o1 => (intro x9 h9; rcases List.mem_cons.mp h9 with e9 | h9; (subst e9; k_ne); rcases List.mem_cons.mp h9 with e9 | h9; (subst e9; k_ne); cases h9)); (case cl => exact rfl); k_whole))); (intro f' c' oc' vs' t' ct' dc' h' tk' F' N' d1' d2' n3' l1; (simp only [List.cons_append, List.nil_append] at N' l1); (try k_lt l1)))
  w_top off
  k_with "call ref" => k_dflt ((refine' Ct.use (c58e w n k _ _ _ (by omega) (by omega) hkk hk9) BS ?cB ?cF ?cN ?ck ?cd ?cu ?_ ?_); (case cB => assumption); (case cF => assumption); (case cN => assumption); (case ck => exact rfl); (case cd => k_room); (case cu => k_units); (all_goals first | (intro e9 cls9 G9 led9 h9 tk9 F9 R9 U9 x9; obtain ⟨e9a, e9b⟩ := x9; subst e9a; subst e9b) | (intro v9 led9 h9 tk9 F9 N9 x9; exact x9.elim)))
  refine wpAny_call ?_
  k_dflt cell_enter
  k_steps
  all_goals first
    | exact hX _ _ _ _ _ _ (by assumption) (by assumption) (by assumption) ⟨rfl, rfl⟩
    | (exfalso; omega)
end
section
open PySem PySem.W PySem.Spec PySem.Calls PyProof.Rows
theorem getD_mid {pre post : List Int} {x : Int} {i : Nat} (h : pre.length = i) : (pre ++ x :: post).getD i 0 = x := by
  subst h
  rw [List.getD_eq_getElem?_getD, List.getElem?_append_right (Nat.le_refl _), Nat.sub_self]
  rfl
theorem scan_enc : ∀ (n : Nat) (pre post : List Int) (p k r : Nat) (acc : Int), pre.length = p + k → (enc n).length ≤ r → scan (pre ++ (enc n ++ post)) p r k acc = .ok (acc + n * 2 ^ (7 * k)) (p + k + (enc n).length) := by
  intro n
  induction n using Nat.strongRecOn with
  | ind n ih =>
    intro pre post p k r acc hp hr
    have hpos := enc_pos n
    obtain ⟨r, rfl⟩ : ∃ r', r = r' + 1 := ⟨r - 1, by omega⟩
    by_cases hn : n < 128
    · rw [enc_lt hn, List.singleton_append, scan, if_neg (by simp; omega), getD_mid hp, if_pos (by omega)]
      have e : (n : Int) % 128 = n := by omega
      rw [e]
      rfl
    · have hr' : (enc (n / 128)).length ≤ r := by
        rw [enc_ge hn, List.length_cons] at hr
        omega
      have key := ih (n / 128) (by omega) (pre ++ [((n % 128 + 128 : Nat) : Int)]) post p (k + 1) r (acc + ((n % 128 + 128 : Nat) : Int) % 128 * 2 ^ (7 * k)) (by rw [List.length_append, List.length_singleton]; omega) hr'
      rw [List.append_assoc, List.singleton_append] at key
      rw [enc_ge hn, List.cons_append, scan, if_neg (by simp; omega), getD_mid hp, if_neg (by omega), key, List.length_cons]
      have e1 : ((n % 128 + 128 : Nat) : Int) % 128 = ((n % 128 : Nat) : Int) := by omega
      have e2 : (2 : Int) ^ (7 * (k + 1)) = 128 * 2 ^ (7 * k) := by
        have : 7 * (k + 1) = 7 * k + 7 := by omega
        rw [this, Int.pow_add]; omega
      rw [e1, e2]
      have e3 : ((n / 128 : Nat) : Int) * (128 * 2 ^ (7 * k)) = ((n / 128 * 128 : Nat) : Int) * 2 ^ (7 * k) := by
        rw [← Int.mul_assoc]; rfl
      rw [e3, Int.add_assoc, ← Int.add_mul]
      have e4 : ((n % 128 : Nat) : Int) + ((n / 128 * 128 : Nat) : Int) = n := by omega
      rw [e4]
      have e5 : p + (k + 1) + (enc (n / 128)).length = p + k + ((enc (n / 128)).length + 1) := by omega
      rw [e5]
theorem scan_all {n : Nat} (h : n < 2 ^ 64) : scan (enc n) 0 10 0 0 = .ok n (enc n).length := by
  have h1 := scan_enc n [] [] 0 0 10 0 rfl (enc10 h)
  rw [List.nil_append, List.append_nil] at h1
  rw [h1]
  have e : (0 : Int) + n * 2 ^ (7 * 0) = n := by simp
  rw [e, show 0 + 0 + (enc n).length = (enc n).length by omega]
theorem tagEnd_enc : ∀ (n : Nat) (pre post : List Int), tagEnd (pre ++ (enc n ++ post)) pre.length = some (pre.length + (enc n).length - 1) := by
  intro n
  induction n using Nat.strongRecOn with
  | ind n ih =>
    intro pre post
    by_cases hn : n < 128
    · rw [enc_lt hn, List.singleton_append, tagEnd_hit (by simp) (by rw [getD_mid rfl]; omega)]
      simp
    · have key := ih (n / 128) (by omega) (pre ++ [((n % 128 + 128 : Nat) : Int)]) post
      rw [List.append_assoc, List.singleton_append] at key
      rw [enc_ge hn, List.cons_append, tagEnd_on (by simp) (by rw [getD_mid rfl]; omega)]
      rw [List.length_append, List.length_singleton] at key
      rw [key, List.length_cons]
      congr 1
      omega
theorem fU64_id {n : Int} (h : Bd n) : fU64 n = n := by
  have := h.lo; have := h.hi
  unfold fU64
  omega
end
section
open PySem PySem.W PySem.Spec PySem.Calls PyProof.Rows
theorem Ct.mono {w : World} {f : Addr} {vs : List Value} {d : Nat} {led : List (Addr × Obj)} {R R' X X' : List (Addr × Obj) → Value → Prop} (C : Ct w f vs d led R X) (h : ∀ l v, R l v → R' l v) (hx : ∀ l v, X l v → X' l v) : Ct w f vs d led R' X' := by
  unfold Ct
  intro loose mean mg mb dp un gd cn cs a ccd cl outer A₀ base h₀ L m s Q E BS B F N hk hd hu hret hX
  exact C.use BS B F N hk hd hu (fun v led' h' tk' F' N' r => hret v led' h' tk' F' N' (h _ _ r)) (fun e cls G led' h' tk' F' R' U' x => hX e cls G led' h' tk' F' R' U' (hx _ _ x))
/-- a pair of numbers, and a table that may be filled -/
def EnR (T : List (Addr × Obj) → Prop) (x y : Int) (led led' : List (Addr × Obj)) (v : Value) : Prop :=
  ∃ ts a t1 t2, T ts ∧ v = .ref a ∧ led' = (a, tupObj [.int x t1, .int y t2]) :: (ts ++ led) ∧ (∀ p ∈ ts ++ led, p.1 < a)
theorem enr_of {P : Addr} {ln cl : Int} {qual : Str} {led led' : List (Addr × Obj)} {fix : Int → Int} {n : Int} {v : Value} (hn : Bd n) (h : RdR P ln cl qual led (enc n.toNat) (0 : Int).toNat fix led' v) : EnR (Tb P ln cl qual) (fix n) (vsz n) led led' v := by
  obtain ⟨ts, a, m, q, t1, t2, hT, hs, _, e1, e2, hl⟩ := h
  have hb := hn.hi
  have h0 := hn.lo
  have e := scan_all (n := n.toNat) (by omega)
  have e' : (0 : Int).toNat = 0 := rfl
  rw [e', e] at hs
  injection hs with h1 h2
  rw [Int.toNat_of_nonneg h0] at h1
  subst h1
  subst h2
  exact ⟨ts, a, t1, t2, hT, e1, e2, hl⟩
theorem enx_of {P : Addr} {ln cl : Int} {qual : Str} {led led' : List (Addr × Obj)} {n : Int} {v : Value} (hn : Bd n) (h : RdX P ln cl qual led (enc n.toNat) (0 : Int).toNat led' v) : False := by
  obtain ⟨ts, _, _, hs⟩ := h
  have hb := hn.hi
  have h0 := hn.lo
  have e := scan_all (n := n.toNat) (by omega)
  have e' : (0 : Int).toNat = 0 := rfl
  rw [e', e] at hs
  rcases hs with ⟨hs, _⟩ | ⟨hs, _⟩ <;> cases hs
section
variable (w : World) (b : Array UInt8) (n : Int) (t u : Tok) (ts led : List (Addr × Obj)) (hn : Bd n) (hb : KBw.bInts b = enc n.toNat)
include hn hb
theorem v114 (hts : TbV ts) (hoff : ∀ x ∈ led, x.1 ≠ 95) (hT : Four 95 led) : Ct w 114 [.bytes b t, .int 0 u] 3 (ts ++ led) (EnR TbV (fU64 n) (vsz n) led) (fun _ _ => False) :=
  (rd114 w b (enc n.toNat) 0 t u ts led hts hoff hT hb (by have := hn.len; omega) ⟨by omega, by omega⟩).mono (fun _ _ h => enr_of hn h) (fun _ _ h => enx_of hn h)
theorem v128 (hts : TbV ts) (hoff : ∀ x ∈ led, x.1 ≠ 95) (hT : Four 95 led) : Ct w 128 [.bytes b t, .int 0 u] 3 (ts ++ led) (EnR TbV (fU32 n) (vsz n) led) (fun _ _ => False) :=
  (rd128 w b (enc n.toNat) 0 t u ts led hts hoff hT hb (by have := hn.len; omega) ⟨by omega, by omega⟩).mono (fun _ _ h => enr_of hn h) (fun _ _ h => enx_of hn h)
theorem v121 (hts : TbS ts) (hoff : ∀ x ∈ led, x.1 ≠ 102) (hT : Four 102 led) : Ct w 121 [.bytes b t, .int 0 u] 3 (ts ++ led) (EnR TbS (fS64 n) (vsz n) led) (fun _ _ => False) :=
  (rd121 w b (enc n.toNat) 0 t u ts led hts hoff hT hb (by have := hn.len; omega) ⟨by omega, by omega⟩).mono (fun _ _ h => enr_of hn h) (fun _ _ h => enx_of hn h)
theorem v135 (hts : TbS ts) (hoff : ∀ x ∈ led, x.1 ≠ 102) (hT : Four 102 led) : Ct w 135 [.bytes b t, .int 0 u] 3 (ts ++ led) (EnR TbS (fS32 n) (vsz n) led) (fun _ _ => False) :=
  (rd135 w b (enc n.toNat) 0 t u ts led hts hoff hT hb (by have := hn.len; omega) ⟨by omega, by omega⟩).mono (fun _ _ h => enr_of hn h) (fun _ _ h => enx_of hn h)
end
end
section
open PySem PySem.W PySem.Spec PySem.Calls PyProof.Rows
set_option maxHeartbeats 4000000 in
theorem c149 (w : World) (b : Array UInt8) (n : Int) (t : Tok) (ts led : List (Addr × Obj)) (hn : Bd n) (hn1 : n ≤ 1099511627776) (hb : KBw.bInts b = enc n.toNat) (hts : TbV ts) (hoff : ∀ x ∈ led, x.1 ≠ 95) (hT : Four 95 led) :
  Ct w 149 [.bytes b t] 5 (ts ++ led) (EnR TbV (n / 8) (n % 8) led) (fun _ _ => False) := by
  unfold Ct
  intro loose mean mg mb dp un gd cn cs a ccd cl outer A₀ base h₀ L m s Q E BS B F N hk hd hu hret hX
  have X := BS.X.keeps B.stays
  have T := BS.T.keeps B.stays
  have hMk : KstMark := kstMark
  k_with_none
  k_with "loadName" => (k_here; k_dflt (refine' loadX_L ?k1 ?k2 ?_ ?a ?b; (case a => rfl); (case b => rfl); (case k1 => k_asm); (case k2 => exact rfl); k_whole))
  k_with "leaving ref" => (k_here; k_dflt (first
  | (refine' leaveX_new ?k1 ?k0 ?k2 ?k3 ?k4 ?k5 ?_; (case k0 => assumption); (case k2 => assumption); (case k1 => assumption); (case k3 => k_asm); (case k4 => exact rfl); (case k5 => exact rfl); k_whole; intro h' R' U'; (try dsimp only at R' U' ⊢))
  | (refine' leaveX_made ?k1 ?k0 ?k2 ?k3 ?k4 ?k5 ?_; (case k0 => first | assumption | exact Heap.MadeExc.of (by assumption)); (case k2 => assumption); (case k1 => assumption); (case k3 => k_asm); (case k4 => exact rfl); (case k5 => exact rfl); k_whole; intro h' R' U'; (try dsimp only at R' U' ⊢))
  | (refine' leaveX_on ?k1 ?k2 ?k3 ?k4 ?k5 ?_; (case k3 => assumption); (case k2 => assumption); (case k1 => assumption); (case k4 => assumption); (case k5 => exact rfl); k_whole; intro h' R' U'; (try dsimp only at R' U' ⊢))))
  k_with "subscriptTail Name Name bytes int" => (k_here; (with_reducible show wpAny _ _ (subscriptTail _ _ (Value.bytes _ _) (Value.int _ _)) _ _ _); (with_unfolding_all refine' item_or ?h0 (by kba_ints) ?h1 ?h2 ?h3 ?h4 ?h5 ?h6 ?h7; (case h0 => rfl); (case h1 => omega); (case h2 => omega); (case h3 => omega); (case h6 => with_unfolding_all rfl); (case h7 => (intro _; with_unfolding_all rfl)); k_whole); first | (intro hlt' t' tk' h0' h1') | (intro hge' h' tk' e' x'))
  k_with "exec Raise some none" => (k_here; k_dflt (refine' RaiseX_own ?F ?X ?T ?e ?q PySem.F.excBase_Exception ?h ?_ ?a ?b ?c ?d ?g; (case F => k_asm); (case X => k_asm); (case T => k_asm); (case e => k_is); (case q => k_exc); (case h => first | rfl | assumption); (case a => rfl); (case b => rfl); (case c => rfl); (case d => rfl); (case g => decide); k_whole))
  k_with "binaryOp BitAnd int int" => (first | (refine and_to (bitAnd_m7 _) ?_) | (refine and_to (band128 _) ?_) | (refine and_to (bitAnd_m3 _) ?_) | (refine and_to (bitAnd_m1 _) ?_))
  k_with "inplaceOp BitAnd int int" => (first | (refine iand_to (band64 _) ?_) | (refine iand_to (bitAnd_m32 _) ?_))
  k_with "binaryOp LShift int int" => ((refine shl_to ?_ ?_ ?_ ?_); (focus omega); (focus omega); (focus omega))
  k_with "exec FunctionDef" => (k_here; (rename (_ = _ ++ _) => hr9; subst hr9); k_dflt (refine' nestDef_K ?d0 ?k0 ?a0 ?_; (case d0 => exact rfl); (case k0 => exact rfl); (case a0 => exact rfl)); (first
  | (k_dflt (refine' nestB (mid := [_]) ?F ?N ?T ?C ?cd ?tb ?o1 ?o2 ?hT ?cl ?_; (case F => k_asm); (case T => k_asm); (case cd => exact rfl); (case C => kn_code); (case tb => assumption); (case N => k_asm); (case o2 => assumption); (case hT => assumption); (case o1 => (intro x9 h9; rcases List.mem_cons.mp h9 with e9 | h9; (subst e9; k_ne); cases h9)); (case cl => exact rfl); k_whole))
  | (k_dflt (refine' nestB (mid := [_, _]) ?F ?N ?T ?C ?cd ?tb ?o1 ?o2 ?hT ?cl ?_; (case F => k_asm); (case T => k_asm); (case cd => exact rfl); (case C => kn_code); (case tb => assumption); (case N => k_asm); (case o2 => assumption); (case hT => assumption); (case o1 => (intro x9 h9; rcases List.mem_cons.mp h9 with e9 | h9; (subst e9; k_ne); rcases List.mem_cons.mp h9 with e9 | h9; (subst e9; k_ne); cases h9)); (case cl => exact rfl); k_whole))); (intro f' c' oc' vs' t' ct' dc' h' tk' F' N' d1' d2' n3' l1; (simp only [List.cons_append, List.nil_append] at N' l1); (try k_lt l1)))
  w_top off
  obtain ⟨rest, hr⟩ : ∃ r, r = ts ++ led := ⟨_, rfl⟩
  rw [← hr] at N
  have hn0 := hn.lo
  have V := fun u9 => v114 w b n t u9 ts led hn hb hts hoff hT
  simp only [← hr, fU64_id hn] at V
  k_with "call ref" => k_dflt (first | ((refine' Ct.use (V _) BS ?cB ?cF ?cN ?ck ?cd ?cu ?_ ?_); (case cB => assumption); (case cF => assumption); (case cN => assumption); (case ck => exact rfl); (case cd => k_room); (case cu => k_units); (all_goals first | (intro e9 cls9 G9 led9 h9 tk9 F9 R9 U9 x9; exact x9.elim) | (intro v9 led9 h9 tk9 F9 N9 x9; obtain ⟨ts9, a9, t19, t29, hT9, e9, e9', hl9⟩ := x9; subst e9; subst e9'))) | ((refine' Ct.use (c65 w n _ _ hn0 hn1) BS ?cB ?cF ?cN ?ck ?cd ?cu ?_ ?_); (case cB => assumption); (case cF => assumption); (case cN => assumption); (case ck => exact rfl); (case cd => k_room); (case cu => k_units); (all_goals first | (intro e9 cls9 G9 led9 h9 tk9 F9 R9 U9 x9; exact x9.elim) | (intro v9 led9 h9 tk9 F9 N8 x9; obtain ⟨a8, t18, t28, e9, e9', hl8⟩ := x9; subst e9; subst e9'))))
  refine wpAny_call ?_
  k_dflt cell_enter
  k_steps
  all_goals first
    | exact hret _ _ _ _ (by assumption) (news_sub (by assumption) (by kst_inAny)) ⟨_, _, _, _, hT9, rfl, rfl, fun p hp => hl8 p (.tail _ hp)⟩
    | (exfalso; omega)
end
section
open PySem PySem.W PySem.Spec PySem.Calls PyProof.Rows
/-- a number of 64 bits as an answer -/
def NumR (led led' : List (Addr × Obj)) (v : Value) : Prop := ∃ k t, v = .int k t ∧ Bd k ∧ led' = led
theorem bd_mod {x : Int} : Bd (x % (1 * 2 ^ Int.toNat 64)) := ⟨Int.emod_nonneg _ (by decide), Int.emod_lt_of_pos _ (by decide)⟩
theorem bd_fmod {x : Int} : Bd (x.fmod (1 * 2 ^ Int.toNat 64)) := by
  rw [Int.fmod_eq_emod_of_nonneg _ (by decide)]; exact bd_mod
theorem edge_in (m : Int) (j : Nat) : 0 ≤ [7 * m.fmod 10, 31, 32, 63].getD j 0 ∧ [7 * m.fmod 10, 31, 32, 63].getD j 0 ≤ 1000000 := by
  have h0 : 0 ≤ m.fmod 10 := Int.fmod_nonneg_of_pos _ (by decide)
  have h1 : m.fmod 10 < 10 := Int.fmod_lt_of_pos _ (by decide)
  rcases j with _ | _ | _ | _ | j
  · exact ⟨by show 0 ≤ 7 * m.fmod 10; omega, by show 7 * m.fmod 10 ≤ _; omega⟩
  · exact ⟨show (0 : Int) ≤ 31 by decide, show (31 : Int) ≤ 1000000 by decide⟩
  · exact ⟨show (0 : Int) ≤ 32 by decide, show (32 : Int) ≤ 1000000 by decide⟩
  · exact ⟨show (0 : Int) ≤ 63 by decide, show (63 : Int) ≤ 1000000 by decide⟩
  · exact ⟨by simp, by simp⟩
end
section
open PySem PySem.W PySem.Spec PySem.Calls PyProof.Rows
local macro_rules | `(tactic| walk_at "execs cons") => `(tactic| k_extra "execs cons")
local macro_rules | `(tactic| walk_at "binaryOp LShift int int") => `(tactic| k_extra "binaryOp LShift int int")
set_option maxHeartbeats 4000000 in
theorem c263 (w : World) (x : Int) (t : Tok) (led : List (Addr × Obj)) :
  Ct w 263 [.int x t] 2 led (NumR led) (fun _ _ => False) := by
  unfold Ct
  intro loose mean mg mb dp un gd cn cs a ccd cl outer A₀ base h₀ L m s Q E BS B F N hk hd hu hret hX
  have X := BS.X.keeps B.stays
  have T := BS.T.keeps B.stays
  have hMk : KstMark := kstMark
  k_with_none
  k_with "loadName" => (k_here; k_dflt (refine' loadX_L ?k1 ?k2 ?_ ?a ?b; (case a => rfl); (case b => rfl); (case k1 => k_asm); (case k2 => exact rfl); k_whole))
  k_with "leaving ref" => (k_here; k_dflt (first
  | (refine' leaveX_new ?k1 ?k0 ?k2 ?k3 ?k4 ?k5 ?_; (case k0 => assumption); (case k2 => assumption); (case k1 => assumption); (case k3 => k_asm); (case k4 => exact rfl); (case k5 => exact rfl); k_whole; intro h' R' U'; (try dsimp only at R' U' ⊢))
  | (refine' leaveX_made ?k1 ?k0 ?k2 ?k3 ?k4 ?k5 ?_; (case k0 => first | assumption | exact Heap.MadeExc.of (by assumption)); (case k2 => assumption); (case k1 => assumption); (case k3 => k_asm); (case k4 => exact rfl); (case k5 => exact rfl); k_whole; intro h' R' U'; (try dsimp only at R' U' ⊢))
  | (refine' leaveX_on ?k1 ?k2 ?k3 ?k4 ?k5 ?_; (case k3 => assumption); (case k2 => assumption); (case k1 => assumption); (case k4 => assumption); (case k5 => exact rfl); k_whole; intro h' R' U'; (try dsimp only at R' U' ⊢))))
  k_with "subscriptTail Name Name bytes int" => (k_here; (with_reducible show wpAny _ _ (subscriptTail _ _ (Value.bytes _ _) (Value.int _ _)) _ _ _); (with_unfolding_all refine' item_or ?h0 (by kba_ints) ?h1 ?h2 ?h3 ?h4 ?h5 ?h6 ?h7; (case h0 => rfl); (case h1 => omega); (case h2 => omega); (case h3 => omega); (case h6 => with_unfolding_all rfl); (case h7 => (intro _; with_unfolding_all rfl)); k_whole); first | (intro hlt' t' tk' h0' h1') | (intro hge' h' tk' e' x'))
  k_with "exec Raise some none" => (k_here; k_dflt (refine' RaiseX_own ?F ?X ?T ?e ?q PySem.F.excBase_Exception ?h ?_ ?a ?b ?c ?d ?g; (case F => k_asm); (case X => k_asm); (case T => k_asm); (case e => k_is); (case q => k_exc); (case h => first | rfl | assumption); (case a => rfl); (case b => rfl); (case c => rfl); (case d => rfl); (case g => decide); k_whole))
  k_with "binaryOp BitAnd int int" => (first | (refine and_to (bitAnd_m7 _) ?_) | (refine and_to (band128 _) ?_) | (refine and_to (bitAnd_m3 _) ?_) | (refine and_to (bitAnd_m1 _) ?_))
  k_with "inplaceOp BitAnd int int" => (first | (refine iand_to (band64 _) ?_) | (refine iand_to (bitAnd_m32 _) ?_))
  k_with "binaryOp LShift int int" => ((refine shl_to ?_ ?_ ?_ ?_); (focus omega); (focus omega); (focus omega))
  k_with "exec FunctionDef" => (k_here; (rename (_ = _ ++ _) => hr9; subst hr9); k_dflt (refine' nestDef_K ?d0 ?k0 ?a0 ?_; (case d0 => exact rfl); (case k0 => exact rfl); (case a0 => exact rfl)); (first
  | (k_dflt (refine' nestB (mid := [_]) ?F ?N ?T ?C ?cd ?tb ?o1 ?o2 ?hT ?cl ?_; (case F => k_asm); (case T => k_asm); (case cd => exact rfl); (case C => kn_code); (case tb => assumption); (case N => k_asm); (case o2 => assumption); (case hT => assumption); (case o1 => (intro x9 h9; rcases List.mem_cons.mp h9 with e9 | h9; (subst e9; k_ne); cases h9)); (case cl => exact rfl); k_whole))
  | (k_dflt (refine' nestB (mid := [_, _]) ?F ?N ?T ?C ?cd ?tb ?o1 ?o2 ?hT ?cl ?_; (case F => k_asm); (case T => k_asm); (case cd => exact rfl); (case C => kn_code); (case tb => assumption); (case N => k_asm); (case o2 => assumption); (case hT => assumption); (case o1 => (intro x9 h9; rcases List.mem_cons.mp h9 with e9 | h9; (subst e9; k_ne); rcases List.mem_cons.mp h9 with e9 | h9; (subst e9; k_ne); cases h9)); (case cl => exact rfl); k_whole))); (intro f' c' oc' vs' t' ct' dc' h' tk' F' N' d1' d2' n3' l1; (simp only [List.cons_append, List.nil_append] at N' l1); (try k_lt l1)))
  k_with "execs cons" => (k_here; k_dflt (refine wpAny_execs_cons ?_); (try dsimp only))
  k_with "binaryOp LShift int int" => (k_here; k_dflt (refine shl_to (edge_in _ _).1 (edge_in _ _).2 (by decide) ?_))
  w_top off
  refine wpAny_call ?_
  k_dflt cell_enter
  k_steps
  all_goals first
    | exact hret _ _ _ _ (by assumption) (news_sub (by assumption) (by kst_inAny)) ⟨_, _, rfl, by first | exact bd_mod | exact bd_fmod, rfl⟩
    | (exfalso; omega)
end
section
open PySem PySem.W PySem.Spec PySem.Calls PyProof.Rows
/-- what is due at a place -/
def DueR (fix : Int → Int) (ks : List Int) (p : Nat) (led led' : List (Addr × Obj)) (v : Value) : Prop :=
  (∃ n q a t1 t2, scan ks p 10 0 0 = .ok n q ∧ v = .ref a ∧ led' = (a, tupObj [.int (fix n) t1, .int (q : Int) t2]) :: led ∧ (∀ x ∈ led, x.1 < a)) ∨
  (scan ks p 10 0 0 = .many ∧ led' = led ∧ ∃ t, v = .str (Str.ofString "many") t) ∨
  (scan ks p 10 0 0 = .index ∧ led' = led ∧ ∃ t, v = .str (Str.ofString "index") t)
abbrev DInv (ks : List Int) (p : Int) (pre : List Int) (n : Int) : Prop := 0 ≤ n ∧ pre.length ≤ 10 ∧ scan ks p.toNat 10 0 0 = scan ks p.toNat (10 - pre.length) pre.length n
def fixB (sg : Bool) (bits : Int) (n : Int) : Int := if sg = true ∧ 1 * 2 ^ (bits - 1).toNat ≤ n % (1 * 2 ^ bits.toNat) then n % (1 * 2 ^ bits.toNat) - 1 * 2 ^ bits.toNat else n % (1 * 2 ^ bits.toNat)
theorem pow_ne (k : Nat) : (1 : Int) * 2 ^ k ≠ 0 := by
  have := kbt_pos k
  omega
section
variable {ks : List Int} {p kN f : Int} {pre : List Int}
theorem due_step (hl : ks.length ≤ 1000) (hp : 0 ≤ p) (kEq : kN = 0 + ((pre.length : Nat) : Int)) (kLt : pre.length < ((10 : Int) - 0).toNat) (hin : ¬ ((ks.length : Nat) : Int) ≤ p + kN) (hf : 0 ≤ f) (lo : 0 ≤ ks.getD (p + kN).toNat 0) :
    0 ≤ f + (ks.getD (p + kN).toNat 0).fmod 128 * (1 * 2 ^ (7 * kN).toNat) ∧ (p + kN).toNat = p.toNat + pre.length ∧ f + (ks.getD (p + kN).toNat 0).fmod 128 * (1 * 2 ^ (7 * kN).toNat) = f + ks.getD (p.toNat + pre.length) 0 % 128 * 2 ^ (7 * pre.length) := by
  have e1 : (p + kN).toNat = p.toNat + pre.length := by omega
  have e2 : (7 * kN).toNat = 7 * pre.length := by omega
  rw [e1, e2, Int.one_mul, Int.fmod_eq_emod_of_nonneg _ (by decide)]
  refine ⟨?_, rfl, rfl⟩
  have h0 : 0 ≤ ks.getD (p.toNat + pre.length) 0 % 128 := Int.emod_nonneg _ (by decide)
  have := Int.mul_nonneg h0 (Int.le_of_lt (kbt_pos (7 * pre.length)))
  omega
theorem due_more (hl : ks.length ≤ 1000) (hp : 0 ≤ p) (kEq : kN = 0 + ((pre.length : Nat) : Int)) (kLt : pre.length < ((10 : Int) - 0).toNat) (hin : ¬ ((ks.length : Nat) : Int) ≤ p + kN) (hf : 0 ≤ f) (lo : 0 ≤ ks.getD (p + kN).toNat 0) (hc : ¬ ks.getD (p + kN).toNat 0 < 128)
    (hs : scan ks p.toNat 10 0 0 = scan ks p.toNat (10 - pre.length) pre.length f) : DInv ks p (pre ++ [kN]) (f + (ks.getD (p + kN).toNat 0).fmod 128 * (1 * 2 ^ (7 * kN).toNat)) := by
  obtain ⟨a1, a2, a3⟩ := due_step hl hp kEq kLt hin hf lo
  have kl : pre.length < 10 := kLt
  rw [a2] at hc
  refine ⟨a1, by rw [List.length_append, List.length_singleton]; omega, ?_⟩
  rw [a3, hs, List.length_append, List.length_singleton]
  have e : 10 - pre.length = (10 - (pre.length + 1)) + 1 := by omega
  rw [e, scan, if_neg (by omega), if_neg hc]
theorem due_ok (hs : scan ks p.toNat 10 0 0 = scan ks p.toNat (10 - pre.length) pre.length f) (hl : ks.length ≤ 1000) (hp : 0 ≤ p) (kEq : kN = 0 + ((pre.length : Nat) : Int)) (kLt : pre.length < ((10 : Int) - 0).toNat) (hin : ¬ ((ks.length : Nat) : Int) ≤ p + kN) (hf : 0 ≤ f) (lo : 0 ≤ ks.getD (p + kN).toNat 0) (hc : ks.getD (p + kN).toNat 0 < 128)  : scan ks p.toNat 10 0 0 = .ok (f + (ks.getD (p + kN).toNat 0).fmod 128 * (1 * 2 ^ (7 * kN).toNat)) (p + kN + 1).toNat := by
  obtain ⟨a1, a2, a3⟩ := due_step hl hp kEq kLt hin hf lo
  have kl : pre.length < 10 := kLt
  rw [a2] at hc
  have e : 10 - pre.length = (10 - (pre.length + 1)) + 1 := by omega
  have e2 : (p + kN + 1).toNat = p.toNat + pre.length + 1 := by omega
  rw [a3, hs, e, scan, if_neg (by omega), if_pos hc, e2]
theorem due_index (hp : 0 ≤ p) (kEq : kN = 0 + ((pre.length : Nat) : Int)) (kLt : pre.length < ((10 : Int) - 0).toNat) (hin : ((ks.length : Nat) : Int) ≤ p + kN)
    (hs : scan ks p.toNat 10 0 0 = scan ks p.toNat (10 - pre.length) pre.length f) : scan ks p.toNat 10 0 0 = .index := by
  have kl : pre.length < 10 := kLt
  have e : 10 - pre.length = (10 - (pre.length + 1)) + 1 := by omega
  rw [hs, e, scan, if_pos (by omega)]
theorem due_many (hs : scan ks p.toNat 10 0 0 = scan ks p.toNat (10 - (rangeKs 0 ((10 : Int) - 0).toNat).length) (rangeKs 0 ((10 : Int) - 0).toNat).length f) : scan ks p.toNat 10 0 0 = .many := by
  rw [hs]
  rfl
variable {fix : Int → Int} {led l : List (Addr × Obj)} {h₀ h' : Heap} {L : Addr} {m : Str → Option Value} {s : Shared} {Q : Value → Shared → Prop} {tk' : Nat} {D : Addr} {n q r : Int} {t1 t2 : Tok}
theorem due_ret (hret : ∀ v led' h' tk', Fr h₀ L h' m → News h₀ L h' led' → DueR fix ks p.toNat led led' v → Q v { s with heap := h', toks := tk' })
    (kF : Fr h₀ L h' m) (kN : News h₀ L h' l) (hD : (D, tupObj [.int r t1, .int q t2]) ∈ l) (hl : ∀ x ∈ led, x ∈ l) {own : List (Addr × Obj)} (hlt : ∀ x ∈ led ++ own, x.1 < D)
    (hs : scan ks p.toNat 10 0 0 = .ok n q.toNat) (hq : 0 ≤ q) (hr : r = fix n) : Q (.ref D) { s with heap := h', toks := tk' } := by
  refine hret _ ((D, tupObj [.int r t1, .int q t2]) :: led) _ _ kF (news_sub kN fun x hx => ?_) (.inl ⟨n, q.toNat, D, t1, t2, hs, rfl, ?_, fun x hx => hlt x (List.mem_append_left _ hx)⟩)
  · rcases List.mem_cons.mp hx with e | hx
    · exact e ▸ hD
    · exact hl x hx
  · rw [hr, Int.toNat_of_nonneg hq]
end
theorem fix_u {bits n : Int} : n.fmod (1 * 2 ^ bits.toNat) = fixB false bits n := by
  unfold fixB
  rw [if_neg (by simp), Int.fmod_eq_emod_of_nonneg _ (by have := kbt_pos bits.toNat; omega)]
theorem fix_s1 {bits n : Int} (h : 1 * 2 ^ (bits - 1).toNat ≤ n.fmod (1 * 2 ^ bits.toNat)) : n.fmod (1 * 2 ^ bits.toNat) - 1 * 2 ^ bits.toNat = fixB true bits n := by
  rw [Int.fmod_eq_emod_of_nonneg _ (by have := kbt_pos bits.toNat; omega)] at h ⊢
  unfold fixB
  rw [if_pos ⟨rfl, h⟩]
theorem fix_s0 {bits n : Int} (h : ¬ 1 * 2 ^ (bits - 1).toNat ≤ n.fmod (1 * 2 ^ bits.toNat)) : n.fmod (1 * 2 ^ bits.toNat) = fixB true bits n := by
  rw [Int.fmod_eq_emod_of_nonneg _ (by have := kbt_pos bits.toNat; omega)] at h ⊢
  unfold fixB
  rw [if_neg fun x => h x.2]
end
section
open PySem PySem.W PySem.Spec PySem.Calls PyProof.Rows
local macro_rules | `(tactic| walk_at "mine pad") => `(tactic| skip)
local macro_rules | `(tactic| walk_at "InvEndN") => `(tactic| k_dflt kst_close)
local macro_rules | `(tactic| walk_at "binaryOp Mod int int") => `(tactic| (k_here; (with_reducible refine mod_int' (pow_ne _) ?_)))
set_option maxHeartbeats 4000000 in
theorem c228u (w : World) (b : Array UInt8) (ks : List Int) (p bits : Int) (t u u1 : Tok) (led : List (Addr × Obj)) (hb : KBw.bInts b = ks) (hlen : ks.length ≤ 1000) (hp0 : 0 ≤ p) (hp1 : p ≤ ks.length) (hb0 : 1 ≤ bits) (hb1 : bits ≤ 64) :
  Ct w 228 [.bytes b t, .int p u, .int bits u1, .bool false] 2 led (DueR (fixB false bits) ks p.toNat led) (fun _ _ => False) := by
  unfold Ct
  intro loose mean mg mb dp un gd cn cs a ccd cl outer A₀ base h₀ L m s Q E BS B F N hk hd hu hret hX
  have X := BS.X.keeps B.stays
  have T := BS.T.keeps B.stays
  have hMk : KstMark := kstMark
  k_with_none
  k_with "loadName" => (k_here; k_dflt (refine' loadX_L ?k1 ?k2 ?_ ?a ?b; (case a => rfl); (case b => rfl); (case k1 => k_asm); (case k2 => exact rfl); k_whole))
  k_with "leaving ref" => (k_here; k_dflt (first
  | (refine' leaveX_new ?k1 ?k0 ?k2 ?k3 ?k4 ?k5 ?_; (case k0 => assumption); (case k2 => assumption); (case k1 => assumption); (case k3 => k_asm); (case k4 => exact rfl); (case k5 => exact rfl); k_whole; intro h' R' U'; (try dsimp only at R' U' ⊢))
  | (refine' leaveX_made ?k1 ?k0 ?k2 ?k3 ?k4 ?k5 ?_; (case k0 => first | assumption | exact Heap.MadeExc.of (by assumption)); (case k2 => assumption); (case k1 => assumption); (case k3 => k_asm); (case k4 => exact rfl); (case k5 => exact rfl); k_whole; intro h' R' U'; (try dsimp only at R' U' ⊢))
  | (refine' leaveX_on ?k1 ?k2 ?k3 ?k4 ?k5 ?_; (case k3 => assumption); (case k2 => assumption); (case k1 => assumption); (case k4 => assumption); (case k5 => exact rfl); k_whole; intro h' R' U'; (try dsimp only at R' U' ⊢))))
  k_with "subscriptTail Name Name bytes int" => (k_here; (with_reducible show wpAny _ _ (subscriptTail _ _ (Value.bytes _ _) (Value.int _ _)) _ _ _); (with_unfolding_all refine' item_or ?h0 (by kba_ints) ?h1 ?h2 ?h3 ?h4 ?h5 ?h6 ?h7; (case h0 => rfl); (case h1 => omega); (case h2 => omega); (case h3 => omega); (case h6 => with_unfolding_all rfl); (case h7 => (intro _; with_unfolding_all rfl)); k_whole); first | (intro hlt' t' tk' h0' h1') | (intro hge' h' tk' e' x'))
  k_with "exec Raise some none" => (k_here; k_dflt (refine' RaiseX_own ?F ?X ?T ?e ?q PySem.F.excBase_Exception ?h ?_ ?a ?b ?c ?d ?g; (case F => k_asm); (case X => k_asm); (case T => k_asm); (case e => k_is); (case q => k_exc); (case h => first | rfl | assumption); (case a => rfl); (case b => rfl); (case c => rfl); (case d => rfl); (case g => decide); k_whole))
  k_with "binaryOp BitAnd int int" => (first | (refine and_to (bitAnd_m7 _) ?_) | (refine and_to (band128 _) ?_) | (refine and_to (bitAnd_m3 _) ?_) | (refine and_to (bitAnd_m1 _) ?_))
  k_with "inplaceOp BitAnd int int" => (first | (refine iand_to (band64 _) ?_) | (refine iand_to (bitAnd_m32 _) ?_))
  k_with "binaryOp LShift int int" => ((refine shl_to ?_ ?_ ?_ ?_); (focus omega); (focus omega); (focus omega))
  k_with "exec FunctionDef" => (k_here; (rename (_ = _ ++ _) => hr9; subst hr9); k_dflt (refine' nestDef_K ?d0 ?k0 ?a0 ?_; (case d0 => exact rfl); (case k0 => exact rfl); (case a0 => exact rfl)); (first
  | (k_dflt (refine' nestB (mid := [_]) ?F ?N ?T ?C ?cd ?tb ?o1 ?o2 ?hT ?cl ?_; (case F => k_asm); (case T => k_asm); (case cd => exact rfl); (case C => kn_code); (case tb => assumption); (case N => k_asm); (case o2 => assumption); (case hT => assumption); (case o1 => (intro x9 h9; rcases List.mem_cons.mp h9 with e9 | h9; (subst e9; k_ne); cases h9)); (case cl => exact rfl); k_whole))
  | (k_dflt (refine' nestB (mid := [_, _]) ?F ?N ?T ?C ?cd ?tb ?o1 ?o2 ?hT ?cl ?_; (case F => k_asm); (case T => k_asm); (case cd => exact rfl); (case C => kn_code); (case tb => assumption); (case N => k_asm); (case o2 => assumption); (case hT => assumption); (case o1 => (intro x9 h9; rcases List.mem_cons.mp h9 with e9 | h9; (subst e9; k_ne); rcases List.mem_cons.mp h9 with e9 | h9; (subst e9; k_ne); cases h9)); (case cl => exact rfl); k_whole))); (intro f' c' oc' vs' t' ct' dc' h' tk' F' N' d1' d2' n3' l1; (simp only [List.cons_append, List.nil_append] at N' l1); (try k_lt l1)))
  w_top off
  k_with "pyIter ref" => k_state (fun pre number => DInv ks p pre number) "number"
  k_with "state" => first
    | exact ⟨by decide, by decide, rfl⟩
    | exact due_more (by assumption) hp0 (by assumption) (by assumption) (by assumption) (by assumption) (by assumption) (by assumption) (by assumption)
  refine wpAny_call ?_
  k_dflt cell_enter
  k_steps
  all_goals first
    | exact due_ret hret (by assumption) (by assumption) (by k_mem) (by kst_inAny) (by assumption) (due_ok (by assumption) (by assumption) hp0 (by assumption) (by assumption) (by assumption) (by assumption) (by assumption) (by assumption)) (by omega) (by first | exact fix_u | exact fix_s1 (by assumption) | exact fix_s0 (by assumption))
    | exact hret _ _ _ _ (by assumption) (news_sub (by assumption) (by kst_inAny)) (.inr (.inr ⟨due_index hp0 (by assumption) (by assumption) (by assumption) (by assumption), rfl, _, rfl⟩))
    | exact hret _ _ _ _ (by assumption) (news_sub (by assumption) (by kst_inAny)) (.inr (.inl ⟨due_many (by assumption), rfl, _, rfl⟩))
    | (exfalso; omega)
set_option maxHeartbeats 4000000 in
theorem c228s (w : World) (b : Array UInt8) (ks : List Int) (p bits : Int) (t u u1 : Tok) (led : List (Addr × Obj)) (hb : KBw.bInts b = ks) (hlen : ks.length ≤ 1000) (hp0 : 0 ≤ p) (hp1 : p ≤ ks.length) (hb0 : 1 ≤ bits) (hb1 : bits ≤ 64) :
  Ct w 228 [.bytes b t, .int p u, .int bits u1, .bool true] 2 led (DueR (fixB true bits) ks p.toNat led) (fun _ _ => False) := by
  unfold Ct
  intro loose mean mg mb dp un gd cn cs a ccd cl outer A₀ base h₀ L m s Q E BS B F N hk hd hu hret hX
  have X := BS.X.keeps B.stays
  have T := BS.T.keeps B.stays
  have hMk : KstMark := kstMark
  k_with_none
  k_with "loadName" => (k_here; k_dflt (refine' loadX_L ?k1 ?k2 ?_ ?a ?b; (case a => rfl); (case b => rfl); (case k1 => k_asm); (case k2 => exact rfl); k_whole))
  k_with "leaving ref" => (k_here; k_dflt (first
  | (refine' leaveX_new ?k1 ?k0 ?k2 ?k3 ?k4 ?k5 ?_; (case k0 => assumption); (case k2 => assumption); (case k1 => assumption); (case k3 => k_asm); (case k4 => exact rfl); (case k5 => exact rfl); k_whole; intro h' R' U'; (try dsimp only at R' U' ⊢))
  | (refine' leaveX_made ?k1 ?k0 ?k2 ?k3 ?k4 ?k5 ?_; (case k0 => first | assumption | exact Heap.MadeExc.of (by assumption)); (case k2 => assumption); (case k1 => assumption); (case k3 => k_asm); (case k4 => exact rfl); (case k5 => exact rfl); k_whole; intro h' R' U'; (try dsimp only at R' U' ⊢))
  | (refine' leaveX_on ?k1 ?k2 ?k3 ?k4 ?k5 ?_; (case k3 => assumption); (case k2 => assumption); (case k1 => assumption); (case k4 => assumption); (case k5 => exact rfl); k_whole; intro h' R' U'; (try dsimp only at R' U' ⊢))))
  k_with "subscriptTail Name Name bytes int" => (k_here; (with_reducible show wpAny _ _ (subscriptTail _ _ (Value.bytes _ _) (Value.int _ _)) _ _ _); (with_unfolding_all refine' item_or ?h0 (by kba_ints) ?h1 ?h2 ?h3 ?h4 ?h5 ?h6 ?h7; (case h0 => rfl); (case h1 => omega); (case h2 => omega); (case h3 => omega); (case h6 => with_unfolding_all rfl); (case h7 => (intro _; with_unfolding_all rfl)); k_whole); first | (intro hlt' t' tk' h0' h1') | (intro hge' h' tk' e' x'))
  k_with "exec Raise some none" => (k_here; k_dflt (refine' RaiseX_own ?F ?X ?T ?e ?q PySem.F.excBase_Exception ?h ?_ ?a ?b ?c ?d ?g; (case F => k_asm); (case X => k_asm); (case T => k_asm); (case e => k_is); (case q => k_exc); (case h => first | rfl | assumption); (case a => rfl); (case b => rfl); (case c => rfl); (case d => rfl); (case g => decide); k_whole))
  k_with "binaryOp BitAnd int int" => (first | (refine and_to (bitAnd_m7 _) ?_) | (refine and_to (band128 _) ?_) | (refine and_to (bitAnd_m3 _) ?_) | (refine and_to (bitAnd_m1 _) ?_))
  k_with "inplaceOp BitAnd int int" => (first | (refine iand_to (band64 _) ?_) | (refine iand_to (bitAnd_m32 _) ?_))
  k_with "binaryOp LShift int int" => ((refine shl_to ?_ ?_ ?_ ?_); (focus omega); (focus omega); (focus omega))
  k_with "exec FunctionDef" => (k_here; (rename (_ = _ ++ _) => hr9; subst hr9); k_dflt (refine' nestDef_K ?d0 ?k0 ?a0 ?_; (case d0 => exact rfl); (case k0 => exact rfl); (case a0 => exact rfl)); (first
  | (k_dflt (refine' nestB (mid := [_]) ?F ?N ?T ?C ?cd ?tb ?o1 ?o2 ?hT ?cl ?_; (case F => k_asm); (case T => k_asm); (case cd => exact rfl); (case C => kn_code); (case tb => assumption); (case N => k_asm); (case o2 => assumption); (case hT => assumption); (case o1 => (intro x9 h9; rcases List.mem_cons.mp h9 with e9 | h9; (subst e9; k_ne); cases h9)); (case cl => exact rfl); k_whole))
  | (k_dflt (refine' nestB (mid := [_, _]) ?F ?N ?T ?C ?cd ?tb ?o1 ?o2 ?hT ?cl ?_; (case F => k_asm); (case T => k_asm); (case cd => exact rfl); (case C => kn_code); (case tb => assumption); (case N => k_asm); (case o2 => assumption); (case hT => assumption); (case o1 => (intro x9 h9; rcases List.mem_cons.mp h9 with e9 | h9; (subst e9; k_ne); rcases List.mem_cons.mp h9 with e9 | h9; (subst e9; k_ne); cases h9)); (case cl => exact rfl); k_whole))); (intro f' c' oc' vs' t' ct' dc' h' tk' F' N' d1' d2' n3' l1; (simp only [List.cons_append, List.nil_append] at N' l1); (try k_lt l1)))
  w_top off
  k_with "pyIter ref" => k_state (fun pre number => DInv ks p pre number) "number"
  k_with "state" => first
    | exact ⟨by decide, by decide, rfl⟩
    | exact due_more (by assumption) hp0 (by assumption) (by assumption) (by assumption) (by assumption) (by assumption) (by assumption) (by assumption)
  refine wpAny_call ?_
  k_dflt cell_enter
  k_steps
  all_goals first
    | exact due_ret hret (by assumption) (by assumption) (by k_mem) (by kst_inAny) (by assumption) (due_ok (by assumption) (by assumption) hp0 (by assumption) (by assumption) (by assumption) (by assumption) (by assumption) (by assumption)) (by omega) (by first | exact fix_u | exact fix_s1 (by assumption) | exact fix_s0 (by assumption))
    | exact hret _ _ _ _ (by assumption) (news_sub (by assumption) (by kst_inAny)) (.inr (.inr ⟨due_index hp0 (by assumption) (by assumption) (by assumption) (by assumption), rfl, _, rfl⟩))
    | exact hret _ _ _ _ (by assumption) (news_sub (by assumption) (by kst_inAny)) (.inr (.inl ⟨due_many (by assumption), rfl, _, rfl⟩))
    | (exfalso; omega)
end
section
open PySem PySem.W PySem.Spec PySem.Calls PyProof.Rows
abbrev TInv (ks : List Int) (p : Int) (pre : List Int) : Prop := p.toNat + pre.length ≤ ks.length ∧ tagEnd ks p.toNat = tagEnd ks (p.toNat + pre.length)
theorem tinv_start {ks : List Int} {p : Int} (h0 : 0 ≤ p) (h1 : p ≤ ks.length) : TInv ks p [] := ⟨by simp; omega, rfl⟩
theorem tinv_more {ks : List Int} {p k : Int} {pre : List Int} (H : TInv ks p pre) (h0 : 0 ≤ p) (e : k = p + ((pre.length : Nat) : Int)) (hl : pre.length < (((ks.length : Nat) : Int) - p).toNat) (hc : ¬ ks.getD k.toNat 0 < 128) : TInv ks p (pre ++ [k]) := by
  have e1 : k.toNat = p.toNat + pre.length := by omega
  rw [e1] at hc
  refine ⟨by rw [List.length_append, List.length_singleton]; omega, ?_⟩
  rw [List.length_append, List.length_singleton, H.2, tagEnd_on (by omega) hc]
  rfl
section
variable {led l own : List (Addr × Obj)} {ks : List Int} {h₀ h' : Heap} {L : Addr} {m : Str → Option Value} {s : Shared} {Q E : Value → Shared → Prop} {tk' : Nat} {D : Addr} {p k r : Int} {t1 t2 : Tok} {b' : Array UInt8} {pre : List Int}
theorem tagL_ret (hret : ∀ v led' h' tk', Fr h₀ L h' m → News h₀ L h' led' → TagL ks p.toNat led led' v → Q v { s with heap := h', toks := tk' })
    (kF : Fr h₀ L h' m) (kN : News h₀ L h' l) (hD : (D, tupObj [.bytes b' t1, .int r t2]) ∈ l) (hl : ∀ x ∈ led, x ∈ l) (hlt : ∀ x ∈ led ++ own, x.1 < D)
    (H : TInv ks p pre) (h0 : 0 ≤ p) (e : k = p + ((pre.length : Nat) : Int)) (hn : pre.length < (((ks.length : Nat) : Int) - p).toNat) (hc : ks.getD k.toNat 0 < 128)
    (hk : KBw.bInts b' = List.take (clipAt ks.length (k + 1) - clipAt ks.length p) (List.drop (clipAt ks.length p) ks)) (hr : r = k + 1) : Q (.ref D) { s with heap := h', toks := tk' } := by
  refine hret _ ((D, tupObj [.bytes b' t1, .int r t2]) :: led) _ _ kF (news_sub kN fun x hx => ?_) (.inl ⟨D, b', k.toNat, t1, t2, ?_, rfl, by rw [hk, clip_cut h0 (by omega) (by omega)], ?_, fun x hx => hlt x (List.mem_append_left _ hx)⟩)
  · rcases List.mem_cons.mp hx with e | hx
    · exact e ▸ hD
    · exact hl x hx
  · have e1 : k.toNat = p.toNat + pre.length := by omega
    rw [e1] at hc
    rw [H.2, tagEnd_hit (by omega) hc, e1]
  · have e2 : ((k.toNat + 1 : Nat) : Int) = r := by omega
    rw [e2]
end
theorem tinv_end {ks : List Int} {p : Int} (H : TInv ks p (rangeKs p (((ks.length : Nat) : Int) - p).toNat)) (h0 : 0 ≤ p) (h1 : p ≤ ks.length) : tagEnd ks p.toNat = none := by
  rw [H.2, rangeKs_length]
  exact tagEnd_out (by omega)
theorem kst_same0 {x : Str} {v : Option Value} {u m₀ : Str → Option Value} : ∀ z, z ≠ x → (∀ p ∈ ([] : List (Str × Value)), z ≠ p.1) → ([] : List Str).contains z = false → (if z = x then v else kstB (fun z => if ([] : List Str).contains z then u z else m₀ z) [] z) = m₀ z := by
  intro z h1 _ _
  rw [if_neg h1]
  simp [kstB]
section
variable {prog : Program} {w : World} {A : Around} {E : Value → Shared → Prop} {Q : Flow → Shared → Prop} {s : Shared} {env : Env} {h₀ : Heap} {x : Str} {body : List Stmt}
theorem rg0 {r : Addr} {a₀ b₀ : Int} {t₀ u₀ v₀ : Tok} {n : Nat} {m₀ : Str → Option Value} {led : List (Addr × Obj)} (P : List Int → Prop)
    (hh : A.handled = none) (hr : IsRange s.heap r a₀ b₀ 1 t₀ u₀ v₀) (hsmall : Builtin.Range.small a₀ b₀ 1 = true) (hn : Builtin.Range.rangeSize a₀ b₀ 1 = (n : Int)) (F : Fr h₀ env.locals s.heap m₀) (N : News h₀ env.locals s.heap led) (hp : P [])
    (turn : ∀ (pre : List Int) (k : Int) t (u : Str → Option Value) h tk own, k = a₀ + (pre.length : Int) → pre.length < n → OwnOff own (led.map (·.1)) → P pre →
      Fr h₀ env.locals h (fun y => if y = x then some (.int k t) else kstB (fun z => if ([] : List Str).contains z then u z else m₀ z) [] y) → News h₀ env.locals h (led ++ own) →
      wpAny (model prog w) A (execs body env) (InvPostN h₀ env.locals (KstS (fun _ : Unit => led) (fun _ => []) (fun _ => True) x [] m₀ (fun p _ => P p) (pre ++ [k])) own (led.map (·.1)) { s with heap := h, toks := tk } Q) E { s with heap := h, toks := tk })
    (done : ∀ (u : Str → Option Value) h tk, P (rangeKs a₀ n) → Fr h₀ env.locals h (fun y => if y = x then u y else kstB (fun z => if ([] : List Str).contains z then u z else m₀ z) [] y) → News h₀ env.locals h led → Q .next { s with heap := h, toks := tk }) :
    wpAny (model prog w) A (pyIter (.ref r)) (fun it s₂ => LoopAtV prog w A h₀ env x body Q E it s₂) E s :=
  kst_range (σ := Unit) (fun _ => led) (fun _ => []) (fun _ => True) [] (fun p _ => P p) () hh hr hsmall hn F N trivial (fun _ hp => by cases hp) hp
    (fun _ pre k t u h tk own e1 e2 e3 _ e4 e5 e6 => turn pre k t u h tk own e1 e2 e3 e4 e5 e6) (fun _ u h tk _ e1 e2 e3 => done u h tk e1 e2 e3)
end
end
section
open PySem PySem.W PySem.Spec PySem.Calls PyProof.Rows
local macro_rules | `(tactic| walk_at "InvEndN") => `(tactic| k_extra "InvEndN")
set_option maxHeartbeats 4000000 in
theorem c242 (w : World) (b : Array UInt8) (ks : List Int) (p : Int) (t u : Tok) (led : List (Addr × Obj)) (hb : KBw.bInts b = ks) (hlen : ks.length ≤ 1000) (hp0 : 0 ≤ p) (hp1 : p ≤ ks.length) :
  Ct w 242 [.bytes b t, .int p u] 2 led (TagL ks p.toNat led) (fun _ _ => False) := by
  unfold Ct
  intro loose mean mg mb dp un gd cn cs a ccd cl outer A₀ base h₀ L m s Q E BS B F N hk hd hu hret hX
  have X := BS.X.keeps B.stays
  have T := BS.T.keeps B.stays
  have hMk : KstMark := kstMark
  k_with_none
  k_with "loadName" => (k_here; k_dflt (refine' loadX_L ?k1 ?k2 ?_ ?a ?b; (case a => rfl); (case b => rfl); (case k1 => k_asm); (case k2 => exact rfl); k_whole))
  k_with "leaving ref" => (k_here; k_dflt (first
  | (refine' leaveX_new ?k1 ?k0 ?k2 ?k3 ?k4 ?k5 ?_; (case k0 => assumption); (case k2 => assumption); (case k1 => assumption); (case k3 => k_asm); (case k4 => exact rfl); (case k5 => exact rfl); k_whole; intro h' R' U'; (try dsimp only at R' U' ⊢))
  | (refine' leaveX_made ?k1 ?k0 ?k2 ?k3 ?k4 ?k5 ?_; (case k0 => first | assumption | exact Heap.MadeExc.of (by assumption)); (case k2 => assumption); (case k1 => assumption); (case k3 => k_asm); (case k4 => exact rfl); (case k5 => exact rfl); k_whole; intro h' R' U'; (try dsimp only at R' U' ⊢))
  | (refine' leaveX_on ?k1 ?k2 ?k3 ?k4 ?k5 ?_; (case k3 => assumption); (case k2 => assumption); (case k1 => assumption); (case k4 => assumption); (case k5 => exact rfl); k_whole; intro h' R' U'; (try dsimp only at R' U' ⊢))))
  k_with "subscriptTail Name Name bytes int" => (k_here; (with_reducible show wpAny _ _ (subscriptTail _ _ (Value.bytes _ _) (Value.int _ _)) _ _ _); (with_unfolding_all refine' item_or ?h0 (by kba_ints) ?h1 ?h2 ?h3 ?h4 ?h5 ?h6 ?h7; (case h0 => rfl); (case h1 => omega); (case h2 => omega); (case h3 => omega); (case h6 => with_unfolding_all rfl); (case h7 => (intro _; with_unfolding_all rfl)); k_whole); first | (intro hlt' t' tk' h0' h1') | (intro hge' h' tk' e' x'))
  k_with "exec Raise some none" => (k_here; k_dflt (refine' RaiseX_own ?F ?X ?T ?e ?q PySem.F.excBase_Exception ?h ?_ ?a ?b ?c ?d ?g; (case F => k_asm); (case X => k_asm); (case T => k_asm); (case e => k_is); (case q => k_exc); (case h => first | rfl | assumption); (case a => rfl); (case b => rfl); (case c => rfl); (case d => rfl); (case g => decide); k_whole))
  k_with "binaryOp BitAnd int int" => (first | (refine and_to (bitAnd_m7 _) ?_) | (refine and_to (band128 _) ?_) | (refine and_to (bitAnd_m3 _) ?_) | (refine and_to (bitAnd_m1 _) ?_))
  k_with "inplaceOp BitAnd int int" => (first | (refine iand_to (band64 _) ?_) | (refine iand_to (bitAnd_m32 _) ?_))
  k_with "binaryOp LShift int int" => ((refine shl_to ?_ ?_ ?_ ?_); (focus omega); (focus omega); (focus omega))
  k_with "exec FunctionDef" => (k_here; (rename (_ = _ ++ _) => hr9; subst hr9); k_dflt (refine' nestDef_K ?d0 ?k0 ?a0 ?_; (case d0 => exact rfl); (case k0 => exact rfl); (case a0 => exact rfl)); (first
  | (k_dflt (refine' nestB (mid := [_]) ?F ?N ?T ?C ?cd ?tb ?o1 ?o2 ?hT ?cl ?_; (case F => k_asm); (case T => k_asm); (case cd => exact rfl); (case C => kn_code); (case tb => assumption); (case N => k_asm); (case o2 => assumption); (case hT => assumption); (case o1 => (intro x9 h9; rcases List.mem_cons.mp h9 with e9 | h9; (subst e9; k_ne); cases h9)); (case cl => exact rfl); k_whole))
  | (k_dflt (refine' nestB (mid := [_, _]) ?F ?N ?T ?C ?cd ?tb ?o1 ?o2 ?hT ?cl ?_; (case F => k_asm); (case T => k_asm); (case cd => exact rfl); (case C => kn_code); (case tb => assumption); (case N => k_asm); (case o2 => assumption); (case hT => assumption); (case o1 => (intro x9 h9; rcases List.mem_cons.mp h9 with e9 | h9; (subst e9; k_ne); rcases List.mem_cons.mp h9 with e9 | h9; (subst e9; k_ne); cases h9)); (case cl => exact rfl); k_whole))); (intro f' c' oc' vs' t' ct' dc' h' tk' F' N' d1' d2' n3' l1; (simp only [List.cons_append, List.nil_append] at N' l1); (try k_lt l1)))
  w_top off
  k_with "pyIter ref" => ((rename Fr _ _ _ _ => lF'); (rename News _ _ _ _ => lN'); (rename IsRange _ _ _ _ _ _ _ _ => rgX); (with_unfolding_all refine' rg0 (fun pre => TInv ks p pre) (by rfl) (by first | exact rgX | assumption) (by exact small_one (by omega) (by omega) (by omega) (by omega)) (by first | exact rangeSize_nat _ _ | rfl) lF' lN' (by exact tinv_start hp0 hp1) ?_ ?_); (focus intro kPre kN kT kU kH kTk kOwn kEq kLt kOff kInv kFr kNews); (rotate_left); (focus intro kU kH kTk kInv kFr kNews); (rotate_right); (all_goals (try clear lF' lN')))
  k_with "InvEndN" => ((rename News _ _ _ _ => nE9); (refine kst_end () (by assumption) nE9 (by first | kst_in | kst_inAny) (by first | (intro p hp; kst_mem) | kst_anyIn) (by rfl) trivial (fun _ hp => by cases hp) (by exact kst_same0) (by kst_p)))
  k_with "state" => first
    | exact tinv_more (by assumption) hp0 (by assumption) (by assumption) (by assumption)
  refine wpAny_call ?_
  k_dflt cell_enter
  k_steps
  all_goals first
    | exact tagL_ret hret (by assumption) (by assumption) (by k_mem) (by kst_inAny) (by assumption) (by assumption) hp0 (by assumption) (by assumption) (by assumption) (by assumption) rfl
    | exact hret _ _ _ _ (by assumption) (news_sub (by assumption) (by kst_inAny)) (.inr ⟨tinv_end (by assumption) hp0 hp1, rfl, _, rfl⟩)
    | (exfalso; omega)
end
section
open PySem PySem.W PySem.Spec PySem.Calls PyProof.Rows
/-- the octets: at most fourteen -/
def OctR (led led' : List (Addr × Obj)) (v : Value) : Prop := ∃ b t, v = .bytes b t ∧ (KBw.bInts b).length ≤ 14 ∧ led' = led
/-- the contract of _law_octets -/
def Ct214 (w : World) : Prop :=
  ∀ (loose : List Str) (mean : ExcName → Option Value) (mg mb : Str → Option Value) (dp un : Nat) (gd : Option (List Code)) (cn : Str) (cs : Scope) (a : Addr) (ccd : Value) (cl : List (Str × Addr)) (outer : List Env) (A₀ : Around) (base h₀ : Heap) (L : Addr) (m : Str → Option Value) (s : Shared) (Q E : Value → Shared → Prop) (l : Addr) (vs : List Value) (ns : List Int) (led : List (Addr × Obj)),
    Bs w loose mean mg mb base → Below A₀ base outer h₀ → Fr h₀ L s.heap m → News h₀ L s.heap led → cs.kind = .function → dp + 3 < recursionLimit → un + 8 * 3 < cLine →
    base.IsList l vs.toArray → IntsAre vs ns → ns.length ≤ 63 →
    (∀ v led' h' tk', Fr h₀ L h' m → News h₀ L h' led' → OctR led led' v → Q v { s with heap := h', toks := tk' }) →
    wpAny (model PySem.Challenge.rw_jd0021_01.row.prog w) (ktrTop dp un gd cn cs L a ccd cl outer) (call (.ref 214) [.ref l]) Q E s
abbrev OInv (n : Nat) (row : List Int) : Prop := KBa.In row ∧ row.length ≤ 12 * n
theorem oinv_nil : OInv 0 [] := ⟨fun _ h => (by cases h), by simp⟩
theorem in_snoc {row : List Int} {x : Int} (H : KBa.In row) (h0 : 0 ≤ x) (h1 : x < 256) : KBa.In (row ++ [x]) := fun k hk => by
  rcases List.mem_append.mp hk with hk | hk
  · exact H k hk
  · rw [List.mem_singleton.mp hk]; exact ⟨h0, h1⟩
theorem oinv_one {pre row : List Int} {k x : Int} (hi : KBa.In row) (hl : row.length ≤ 12 * pre.length) (h0 : 0 ≤ x) (h1 : x < 256) : OInv (pre ++ [k]).length (row ++ [x]) :=
  ⟨in_snoc hi h0 h1, by rw [List.length_append, List.length_singleton, List.length_append, List.length_singleton]; omega⟩
theorem abs_lo {k : Int} : 0 ≤ (if k < 0 then -k else k) := by split <;> omega
theorem tab_in {m : Int} {j : Nat} : 0 ≤ [m.fmod 256, 128 + m.fmod 128, m.fmod 128, [128, 255, 0, 127].getD (m.fmod 4).toNat 0].getD j 0 ∧ [m.fmod 256, 128 + m.fmod 128, m.fmod 128, [128, 255, 0, 127].getD (m.fmod 4).toNat 0].getD j 0 < 256 := by
  have a0 : 0 ≤ m.fmod 256 := Int.fmod_nonneg_of_pos _ (by decide)
  have a1 : m.fmod 256 < 256 := Int.fmod_lt_of_pos _ (by decide)
  have b0 : 0 ≤ m.fmod 128 := Int.fmod_nonneg_of_pos _ (by decide)
  have b1 : m.fmod 128 < 128 := Int.fmod_lt_of_pos _ (by decide)
  have c : ∀ i : Nat, 0 ≤ [(128 : Int), 255, 0, 127].getD i 0 ∧ [(128 : Int), 255, 0, 127].getD i 0 < 256 := by
    intro i
    rcases i with _ | _ | _ | _ | i
    · exact ⟨show (0 : Int) ≤ 128 by decide, show (128 : Int) < 256 by decide⟩
    · exact ⟨show (0 : Int) ≤ 255 by decide, show (255 : Int) < 256 by decide⟩
    · exact ⟨show (0 : Int) ≤ 0 by decide, show (0 : Int) < 256 by decide⟩
    · exact ⟨show (0 : Int) ≤ 127 by decide, show (127 : Int) < 256 by decide⟩
    · exact ⟨by simp, by simp⟩
  rcases j with _ | _ | _ | _ | j
  · exact ⟨a0, a1⟩
  · exact ⟨show 0 ≤ 128 + m.fmod 128 by omega, show 128 + m.fmod 128 < 256 by omega⟩
  · exact ⟨b0, show m.fmod 128 < 256 by omega⟩
  · exact c _
  · exact ⟨by simp, by simp⟩
abbrev NInv (n : Nat) (pre row : List Int) (left : Int) : Prop := (KBa.In row ∧ row.length ≤ 12 * n + pre.length) ∧ 0 ≤ left
theorem ninv_start {n : Nat} {row : List Int} {k : Int} (hi : KBa.In row) (hl : row.length ≤ 12 * n) : NInv n [] row (if k < 0 then -k else k) := ⟨⟨hi, by simpa using hl⟩, abs_lo⟩
theorem ninv_more {n : Nat} {pre row : List Int} {left k : Int} (hi : KBa.In row) (hl : row.length ≤ 12 * n + pre.length) (h0 : 0 ≤ left) : NInv n (pre ++ [k]) (row ++ [left.fmod 256]) (left.fdiv 256) := by
  refine ⟨⟨in_snoc hi (Int.fmod_nonneg_of_pos _ (by decide)) (Int.fmod_lt_of_pos _ (by decide)), by rw [List.length_append, List.length_singleton, List.length_append, List.length_singleton]; omega⟩, ?_⟩
  rw [Int.fdiv_eq_ediv_of_nonneg _ (by decide : (0 : Int) ≤ 256)]; omega
theorem ninv_end {pre row : List Int} {k : Int} (hi : KBa.In row) (hl : row.length ≤ 12 * pre.length + (rangeKs 0 ((12 : Int) - 0).toNat).length) : OInv (pre ++ [k]).length row := by
  refine ⟨hi, ?_⟩
  have e : (rangeKs 0 ((12 : Int) - 0).toNat).length = 12 := rfl
  rw [e] at hl
  rw [List.length_append, List.length_singleton]
  omega
section
variable {prog : Program} {w : World} {A : Around} {E : Value → Shared → Prop} {s : Shared} {h₀ : Heap} {L D : Addr} {m : PySem.Str → Option Value} {led : List (Addr × Obj)} {ws : List Value} {ns : List Int} {k : Nat}
theorem bytes_cut {Q : Value → Shared → Prop} (F : Fr h₀ L s.heap m) (N : News h₀ L s.heap ((D, W.listOf ws.toArray k) :: led)) (hh : A.handled = none) (hi : IntsAre ws (List.take 14 ns)) (hr : KBa.In ns)
    (h : ∀ h' t' k', Fr h₀ L h' m → News h₀ L h' led → (KBw.bInts (byteArr (List.take 14 ns))).length ≤ 14 → Q (.bytes (byteArr (List.take 14 ns)) t') { s with heap := h', toks := k' }) : wpAny (model prog w) A (call (.type "bytes") [.ref D]) Q E s := by
  have hl : s.heap.IsList D ws.toArray := ⟨_, (N _ (.head _)).1, rfl, k, rfl⟩
  have hr' : KBa.In (List.take 14 ns) := fun x hx => hr x (List.mem_of_mem_take hx)
  have h14 : (List.take 14 ns).length ≤ 14 := by rw [List.length_take]; omega
  exact KBa.make_K F N hh hl hi hr' (by omega) fun h' t' k' F' N' _ => h h' t' k' F' (news_sub N' fun _ hx => .tail _ hx) (by rw [KBa.ints_make hr']; exact h14)
end
end
section
open PySem PySem.W PySem.Spec PySem.Calls PyProof.Rows
local macro_rules | `(tactic| walk_at "InvEndN") => `(tactic| k_dflt kst_close)
local macro_rules | `(tactic| walk_at "call type:bytes") => `(tactic| k_extra "call type:bytes")
set_option maxHeartbeats 4000000 in
theorem c214 (w : World) : Ct214 w := by
  unfold Ct214
  intro loose mean mg mb dp un gd cn cs a ccd cl outer A₀ base h₀ L m s Q E l vs ns led BS B F N hk hd hu hls hi hlen hret
  have X := BS.X.keeps B.stays
  have T := BS.T.keeps B.stays
  have hMk : KstMark := kstMark
  have hnil : IntsAre ([] : List Value) [] := .nil
  k_with_none
  k_with "loadName" => (k_here; k_dflt (refine' loadX_L ?k1 ?k2 ?_ ?a ?b; (case a => rfl); (case b => rfl); (case k1 => k_asm); (case k2 => exact rfl); k_whole))
  k_with "leaving ref" => (k_here; k_dflt (first
  | (refine' leaveX_new ?k1 ?k0 ?k2 ?k3 ?k4 ?k5 ?_; (case k0 => assumption); (case k2 => assumption); (case k1 => assumption); (case k3 => k_asm); (case k4 => exact rfl); (case k5 => exact rfl); k_whole; intro h' R' U'; (try dsimp only at R' U' ⊢))
  | (refine' leaveX_made ?k1 ?k0 ?k2 ?k3 ?k4 ?k5 ?_; (case k0 => first | assumption | exact Heap.MadeExc.of (by assumption)); (case k2 => assumption); (case k1 => assumption); (case k3 => k_asm); (case k4 => exact rfl); (case k5 => exact rfl); k_whole; intro h' R' U'; (try dsimp only at R' U' ⊢))
  | (refine' leaveX_on ?k1 ?k2 ?k3 ?k4 ?k5 ?_; (case k3 => assumption); (case k2 => assumption); (case k1 => assumption); (case k4 => assumption); (case k5 => exact rfl); k_whole; intro h' R' U'; (try dsimp only at R' U' ⊢))))
  k_with "subscriptTail Name Name bytes int" => (k_here; (with_reducible show wpAny _ _ (subscriptTail _ _ (Value.bytes _ _) (Value.int _ _)) _ _ _); (with_unfolding_all refine' item_or ?h0 (by kba_ints) ?h1 ?h2 ?h3 ?h4 ?h5 ?h6 ?h7; (case h0 => rfl); (case h1 => omega); (case h2 => omega); (case h3 => omega); (case h6 => with_unfolding_all rfl); (case h7 => (intro _; with_unfolding_all rfl)); k_whole); first | (intro hlt' t' tk' h0' h1') | (intro hge' h' tk' e' x'))
  k_with "exec Raise some none" => (k_here; k_dflt (refine' RaiseX_own ?F ?X ?T ?e ?q PySem.F.excBase_Exception ?h ?_ ?a ?b ?c ?d ?g; (case F => k_asm); (case X => k_asm); (case T => k_asm); (case e => k_is); (case q => k_exc); (case h => first | rfl | assumption); (case a => rfl); (case b => rfl); (case c => rfl); (case d => rfl); (case g => decide); k_whole))
  k_with "binaryOp BitAnd int int" => (first | (refine and_to (bitAnd_m7 _) ?_) | (refine and_to (band128 _) ?_) | (refine and_to (bitAnd_m3 _) ?_) | (refine and_to (bitAnd_m1 _) ?_))
  k_with "inplaceOp BitAnd int int" => (first | (refine iand_to (band64 _) ?_) | (refine iand_to (bitAnd_m32 _) ?_))
  k_with "binaryOp LShift int int" => ((refine shl_to ?_ ?_ ?_ ?_); (focus omega); (focus omega); (focus omega))
  k_with "exec FunctionDef" => (k_here; (rename (_ = _ ++ _) => hr9; subst hr9); k_dflt (refine' nestDef_K ?d0 ?k0 ?a0 ?_; (case d0 => exact rfl); (case k0 => exact rfl); (case a0 => exact rfl)); (first
  | (k_dflt (refine' nestB (mid := [_]) ?F ?N ?T ?C ?cd ?tb ?o1 ?o2 ?hT ?cl ?_; (case F => k_asm); (case T => k_asm); (case cd => exact rfl); (case C => kn_code); (case tb => assumption); (case N => k_asm); (case o2 => assumption); (case hT => assumption); (case o1 => (intro x9 h9; rcases List.mem_cons.mp h9 with e9 | h9; (subst e9; k_ne); cases h9)); (case cl => exact rfl); k_whole))
  | (k_dflt (refine' nestB (mid := [_, _]) ?F ?N ?T ?C ?cd ?tb ?o1 ?o2 ?hT ?cl ?_; (case F => k_asm); (case T => k_asm); (case cd => exact rfl); (case C => kn_code); (case tb => assumption); (case N => k_asm); (case o2 => assumption); (case hT => assumption); (case o1 => (intro x9 h9; rcases List.mem_cons.mp h9 with e9 | h9; (subst e9; k_ne); rcases List.mem_cons.mp h9 with e9 | h9; (subst e9; k_ne); cases h9)); (case cl => exact rfl); k_whole))); (intro f' c' oc' vs' t' ct' dc' h' tk' F' N' d1' d2' n3' l1; (simp only [List.cons_append, List.nil_append] at N' l1); (try k_lt l1)))
  k_with "call type:bytes" => (k_here; k_dflt (refine' bytes_cut ?F ?N rfl ?hi ?hr ?_; (case F => assumption); (case N => assumption); (case hi => assumption); (case hr => assumption)); intro h9 t9 k9 F9 N9 hb9)
  w_top off
  k_with "pyIter ref" => (k_of "cell" => k_state (fun pre row => OInv pre.length row) "row")
  k_with "pyIter ref" => (k_of "k" => k_state (fun pre row left => NInv kPre.length pre row left) "row" "left")
  k_with "state" => first
    | exact oinv_nil
    | exact ninv_end (by assumption) (by assumption)
    | exact oinv_one (by assumption) (by assumption) abs_lo (by assumption)
    | exact oinv_one (by assumption) (by assumption) tab_in.1 tab_in.2
    | exact ninv_start (by assumption) (by assumption)
    | exact ninv_more (by assumption) (by assumption) (by assumption)
  refine wpAny_call ?_
  k_dflt cell_enter
  k_steps
  all_goals first
    | exact hret _ _ _ _ (by assumption) (news_sub (by assumption) (by kst_inAny)) ⟨_, _, rfl, (by assumption), rfl⟩
end
section
open PySem PySem.W PySem.Spec PySem.Calls PyProof.Rows
set_option maxHeartbeats 4000000 in
theorem c277a (w : World) (n k : Int) (t u v : Tok) (led : List (Addr × Obj)) (hn0 : 0 ≤ n) (hn1 : n ≤ 1073741824) (hkk : k = -1 ∨ 5 < k) (hk9 : k ≤ 10) :
  CtT w 277 [.int n t, .int k u, .int 0 v] 12 led (fun led' v => v = .bool true ∧ led' = led) := by
  unfold CtT
  intro loose mean mg mb dp un gd cn cs a ccd outer A₀ base h₀ L m s Q E BS B F N D hk hd hu hret
  have X := BS.X.keeps B.stays
  have T := BS.T.keeps B.stays
  have XB := BS.X
  have TB := BS.T
  have hMk : KstMark := kstMark
  k_with_none
  k_with "loadName" => (k_here; k_dflt (refine' loadX_L ?k1 ?k2 ?_ ?a ?b; (case a => rfl); (case b => rfl); (case k1 => k_asm); (case k2 => exact rfl); k_whole))
  k_with "leaving ref" => (k_here; k_dflt (first
  | (refine' leaveX_new ?k1 ?k0 ?k2 ?k3 ?k4 ?k5 ?_; (case k0 => assumption); (case k2 => assumption); (case k1 => assumption); (case k3 => k_asm); (case k4 => exact rfl); (case k5 => exact rfl); k_whole; intro h' R' U'; (try dsimp only at R' U' ⊢))
  | (refine' leaveX_made ?k1 ?k0 ?k2 ?k3 ?k4 ?k5 ?_; (case k0 => first | assumption | exact Heap.MadeExc.of (by assumption)); (case k2 => assumption); (case k1 => assumption); (case k3 => k_asm); (case k4 => exact rfl); (case k5 => exact rfl); k_whole; intro h' R' U'; (try dsimp only at R' U' ⊢))
  | (refine' leaveX_on ?k1 ?k2 ?k3 ?k4 ?k5 ?_; (case k3 => assumption); (case k2 => assumption); (case k1 => assumption); (case k4 => assumption); (case k5 => exact rfl); k_whole; intro h' R' U'; (try dsimp only at R' U' ⊢))))
  k_with "subscriptTail Name Name bytes int" => (k_here; (with_reducible show wpAny _ _ (subscriptTail _ _ (Value.bytes _ _) (Value.int _ _)) _ _ _); (with_unfolding_all refine' item_or ?h0 (by kba_ints) ?h1 ?h2 ?h3 ?h4 ?h5 ?h6 ?h7; (case h0 => rfl); (case h1 => omega); (case h2 => omega); (case h3 => omega); (case h6 => with_unfolding_all rfl); (case h7 => (intro _; with_unfolding_all rfl)); k_whole); first | (intro hlt' t' tk' h0' h1') | (intro hge' h' tk' e' x'))
  k_with "exec Raise some none" => (k_here; k_dflt (refine' RaiseX_own ?F ?X ?T ?e ?q PySem.F.excBase_Exception ?h ?_ ?a ?b ?c ?d ?g; (case F => k_asm); (case X => k_asm); (case T => k_asm); (case e => k_is); (case q => k_exc); (case h => first | rfl | assumption); (case a => rfl); (case b => rfl); (case c => rfl); (case d => rfl); (case g => decide); k_whole))
  k_with "binaryOp BitAnd int int" => (first | (refine and_to (bitAnd_m7 _) ?_) | (refine and_to (band128 _) ?_) | (refine and_to (bitAnd_m3 _) ?_) | (refine and_to (bitAnd_m1 _) ?_))
  k_with "inplaceOp BitAnd int int" => (first | (refine iand_to (band64 _) ?_) | (refine iand_to (bitAnd_m32 _) ?_))
  k_with "binaryOp LShift int int" => ((refine shl_to ?_ ?_ ?_ ?_); (focus omega); (focus omega); (focus omega))
  k_with "exec FunctionDef" => (k_here; (rename (_ = _ ++ _) => hr9; subst hr9); k_dflt (refine' nestDef_K ?d0 ?k0 ?a0 ?_; (case d0 => exact rfl); (case k0 => exact rfl); (case a0 => exact rfl)); (first
  | (k_dflt (refine' nestB (mid := [_]) ?F ?N ?T ?C ?cd ?tb ?o1 ?o2 ?hT ?cl ?_; (case F => k_asm); (case T => k_asm); (case cd => exact rfl); (case C => kn_code); (case tb => assumption); (case N => k_asm); (case o2 => assumption); (case hT => assumption); (case o1 => (intro x9 h9; rcases List.mem_cons.mp h9 with e9 | h9; (subst e9; k_ne); cases h9)); (case cl => exact rfl); k_whole))
  | (k_dflt (refine' nestB (mid := [_, _]) ?F ?N ?T ?C ?cd ?tb ?o1 ?o2 ?hT ?cl ?_; (case F => k_asm); (case T => k_asm); (case cd => exact rfl); (case C => kn_code); (case tb => assumption); (case N => k_asm); (case o2 => assumption); (case hT => assumption); (case o1 => (intro x9 h9; rcases List.mem_cons.mp h9 with e9 | h9; (subst e9; k_ne); rcases List.mem_cons.mp h9 with e9 | h9; (subst e9; k_ne); cases h9)); (case cl => exact rfl); k_whole))); (intro f' c' oc' vs' t' ct' dc' h' tk' F' N' d1' d2' n3' l1; (simp only [List.cons_append, List.nil_append] at N' l1); (try k_lt l1)))
  w_top off
  k_with "call ref" => k_dflt ((refine' Ct.use (c58e w n k _ _ _ (by omega) (by omega) hkk hk9) BS ?cB ?cF ?cN ?ck ?cd ?cu ?_ ?_); (case cB => assumption); (case cF => assumption); (case cN => assumption); (case ck => exact rfl); (case cd => k_room); (case cu => k_units); (all_goals first | (intro e9 cls9 G9 led9 h9 tk9 F9 R9 U9 x9; obtain ⟨e9a, e9b⟩ := x9; subst e9a; subst e9b; (try dsimp only)) | (intro v9 led9 h9 tk9 F9 N9 x9; exact x9.elim)))
  refine wpAny_call ?_
  k_dflt (refine' code_defS B F X N T XB TB D KtsTurn.refl ?kA ?k6 ?k7 ?k8 ?k9 ?kB ?_ hk ?c2 ?c3 ?c4 ?c5; (case kA => exact rfl); (case k6 => k_is); (case k7 => k_is); (case k8 => k_room); (case k9 => exact BindsTo.of_eq rfl); (case c5 => decide); (case kB => exact locs rfl); (case c2 => exact rfl); (case c3 => exact rfl); (case c4 => exact rfl); k_whole; intro g' L' h' FG' F' N' B' X' T' D'; (try dsimp only); (try k_lift B'); (try k_fold))
  k_steps
  all_goals first
    | exact hret _ _ _ _ _ (by assumption) (by assumption) (by assumption) (by assumption) (by assumption) ⟨rfl, rfl⟩
    | (exfalso; omega)
set_option maxHeartbeats 4000000 in
theorem c277b (w : World) (n k : Int) (t u v : Tok) (led : List (Addr × Obj)) (hn0 : 0 ≤ n) (hn1 : n ≤ 1073741824) (hkk : k = -1 ∨ 5 < k) (hk9 : k ≤ 10) :
  CtT w 277 [.int n t, .int k u, .int 1 v] 12 led (fun led' v => v = .bool true ∧ led' = led) := by
  unfold CtT
  intro loose mean mg mb dp un gd cn cs a ccd outer A₀ base h₀ L m s Q E BS B F N D hk hd hu hret
  have X := BS.X.keeps B.stays
  have T := BS.T.keeps B.stays
  have XB := BS.X
  have TB := BS.T
  have hMk : KstMark := kstMark
  k_with_none
  k_with "loadName" => (k_here; k_dflt (refine' loadX_L ?k1 ?k2 ?_ ?a ?b; (case a => rfl); (case b => rfl); (case k1 => k_asm); (case k2 => exact rfl); k_whole))
  k_with "leaving ref" => (k_here; k_dflt (first
  | (refine' leaveX_new ?k1 ?k0 ?k2 ?k3 ?k4 ?k5 ?_; (case k0 => assumption); (case k2 => assumption); (case k1 => assumption); (case k3 => k_asm); (case k4 => exact rfl); (case k5 => exact rfl); k_whole; intro h' R' U'; (try dsimp only at R' U' ⊢))
  | (refine' leaveX_made ?k1 ?k0 ?k2 ?k3 ?k4 ?k5 ?_; (case k0 => first | assumption | exact Heap.MadeExc.of (by assumption)); (case k2 => assumption); (case k1 => assumption); (case k3 => k_asm); (case k4 => exact rfl); (case k5 => exact rfl); k_whole; intro h' R' U'; (try dsimp only at R' U' ⊢))
  | (refine' leaveX_on ?k1 ?k2 ?k3 ?k4 ?k5 ?_; (case k3 => assumption); (case k2 => assumption); (case k1 => assumption); (case k4 => assumption); (case k5 => exact rfl); k_whole; intro h' R' U'; (try dsimp only at R' U' ⊢))))
  k_with "subscriptTail Name Name bytes int" => (k_here; (with_reducible show wpAny _ _ (subscriptTail _ _ (Value.bytes _ _) (Value.int _ _)) _ _ _); (with_unfolding_all refine' item_or ?h0 (by kba_ints) ?h1 ?h2 ?h3 ?h4 ?h5 ?h6 ?h7; (case h0 => rfl); (case h1 => omega); (case h2 => omega); (case h3 => omega); (case h6 => with_unfolding_all rfl); (case h7 => (intro _; with_unfolding_all rfl)); k_whole); first | (intro hlt' t' tk' h0' h1') | (intro hge' h' tk' e' x'))
  k_with "exec Raise some none" => (k_here; k_dflt (refine' RaiseX_own ?F ?X ?T ?e ?q PySem.F.excBase_Exception ?h ?_ ?a ?b ?c ?d ?g; (case F => k_asm); (case X => k_asm); (case T => k_asm); (case e => k_is); (case q => k_exc); (case h => first | rfl | assumption); (case a => rfl); (case b => rfl); (case c => rfl); (case d => rfl); (case g => decide); k_whole))
  k_with "binaryOp BitAnd int int" => (first | (refine and_to (bitAnd_m7 _) ?_) | (refine and_to (band128 _) ?_) | (refine and_to (bitAnd_m3 _) ?_) | (refine and_to (bitAnd_m1 _) ?_))
  k_with "inplaceOp BitAnd int int" => (first | (refine iand_to (band64 _) ?_) | (refine iand_to (bitAnd_m32 _) ?_))
  k_with "binaryOp LShift int int" => ((refine shl_to ?_ ?_ ?_ ?_); (focus omega); (focus omega); (focus omega))
  k_with "exec FunctionDef" => (k_here; (rename (_ = _ ++ _) => hr9; subst hr9); k_dflt (refine' nestDef_K ?d0 ?k0 ?a0 ?_; (case d0 => exact rfl); (case k0 => exact rfl); (case a0 => exact rfl)); (first
  | (k_dflt (refine' nestB (mid := [_]) ?F ?N ?T ?C ?cd ?tb ?o1 ?o2 ?hT ?cl ?_; (case F => k_asm); (case T => k_asm); (case cd => exact rfl); (case C => kn_code); (case tb => assumption); (case N => k_asm); (case o2 => assumption); (case hT => assumption); (case o1 => (intro x9 h9; rcases List.mem_cons.mp h9 with e9 | h9; (subst e9; k_ne); cases h9)); (case cl => exact rfl); k_whole))
  | (k_dflt (refine' nestB (mid := [_, _]) ?F ?N ?T ?C ?cd ?tb ?o1 ?o2 ?hT ?cl ?_; (case F => k_asm); (case T => k_asm); (case cd => exact rfl); (case C => kn_code); (case tb => assumption); (case N => k_asm); (case o2 => assumption); (case hT => assumption); (case o1 => (intro x9 h9; rcases List.mem_cons.mp h9 with e9 | h9; (subst e9; k_ne); rcases List.mem_cons.mp h9 with e9 | h9; (subst e9; k_ne); cases h9)); (case cl => exact rfl); k_whole))); (intro f' c' oc' vs' t' ct' dc' h' tk' F' N' d1' d2' n3' l1; (simp only [List.cons_append, List.nil_append] at N' l1); (try k_lt l1)))
  w_top off
  k_with "call ref" => k_dflt ((refine' Ct.use (c200x w n k _ _ _ (by omega) (by omega) hkk hk9) BS ?cB ?cF ?cN ?ck ?cd ?cu ?_ ?_); (case cB => assumption); (case cF => assumption); (case cN => assumption); (case ck => exact rfl); (case cd => k_room); (case cu => k_units); (all_goals first | (intro e9 cls9 G9 led9 h9 tk9 F9 R9 U9 x9; obtain ⟨e9a, e9b⟩ := x9; subst e9a; subst e9b; (try dsimp only)) | (intro v9 led9 h9 tk9 F9 N9 x9; exact x9.elim)))
  refine wpAny_call ?_
  k_dflt (refine' code_defS B F X N T XB TB D KtsTurn.refl ?kA ?k6 ?k7 ?k8 ?k9 ?kB ?_ hk ?c2 ?c3 ?c4 ?c5; (case kA => exact rfl); (case k6 => k_is); (case k7 => k_is); (case k8 => k_room); (case k9 => exact BindsTo.of_eq rfl); (case c5 => decide); (case kB => exact locs rfl); (case c2 => exact rfl); (case c3 => exact rfl); (case c4 => exact rfl); k_whole; intro g' L' h' FG' F' N' B' X' T' D'; (try dsimp only); (try k_lift B'); (try k_fold))
  k_steps
  all_goals first
    | exact hret _ _ _ _ _ (by assumption) (by assumption) (by assumption) (by assumption) (by assumption) ⟨rfl, rfl⟩
    | (exfalso; omega)
end
section
open PySem PySem.W PySem.Spec PySem.Calls PyProof.Rows
theorem Ct.perm {w : World} {f : Addr} {vs : List Value} {d : Nat} {l l2 : List (Addr × Obj)} {R R' X : List (Addr × Obj) → Value → Prop} (C : Ct w f vs d l R X) (hl : ∀ x ∈ l, x ∈ l2)
    (hR : ∀ l' v, R l' v → ∃ l'', (∀ x ∈ l'', x ∈ l') ∧ R' l'' v) (hX : ∀ l' v, X l' v → False) : Ct w f vs d l2 R' (fun _ _ => False) := by
  unfold Ct
  intro loose mean mg mb dp un gd cn cs a ccd cl outer A₀ base h₀ L m s Q E BS B F N hk hd hu hret _
  refine C.use BS B F (news_sub N hl) hk hd hu (fun v led' h' tk' F' N' r => ?_) (fun e cls G led' h' tk' F' R' U' x => (hX _ _ x).elim)
  obtain ⟨l'', hs, r'⟩ := hR _ _ r
  exact hret v l'' h' tk' F' (news_sub N' hs) r'
/-- no object of the list lies at a table -/
def Off4 (l : List (Addr × Obj)) : Prop := ∀ x ∈ l, x.1 ≠ 95 ∧ x.1 ≠ 102 ∧ x.1 ≠ 188 ∧ x.1 ≠ 251
/-- the ledger: four tables, and what else there is -/
def Zn (T : List (Addr × Obj) → Prop) (led r : List (Addr × Obj)) : Prop :=
  ∃ t95 t102 t188 t251, TbV t95 ∧ TbS t102 ∧ TbB t188 ∧ T t251 ∧ r = t95 ++ (t102 ++ (t188 ++ (t251 ++ led))) ∧ Off4 led
theorem pm188 {a b c d e : List (Addr × Obj)} : ∀ x ∈ c ++ (a ++ (b ++ (d ++ e))), x ∈ a ++ (b ++ (c ++ (d ++ e))) := fun x hx => by
  simp only [List.mem_append] at hx ⊢
  rcases hx with h | h | h | h | h <;> simp [h]
theorem pm188' {a b c d e : List (Addr × Obj)} : ∀ x ∈ a ++ (b ++ (c ++ (d ++ e))), x ∈ c ++ (a ++ (b ++ (d ++ e))) := fun x hx => by
  simp only [List.mem_append] at hx ⊢
  rcases hx with h | h | h | h | h <;> simp [h]
theorem pm251 {a b c d e : List (Addr × Obj)} : ∀ x ∈ d ++ (a ++ (b ++ (c ++ e))), x ∈ a ++ (b ++ (c ++ (d ++ e))) := fun x hx => by
  simp only [List.mem_append] at hx ⊢
  rcases hx with h | h | h | h | h <;> simp [h]
theorem pm251' {a b c d e : List (Addr × Obj)} : ∀ x ∈ a ++ (b ++ (c ++ (d ++ e))), x ∈ d ++ (a ++ (b ++ (c ++ e))) := fun x hx => by
  simp only [List.mem_append] at hx ⊢
  rcases hx with h | h | h | h | h <;> simp [h]
theorem pm102 {a b c d e : List (Addr × Obj)} : ∀ x ∈ b ++ (a ++ (c ++ (d ++ e))), x ∈ a ++ (b ++ (c ++ (d ++ e))) := fun x hx => by
  simp only [List.mem_append] at hx ⊢
  rcases hx with h | h | h | h | h <;> simp [h]
theorem pm102' {a b c d e : List (Addr × Obj)} : ∀ x ∈ a ++ (b ++ (c ++ (d ++ e))), x ∈ b ++ (a ++ (c ++ (d ++ e))) := fun x hx => by
  simp only [List.mem_append] at hx ⊢
  rcases hx with h | h | h | h | h <;> simp [h]
theorem off_of {l : List (Addr × Obj)} (h : Off4 l) : (∀ x ∈ l, x.1 ≠ 95) ∧ (∀ x ∈ l, x.1 ≠ 102) ∧ (∀ x ∈ l, x.1 ≠ 188) ∧ (∀ x ∈ l, x.1 ≠ 251) :=
  ⟨fun x hx => (h x hx).1, fun x hx => (h x hx).2.1, fun x hx => (h x hx).2.2.1, fun x hx => (h x hx).2.2.2⟩
def TwAny (t : List (Addr × Obj)) : Prop := TwN t ∨ TwB t ∨ TwBA t
def Tw0 (t : List (Addr × Obj)) : Prop := TwN t ∨ TwBA t
def Tw1 (t : List (Addr × Obj)) : Prop := TwB t ∨ TwBA t
theorem Tw0.any {t : List (Addr × Obj)} (h : Tw0 t) : TwAny t := h.elim .inl fun h => .inr (.inr h)
theorem Tw1.any {t : List (Addr × Obj)} (h : Tw1 t) : TwAny t := .inr h
theorem twBA_any {t : List (Addr × Obj)} (h : TwBA t) : TwAny t := .inr (.inr h)
theorem tw_has {t : List (Addr × Obj)} (h : TwAny t) : ∃ o, ((251 : Addr), o) ∈ t := by
  rcases h with rfl | ⟨c, oc, rfl, _⟩ | ⟨c, oc, d, od, rfl, _⟩
  · exact ⟨_, .head _⟩
  · exact ⟨_, .tail _ (.head _)⟩
  · exact ⟨_, .tail _ (.tail _ (.head _))⟩
theorem tw_off {t : List (Addr × Obj)} (h : TwAny t) : ∀ x ∈ t, x.1 ≠ 95 ∧ x.1 ≠ 102 ∧ x.1 ≠ 188 := by
  have hc : ∀ {c oc}, CodeQ c oc → c ≠ 95 ∧ c ≠ 102 ∧ c ≠ 188 := fun {c oc} h => by
    obtain ⟨_, _, _, _, n1, n2, n3, _⟩ := h
    exact ⟨n1, n2, n3⟩
  have h0 : (251 : Addr) ≠ 95 ∧ (251 : Addr) ≠ 102 ∧ (251 : Addr) ≠ 188 := by decide
  intro x hx
  rcases h with rfl | ⟨c, oc, rfl, q⟩ | ⟨c, oc, d, od, rfl, q, q'⟩
  · rcases List.mem_cons.mp hx with rfl | hx
    · exact h0
    · cases hx
  · rcases List.mem_cons.mp hx with rfl | hx
    · exact hc q
    rcases List.mem_cons.mp hx with rfl | hx
    · exact h0
    · cases hx
  · rcases List.mem_cons.mp hx with rfl | hx
    · exact hc q
    rcases List.mem_cons.mp hx with rfl | hx
    · exact hc q'
    rcases List.mem_cons.mp hx with rfl | hx
    · exact h0
    · cases hx
def BV (ks : List Int) (v : Value) : Prop := ∃ b t, v = .bytes b t ∧ KBw.bInts b = ks
def PairZ (T : List (Addr × Obj) → Prop) (x y : Int) (led l : List (Addr × Obj)) (v : Value) : Prop :=
  ∃ a t1 t2 l0, Zn T led l0 ∧ v = .ref a ∧ l = (a, tupObj [.int x t1, .int y t2]) :: l0 ∧ (∀ p ∈ l0, p.1 < a)
section
variable {w : World} {T : List (Addr × Obj) → Prop} {led r : List (Addr × Obj)} {n k : Int} {b : Array UInt8} {t u : Tok} {ks : List Int}
theorem e193 (hA : ∀ t, T t → TwAny t) (Z : Zn T led r) (h0 : 0 ≤ n) (h1 : Bd n) : Ct w 193 [.int n t] 6 r (fun l v => Zn T led l ∧ BV (enc n.toNat) v) (fun _ _ => False) := by
  obtain ⟨t95, t102, t188, t251, z1, z2, z3, z4, rfl, z5⟩ := Z
  have q := tw_off (hA _ z4)
  obtain ⟨o95, o102, o188, o251⟩ := off_of z5
  refine (c193 w n t t188 (t95 ++ (t102 ++ (t251 ++ led))) z3 (off_app (tb_off z1 (by decide) (by simp)) (off_app (tb_off z2 (by decide) (by simp)) (off_app (fun x hx => (q x hx).2.2) o188)))
    (four_of (.inr (has_l (tb_has z1))) (.inr (has_r (has_l (tb_has z2)))) (.inl rfl) (.inr (has_r (has_r (has_l (tw_has (hA _ z4))))))) h0 h1).perm pm188 (fun l' v h => ?_) (fun _ _ h => h)
  obtain ⟨ts, b, t, y1, y2, y3, rfl⟩ := h
  exact ⟨_, pm188', ⟨t95, t102, ts, t251, z1, z2, y1, z4, rfl, z5⟩, b, t, y2, y3⟩
theorem e200 (hA : ∀ t, T t → TwAny t) (Z : Zn T led r) (h0 : 0 ≤ n) (h1 : n ≤ 1073741824) (hk0 : 0 ≤ k) (hk1 : k ≤ 5) : Ct w 200 [.int n t, .int k u] 8 r (fun l v => Zn T led l ∧ BV (enc (8 * n + k).toNat) v) (fun _ _ => False) := by
  obtain ⟨t95, t102, t188, t251, z1, z2, z3, z4, rfl, z5⟩ := Z
  have q := tw_off (hA _ z4)
  obtain ⟨o95, o102, o188, o251⟩ := off_of z5
  refine (c200 w n k t u t188 (t95 ++ (t102 ++ (t251 ++ led))) z3 (off_app (tb_off z1 (by decide) (by simp)) (off_app (tb_off z2 (by decide) (by simp)) (off_app (fun x hx => (q x hx).2.2) o188)))
    (four_of (.inr (has_l (tb_has z1))) (.inr (has_r (has_l (tb_has z2)))) (.inl rfl) (.inr (has_r (has_r (has_l (tw_has (hA _ z4))))))) h0 h1 hk0 hk1).perm pm188 (fun l' v h => ?_) (fun _ _ h => h)
  obtain ⟨ts, b, t, y1, y2, y3, rfl⟩ := h
  exact ⟨_, pm188', ⟨t95, t102, ts, t251, z1, z2, y1, z4, rfl, z5⟩, b, t, y2, y3⟩
theorem pz_of95 {t102 t188 t251 : List (Addr × Obj)} (z2 : TbS t102) (z3 : TbB t188) (z4 : T t251) (z5 : Off4 led) {x y : Int} {l' : List (Addr × Obj)} {v : Value} (h : EnR TbV x y (t102 ++ (t188 ++ (t251 ++ led))) l' v) : ∃ l'', (∀ x ∈ l'', x ∈ l') ∧ PairZ T x y led l'' v := by
  obtain ⟨ts, a, t1, t2, y1, y2, rfl, hl⟩ := h
  exact ⟨_, fun x hx => hx, a, t1, t2, _, ⟨ts, t102, t188, t251, y1, z2, z3, z4, rfl, z5⟩, y2, rfl, hl⟩
theorem pz_of102 {t95 t188 t251 : List (Addr × Obj)} (z1 : TbV t95) (z3 : TbB t188) (z4 : T t251) (z5 : Off4 led) {x y : Int} {l' : List (Addr × Obj)} {v : Value} (h : EnR TbS x y (t95 ++ (t188 ++ (t251 ++ led))) l' v) : ∃ l'', (∀ x ∈ l'', x ∈ l') ∧ PairZ T x y led l'' v := by
  obtain ⟨ts, a, t1, t2, y1, y2, rfl, hl⟩ := h
  refine ⟨(a, tupObj [.int x t1, .int y t2]) :: (t95 ++ (ts ++ (t188 ++ (t251 ++ led)))), fun x hx => ?_, a, t1, t2, _, ⟨t95, ts, t188, t251, z1, y1, z3, z4, rfl, z5⟩, y2, rfl, fun x hx => hl x (pm102' x hx)⟩
  rcases List.mem_cons.mp hx with e | hx
  · exact e ▸ .head _
  · exact .tail _ (pm102' x hx)
section
variable (hA : ∀ t, T t → TwAny t) (Z : Zn T led r) (hn : Bd n) (hb : KBw.bInts b = enc n.toNat)
include hA Z hn hb
theorem e114 : Ct w 114 [.bytes b t, .int 0 u] 3 r (PairZ T (fU64 n) (vsz n) led) (fun _ _ => False) := by
  obtain ⟨t95, t102, t188, t251, z1, z2, z3, z4, rfl, z5⟩ := Z
  have q := tw_off (hA _ z4)
  obtain ⟨o95, o102, o188, o251⟩ := off_of z5
  exact (v114 w b n t u t95 (t102 ++ (t188 ++ (t251 ++ led))) hn hb z1 (off_app (tb_off z2 (by decide) (by simp)) (off_app (tb_off z3 (by decide) (by simp)) (off_app (fun x hx => (q x hx).1) o95)))
    (four_of (.inl rfl) (.inr (has_l (tb_has z2))) (.inr (has_r (has_l (tb_has z3)))) (.inr (has_r (has_r (has_l (tw_has (hA _ z4)))))))).perm (fun _ h => h) (fun l' v h => pz_of95 z2 z3 z4 z5 h) (fun _ _ h => h)
theorem e128 : Ct w 128 [.bytes b t, .int 0 u] 3 r (PairZ T (fU32 n) (vsz n) led) (fun _ _ => False) := by
  obtain ⟨t95, t102, t188, t251, z1, z2, z3, z4, rfl, z5⟩ := Z
  have q := tw_off (hA _ z4)
  obtain ⟨o95, o102, o188, o251⟩ := off_of z5
  exact (v128 w b n t u t95 (t102 ++ (t188 ++ (t251 ++ led))) hn hb z1 (off_app (tb_off z2 (by decide) (by simp)) (off_app (tb_off z3 (by decide) (by simp)) (off_app (fun x hx => (q x hx).1) o95)))
    (four_of (.inl rfl) (.inr (has_l (tb_has z2))) (.inr (has_r (has_l (tb_has z3)))) (.inr (has_r (has_r (has_l (tw_has (hA _ z4)))))))).perm (fun _ h => h) (fun l' v h => pz_of95 z2 z3 z4 z5 h) (fun _ _ h => h)
theorem e121 : Ct w 121 [.bytes b t, .int 0 u] 3 r (PairZ T (fS64 n) (vsz n) led) (fun _ _ => False) := by
  obtain ⟨t95, t102, t188, t251, z1, z2, z3, z4, rfl, z5⟩ := Z
  have q := tw_off (hA _ z4)
  obtain ⟨o95, o102, o188, o251⟩ := off_of z5
  exact (v121 w b n t u t102 (t95 ++ (t188 ++ (t251 ++ led))) hn hb z2 (off_app (tb_off z1 (by decide) (by simp)) (off_app (tb_off z3 (by decide) (by simp)) (off_app (fun x hx => (q x hx).2.1) o102)))
    (four_of (.inr (has_l (tb_has z1))) (.inl rfl) (.inr (has_r (has_l (tb_has z3)))) (.inr (has_r (has_r (has_l (tw_has (hA _ z4)))))))).perm pm102 (fun l' v h => pz_of102 z1 z3 z4 z5 h) (fun _ _ h => h)
theorem e135 : Ct w 135 [.bytes b t, .int 0 u] 3 r (PairZ T (fS32 n) (vsz n) led) (fun _ _ => False) := by
  obtain ⟨t95, t102, t188, t251, z1, z2, z3, z4, rfl, z5⟩ := Z
  have q := tw_off (hA _ z4)
  obtain ⟨o95, o102, o188, o251⟩ := off_of z5
  exact (v135 w b n t u t102 (t95 ++ (t188 ++ (t251 ++ led))) hn hb z2 (off_app (tb_off z1 (by decide) (by simp)) (off_app (tb_off z3 (by decide) (by simp)) (off_app (fun x hx => (q x hx).2.1) o102)))
    (four_of (.inr (has_l (tb_has z1))) (.inl rfl) (.inr (has_r (has_l (tb_has z3)))) (.inr (has_r (has_r (has_l (tw_has (hA _ z4)))))))).perm pm102 (fun l' v h => pz_of102 z1 z3 z4 z5 h) (fun _ _ h => h)
theorem e149 (hn1 : n ≤ 1099511627776) : Ct w 149 [.bytes b t] 5 r (PairZ T (n / 8) (n % 8) led) (fun _ _ => False) := by
  obtain ⟨t95, t102, t188, t251, z1, z2, z3, z4, rfl, z5⟩ := Z
  have q := tw_off (hA _ z4)
  obtain ⟨o95, o102, o188, o251⟩ := off_of z5
  exact (c149 w b n t t95 (t102 ++ (t188 ++ (t251 ++ led))) hn hn1 hb z1 (off_app (tb_off z2 (by decide) (by simp)) (off_app (tb_off z3 (by decide) (by simp)) (off_app (fun x hx => (q x hx).1) o95)))
    (four_of (.inl rfl) (.inr (has_l (tb_has z2))) (.inr (has_r (has_l (tb_has z3)))) (.inr (has_r (has_r (has_l (tw_has (hA _ z4)))))))).perm (fun _ h => h) (fun l' v h => pz_of95 z2 z3 z4 z5 h) (fun _ _ h => h)
end
theorem wz_of {T T' : List (Addr × Obj) → Prop} {t95 t102 t188 : List (Addr × Obj)} (z1 : TbV t95) (z2 : TbS t102) (z3 : TbB t188) (z5 : Off4 led) (hT : ∀ t, T t → T' t) {l' : List (Addr × Obj)} {v : Value} (h : WrR T ks (t95 ++ (t102 ++ (t188 ++ led))) l' v) : ∃ l'', (∀ x ∈ l'', x ∈ l') ∧ (Zn T' led l'' ∧ BV ks v) := by
  obtain ⟨ts, b, t, y1, y2, y3, rfl⟩ := h
  exact ⟨_, pm251', ⟨t95, t102, t188, ts, z1, z2, z3, hT _ y1, rfl, z5⟩, b, t, y2, y3⟩
theorem e256f (Z : Zn Tw0 led r) (hC : EncC w 178 [.int n t] ks) (hk : ks.length ≤ 10) : Ct w 256 [.int n t, .bool false] 6 r (fun l v => Zn Tw1 led l ∧ BV ks v) (fun _ _ => False) := by
  obtain ⟨t95, t102, t188, t251, z1, z2, z3, z4, rfl, z5⟩ := Z
  obtain ⟨o95, o102, o188, o251⟩ := off_of z5
  have ho := off_app (tb_off z1 (P' := 251) (by decide) (by simp)) (off_app (tb_off z2 (P' := 251) (by decide) (by simp)) (off_app (tb_off z3 (P' := 251) (by decide) (by simp)) o251))
  rcases z4 with z4 | z4
  · exact (w256f0 w n t ks t251 _ z4 ho hC hk).perm pm251 (fun l' v h => wz_of z1 z2 z3 z5 (fun _ h => .inl h) h) (fun _ _ h => h)
  · exact (w256f2 w n t ks t251 _ z4 ho hC hk).perm pm251 (fun l' v h => wz_of z1 z2 z3 z5 (fun _ h => .inr h) h) (fun _ _ h => h)
theorem e256t (Z : Zn Tw1 led r) (hC : EncC w 186 [.int n t] ks) (hk : ks.length ≤ 10) : Ct w 256 [.int n t, .bool true] 6 r (fun l v => Zn TwBA led l ∧ BV ks v) (fun _ _ => False) := by
  obtain ⟨t95, t102, t188, t251, z1, z2, z3, z4, rfl, z5⟩ := Z
  obtain ⟨o95, o102, o188, o251⟩ := off_of z5
  have ho := off_app (tb_off z1 (P' := 251) (by decide) (by simp)) (off_app (tb_off z2 (P' := 251) (by decide) (by simp)) (off_app (tb_off z3 (P' := 251) (by decide) (by simp)) o251))
  rcases z4 with z4 | z4
  · exact (w256t1 w n t ks t251 _ z4 ho hC hk).perm pm251 (fun l' v h => wz_of z1 z2 z3 z5 (fun _ h => h) h) (fun _ _ h => h)
  · exact (w256t2 w n t ks t251 _ z4 ho hC hk).perm pm251 (fun l' v h => wz_of z1 z2 z3 z5 (fun _ h => h) h) (fun _ _ h => h)
end
theorem Zn.mono {T T' : List (Addr × Obj) → Prop} {led r : List (Addr × Obj)} (Z : Zn T led r) (h : ∀ t, T t → T' t) : Zn T' led r := by
  obtain ⟨t95, t102, t188, t251, z1, z2, z3, z4, z⟩ := Z
  exact ⟨t95, t102, t188, t251, z1, z2, z3, h _ z4, z⟩
theorem encP {w : World} {n : Int} {t : Tok} (h0 : 0 ≤ n) (h1 : Bd n) : EncC w 178 [.int n t] (enc n.toNat) := fun f D rest k hW hf => c178b w f D rest k n t h0 h1 hW hf
theorem encS {w : World} {n : Int} {t : Tok} (h0 : 0 ≤ n) (h1 : Bd n) : EncC w 186 [.int n t] (enc n.toNat) := fun f D rest k hW hf => c186p w f D rest k n t h0 h1 hW hf
theorem encN {w : World} {n m : Int} {t : Tok} (h0 : n < 0) (hg : Ng n m) (h1 : Bd m) : EncC w 186 [.int n t] (enc m.toNat) := fun f D rest k hW hf => c186n w f D rest k n m t h0 hg h1 hW hf
end
section
open PySem PySem.W PySem.Spec PySem.Calls PyProof.Rows
def Tph : Nat → List (Addr × Obj) → Prop
  | 0 => Tw0
  | 1 => Tw1
  | _ => TwBA
theorem tph_any : ∀ (p : Nat) (t : List (Addr × Obj)), Tph p t → TwAny t
  | 0, _, h => Tw0.any h
  | 1, _, h => Tw1.any h
  | _ + 2, _, h => twBA_any h
section
variable {w : World} {p : Nat} {led r : List (Addr × Obj)} {n k : Int} {b : Array UInt8} {t u : Tok} {ks : List Int}
theorem z193 (Z : Zn (Tph p) led r) (h0 : 0 ≤ n) (h1 : Bd n) : Ct w 193 [.int n t] 6 r (fun l v => Zn (Tph p) led l ∧ BV (enc n.toNat) v) (fun _ _ => False) := e193 (tph_any p) Z h0 h1
theorem z256f (Z : Zn (Tph 0) led r) (h0 : 0 ≤ n) (h1 : Bd n) : Ct w 256 [.int n t, .bool false] 6 r (fun l v => Zn (Tph 1) led l ∧ BV (enc n.toNat) v) (fun _ _ => False) := e256f Z (encP h0 h1) h1.len
theorem z256t (Z : Zn (Tph p) led r) (hp : 1 ≤ p) (hC : EncC w 186 [.int n t] ks) (hk : ks.length ≤ 10) : Ct w 256 [.int n t, .bool true] 6 r (fun l v => Zn (Tph 2) led l ∧ BV ks v) (fun _ _ => False) := by
  match p, hp, Z with
  | 1, _, Z => exact e256t Z hC hk
  | _ + 2, _, Z => exact e256t (Z.mono fun _ h => .inr h) hC hk
theorem z114 (Z : Zn (Tph p) led r) (hb : KBw.bInts b = enc n.toNat) (hn : Bd n) : Ct w 114 [.bytes b t, .int 0 u] 3 r (PairZ (Tph p) n (vsz n) led) (fun _ _ => False) := by
  have h := e114 (w := w) (t := t) (u := u) (tph_any p) Z hn hb
  rw [fU64_id hn] at h
  exact h
theorem z128 (Z : Zn (Tph p) led r) (hb : KBw.bInts b = enc n.toNat) (hn : Bd n) : Ct w 128 [.bytes b t, .int 0 u] 3 r (PairZ (Tph p) (fU32 n) (vsz n) led) (fun _ _ => False) := e128 (tph_any p) Z hn hb
theorem z121 (Z : Zn (Tph p) led r) (hb : KBw.bInts b = enc n.toNat) (hn : Bd n) : Ct w 121 [.bytes b t, .int 0 u] 3 r (PairZ (Tph p) (fS64 n) (vsz n) led) (fun _ _ => False) := e121 (tph_any p) Z hn hb
theorem z135 (Z : Zn (Tph p) led r) (hb : KBw.bInts b = enc n.toNat) (hn : Bd n) : Ct w 135 [.bytes b t, .int 0 u] 3 r (PairZ (Tph p) (fS32 n) (vsz n) led) (fun _ _ => False) := e135 (tph_any p) Z hn hb
end
theorem fm32_lo {n : Int} : 0 ≤ n.fmod (1 * 2 ^ Int.toNat 32) := by
  rw [Int.fmod_eq_emod_of_nonneg _ (by decide)]; exact Int.emod_nonneg _ (by decide)
theorem fm32_bd {n : Int} : Bd (n.fmod (1 * 2 ^ Int.toNat 32)) := by
  refine ⟨fm32_lo, ?_⟩
  rw [Int.fmod_eq_emod_of_nonneg _ (by decide)]
  have := Int.emod_lt_of_pos n (by decide : (0 : Int) < 1 * 2 ^ Int.toNat 32)
  have e : (1 : Int) * 2 ^ Int.toNat 32 = 4294967296 := by decide
  rw [e] at this ⊢
  omega
theorem fm64_lo {n : Int} : 0 ≤ n.fmod (1 * 2 ^ Int.toNat 64) := bd_fmod.lo
theorem p63 : (1 : Int) * 2 ^ Int.toNat 63 = 9223372036854775808 := by decide
theorem p64 : (1 : Int) * 2 ^ Int.toNat 64 = 18446744073709551616 := by decide
theorem p32 : (1 : Int) * 2 ^ Int.toNat 32 = 4294967296 := by decide
theorem p31 : (1 : Int) * 2 ^ Int.toNat 31 = 2147483648 := by decide
theorem sg_neg {n : Int} (h : Bd n) : n - 1 * 2 ^ Int.toNat 64 < 0 := by
  have := h.hi
  rw [p64]; omega
theorem sg_ng {n : Int} : Ng (n - 1 * 2 ^ Int.toNat 64) n := ⟨by rw [p64]; omega⟩
abbrev sm (n : Int) : Int := n.fmod (1 * 2 ^ Int.toNat 32)
theorem sm_in (n : Int) : 0 ≤ n.fmod (1 * 2 ^ Int.toNat 32) ∧ n.fmod (1 * 2 ^ Int.toNat 32) < 4294967296 := by
  rw [Int.fmod_eq_emod_of_nonneg _ (by decide), p32]
  omega
theorem tn_neg {n : Int} : n.fmod (1 * 2 ^ Int.toNat 32) - 1 * 2 ^ Int.toNat 32 < 0 := by
  have := sm_in n
  rw [p32] at this ⊢
  omega
theorem tn_ng {n : Int} : Ng (n.fmod (1 * 2 ^ Int.toNat 32) - 1 * 2 ^ Int.toNat 32) ((n.fmod (1 * 2 ^ Int.toNat 32) - 1 * 2 ^ Int.toNat 32).fmod (1 * 2 ^ Int.toNat 64)) := by
  have := sm_in n
  refine ⟨?_⟩
  rw [Int.fmod_eq_emod_of_nonneg _ (by decide : (0 : Int) ≤ 1 * 2 ^ Int.toNat 64), p64]
  rw [p32] at this ⊢
  omega
theorem sm_64 {n : Int} : (n.fmod (1 * 2 ^ Int.toNat 32)).fmod (1 * 2 ^ Int.toNat 64) = n.fmod (1 * 2 ^ Int.toNat 32) := by
  have := sm_in n
  rw [Int.fmod_eq_emod_of_nonneg _ (by decide : (0 : Int) ≤ 1 * 2 ^ Int.toNat 64), p64]
  omega
theorem encSm {w : World} {n : Int} {t : Tok} : EncC w 186 [.int (n.fmod (1 * 2 ^ Int.toNat 32)) t] (enc ((n.fmod (1 * 2 ^ Int.toNat 32)).fmod (1 * 2 ^ Int.toNat 64)).toNat) := by
  rw [sm_64]; exact encS fm32_lo fm32_bd
theorem encTn {w : World} {n : Int} {t : Tok} : EncC w 186 [.int (n.fmod (1 * 2 ^ Int.toNat 32) - 1 * 2 ^ Int.toNat 32) t] (enc ((n.fmod (1 * 2 ^ Int.toNat 32) - 1 * 2 ^ Int.toNat 32).fmod (1 * 2 ^ Int.toNat 64)).toNat) :=
  encN tn_neg tn_ng bd_fmod
theorem fS64_lo {n : Int} (h : Bd n) (h1 : ¬ 1 * 2 ^ Int.toNat 63 ≤ n) : fS64 n = n := by
  have := h.lo; have := h.hi
  rw [p63] at h1
  unfold fS64
  have e : n % 18446744073709551616 = n := by omega
  rw [e, if_neg (by omega)]
theorem fS64_hi {n : Int} (h : Bd n) (h1 : 1 * 2 ^ Int.toNat 63 ≤ n) : fS64 n = n - 1 * 2 ^ Int.toNat 64 := by
  have := h.lo; have := h.hi
  rw [p63] at h1
  unfold fS64
  have e : n % 18446744073709551616 = n := by omega
  rw [e, if_pos (by omega), p64]
theorem fU32_sm {n : Int} : fU32 (n.fmod (1 * 2 ^ Int.toNat 32)) = n.fmod (1 * 2 ^ Int.toNat 32) := by
  have := sm_in n
  unfold fU32
  omega
theorem fS32_lo {n : Int} (h1 : ¬ 1 * 2 ^ Int.toNat 31 ≤ n.fmod (1 * 2 ^ Int.toNat 32)) : fS32 ((n.fmod (1 * 2 ^ Int.toNat 32)).fmod (1 * 2 ^ Int.toNat 64)) = n.fmod (1 * 2 ^ Int.toNat 32) := by
  have := sm_in n
  rw [p31] at h1
  rw [sm_64]
  unfold fS32
  have e : n.fmod (1 * 2 ^ Int.toNat 32) % 4294967296 = n.fmod (1 * 2 ^ Int.toNat 32) := by omega
  rw [e, if_neg (by omega)]
theorem fS32_hi {n : Int} (h1 : 1 * 2 ^ Int.toNat 31 ≤ n.fmod (1 * 2 ^ Int.toNat 32)) : fS32 ((n.fmod (1 * 2 ^ Int.toNat 32) - 1 * 2 ^ Int.toNat 32).fmod (1 * 2 ^ Int.toNat 64)) = n.fmod (1 * 2 ^ Int.toNat 32) - 1 * 2 ^ Int.toNat 32 := by
  have h0 := sm_in n
  rw [p31] at h1
  rw [Int.fmod_eq_emod_of_nonneg _ (by decide : (0 : Int) ≤ 1 * 2 ^ Int.toNat 64), p64]
  generalize n.fmod (1 * 2 ^ Int.toNat 32) = x at *
  rw [p32]
  unfold fS32
  have e : (x - 4294967296) % 18446744073709551616 % 4294967296 = x := by omega
  rw [e, if_pos (by omega)]
theorem sd_lo {n : Int} (h : Bd n) (h1 : ¬ 1 * 2 ^ Int.toNat 63 ≤ n) : Sd n := by
  have := h.lo; have := h.hi
  rw [p63] at h1
  exact ⟨by omega, by omega⟩
theorem sd_hi {n : Int} (h : Bd n) (h1 : 1 * 2 ^ Int.toNat 63 ≤ n) : Sd (n - 1 * 2 ^ Int.toNat 64) := by
  have := h.lo; have := h.hi
  rw [p63] at h1
  rw [p64]
  exact ⟨by omega, by omega⟩
theorem ten_hi {n : Int} (h : Bd n) (h1 : 1 * 2 ^ Int.toNat 63 ≤ n) : 10 = vsz n := by
  rw [p63] at h1
  exact vsz10 (by omega) h
theorem bytes_absurd {b c : Array UInt8} {ks : List Int} (h : (b.toList != c.toList) = true) (hb : KBw.bInts b = ks) (hc : KBw.bInts c = ks) : False := by
  have e := bInts_inj (hb.trans hc.symm)
  subst e
  simp at h
end
section
open PySem PySem.W PySem.Spec PySem.Calls PyProof.Rows
theorem getD_drop {ks : List Int} {i : Nat} (h : i < ks.length) : ks.drop i = ks.getD i 0 :: ks.drop (i + 1) := by
  rw [List.getD_eq_getElem?_getD, List.getElem?_eq_getElem h]
  exact List.drop_eq_getElem_cons h
/-- what is read: a number below 128 to the count of its octets, and its octets if they are the shortest -/
theorem scan_spec (ks : List Int) (hk : KBa.In ks) (p : Nat) : ∀ (r k : Nat) (acc n : Int) (q : Nat), scan ks p r k acc = .ok n q →
    ∃ m : Nat, n = acc + (m : Int) * 2 ^ (7 * k) ∧ p + k < q ∧ q ≤ ks.length ∧ q - (p + k) ≤ r ∧ m < 128 ^ (q - (p + k)) ∧ ((enc m).length = q - (p + k) → (ks.drop (p + k)).take (q - (p + k)) = enc m) := by
  intro r
  induction r with
  | zero => intro k acc n q h; cases h
  | succ r ih =>
    intro k acc n q h
    rw [scan] at h
    split at h
    · cases h
    · rename_i hin
      have hlt : p + k < ks.length := by omega
      have hc : 0 ≤ ks.getD (p + k) 0 ∧ ks.getD (p + k) 0 < 256 := by
        refine hk _ ?_
        rw [List.getD_eq_getElem?_getD, List.getElem?_eq_getElem hlt]
        exact List.getElem_mem hlt
      split at h
      · rename_i hs
        injection h with h1 h2
        subst h2
        refine ⟨(ks.getD (p + k) 0).toNat, ?_, by omega, by omega, by omega, ?_, fun _ => ?_⟩
        · rw [← h1]
          have e : ks.getD (p + k) 0 % 128 = ((ks.getD (p + k) 0).toNat : Int) := by omega
          rw [e]
        · have e : p + k + 1 - (p + k) = 1 := by omega
          rw [e]; omega
        · have e : p + k + 1 - (p + k) = 1 := by omega
          rw [e, getD_drop hlt, enc_lt (by omega)]
          have e2 : (((ks.getD (p + k) 0).toNat : Nat) : Int) = ks.getD (p + k) 0 := by omega
          rw [e2]
          rfl
      · rename_i hs
        obtain ⟨m, e1, e2, e3, e4, e5, e6⟩ := ih (k + 1) _ n q h
        have eq : q - (p + k) = (q - (p + (k + 1))) + 1 := by omega
        refine ⟨(ks.getD (p + k) 0 % 128).toNat + 128 * m, ?_, by omega, e3, by omega, ?_, fun hl => ?_⟩
        · have ep : (2 : Int) ^ (7 * (k + 1)) = 128 * 2 ^ (7 * k) := by
            have : 7 * (k + 1) = 7 * k + 7 := by omega
            rw [this, Int.pow_add]; omega
          have en : (((ks.getD (p + k) 0 % 128).toNat + 128 * m : Nat) : Int) = ks.getD (p + k) 0 % 128 + 128 * m := by omega
          rw [e1, ep, en, Int.add_mul, Int.mul_assoc, ← Int.mul_assoc (m : Int), Int.mul_comm (m : Int) 128, Int.mul_assoc]
          omega
        · rw [eq, Nat.pow_succ]
          omega
        · by_cases hm : (ks.getD (p + k) 0 % 128).toNat + 128 * m < 128
          · rw [enc_lt hm] at hl
            simp at hl
            omega
          · rw [enc_ge hm] at hl ⊢
            have ed : ((ks.getD (p + k) 0 % 128).toNat + 128 * m) / 128 = m := by omega
            have em : ((((ks.getD (p + k) 0 % 128).toNat + 128 * m) % 128 + 128 : Nat) : Int) = ks.getD (p + k) 0 := by omega
            rw [ed] at hl ⊢
            rw [em, eq, getD_drop hlt, List.take_succ_cons]
            rw [List.length_cons] at hl
            have e7 := e6 (by omega)
            have ea : p + (k + 1) = p + k + 1 := by omega
            rw [ea] at e7 ⊢
            rw [e7]
theorem read_size {ks : List Int} (hk : KBa.In ks) {p q : Nat} {n : Int} (h : scan ks p 10 0 0 = .ok n q) : vsz (fU64 n) ≤ (q : Int) - p ∧ 0 ≤ n := by
  obtain ⟨m, e1, e2, e3, e4, e5, _⟩ := scan_spec ks hk p 10 0 0 n q h
  have e0 : n = (m : Int) := by rw [e1]; simp
  have hl : (enc (fU64 n).toNat).length ≤ (q - (p + 0) - 1) + 1 := by
    refine enc_len _ _ ?_
    have e8 : (2 : Nat) ^ (7 * ((q - (p + 0) - 1) + 1)) = 128 ^ (q - (p + 0)) := by
      rw [Nat.pow_mul]
      congr 1
      omega
    rw [e8]
    refine Nat.lt_of_le_of_lt ?_ e5
    unfold fU64
    omega
  unfold vsz
  exact ⟨by omega, by omega⟩
theorem read_short {ks : List Int} (hk : KBa.In ks) {p q : Nat} {n : Int} (h : scan ks p 10 0 0 = .ok n q) (hs : (q : Int) - p = vsz (fU64 n)) (h10 : vsz (fU64 n) < 10) : (ks.drop p).take (q - p) = enc (fU64 n).toNat := by
  obtain ⟨m, e1, e2, e3, e4, e5, e6⟩ := scan_spec ks hk p 10 0 0 n q h
  have e0 : n = (m : Int) := by rw [e1]; simp
  have hq : q - p ≤ 9 := by omega
  have hm : m < 2 ^ 64 := by
    have h1 : (128 : Nat) ^ (q - (p + 0)) ≤ 128 ^ 9 := Nat.pow_le_pow_right (by decide) (by omega)
    omega
  have e7 : fU64 n = n := fU64_id ⟨by omega, by omega⟩
  rw [e7] at hs h10 ⊢
  rw [e0] at hs ⊢
  unfold vsz at hs
  have e9 : ((m : Int)).toNat = m := by omega
  rw [e9] at hs ⊢
  have := e6 (by omega)
  exact this
theorem fU64_bd (n : Int) : Bd (fU64 n) := by
  unfold fU64
  exact ⟨by omega, by omega⟩
end
section
open PySem PySem.W PySem.Spec PySem.Calls PyProof.Rows PyProof.V
section
variable {prog : Program} {w : World} {A : Around} {E : Value → Shared → Prop} {Q : Flow → Shared → Prop} {env : Env}
/-- a range iterator -/
def RngO (o : Obj) : Prop := ∃ x y z, o.data = .fields #[rawInt x, rawInt y, rawInt z]
/-- a turn's end: on another ground -/
def TurnEnd (GP : Heap → Prop) (L : Addr) (s : Shared) (I : Addr) (o : Obj) (J : (Str → Option Value) → List (Addr × Obj) → Prop) (Q : Flow → Shared → Prop) (f : Flow) (s₃ : Shared) : Prop :=
  match f with
  | .ret v => Q (.ret v) s₃
  | .brk => Q .next s₃
  | _ => ∃ g' h' tk' m' led', s₃ = { s with heap := h', toks := tk' } ∧ GP g' ∧ Fr g' L h' m' ∧ News g' L h' ((I, o) :: led') ∧ (∀ p ∈ led', p.1 ≠ I) ∧ J m' led'
def ForT (prog : Program) (w : World) (A : Around) (GP : Heap → Prop) (J : Nat → (Str → Option Value) → List (Addr × Obj) → Prop) (env : Env) (x : Str) (body : List Stmt) (Q : Flow → Shared → Prop) (E : Value → Shared → Prop) (xv : Value) (s : Shared) : Prop :=
  ∃ (r : Addr) (a₀ b₀ : Int) (t u v : Tok) (n : Nat) (g : Heap) (m : Str → Option Value) (led : List (Addr × Obj)), xv = .ref r ∧ A.handled = none ∧ IsRange s.heap r a₀ b₀ 1 t u v ∧ Builtin.Range.small a₀ b₀ 1 = true ∧ Builtin.Range.rangeSize a₀ b₀ 1 = (n : Int) ∧
    GP g ∧ Fr g env.locals s.heap m ∧ News g env.locals s.heap led ∧ J 0 m led ∧
    (∀ (i : Nat) g m led I o t h tk, i < n → RngO o → GP g → J i m led → (∀ p ∈ led, p.1 ≠ I) → Fr g env.locals h (fun y => if y = x then some (.int (a₀ + (i : Int)) t) else m y) → News g env.locals h ((I, o) :: led) →
      wpAny (model prog w) A (execs body env) (TurnEnd GP env.locals s I o (J (i + 1)) Q) E { s with heap := h, toks := tk }) ∧
    (∀ g m led h tk, GP g → J n m led → Fr g env.locals h m → News g env.locals h led → Q .next { s with heap := h, toks := tk })
theorem for_turn {s : Shared} {x : Str} {px pos : Pos} {iter : Expr} {body : List Stmt} (GP : Heap → Prop) (J : Nat → (Str → Option Value) → List (Addr × Obj) → Prop) (hx : env.kindOf x = some .local)
    (hp : (env.scope.kind == .class || (env.scope.kind == .module && env.locals != env.globals)) = false)
    (h : wpAny (model prog w) A (eval iter env) (fun xv s₁ => ForT prog w A GP J env x body Q E xv s₁) E s)
    (hs : ∀ x, foldedSetIterable iter env x = pure x := by intro _; rfl)
    (hE : PassesOwn (model prog w) A env E := by passes_own) :
    wpAny (model prog w) A (exec (.For (.Name x px) iter body [] pos) env) Q E s := by
  refine wpAny_For (wpAny_mono h (fun xv s₁ h₁ => ?_) fun _ _ e => e) hs
  obtain ⟨r, a₀, b₀, t, u, v, n, g, m, led, rfl, hh, hr, hsmall, hn, hg, F, N, hj, turn, done⟩ := h₁
  refine wpAny_pyIter_range hr hsmall ?_
  have hIL : env.locals ≠ s₁.heap.objs.size := Nat.ne_of_lt F.ns.lt
  have W := Walks.range (prog := prog) (w := w) (A := A) hh s₁.heap.objs.size a₀ 1 n
  refine codeAny_forLoop (R := fun r s' => match r with | .ok f => Q f s' | .error e => cameBackBy (model prog w) A env E e s')
    (fun k s' => ∃ g h' tk m led i, s' = { s₁ with heap := h', toks := tk } ∧ IsRangeIter h' s₁.heap.objs.size (a₀ + (i : Nat) * 1) ((n : Int) - (i : Nat)) 1 ∧ GP g ∧ Fr g env.locals h' m ∧ News g env.locals h' led ∧ (∀ p ∈ led, p.1 ≠ s₁.heap.objs.size) ∧ g.get? s₁.heap.objs.size = none ∧ J i m led ∧ i ≤ n ∧ k = n + 1 - i) ?_ (n + 1)
    ⟨g, _, _, m, led, 0, rfl, ?_, hg, F.push _, (fun p hp => ⟨Heap.get?_push_of_some _ (N p hp).1, (N p hp).2⟩), (fun p hp => Nat.ne_of_lt (Heap.lt_size (N p hp).1)), ?_, hj, Nat.zero_le _, rfl⟩
  · rintro k s' ⟨g, h', tk, m', led', i, rfl, hst, hg', F', N', hoff, hgI, hJ, hi, rfl⟩
    by_cases hlt : i < n
    · refine W.item i _ _ _ hlt hst fun v h₁ tk₁ hP hst₁ hk₁ => ?_
      obtain ⟨t₁, rfl⟩ := hP
      have F₁ : Fr g env.locals h₁ m' := ⟨F'.ns.at' fun o e => hk₁ _ o (fun hm => hIL (List.mem_singleton.mp hm)) e, fun b o e => hk₁ b o (fun hm => by rw [List.mem_singleton.mp hm, hgI] at e; cases e) (F'.keep b o e), F'.above⟩
      have N₁ : News g env.locals h₁ led' := fun p hp => ⟨hk₁ _ _ (fun hm => hoff p hp (List.mem_singleton.mp hm)) (N' p hp).1, (N' p hp).2⟩
      refine wpAny_assign_Name (wpAny_storeName_local hx F₁.ns (fun h₂ hn₂ hs₂ => ?_) hp)
      have F₂ := F₁.set hn₂ hs₂
      have N₂ := N₁.set hs₂
      have e1 : a₀ + (i : Int) * 1 = a₀ + (i : Int) := by omega
      rw [e1] at F₂
      have hst₂ : IsRangeIter h₂ s₁.heap.objs.size (a₀ + ((i + 1 : Nat) : Int) * 1) ((n : Int) - ((i + 1 : Nat) : Int)) 1 := W.frame _ _ _ hst₁ fun b hb o e => (hs₂.2 b fun q => hIL (by rw [← q, List.mem_singleton.mp hb])).trans e
      obtain ⟨o, ho, hO, heq⟩ : ∃ o, h₂.get? s₁.heap.objs.size = some o ∧ RngO o ∧ ∀ h' : Heap, h'.get? s₁.heap.objs.size = some o → IsRangeIter h' s₁.heap.objs.size (a₀ + ((i + 1 : Nat) : Int) * 1) ((n : Int) - ((i + 1 : Nat) : Int)) 1 := ⟨_, hst₂, ⟨_, _, _, rfl⟩, fun _ e => e⟩
      refine wpAny_mono (wpAny_passesOwn hE (turn i g m' led' s₁.heap.objs.size o t₁ h₂ _ hlt hO hg' hJ hoff F₂ (fun p hp => ?_))) (fun f s₃ h₃ => ?_) fun _ _ e => e
      · rcases List.mem_cons.mp hp with e | hp
        · subst e
          exact ⟨ho, Ne.symm hIL, hgI⟩
        · exact N₂ p hp
      · cases f with
        | ret v => exact h₃
        | brk => exact h₃
        | next =>
          obtain ⟨g', h', tk', m'', led'', rfl, a1, a2, a3, a4, a5⟩ := h₃
          exact ⟨n + 1 - (i + 1), by omega, g', h', tk', m'', led'', i + 1, rfl, heq _ (a3 _ (.head _)).1, a1, a2, (fun p hp => a3 p (.tail _ hp)), a4, (a3 _ (.head _)).2.2, a5, hlt, rfl⟩
        | cont =>
          obtain ⟨g', h', tk', m'', led'', rfl, a1, a2, a3, a4, a5⟩ := h₃
          exact ⟨n + 1 - (i + 1), by omega, g', h', tk', m'', led'', i + 1, rfl, heq _ (a3 _ (.head _)).1, a1, a2, (fun p hp => a3 p (.tail _ hp)), a4, (a3 _ (.head _)).2.2, a5, hlt, rfl⟩
    · have hin : i = n := by omega
      subst hin
      refine W.done _ _ _ hst fun h₁ tk₁ hk₁ => wpAny_execs_nil ?_
      have F₁ : Fr g env.locals h₁ m' := ⟨F'.ns.at' fun o e => hk₁ _ o (fun hm => hIL (List.mem_singleton.mp hm)) e, fun b o e => hk₁ b o (fun hm => by rw [List.mem_singleton.mp hm, hgI] at e; cases e) (F'.keep b o e), F'.above⟩
      have N₁ : News g env.locals h₁ led' := fun p hp => ⟨hk₁ _ _ (fun hm => hoff p hp (List.mem_singleton.mp hm)) (N' p hp).1, (N' p hp).2⟩
      exact done g m' led' h₁ tk₁ hg' hJ F₁ N₁
  · show IsRangeIter _ _ _ _ _
    rw [hn]
    simpa using Heap.get?_push_size _ rfl
  · cases e : g.get? s₁.heap.objs.size with
    | none => rfl
    | some o => exact absurd (Heap.lt_size (F.keep _ _ e)) (Nat.lt_irrefl _)
theorem turn_end {GP : Heap → Prop} {L : Addr} {s : Shared} {I : Addr} {o : Obj} {J : (Str → Option Value) → List (Addr × Obj) → Prop} {Q : Flow → Shared → Prop} {g' h' : Heap} {tk' : Nat} {m' : Str → Option Value} {l l' : List (Addr × Obj)}
    (hg : GP g') (F : Fr g' L h' m') (N : News g' L h' l) (hI : (I, o) ∈ l) (hs : ∀ x ∈ l', x ∈ l) (hoff : ∀ p ∈ l', p.1 ≠ I) (hJ : J m' l') : TurnEnd GP L s I o J Q .next { s with heap := h', toks := tk' } := by
  refine ⟨g', h', tk', m', l', rfl, hg, F, fun p hp => ?_, hoff, hJ⟩
  rcases List.mem_cons.mp hp with rfl | hp
  · exact N _ hI
  · exact N _ (hs _ hp)
end
end
section
open PySem PySem.W PySem.Spec PySem.Calls PyProof.Rows
/-- behind an if that only sets x: one way -/
def JoinP (g : Heap) (L : Addr) (s : Shared) (x : Str) (m : Str → Option Value) (led : List (Addr × Obj)) (v : Int) (f : Flow) (s' : Shared) : Prop :=
  ∃ h tk m' t, f = .next ∧ s' = { s with heap := h, toks := tk } ∧ Fr g L h m' ∧ News g L h led ∧ m' x = some (.int v t) ∧ (∀ y, y ≠ x → m' y = m y)
theorem if_join {M : Model} {A : Around} {E : Value → Shared → Prop} {K : Flow → Shared → Prop} {s : Shared} {env : Env} {g : Heap} {L : Addr} {m : Str → Option Value} {led : List (Addr × Obj)} {x : Str} {px pa pos : Pos} {test e : Expr} (v : Int)
    (F : Fr g L s.heap m) (N : News g L s.heap led) (h1 : wpAny M A (exec (.If test [.Assign [.Name x px] e pa] [] pos) env) (JoinP g L s x m led v) E s)
    (h2 : ∀ h tk t, Fr g L h (fun y => if y = x then some (.int v t) else m y) → News g L h led → K .next { s with heap := h, toks := tk }) :
    wpAny M A (exec (.If test [.Assign [.Name x px] e pa] [] pos) env) K E s := by
  refine wpAny_mono h1 (fun f s' h => ?_) fun _ _ e => e
  obtain ⟨h, tk, m', t, rfl, rfl, F', N', e1, e2⟩ := h
  refine h2 h tk t ?_ N'
  have em : m' = fun y => if y = x then some (.int v t) else m y := by
    funext y
    by_cases hy : y = x
    · rw [if_pos hy, hy, e1]
    · rw [if_neg hy, e2 y hy]
  exact em ▸ F'
theorem join_set {g : Heap} {L : Addr} {s : Shared} {x : Str} {m : Str → Option Value} {led : List (Addr × Obj)} {v v' : Int} {h : Heap} {tk : Nat} {t : Tok} (F : Fr g L h (fun y => if y = x then some (.int v' t) else m y)) (N : News g L h led) (e : v' = v) :
    JoinP g L s x m led v .next { s with heap := h, toks := tk } :=
  ⟨h, tk, _, t, rfl, rfl, F, N, by rw [if_pos rfl, e], fun y hy => if_neg hy⟩
theorem join_not {g : Heap} {L : Addr} {s : Shared} {x : Str} {m : Str → Option Value} {led : List (Addr × Obj)} {v v' : Int} {h : Heap} {tk : Nat} {t : Tok} (F : Fr g L h m) (N : News g L h led) (hm : m x = some (.int v' t)) (e : v' = v) :
    JoinP g L s x m led v .next { s with heap := h, toks := tk } :=
  ⟨h, tk, m, t, rfl, rfl, F, N, by rw [hm, e], fun _ _ => rfl⟩
def sgOf (n : Int) : Int := if 1 * 2 ^ Int.toNat 63 ≤ n then n - 1 * 2 ^ Int.toNat 64 else n
def tnOf (n : Int) : Int := if 1 * 2 ^ Int.toNat 31 ≤ n.fmod (1 * 2 ^ Int.toNat 32) then n.fmod (1 * 2 ^ Int.toNat 32) - 1 * 2 ^ Int.toNat 32 else n.fmod (1 * 2 ^ Int.toNat 32)
theorem sg1 {n : Int} (h : 1 * 2 ^ Int.toNat 63 ≤ n) : n - 1 * 2 ^ Int.toNat 64 = sgOf n := by unfold sgOf; rw [if_pos h]
theorem sg0 {n : Int} (h : ¬ 1 * 2 ^ Int.toNat 63 ≤ n) : n = sgOf n := by unfold sgOf; rw [if_neg h]
theorem tn1 {n : Int} (h : 1 * 2 ^ Int.toNat 31 ≤ n.fmod (1 * 2 ^ Int.toNat 32)) : n.fmod (1 * 2 ^ Int.toNat 32) - 1 * 2 ^ Int.toNat 32 = tnOf n := by unfold tnOf; rw [if_pos h]
theorem tn0 {n : Int} (h : ¬ 1 * 2 ^ Int.toNat 31 ≤ n.fmod (1 * 2 ^ Int.toNat 32)) : n.fmod (1 * 2 ^ Int.toNat 32) = tnOf n := by unfold tnOf; rw [if_neg h]
theorem zg1 {n : Int} (h : sgOf n < 0) : -2 * sgOf n - 1 = zz (sgOf n) := by unfold zz; rw [if_pos h]
theorem zg0 {n : Int} (h : ¬ sgOf n < 0) : 2 * sgOf n = zz (sgOf n) := by unfold zz; rw [if_neg h]
theorem encSg {w : World} {n : Int} {t : Tok} (h0 : 0 ≤ n) (h : Bd n) : EncC w 186 [.int (sgOf n) t] (enc n.toNat) := by
  by_cases h1 : 1 * 2 ^ Int.toNat 63 ≤ n
  · rw [← sg1 h1]; exact encN (sg_neg h) sg_ng h
  · rw [← sg0 h1]; exact encS h0 h
theorem encTg {w : World} {n : Int} {t : Tok} : EncC w 186 [.int (tnOf n) t] (enc ((tnOf n).fmod (1 * 2 ^ Int.toNat 64)).toNat) := by
  by_cases h1 : 1 * 2 ^ Int.toNat 31 ≤ n.fmod (1 * 2 ^ Int.toNat 32)
  · rw [← tn1 h1]; exact encTn
  · rw [← tn0 h1]; exact encSm
theorem c163g (w : World) (n : Int) (t : Tok) (led : List (Addr × Obj)) (h0 : 0 ≤ n) (h : Bd n) : Ct w 163 [.int (sgOf n) t] 1 led (IR (vsz n) led) (fun _ _ => False) := by
  by_cases h1 : 1 * 2 ^ Int.toNat 63 ≤ n
  · rw [← sg1 h1, ← ten_hi h h1]; exact c163n w _ t led (sg_neg h)
  · rw [← sg0 h1]; exact c163 w n t led h0 h
theorem fS64_sg {n : Int} (h : Bd n) : fS64 n = sgOf n := by
  by_cases h1 : 1 * 2 ^ Int.toNat 63 ≤ n
  · rw [← sg1 h1, fS64_hi h h1]
  · rw [← sg0 h1, fS64_lo h h1]
theorem fS32_tn {n : Int} : fS32 ((tnOf n).fmod (1 * 2 ^ Int.toNat 64)) = tnOf n := by
  by_cases h1 : 1 * 2 ^ Int.toNat 31 ≤ n.fmod (1 * 2 ^ Int.toNat 32)
  · rw [← tn1 h1, fS32_hi h1]
  · rw [← tn0 h1, fS32_lo h1]
theorem sd_sg {n : Int} (h : Bd n) : Sd (sgOf n) := by
  by_cases h1 : 1 * 2 ^ Int.toNat 63 ≤ n
  · rw [← sg1 h1]; exact sd_hi h h1
  · rw [← sg0 h1]; exact sd_lo h h1
section
variable {w : World} {p : Nat} {led r : List (Addr × Obj)} {n : Int} {b : Array UInt8} {t u : Tok}
theorem y121 (Z : Zn (Tph p) led r) (hb : KBw.bInts b = enc n.toNat) (hn : Bd n) : Ct w 121 [.bytes b t, .int 0 u] 3 r (PairZ (Tph p) (sgOf n) (vsz n) led) (fun _ _ => False) := by
  have h := z121 (w := w) (t := t) (u := u) Z hb hn
  rw [fS64_sg hn] at h
  exact h
theorem y128 (Z : Zn (Tph p) led r) (hb : KBw.bInts b = enc (n.fmod (1 * 2 ^ Int.toNat 32)).toNat) : Ct w 128 [.bytes b t, .int 0 u] 3 r (PairZ (Tph p) (n.fmod (1 * 2 ^ Int.toNat 32)) (vsz (n.fmod (1 * 2 ^ Int.toNat 32))) led) (fun _ _ => False) := by
  have h := z128 (w := w) (t := t) (u := u) Z hb fm32_bd
  rw [fU32_sm] at h
  exact h
theorem y135 (Z : Zn (Tph p) led r) (hb : KBw.bInts b = enc ((tnOf n).fmod (1 * 2 ^ Int.toNat 64)).toNat) : Ct w 135 [.bytes b t, .int 0 u] 3 r (PairZ (Tph p) (tnOf n) (vsz ((tnOf n).fmod (1 * 2 ^ Int.toNat 64))) led) (fun _ _ => False) := by
  have h := z135 (w := w) (t := t) (u := u) Z hb bd_fmod
  rw [fS32_tn] at h
  exact h
end
theorem zg_or {n r : Int} (h : sgOf n < 0 ∧ r = -2 * sgOf n - 1 ∨ ¬ sgOf n < 0 ∧ r = 2 * sgOf n) : r = zz (sgOf n) := by
  rcases h with ⟨h, e⟩ | ⟨h, e⟩
  · rw [e, zg1 h]
  · rw [e, zg0 h]
theorem num_ret {led l0 l : List (Addr × Obj)} {h₀ h' : Heap} {L : Addr} {m : Str → Option Value} {s : Shared} {Q : Value → Shared → Prop} {tk' : Nat} {b : Bool}
    (hret : ∀ v led' h' tk', Fr h₀ L h' m → News h₀ L h' led' → (v = .bool true ∧ Zn (Tph 0) led led') → Q v { s with heap := h', toks := tk' })
    (Z : Zn (Tph 2) led l0) (kF : Fr h₀ L h' m) (kN : News h₀ L h' l) (hs : ∀ x ∈ l0, x ∈ l) (e : b = true) : Q (.bool b) { s with heap := h', toks := tk' } := by
  subst e
  exact hret _ _ _ _ kF (news_sub kN hs) ⟨rfl, Z.mono fun _ h => .inr h⟩
end
section
open PySem PySem.W PySem.Spec PySem.Calls PyProof.Rows
local macro_rules | `(tactic| walk_at "exec If") => `(tactic| k_extra "exec If")
local macro_rules | `(tactic| walk_at "JoinP") => `(tactic| k_extra "JoinP")
set_option maxHeartbeats 4000000 in
theorem c270 (w : World) (n : Int) (t : Tok) (led r : List (Addr × Obj)) (hn0 : 0 ≤ n) (hn1 : Bd n) (Z : Zn (Tph 0) led r) :
  Ct w 270 [.int n t] 12 r (fun l v => v = .bool true ∧ Zn (Tph 0) led l) (fun _ _ => False) := by
  unfold Ct
  intro loose mean mg mb dp un gd cn cs a ccd cl outer A₀ base h₀ L m s Q E BS B F N hk hd hu hret hX
  have X := BS.X.keeps B.stays
  have T := BS.T.keeps B.stays
  have hMk : KstMark := kstMark
  k_with_none
  k_with "loadName" => (k_here; k_dflt (refine' loadX_L ?k1 ?k2 ?_ ?a ?b; (case a => rfl); (case b => rfl); (case k1 => k_asm); (case k2 => exact rfl); k_whole))
  k_with "leaving ref" => (k_here; k_dflt (first
  | (refine' leaveX_new ?k1 ?k0 ?k2 ?k3 ?k4 ?k5 ?_; (case k0 => assumption); (case k2 => assumption); (case k1 => assumption); (case k3 => k_asm); (case k4 => exact rfl); (case k5 => exact rfl); k_whole; intro h' R' U'; (try dsimp only at R' U' ⊢))
  | (refine' leaveX_made ?k1 ?k0 ?k2 ?k3 ?k4 ?k5 ?_; (case k0 => first | assumption | exact Heap.MadeExc.of (by assumption)); (case k2 => assumption); (case k1 => assumption); (case k3 => k_asm); (case k4 => exact rfl); (case k5 => exact rfl); k_whole; intro h' R' U'; (try dsimp only at R' U' ⊢))
  | (refine' leaveX_on ?k1 ?k2 ?k3 ?k4 ?k5 ?_; (case k3 => assumption); (case k2 => assumption); (case k1 => assumption); (case k4 => assumption); (case k5 => exact rfl); k_whole; intro h' R' U'; (try dsimp only at R' U' ⊢))))
  k_with "subscriptTail Name Name bytes int" => (k_here; (with_reducible show wpAny _ _ (subscriptTail _ _ (Value.bytes _ _) (Value.int _ _)) _ _ _); (with_unfolding_all refine' item_or ?h0 (by kba_ints) ?h1 ?h2 ?h3 ?h4 ?h5 ?h6 ?h7; (case h0 => rfl); (case h1 => omega); (case h2 => omega); (case h3 => omega); (case h6 => with_unfolding_all rfl); (case h7 => (intro _; with_unfolding_all rfl)); k_whole); first | (intro hlt' t' tk' h0' h1') | (intro hge' h' tk' e' x'))
  k_with "exec Raise some none" => (k_here; k_dflt (refine' RaiseX_own ?F ?X ?T ?e ?q PySem.F.excBase_Exception ?h ?_ ?a ?b ?c ?d ?g; (case F => k_asm); (case X => k_asm); (case T => k_asm); (case e => k_is); (case q => k_exc); (case h => first | rfl | assumption); (case a => rfl); (case b => rfl); (case c => rfl); (case d => rfl); (case g => decide); k_whole))
  k_with "binaryOp BitAnd int int" => (first | (refine and_to (bitAnd_m7 _) ?_) | (refine and_to (band128 _) ?_) | (refine and_to (bitAnd_m3 _) ?_) | (refine and_to (bitAnd_m1 _) ?_))
  k_with "inplaceOp BitAnd int int" => (first | (refine iand_to (band64 _) ?_) | (refine iand_to (bitAnd_m32 _) ?_))
  k_with "binaryOp LShift int int" => ((refine shl_to ?_ ?_ ?_ ?_); (focus omega); (focus omega); (focus omega))
  k_with "exec FunctionDef" => (k_here; (rename (_ = _ ++ _) => hr9; subst hr9); k_dflt (refine' nestDef_K ?d0 ?k0 ?a0 ?_; (case d0 => exact rfl); (case k0 => exact rfl); (case a0 => exact rfl)); (first
  | (k_dflt (refine' nestB (mid := [_]) ?F ?N ?T ?C ?cd ?tb ?o1 ?o2 ?hT ?cl ?_; (case F => k_asm); (case T => k_asm); (case cd => exact rfl); (case C => kn_code); (case tb => assumption); (case N => k_asm); (case o2 => assumption); (case hT => assumption); (case o1 => (intro x9 h9; rcases List.mem_cons.mp h9 with e9 | h9; (subst e9; k_ne); cases h9)); (case cl => exact rfl); k_whole))
  | (k_dflt (refine' nestB (mid := [_, _]) ?F ?N ?T ?C ?cd ?tb ?o1 ?o2 ?hT ?cl ?_; (case F => k_asm); (case T => k_asm); (case cd => exact rfl); (case C => kn_code); (case tb => assumption); (case N => k_asm); (case o2 => assumption); (case hT => assumption); (case o1 => (intro x9 h9; rcases List.mem_cons.mp h9 with e9 | h9; (subst e9; k_ne); rcases List.mem_cons.mp h9 with e9 | h9; (subst e9; k_ne); cases h9)); (case cl => exact rfl); k_whole))); (intro f' c' oc' vs' t' ct' dc' h' tk' F' N' d1' d2' n3' l1; (simp only [List.cons_append, List.nil_append] at N' l1); (try k_lt l1)))
  w_top off
  have hv : vsz n = ((enc n.toNat).length : Int) := rfl
  have hv32 : vsz (n.fmod (1 * 2 ^ Int.toNat 32)) = ((enc (n.fmod (1 * 2 ^ Int.toNat 32)).toNat).length : Int) := rfl
  have hv64 : vsz ((tnOf n).fmod (1 * 2 ^ Int.toNat 64)) = ((enc ((tnOf n).fmod (1 * 2 ^ Int.toNat 64)).toNat).length : Int) := rfl
  have hL := hn1.len
  have hL32 := (fm32_bd (n := n)).len
  have hL64 := (bd_fmod (x := tnOf n)).len
  k_with "exec If" => k_dflt ((fail_if_success (with_reducible show wpAny _ _ _ (JoinP _ _ _ _ _ _ _) _ _)); first | ((with_reducible show wpAny _ _ (exec (Stmt.If _ [Stmt.Assign [Expr.Name (Str.ofString "signed") _] _ _] [] _) _) _ _ _); (refine' if_join (x := Str.ofString "signed") (sgOf n) ?jF ?jN ?_ ?_; (case jF => assumption); (case jN => assumption); (rotate_left); (focus intro h9 tk9 t9 F9 N9); (rotate_right))) | ((with_reducible show wpAny _ _ (exec (Stmt.If _ [Stmt.Assign [Expr.Name (Str.ofString "turned") _] _ _] [] _) _) _ _ _); (refine' if_join (x := Str.ofString "turned") (tnOf n) ?jF ?jN ?_ ?_; (case jF => assumption); (case jN => assumption); (rotate_left); (focus intro h9 tk9 t9 F9 N9); (rotate_right))) | ((with_reducible show wpAny _ _ (exec (Stmt.If _ [Stmt.Assign [Expr.Name (Str.ofString "zigzag") _] _ _] [] _) _) _ _ _); (refine' if_join (x := Str.ofString "zigzag") (zz (sgOf n)) ?jF ?jN ?_ ?_; (case jF => assumption); (case jN => assumption); (rotate_left); (focus intro h9 tk9 t9 F9 N9); (rotate_right))))
  k_with "JoinP" => first | (refine join_set (by assumption) (by assumption) ?_; first | exact sg1 (by assumption) | exact tn1 (by assumption) | exact zg1 (by assumption) | exact zg_or (by assumption)) | (refine' join_not (by assumption) (by assumption) ?jm ?je; (case jm => exact rfl); (case je => first | exact sg0 (by assumption) | exact tn0 (by assumption) | exact zg0 (by assumption)))
  k_with "call ref" => k_dflt (first | ((with_reducible show wpAny _ _ (call (Value.ref 221) _) _ _ _); (refine' Ct.use (c221 w _ _ _ (by first | exact hn0 | exact fm32_lo | exact fm64_lo) (by first | exact hn1 | exact fm32_bd | exact bd_fmod)) BS ?cB ?cF ?cN ?ck ?cd ?cu ?_ ?_); (case cB => assumption); (case cF => assumption); (case cN => first | assumption | exact news_sub (by assumption) (by kst_inAny)); (case ck => exact rfl); (case cd => k_room); (case cu => k_units); (all_goals first | (intro e9 cls9 G9 led9 h9 tk9 F9 R9 U9 x9; exact x9.elim) | (intro v9 led9 h9 tk9 F9 N9 x9; obtain ⟨b9, t9, e9, hb9, e9'⟩ := x9; subst e9; subst e9'))) | ((with_reducible show wpAny _ _ (call (Value.ref 193) _) _ _ _); (refine' Ct.use (z193 (by assumption) (by first | exact hn0 | exact fm32_lo) (by first | exact hn1 | exact fm32_bd)) BS ?cB ?cF ?cN ?ck ?cd ?cu ?_ ?_); (case cB => assumption); (case cF => assumption); (case cN => first | assumption | exact news_sub (by assumption) (by kst_inAny)); (case ck => exact rfl); (case cd => k_room); (case cu => k_units); (all_goals first | (intro e9 cls9 G9 led9 h9 tk9 F9 R9 U9 x9; exact x9.elim) | (intro v9 led9 h9 tk9 F9 N9 x9; obtain ⟨Z9, b9, t9, e9, hb9⟩ := x9; subst e9; skip))) | ((with_reducible show wpAny _ _ (call (Value.ref 256) _) _ _ _); (refine' Ct.use (z256f (by assumption) hn0 hn1) BS ?cB ?cF ?cN ?ck ?cd ?cu ?_ ?_); (case cB => assumption); (case cF => assumption); (case cN => first | assumption | exact news_sub (by assumption) (by kst_inAny)); (case ck => exact rfl); (case cd => k_room); (case cu => k_units); (all_goals first | (intro e9 cls9 G9 led9 h9 tk9 F9 R9 U9 x9; exact x9.elim) | (intro v9 led9 h9 tk9 F9 N9 x9; obtain ⟨Z9, b9, t9, e9, hb9⟩ := x9; subst e9; skip))) | ((with_reducible show wpAny _ _ (call (Value.ref 156) _) _ _ _); (refine' Ct.use (c156 w _ _ _ hn0 hn1) BS ?cB ?cF ?cN ?ck ?cd ?cu ?_ ?_); (case cB => assumption); (case cF => assumption); (case cN => first | assumption | exact news_sub (by assumption) (by kst_inAny)); (case ck => exact rfl); (case cd => k_room); (case cu => k_units); (all_goals first | (intro e9 cls9 G9 led9 h9 tk9 F9 R9 U9 x9; exact x9.elim) | (intro v9 led9 h9 tk9 F9 N9 x9; obtain ⟨t9, e9, e9'⟩ := x9; subst e9; subst e9'))) | ((with_reducible show wpAny _ _ (call (Value.ref 256) _) _ _ _); (refine' Ct.use (z256t (by assumption) (by decide) (by first | exact encS hn0 hn1 | exact encSg hn0 hn1) hn1.len) BS ?cB ?cF ?cN ?ck ?cd ?cu ?_ ?_); (case cB => assumption); (case cF => assumption); (case cN => first | assumption | exact news_sub (by assumption) (by kst_inAny)); (case ck => exact rfl); (case cd => k_room); (case cu => k_units); (all_goals first | (intro e9 cls9 G9 led9 h9 tk9 F9 R9 U9 x9; exact x9.elim) | (intro v9 led9 h9 tk9 F9 N9 x9; obtain ⟨Z9, b9, t9, e9, hb9⟩ := x9; subst e9; skip))) | ((with_reducible show wpAny _ _ (call (Value.ref 256) _) _ _ _); (refine' Ct.use (z256t (by assumption) (by decide) encTg bd_fmod.len) BS ?cB ?cF ?cN ?ck ?cd ?cu ?_ ?_); (case cB => assumption); (case cF => assumption); (case cN => first | assumption | exact news_sub (by assumption) (by kst_inAny)); (case ck => exact rfl); (case cd => k_room); (case cu => k_units); (all_goals first | (intro e9 cls9 G9 led9 h9 tk9 F9 R9 U9 x9; exact x9.elim) | (intro v9 led9 h9 tk9 F9 N9 x9; obtain ⟨Z9, b9, t9, e9, hb9⟩ := x9; subst e9; skip))) | ((with_reducible show wpAny _ _ (call (Value.ref 163) _) _ _ _); (refine' Ct.use (c163g w _ _ _ hn0 hn1) BS ?cB ?cF ?cN ?ck ?cd ?cu ?_ ?_); (case cB => assumption); (case cF => assumption); (case cN => first | assumption | exact news_sub (by assumption) (by kst_inAny)); (case ck => exact rfl); (case cd => k_room); (case cu => k_units); (all_goals first | (intro e9 cls9 G9 led9 h9 tk9 F9 R9 U9 x9; exact x9.elim) | (intro v9 led9 h9 tk9 F9 N9 x9; obtain ⟨t9, e9, e9'⟩ := x9; subst e9; subst e9'))) | ((with_reducible show wpAny _ _ (call (Value.ref 114) _) _ _ _); (refine' Ct.use (z114 (by assumption) (by assumption) hn1) BS ?cB ?cF ?cN ?ck ?cd ?cu ?_ ?_); (case cB => assumption); (case cF => assumption); (case cN => first | assumption | exact news_sub (by assumption) (by kst_inAny)); (case ck => exact rfl); (case cd => k_room); (case cu => k_units); (all_goals first | (intro e9 cls9 G9 led9 h9 tk9 F9 R9 U9 x9; exact x9.elim) | (intro v9 led9 h9 tk9 F9 N9 x9; obtain ⟨a9, t19, t29, l09, Z9, e9, e9', hl9⟩ := x9; subst e9; subst e9'))) | ((with_reducible show wpAny _ _ (call (Value.ref 121) _) _ _ _); (refine' Ct.use (y121 (by assumption) (by assumption) hn1) BS ?cB ?cF ?cN ?ck ?cd ?cu ?_ ?_); (case cB => assumption); (case cF => assumption); (case cN => first | assumption | exact news_sub (by assumption) (by kst_inAny)); (case ck => exact rfl); (case cd => k_room); (case cu => k_units); (all_goals first | (intro e9 cls9 G9 led9 h9 tk9 F9 R9 U9 x9; exact x9.elim) | (intro v9 led9 h9 tk9 F9 N9 x9; obtain ⟨a9, t19, t29, l09, Z9, e9, e9', hl9⟩ := x9; subst e9; subst e9'))) | ((with_reducible show wpAny _ _ (call (Value.ref 128) _) _ _ _); (refine' Ct.use (y128 (by assumption) (by assumption)) BS ?cB ?cF ?cN ?ck ?cd ?cu ?_ ?_); (case cB => assumption); (case cF => assumption); (case cN => first | assumption | exact news_sub (by assumption) (by kst_inAny)); (case ck => exact rfl); (case cd => k_room); (case cu => k_units); (all_goals first | (intro e9 cls9 G9 led9 h9 tk9 F9 R9 U9 x9; exact x9.elim) | (intro v9 led9 h9 tk9 F9 N9 x9; obtain ⟨a9, t19, t29, l09, Z9, e9, e9', hl9⟩ := x9; subst e9; subst e9'))) | ((with_reducible show wpAny _ _ (call (Value.ref 135) _) _ _ _); (refine' Ct.use (y135 (by assumption) (by assumption)) BS ?cB ?cF ?cN ?ck ?cd ?cu ?_ ?_); (case cB => assumption); (case cF => assumption); (case cN => first | assumption | exact news_sub (by assumption) (by kst_inAny)); (case ck => exact rfl); (case cd => k_room); (case cu => k_units); (all_goals first | (intro e9 cls9 G9 led9 h9 tk9 F9 R9 U9 x9; exact x9.elim) | (intro v9 led9 h9 tk9 F9 N9 x9; obtain ⟨a9, t19, t29, l09, Z9, e9, e9', hl9⟩ := x9; subst e9; subst e9'))) | ((with_reducible show wpAny _ _ (call (Value.ref 72) _) _ _ _); (refine' Ct.use (c72 w _ _ _ (sd_sg hn1)) BS ?cB ?cF ?cN ?ck ?cd ?cu ?_ ?_); (case cB => assumption); (case cF => assumption); (case cN => first | assumption | exact news_sub (by assumption) (by kst_inAny)); (case ck => exact rfl); (case cd => k_room); (case cu => k_units); (all_goals first | (intro e9 cls9 G9 led9 h9 tk9 F9 R9 U9 x9; exact x9.elim) | (intro v9 led9 h9 tk9 F9 N9 x9; obtain ⟨t9, e9, e9'⟩ := x9; subst e9; subst e9'))) | ((with_reducible show wpAny _ _ (call (Value.ref 79) _) _ _ _); (refine' Ct.use (c79 w (sgOf n) _ _ _ rfl) BS ?cB ?cF ?cN ?ck ?cd ?cu ?_ ?_); (case cB => assumption); (case cF => assumption); (case cN => first | assumption | exact news_sub (by assumption) (by kst_inAny)); (case ck => exact rfl); (case cd => k_room); (case cu => k_units); (all_goals first | (intro e9 cls9 G9 led9 h9 tk9 F9 R9 U9 x9; exact x9.elim) | (intro v9 led9 h9 tk9 F9 N9 x9; obtain ⟨t9, e9, e9'⟩ := x9; subst e9; subst e9'))) | (refine stop_in ?_))
  refine wpAny_call ?_
  k_dflt cell_enter
  k_steps
  all_goals first
    | exact num_ret hret (by assumption) (by assumption) (by assumption) (by kst_inAny) (by first | rfl | exact beq_self_eq_true _)
    | exact (bytes_absurd (by assumption) (by assumption) (by assumption)).elim
    | (exfalso; omega)
end
section
open PySem PySem.W PySem.Spec PySem.Calls PyProof.Rows
theorem p29_ne : (1 : Int) * 2 ^ Int.toNat 29 - 1 ≠ 0 := by decide
theorem nm_in (x : Int) : 1 ≤ 1 + ((if x < 0 then -x else x).fdiv 9).fmod (1 * 2 ^ Int.toNat 29 - 1) ∧ 1 + ((if x < 0 then -x else x).fdiv 9).fmod (1 * 2 ^ Int.toNat 29 - 1) ≤ 536870911 := by
  have h0 : 0 ≤ ((if x < 0 then -x else x).fdiv 9).fmod (1 * 2 ^ Int.toNat 29 - 1) := Int.fmod_nonneg_of_pos _ (by decide)
  have h1 : ((if x < 0 then -x else x).fdiv 9).fmod (1 * 2 ^ Int.toNat 29 - 1) < 1 * 2 ^ Int.toNat 29 - 1 := Int.fmod_lt_of_pos _ (by decide)
  have e : (1 : Int) * 2 ^ Int.toNat 29 - 1 = 536870911 := by decide
  rw [e] at h0 h1 ⊢
  omega
theorem wr_in (x : Int) : -1 ≤ (if x < 0 then -x else x).fmod 9 - 1 ∧ (if x < 0 then -x else x).fmod 9 - 1 ≤ 7 := by
  have h0 : 0 ≤ (if x < 0 then -x else x).fmod 9 := Int.fmod_nonneg_of_pos _ (by decide)
  have h1 : (if x < 0 then -x else x).fmod 9 < 9 := Int.fmod_lt_of_pos _ (by decide)
  omega
theorem store_gen {M : Model} {A : Around} {E : Value → Shared → Prop} {Q : Unit → Shared → Prop} {s : Shared} {env : Env} {nm : Str} {x : Int} {t : Tok} {P : Int → Prop} (hP : P x) (h : ∀ y u, P y → wpAny M A (storeName env nm (.int y u)) Q E s) :
    wpAny M A (storeName env nm (.int x t)) Q E s := h x t hP
theorem vsz_len : ∀ (j n : Nat), 128 ^ (j + 1) ≤ n → n < 128 ^ (j + 2) → (enc n).length = j + 2 := fun j n h0 h1 => enc_size (j + 1) n h0 h1
theorem vsz_tag {n k : Int} (h0 : 1 ≤ n) (h1 : n ≤ 1073741824) (hk0 : 0 ≤ k) (hk1 : k ≤ 5) : vsz (8 * n) = vsz (8 * n + k) := by
  rcases (by omega : 8 * n ≤ 120 ∨ (128 ≤ 8 * n ∧ 8 * n ≤ 16376) ∨ (16384 ≤ 8 * n ∧ 8 * n ≤ 2097144) ∨ (2097152 ≤ 8 * n ∧ 8 * n ≤ 268435448) ∨ (268435456 ≤ 8 * n)) with h | h | h | h | h
  · rw [← vsz1 (n := 8 * n) (by omega) (by omega), ← vsz1 (n := 8 * n + k) (by omega) (by omega)]
  · rw [← vsz2 (n := 8 * n) (by omega) (by omega), ← vsz2 (n := 8 * n + k) (by omega) (by omega)]
  · rw [← vsz3 (n := 8 * n) (by omega) (by omega), ← vsz3 (n := 8 * n + k) (by omega) (by omega)]
  · rw [← vsz4 (n := 8 * n) (by omega) (by omega), ← vsz4 (n := 8 * n + k) (by omega) (by omega)]
  · rw [← vsz5 (n := 8 * n) (by omega) (by omega), ← vsz5 (n := 8 * n + k) (by omega) (by omega)]
/-- the tag between two rows of octets is read back -/
theorem tag_mid {ks es : List Int} {n : Nat} (he : es = enc n) {m : Nat} (h : tagEnd (ks ++ es ++ ks) ks.length = some m) :
    m + 1 = ks.length + es.length ∧ ((ks ++ es ++ ks).drop ks.length).take (m + 1 - ks.length) = es := by
  subst he
  rw [List.append_assoc, tagEnd_enc] at h
  have hp := enc_pos n
  have e : ks.length + (enc n).length - 1 = m := by injection h
  refine ⟨by omega, ?_⟩
  rw [List.append_assoc, List.drop_left]
  have e2 : m + 1 - ks.length = (enc n).length := by omega
  rw [e2, List.take_left]
section
variable {w : World} {T : List (Addr × Obj) → Prop} {led r : List (Addr × Obj)} {n k : Int} {b : Array UInt8} {t : Tok}
theorem y65 (h0 : 1 ≤ n) (h1 : n ≤ 536870911) (hk0 : 0 ≤ k) (hk1 : k ≤ 5) : Ct w 65 [.int (8 * n + k) t] 1 led (UnR n k led) (fun _ _ => False) := by
  have h := c65 w (8 * n + k) t led (by omega) (by omega)
  have e1 : (8 * n + k) / 8 = n := by omega
  have e2 : (8 * n + k) % 8 = k := by omega
  rw [e1, e2] at h
  exact h
theorem y149 (hA : ∀ t, T t → TwAny t) (Z : Zn T led r) (hb : KBw.bInts b = enc (8 * n + k).toNat) (h0 : 1 ≤ n) (h1 : n ≤ 536870911) (hk0 : 0 ≤ k) (hk1 : k ≤ 5) : Ct w 149 [.bytes b t] 5 r (PairZ T n k led) (fun _ _ => False) := by
  have h := e149 (w := w) (t := t) (n := 8 * n + k) hA Z (bd_small (by omega) (by omega)) hb (by omega)
  have e1 : (8 * n + k) / 8 = n := by omega
  have e2 : (8 * n + k) % 8 = k := by omega
  rw [e1, e2] at h
  exact h
theorem y170 (h0 : 1 ≤ n) (h1 : n ≤ 536870911) (hk0 : 0 ≤ k) (hk1 : k ≤ 5) : Ct w 170 [.int n t] 3 led (IR (vsz (8 * n + k)) led) (fun _ _ => False) := by
  have h := c170 w n t led (by omega) (by omega)
  rw [vsz_tag (k := k) h0 (by omega) hk0 hk1] at h
  exact h
theorem y86 (h0 : 1 ≤ n) (h1 : n ≤ 536870911) (hk0 : 0 ≤ k) (hk1 : k ≤ 5) : Ct w 86 [.int n t] 3 led (IR (vsz (8 * n + k)) led) (fun _ _ => False) := by
  have h := c86 w n t led (by omega) (by omega)
  rw [vsz_tag (k := k) h0 (by omega) hk0 hk1] at h
  exact h
end
section
variable {prog : Program} {w : World} {A : Around} {E : Value → Shared → Prop} {s : Shared} {Q : Value → Shared → Prop} {b c d : Array UInt8} {ks : List Int} {t u : Tok}
theorem add_oct (hb : (KBw.bInts b).length ≤ 14) (hc : KBw.bInts c = ks) (hk : ks.length ≤ 10) (h : ∀ t' k, KBw.bInts (b ++ c) = KBw.bInts b ++ ks → Q (.bytes (b ++ c) t') { s with toks := k }) : wpAny (model prog w) A (binaryOp .Add (.bytes b t) (.bytes c u)) Q E s :=
  KBa.add_K rfl hc (by omega) h
theorem len_oct (hb : (KBw.bInts b).length ≤ 14) (h : Q (.int (((KBw.bInts b).length : Nat) : Int) (s.toks + 1)) { s with toks := s.toks + 1 + 1 }) : wpAny (model prog w) A (call (.builtin "len") [.bytes b t]) Q E s :=
  KBw.len_K rfl (by omega) h
theorem add_oct2 (hb : (KBw.bInts b).length ≤ 14) (hd : KBw.bInts d = KBw.bInts b ++ ks) (hk : ks.length ≤ 10) (h : ∀ t' k, KBw.bInts (d ++ b) = KBw.bInts b ++ ks ++ KBw.bInts b → Q (.bytes (d ++ b) t') { s with toks := k }) : wpAny (model prog w) A (binaryOp .Add (.bytes d t) (.bytes b u)) Q E s :=
  KBa.add_K hd rfl (by rw [List.length_append]; omega) h
end
/-- the tag as a pair -/
def TgR (c : Array UInt8) (q : Int) (led l : List (Addr × Obj)) (v : Value) : Prop :=
  ∃ a t1 t2, v = .ref a ∧ l = (a, tupObj [.bytes c t1, .int q t2]) :: led ∧ (∀ x ∈ led, x.1 < a)
theorem y142 {w : World} {b c d : Array UInt8} {n : Nat} {p : Int} {t u : Tok} {led : List (Addr × Obj)} (hd : KBw.bInts d = KBw.bInts b ++ enc n ++ KBw.bInts b) (hc : KBw.bInts c = enc n) (hb : (KBw.bInts b).length ≤ 14) (hk : (enc n).length ≤ 10) (hp : p = ((KBw.bInts b).length : Int)) :
    Ct w 142 [.bytes d t, .int p u] 2 led (TgR c (p + ((enc n).length : Int)) led) (fun _ _ => False) := by
  subst hp
  have hl : (KBw.bInts b ++ enc n ++ KBw.bInts b).length ≤ 1000 := by simp only [List.length_append]; omega
  refine (rd142 w d _ ((KBw.bInts b).length : Int) t u led hd hl (by omega) (by simp only [List.length_append]; omega)).perm (fun _ h => h) (fun l' v h => ?_) (fun l' v h => ?_)
  · obtain ⟨a, b', m, t1, t2, e1, e2, e3, e4, e5⟩ := h
    rw [Int.toNat_natCast] at e1 e3
    obtain ⟨f1, f2⟩ := tag_mid rfl e1
    rw [f2] at e3
    have e6 := bInts_inj (e3.trans hc.symm)
    subst e6
    subst e4
    refine ⟨_, fun _ h => h, a, t1, t2, e2, ?_, e5⟩
    rw [f1]
    rfl
  · obtain ⟨_, e, _⟩ := h
    rw [Int.toNat_natCast, List.append_assoc, tagEnd_enc] at e
    cases e
end
section
open PySem PySem.W PySem.Spec PySem.Calls PyProof.Rows PySem.SeqRoads2 PySem.SeqAt
theorem eqG_bytes (b c : Array UInt8) (t u : Tok) : MeetsSeq.EqGives (.bytes b t) (.bytes c u) (b.toList == c.toList) := by
  intro prog w A E s Q h
  unfold eqBool
  refine wpAny_holding ?_
  refine wpAny_ite_split (fun hab => ?_) (fun hab => ?_)
  · have e : b = c := by have := eq_of_beq hab; injection this
    subst e
    exact wpAny_bind (wpAny_rule (wpAny_pure (by simpa using h)))
  · exact wpAny_bind (eq_bytes (wpAny_truthy_bool h))
section
variable {prog : Program} {w : World} {A : Around} {E : Value → Shared → Prop} {s : Shared} {Q : Value → Shared → Prop} {h₀ : Heap} {L a b : Addr} {led : List (Addr × Obj)} {c : Array UInt8} {p q : Int} {t1 t2 t3 t4 : Tok}
theorem at_two {x1 x2 y1 y2 : Value} (h1 : EqAt A s x1 y1 true) (h2 : EqAt A s x2 y2 true) :
    ∀ j (j1 : j < #[x1, x2].size) (j2 : j < #[y1, y2].size), EqAt A s #[x1, x2][j] #[y1, y2][j] ((fun _ => true) j) := by
  intro j j1 j2
  match j, j1, j2 with
  | 0, _, _ => exact h1
  | 1, _, _ => exact h2
theorem tup_at (N : News h₀ L s.heap led) {vs : List Value} {a : Addr} (m : (a, tupObj vs) ∈ led) : s.heap.IsTuple a vs.toArray := ⟨_, (N _ m).1, rfl, _, rfl⟩
theorem bi_same (e : p = q) : EqAt A s (.bytes c t1) (.bytes c t3) true ∧ EqAt A s (.int p t2) (.int q t4) true := by
  subst e
  have h1 := (eqG_bytes c c t1 t3).at A s
  have h2 := EqAt.int_int (A := A) (s := s) p t2 p t4
  rw [beq_self_eq_true] at h1 h2
  exact ⟨h1, h2⟩
theorem eq_bi {d : Array UInt8} {ks : List Int} (N : News h₀ L s.heap led) (ma : (a, tupObj [.bytes c t1, .int p t2]) ∈ led) (mb : (b, tupObj [.bytes d t3, .int q t4]) ∈ led) (hc : KBw.bInts c = ks) (hd : KBw.bInts d = ks) (e : p = q) (hu : A.units < cLine) (h : Q (.bool true) s) :
    wpAny (model prog w) A (compareOp .Eq (.ref a) (.ref b)) Q E s := by
  obtain rfl := bInts_inj (hc.trans hd.symm)
  obtain ⟨h1, h2⟩ := bi_same (A := A.in1) (s := s) (c := c) (t1 := t1) (t2 := t2) (t3 := t3) (t4 := t4) e
  exact RcAt.tuples (e := fun _ => true) (tup_at N ma) (tup_at N mb) hu (at_two h1 h2) prog w E Q h
theorem ne_bi {d : Array UInt8} {ks : List Int} (N : News h₀ L s.heap led) (ma : (a, tupObj [.bytes c t1, .int p t2]) ∈ led) (mb : (b, tupObj [.bytes d t3, .int q t4]) ∈ led) (hc : KBw.bInts c = ks) (hd : KBw.bInts d = ks) (e : p = q) (hu : A.units < cLine) (h : Q (.bool false) s) :
    wpAny (model prog w) A (compareOp .NotEq (.ref a) (.ref b)) Q E s := by
  obtain rfl := bInts_inj (hc.trans hd.symm)
  obtain ⟨h1, h2⟩ := bi_same (A := A.in1) (s := s) (c := c) (t1 := t1) (t2 := t2) (t3 := t3) (t4 := t4) e
  exact RcNeAt.tuples (e := fun _ => true) (tup_at N ma) (tup_at N mb) hu (at_two h1 h2) prog w E Q h
theorem ii_same (e : p = q) : EqAt A s (.int p t1) (.int q t2) true := by
  subst e
  have h2 := EqAt.int_int (A := A) (s := s) p t1 p t2
  rw [beq_self_eq_true] at h2
  exact h2
theorem ne_ii {p' q' : Int} (N : News h₀ L s.heap led) (ma : (a, tupObj [.int p t1, .int p' t2]) ∈ led) (mb : (b, tupObj [.int q t3, .int q' t4]) ∈ led) (e : p = q) (e' : p' = q') (hu : A.units < cLine) (h : Q (.bool false) s) :
    wpAny (model prog w) A (compareOp .NotEq (.ref a) (.ref b)) Q E s :=
  RcNeAt.tuples (e := fun _ => true) (tup_at N ma) (tup_at N mb) hu (at_two (ii_same e) (ii_same e')) prog w E Q h
end
/-- an end on the same ground -/
theorem tags_ret {led l0 l : List (Addr × Obj)} {T : List (Addr × Obj) → Prop} {outer : List Env} {A₀ : Around} {base h₀ h' : Heap} {L : Addr} {m : Str → Option Value} {s : Shared} {Q : Value → Shared → Prop} {tk' : Nat}
    (hret : ∀ v led' h' tk' h₀', KtsTurn (outer.filterMap (·.frame)) h₀ h₀' → Fr h₀' L h' m → News h₀' L h' led' → Below A₀ base outer h₀' → KtsDicts (outer.filterMap (·.frame)) h₀' → (v = .bool true ∧ Zn T led led') → Q v { s with heap := h', toks := tk' })
    (B : Below A₀ base outer h₀) (D : KtsDicts (outer.filterMap (·.frame)) h₀) (Z : Zn T led l0) (kF : Fr h₀ L h' m) (kN : News h₀ L h' l) (hs : ∀ x ∈ l0, x ∈ l) : Q (.bool true) { s with heap := h', toks := tk' } :=
  hret _ _ _ _ _ KtsTurn.refl kF (news_sub kN hs) B D ⟨rfl, Z⟩
end
section
open PySem PySem.W PySem.Spec PySem.Calls PyProof.Rows
local macro_rules | `(tactic| walk_at "execs cons") => `(tactic| k_extra "execs cons")
local macro_rules | `(tactic| walk_at "compareOp Eq ref ref") => `(tactic| k_extra "compareOp Eq ref ref")
local macro_rules | `(tactic| walk_at "call builtin:len") => `(tactic| k_extra "call builtin:len")
local macro_rules | `(tactic| walk_at "binaryOp Add bytes bytes") => `(tactic| k_extra "binaryOp Add bytes bytes")
local macro_rules | `(tactic| walk_at "binaryOp Mod int int") => `(tactic| (k_here; (with_reducible refine mod_int' p29_ne ?_)))
local macro_rules | `(tactic| walk_at "storeName") => `(tactic| k_extra "storeName")
set_option maxHeartbeats 4000000 in
theorem c284 (w : World) (x : Int) (b : Array UInt8) (t u : Tok) (p : Nat) (led r : List (Addr × Obj)) (hb : (KBw.bInts b).length ≤ 14) (Z : Zn (Tph p) led r) :
  CtT w 284 [.int x t, .bytes b u] 16 r (fun led' v => v = .bool true ∧ Zn (Tph p) led led') := by
  unfold CtT
  intro loose mean mg mb dp un gd cn cs a ccd outer A₀ base h₀ L m s Q E BS B F N D hk hd hu hret
  have X := BS.X.keeps B.stays
  have T := BS.T.keeps B.stays
  have XB := BS.X
  have TB := BS.T
  have hMk : KstMark := kstMark
  k_with_none
  k_with "loadName" => (k_here; k_dflt (refine' loadX_L ?k1 ?k2 ?_ ?a ?b; (case a => rfl); (case b => rfl); (case k1 => k_asm); (case k2 => exact rfl); k_whole))
  k_with "leaving ref" => (k_here; k_dflt (first
  | (refine' leaveX_new ?k1 ?k0 ?k2 ?k3 ?k4 ?k5 ?_; (case k0 => assumption); (case k2 => assumption); (case k1 => assumption); (case k3 => k_asm); (case k4 => exact rfl); (case k5 => exact rfl); k_whole; intro h' R' U'; (try dsimp only at R' U' ⊢))
  | (refine' leaveX_made ?k1 ?k0 ?k2 ?k3 ?k4 ?k5 ?_; (case k0 => first | assumption | exact Heap.MadeExc.of (by assumption)); (case k2 => assumption); (case k1 => assumption); (case k3 => k_asm); (case k4 => exact rfl); (case k5 => exact rfl); k_whole; intro h' R' U'; (try dsimp only at R' U' ⊢))
  | (refine' leaveX_on ?k1 ?k2 ?k3 ?k4 ?k5 ?_; (case k3 => assumption); (case k2 => assumption); (case k1 => assumption); (case k4 => assumption); (case k5 => exact rfl); k_whole; intro h' R' U'; (try dsimp only at R' U' ⊢))))
  k_with "subscriptTail Name Name bytes int" => (k_here; (with_reducible show wpAny _ _ (subscriptTail _ _ (Value.bytes _ _) (Value.int _ _)) _ _ _); (with_unfolding_all refine' item_or ?h0 (by kba_ints) ?h1 ?h2 ?h3 ?h4 ?h5 ?h6 ?h7; (case h0 => rfl); (case h1 => omega); (case h2 => omega); (case h3 => omega); (case h6 => with_unfolding_all rfl); (case h7 => (intro _; with_unfolding_all rfl)); k_whole); first | (intro hlt' t' tk' h0' h1') | (intro hge' h' tk' e' x'))
  k_with "exec Raise some none" => (k_here; k_dflt (refine' RaiseX_own ?F ?X ?T ?e ?q PySem.F.excBase_Exception ?h ?_ ?a ?b ?c ?d ?g; (case F => k_asm); (case X => k_asm); (case T => k_asm); (case e => k_is); (case q => k_exc); (case h => first | rfl | assumption); (case a => rfl); (case b => rfl); (case c => rfl); (case d => rfl); (case g => decide); k_whole))
  k_with "binaryOp BitAnd int int" => (first | (refine and_to (bitAnd_m7 _) ?_) | (refine and_to (band128 _) ?_) | (refine and_to (bitAnd_m3 _) ?_) | (refine and_to (bitAnd_m1 _) ?_))
  k_with "inplaceOp BitAnd int int" => (first | (refine iand_to (band64 _) ?_) | (refine iand_to (bitAnd_m32 _) ?_))
  k_with "binaryOp LShift int int" => ((refine shl_to ?_ ?_ ?_ ?_); (focus omega); (focus omega); (focus omega))
  k_with "exec FunctionDef" => (k_here; (rename (_ = _ ++ _) => hr9; subst hr9); k_dflt (refine' nestDef_K ?d0 ?k0 ?a0 ?_; (case d0 => exact rfl); (case k0 => exact rfl); (case a0 => exact rfl)); (first
  | (k_dflt (refine' nestB (mid := [_]) ?F ?N ?T ?C ?cd ?tb ?o1 ?o2 ?hT ?cl ?_; (case F => k_asm); (case T => k_asm); (case cd => exact rfl); (case C => kn_code); (case tb => assumption); (case N => k_asm); (case o2 => assumption); (case hT => assumption); (case o1 => (intro x9 h9; rcases List.mem_cons.mp h9 with e9 | h9; (subst e9; k_ne); cases h9)); (case cl => exact rfl); k_whole))
  | (k_dflt (refine' nestB (mid := [_, _]) ?F ?N ?T ?C ?cd ?tb ?o1 ?o2 ?hT ?cl ?_; (case F => k_asm); (case T => k_asm); (case cd => exact rfl); (case C => kn_code); (case tb => assumption); (case N => k_asm); (case o2 => assumption); (case hT => assumption); (case o1 => (intro x9 h9; rcases List.mem_cons.mp h9 with e9 | h9; (subst e9; k_ne); rcases List.mem_cons.mp h9 with e9 | h9; (subst e9; k_ne); cases h9)); (case cl => exact rfl); k_whole))); (intro f' c' oc' vs' t' ct' dc' h' tk' F' N' d1' d2' n3' l1; (simp only [List.cons_append, List.nil_append] at N' l1); (try k_lt l1)))
  k_with "execs cons" => (k_here; k_dflt (refine wpAny_execs_cons ?_); (try dsimp only))
  k_with "compareOp Eq ref ref" => (k_here; k_dflt (refine' eq_bi ?eN ?ea ?eb ?ec ?ed ?ee ?eu ?_; (case eN => k_asm); (case ea => k_mem); (case eb => k_mem); (case ec => assumption); (case ed => assumption); (case ee => omega); (case eu => k_units); k_whole))
  k_with "call builtin:len" => (k_here; (with_reducible show wpAny _ _ (call (Value.builtin "len") [Value.bytes _ _]) _ _ _); (with_reducible refine len_oct (by assumption) ?_))
  k_with "binaryOp Add bytes bytes" => (k_here; (with_reducible show wpAny _ _ (binaryOp Operator.Add (Value.bytes _ _) (Value.bytes _ _)) _ _ _); (first | (with_reducible refine add_oct2 (by assumption) (by assumption) (by assumption) ?_) | (with_reducible refine add_oct (by assumption) (by assumption) (by assumption) ?_)); intro t9' k9' hd9')
  w_top off
  k_with "storeName" => (first
    | (with_reducible (refine' store_gen (P := fun y => 1 ≤ y ∧ y ≤ 536870911) ?hg ?_; (case hg => exact nm_in x); intro nm tn9 hnm))
    | (with_reducible (refine' store_gen (P := fun y => -1 ≤ y ∧ y ≤ 7) ?hg ?_; (case hg => exact wr_in x); intro wr tw9 hwr)))
  k_with "call ref" => k_dflt (first | ((with_reducible show wpAny _ _ (call (Value.ref 277) _) _ _ _); (try (rename KtsTurn _ _ _ => TU8)); (refine' CtT.use (c277a w _ _ _ _ _ _ (by omega) (by omega) (by omega) (by omega)) BS ?cB ?cF ?cN ?cD ?ck ?cd ?cu ?_); (case cB => assumption); (case cF => assumption); (case cN => first | assumption | exact news_sub (by assumption) (by kst_inAny)); (case cD => assumption); (case ck => exact rfl); (case cd => k_room); (case cu => k_units); (intro v9 led9 h9 tk9 g9 TU9 F9 N9 B9 D9 x9; obtain ⟨e9, e9'⟩ := x9; subst e9; (have X9 := BS.X.keeps B9.stays); (have T9 := BS.T.keeps B9.stays); (try (have TU7 := KtsTurn.trans TU8 TU9; clear TU8 TU9)); subst e9'; (try dsimp only))) | ((with_reducible show wpAny _ _ (call (Value.ref 277) _) _ _ _); (try (rename KtsTurn _ _ _ => TU8)); (refine' CtT.use (c277b w _ _ _ _ _ _ (by omega) (by omega) (by omega) (by omega)) BS ?cB ?cF ?cN ?cD ?ck ?cd ?cu ?_); (case cB => assumption); (case cF => assumption); (case cN => first | assumption | exact news_sub (by assumption) (by kst_inAny)); (case cD => assumption); (case ck => exact rfl); (case cd => k_room); (case cu => k_units); (intro v9 led9 h9 tk9 g9 TU9 F9 N9 B9 D9 x9; obtain ⟨e9, e9'⟩ := x9; subst e9; (have X9 := BS.X.keeps B9.stays); (have T9 := BS.T.keeps B9.stays); (try (have TU7 := KtsTurn.trans TU8 TU9; clear TU8 TU9)); subst e9'; (try dsimp only))) | ((with_reducible show wpAny _ _ (call (Value.ref 221) _) _ _ _); (refine' Ct.use (c221 w _ _ _ (by omega) (by exact bd_small (by omega) (by omega))) BS ?cB ?cF ?cN ?ck ?cd ?cu ?_ ?_); (case cB => assumption); (case cF => assumption); (case cN => first | assumption | exact news_sub (by assumption) (by kst_inAny)); (case ck => exact rfl); (case cd => k_room); (case cu => k_units); (all_goals first | (intro e9 cls9 G9 led9 h9 tk9 F9 R9 U9 x9; exact x9.elim) | (intro v9 led9 h9 tk9 F9 N9 x9; obtain ⟨b9, t9, e9, hb9, e9'⟩ := x9; subst e9; subst e9'; (have hv9 : vsz (8 * nm + wr) = ((enc (8 * nm + wr).toNat).length : Int) := rfl); (have hL9 := (bd_small (n := 8 * nm + wr) (by omega) (by omega)).len); (try dsimp only)))) | ((with_reducible show wpAny _ _ (call (Value.ref 58) _) _ _ _); (refine' Ct.use (c58 w _ _ _ _ _ (by omega) (by omega) (by omega) (by omega)) BS ?cB ?cF ?cN ?ck ?cd ?cu ?_ ?_); (case cB => assumption); (case cF => assumption); (case cN => first | assumption | exact news_sub (by assumption) (by kst_inAny)); (case ck => exact rfl); (case cd => k_room); (case cu => k_units); (all_goals first | (intro e9 cls9 G9 led9 h9 tk9 F9 R9 U9 x9; exact x9.elim) | (intro v9 led9 h9 tk9 F9 N9 x9; obtain ⟨t9, e9, e9'⟩ := x9; subst e9; subst e9'; (try dsimp only)))) | ((with_reducible show wpAny _ _ (call (Value.ref 200) _) _ _ _); (refine' Ct.use (e200 (tph_any _) (by assumption) (by omega) (by omega) (by omega) (by omega)) BS ?cB ?cF ?cN ?ck ?cd ?cu ?_ ?_); (case cB => assumption); (case cF => assumption); (case cN => first | assumption | exact news_sub (by assumption) (by kst_inAny)); (case ck => exact rfl); (case cd => k_room); (case cu => k_units); (all_goals first | (intro e9 cls9 G9 led9 h9 tk9 F9 R9 U9 x9; exact x9.elim) | (intro v9 led9 h9 tk9 F9 N9 x9; obtain ⟨Z9, b9, t9, e9, hb9⟩ := x9; subst e9; skip; (try dsimp only)))) | ((with_reducible show wpAny _ _ (call (Value.ref 65) _) _ _ _); (refine' Ct.use (y65 (by omega) (by omega) (by omega) (by omega)) BS ?cB ?cF ?cN ?ck ?cd ?cu ?_ ?_); (case cB => assumption); (case cF => assumption); (case cN => first | assumption | exact news_sub (by assumption) (by kst_inAny)); (case ck => exact rfl); (case cd => k_room); (case cu => k_units); (all_goals first | (intro e9 cls9 G9 led9 h9 tk9 F9 R9 U9 x9; exact x9.elim) | (intro v9 led9 h9 tk9 F9 N9 x9; obtain ⟨a9, t19, t29, e9, e9', hl9⟩ := x9; subst e9; subst e9'; (try dsimp only)))) | ((with_reducible show wpAny _ _ (call (Value.ref 170) _) _ _ _); (refine' Ct.use (y170 (k := wr) (by omega) (by omega) (by omega) (by omega)) BS ?cB ?cF ?cN ?ck ?cd ?cu ?_ ?_); (case cB => assumption); (case cF => assumption); (case cN => first | assumption | exact news_sub (by assumption) (by kst_inAny)); (case ck => exact rfl); (case cd => k_room); (case cu => k_units); (all_goals first | (intro e9 cls9 G9 led9 h9 tk9 F9 R9 U9 x9; exact x9.elim) | (intro v9 led9 h9 tk9 F9 N9 x9; obtain ⟨t9, e9, e9'⟩ := x9; subst e9; subst e9'; (try dsimp only)))) | ((with_reducible show wpAny _ _ (call (Value.ref 86) _) _ _ _); (refine' Ct.use (y86 (k := wr) (by omega) (by omega) (by omega) (by omega)) BS ?cB ?cF ?cN ?ck ?cd ?cu ?_ ?_); (case cB => assumption); (case cF => assumption); (case cN => first | assumption | exact news_sub (by assumption) (by kst_inAny)); (case ck => exact rfl); (case cd => k_room); (case cu => k_units); (all_goals first | (intro e9 cls9 G9 led9 h9 tk9 F9 R9 U9 x9; exact x9.elim) | (intro v9 led9 h9 tk9 F9 N9 x9; obtain ⟨t9, e9, e9'⟩ := x9; subst e9; subst e9'; (try dsimp only)))) | ((with_reducible show wpAny _ _ (call (Value.ref 149) _) _ _ _); (refine' Ct.use (y149 (tph_any _) (by assumption) (by assumption) (by omega) (by omega) (by omega) (by omega)) BS ?cB ?cF ?cN ?ck ?cd ?cu ?_ ?_); (case cB => assumption); (case cF => assumption); (case cN => first | assumption | exact news_sub (by assumption) (by kst_inAny)); (case ck => exact rfl); (case cd => k_room); (case cu => k_units); (all_goals first | (intro e9 cls9 G9 led9 h9 tk9 F9 R9 U9 x9; exact x9.elim) | (intro v9 led9 h9 tk9 F9 N9 x9; obtain ⟨a9, t19, t29, l09, Z9, e9, e9', hl9⟩ := x9; subst e9; subst e9'; (try dsimp only)))) | ((with_reducible show wpAny _ _ (call (Value.ref 142) _) _ _ _); (refine' Ct.use (y142 (by assumption) (by assumption) hb (by assumption) (by first | rfl | (simp only [KBw.bInts, List.length_map, Array.length_toList]; done) | omega)) BS ?cB ?cF ?cN ?ck ?cd ?cu ?_ ?_); (case cB => assumption); (case cF => assumption); (case cN => first | assumption | exact news_sub (by assumption) (by kst_inAny)); (case ck => exact rfl); (case cd => k_room); (case cu => k_units); (all_goals first | (intro e9 cls9 G9 led9 h9 tk9 F9 R9 U9 x9; exact x9.elim) | (intro v9 led9 h9 tk9 F9 N9 x9; obtain ⟨a9, t19, t29, e9, e9', hl9⟩ := x9; subst e9; subst e9'; (try dsimp only)))) | (refine stop_in ?_))
  refine wpAny_call ?_
  k_dflt (refine' code_defS B F X N T XB TB D KtsTurn.refl ?kA ?k6 ?k7 ?k8 ?k9 ?kB ?_ hk ?c2 ?c3 ?c4 ?c5; (case kA => exact rfl); (case k6 => k_is); (case k7 => k_is); (case k8 => k_room); (case k9 => exact BindsTo.of_eq rfl); (case c5 => decide); (case kB => exact locs rfl); (case c2 => exact rfl); (case c3 => exact rfl); (case c4 => exact rfl); k_whole; intro g' L' h' FG' F' N' B' X' T' D'; (try dsimp only); (try k_lift B'); (try k_fold))
  k_steps
  all_goals first
    | exact hret _ _ _ _ _ (by assumption) (by assumption) (by assumption) (by assumption) (by assumption) ⟨rfl, by assumption⟩
    | exact tags_ret hret B D (by assumption) (by assumption) (by assumption) (by kst_inAny)
    | exact (bytes_absurd (by assumption) (by assumption) (by assumption)).elim
    | (exfalso; omega)
end
section
open PySem PySem.W PySem.Spec PySem.Calls PyProof.Rows PyProof.V
theorem CtT.mono {w : World} {f : Addr} {vs : List Value} {d : Nat} {l : List (Addr × Obj)} {R R' : List (Addr × Obj) → Value → Prop} (C : CtT w f vs d l R) (h : ∀ l' v, R l' v → R' l' v) : CtT w f vs d l R' := by
  unfold CtT
  intro loose mean mg mb dp un gd cn cs a ccd outer A₀ base h₀ L m s Q E BS B F N D hk hd hu hret
  exact C.use BS B F N D hk hd hu fun v led' h' tk' h₀' x1 x2 x3 x4 x5 r => hret v led' h' tk' h₀' x1 x2 x3 x4 x5 (h _ _ r)
/-- a reading in the law, over the four tables -/
def RZ (T : List (Addr × Obj) → Prop) (which : Int) (ks : List Int) (p : Nat) (led l : List (Addr × Obj)) (v : Value) : Prop :=
  ∃ l0, Zn T led l0 ∧
    ((∃ n q a t1 t2, scan ks p 10 0 0 = .ok n q ∧ v = .ref a ∧ l = (a, tupObj [.int (fixOf which n) t1, .int (q : Int) t2]) :: l0 ∧ (∀ x ∈ l0, x.1 < a)) ∨
     (scan ks p 10 0 0 = .many ∧ l = l0 ∧ ∃ t, v = .str (Str.ofString "many") t) ∨
     (scan ks p 10 0 0 = .index ∧ l = l0 ∧ ∃ t, v = .str (Str.ofString "index") t))
section
variable {w : World} {T : List (Addr × Obj) → Prop} {led r : List (Addr × Obj)} {b : Array UInt8} {t u u1 v0 : Tok} {ks : List Int} {p which : Int}
theorem z235 (hA : ∀ t, T t → TwAny t) (Z : Zn T led r) (hb : KBw.bInts b = ks) (hlen : ks.length ≤ 14) (hp0 : 0 ≤ p) (hp1 : p ≤ ks.length) (hw0 : 0 ≤ which) (hw3 : which ≤ 3) :
    CtT w 235 [.int which v0, .bytes b t, .int p u] 6 r (RZ T which ks p.toNat led) := by
  obtain ⟨t95, t102, t188, t251, z1, z2, z3, z4, rfl, z5⟩ := Z
  have q := tw_off (hA _ z4)
  obtain ⟨o95, o102, o188, o251⟩ := off_of z5
  refine (c235 w b ks p which t u v0 t95 t102 (t188 ++ (t251 ++ led)) z1 z2 (off_app (tb_off z3 (by decide) (by simp)) (off_app (fun x hx => (q x hx).1) o95)) (off_app (tb_off z3 (by decide) (by simp)) (off_app (fun x hx => (q x hx).2.1) o102)) (has_l (tb_has z3)) (has_r (has_l (tw_has (hA _ z4)))) hb (by omega) hp0 hp1 hw0 hw3).mono fun l' v h => ?_
  obtain ⟨s95, s102, y1, y2, h⟩ := h
  refine ⟨_, ⟨s95, s102, t188, t251, y1, y2, z3, z4, rfl, z5⟩, h⟩
end
/-- what is due, the reading known -/
def DuOk (x q : Int) (led l : List (Addr × Obj)) (v : Value) : Prop := ∃ a t1 t2, v = .ref a ∧ l = (a, tupObj [.int x t1, .int q t2]) :: led ∧ (∀ y ∈ led, y.1 < a)
def StrR (x : String) (led l : List (Addr × Obj)) (v : Value) : Prop := ∃ t, v = .str (Str.ofString x) t ∧ l = led
section
variable {w : World} {vs : List Value} {led : List (Addr × Obj)} {fix : Int → Int} {ks : List Int} {p : Nat} {n : Int} {q d : Nat}
theorem due_k1 (C : Ct w 228 vs d led (DueR fix ks p led) (fun _ _ => False)) (hs : scan ks p 10 0 0 = .ok n q) : Ct w 228 vs d led (DuOk (fix n) (q : Int) led) (fun _ _ => False) :=
  C.perm (fun _ h => h) (fun l' v h => by
    rcases h with ⟨n', q', a, t1, t2, e, e1, e2, hl⟩ | ⟨e, _⟩ | ⟨e, _⟩
    · rw [hs] at e
      injection e with e3 e4
      subst e3 e4
      exact ⟨_, fun _ h => h, a, t1, t2, e1, e2, hl⟩
    · rw [hs] at e; cases e
    · rw [hs] at e; cases e) (fun _ _ h => h)
theorem due_k2 (C : Ct w 228 vs d led (DueR fix ks p led) (fun _ _ => False)) (hs : scan ks p 10 0 0 = .many) : Ct w 228 vs d led (StrR "many" led) (fun _ _ => False) :=
  C.perm (fun _ h => h) (fun l' v h => by
    rcases h with ⟨n', q', a, t1, t2, e, _⟩ | ⟨_, e1, t, e2⟩ | ⟨e, _⟩
    · rw [hs] at e; cases e
    · exact ⟨_, fun _ h => h, t, e2, e1⟩
    · rw [hs] at e; cases e) (fun _ _ h => h)
theorem due_k3 (C : Ct w 228 vs d led (DueR fix ks p led) (fun _ _ => False)) (hs : scan ks p 10 0 0 = .index) : Ct w 228 vs d led (StrR "index" led) (fun _ _ => False) :=
  C.perm (fun _ h => h) (fun l' v h => by
    rcases h with ⟨n', q', a, t1, t2, e, _⟩ | ⟨e, _⟩ | ⟨_, e1, t, e2⟩
    · rw [hs] at e; cases e
    · rw [hs] at e; cases e
    · exact ⟨_, fun _ h => h, t, e2, e1⟩) (fun _ _ h => h)
end
theorem fixB_u64 : fixB false 64 = fixOf 0 := by
  funext n; unfold fixB fixOf; rw [if_neg (by simp), if_pos rfl]; rfl
theorem fixB_u32 : fixB false 32 = fixOf 1 := by
  funext n; unfold fixB fixOf; rw [if_neg (by simp), if_neg (by decide), if_pos rfl]; rfl
theorem fixB_s64 : fixB true 64 = fixOf 2 := by
  funext n; rw [show fixOf 2 n = fS64 n from rfl]; unfold fixB
  unfold fS64
  have e1 : (1 : Int) * 2 ^ Int.toNat (64 - 1) = 9223372036854775808 := by decide
  have e2 : (1 : Int) * 2 ^ Int.toNat 64 = 18446744073709551616 := by decide
  rw [e1, e2]
  simp only [true_and]
theorem fixB_s32 : fixB true 32 = fixOf 3 := by
  funext n; rw [show fixOf 3 n = fS32 n from rfl]; unfold fixB
  unfold fS32
  have e1 : (1 : Int) * 2 ^ Int.toNat (32 - 1) = 2147483648 := by decide
  have e2 : (1 : Int) * 2 ^ Int.toNat 32 = 4294967296 := by decide
  rw [e1, e2]
  simp only [true_and]
section
variable {w : World} {b : Array UInt8} {ks : List Int} {p : Int} {t u u1 : Tok} {led : List (Addr × Obj)} (hb : KBw.bInts b = ks) (hlen : ks.length ≤ 14) (hp0 : 0 ≤ p) (hp1 : p ≤ ks.length)
include hb hlen hp0 hp1
theorem d228_0 : Ct w 228 [.bytes b t, .int p u, .int 64 u1, .bool false] 2 led (DueR (fixOf 0) ks p.toNat led) (fun _ _ => False) :=
  fixB_u64 ▸ c228u w b ks p 64 t u u1 led hb (by omega) hp0 hp1 (by decide) (by decide)
theorem d228_1 : Ct w 228 [.bytes b t, .int p u, .int 32 u1, .bool false] 2 led (DueR (fixOf 1) ks p.toNat led) (fun _ _ => False) :=
  fixB_u32 ▸ c228u w b ks p 32 t u u1 led hb (by omega) hp0 hp1 (by decide) (by decide)
theorem d228_2 : Ct w 228 [.bytes b t, .int p u, .int 64 u1, .bool true] 2 led (DueR (fixOf 2) ks p.toNat led) (fun _ _ => False) :=
  fixB_s64 ▸ c228s w b ks p 64 t u u1 led hb (by omega) hp0 hp1 (by decide) (by decide)
theorem d228_3 : Ct w 228 [.bytes b t, .int p u, .int 32 u1, .bool true] 2 led (DueR (fixOf 3) ks p.toNat led) (fun _ _ => False) :=
  fixB_s32 ▸ c228s w b ks p 32 t u u1 led hb (by omega) hp0 hp1 (by decide) (by decide)
end
theorem RngO.no_code {o : Obj} (h : RngO o) {vs : Array Value} {x : Str} {t : Tok} (hd : o.data = .fields vs) (hv : vs[1]? = some (.str x t)) : False := by
  obtain ⟨a, b, c, e⟩ := h
  rw [hd] at e
  injection e with e
  subst e
  simp [rawInt] at hv
/-- what lies in the ledger of the tables -/
theorem zn_ent {T : List (Addr × Obj) → Prop} (hA : ∀ t, T t → TwAny t) {led r : List (Addr × Obj)} (Z : Zn T led r) : ∀ x ∈ r, x ∈ led ∨ x.1 = 95 ∨ x.1 = 102 ∨ x.1 = 188 ∨ x.1 = 251 ∨ ∃ vs y t, x.2.data = .fields vs ∧ vs[1]? = some (.str y t) := by
  obtain ⟨t95, t102, t188, t251, z1, z2, z3, z4, rfl, _⟩ := Z
  have tb : ∀ {P : Addr} {ln cl : Int} {q : Str} {ts : List (Addr × Obj)}, Tb P ln cl q ts → ∀ x ∈ ts, x.1 = P ∨ ∃ vs y t, x.2.data = .fields vs ∧ vs[1]? = some (.str y t) := fun {P ln cl q ts} h x hx => by
    rcases h with rfl | ⟨c, oc, vs, t, rfl, h1, h2, _⟩
    · exact .inl (by rcases List.mem_cons.mp hx with e | e; · rw [e]
                     · cases e)
    · rcases List.mem_cons.mp hx with e | e
      · exact .inr ⟨vs, q, t, by rw [e]; exact h1, h2⟩
      rcases List.mem_cons.mp e with e | e
      · exact .inl (by rw [e])
      · cases e
  have cq : ∀ {c oc} {x : Addr × Obj}, CodeQ c oc → x = (c, oc) → ∃ vs y t, x.2.data = .fields vs ∧ vs[1]? = some (.str y t) := fun {c oc x} h e => by
    obtain ⟨vs, t, h1, h2, _⟩ := h
    exact ⟨vs, _, t, by rw [e]; exact h1, h2⟩
  intro x hx
  rcases List.mem_append.mp hx with hx | hx
  · rcases tb z1 x hx with h | h
    · exact .inr (.inl h)
    · exact .inr (.inr (.inr (.inr (.inr h))))
  rcases List.mem_append.mp hx with hx | hx
  · rcases tb z2 x hx with h | h
    · exact .inr (.inr (.inl h))
    · exact .inr (.inr (.inr (.inr (.inr h))))
  rcases List.mem_append.mp hx with hx | hx
  · rcases tb z3 x hx with h | h
    · exact .inr (.inr (.inr (.inl h)))
    · exact .inr (.inr (.inr (.inr (.inr h))))
  rcases List.mem_append.mp hx with hx | hx
  · have h251 : x.1 = 251 ∨ ∃ vs y t, x.2.data = .fields vs ∧ vs[1]? = some (.str y t) := by
      rcases hA _ z4 with rfl | ⟨c, oc, rfl, q⟩ | ⟨c, oc, d, od, rfl, q, q'⟩
      · rcases List.mem_cons.mp hx with e | e
        · exact .inl (by rw [e])
        · cases e
      · rcases List.mem_cons.mp hx with e | e
        · exact .inr (cq q e)
        rcases List.mem_cons.mp e with e | e
        · exact .inl (by rw [e])
        · cases e
      · rcases List.mem_cons.mp hx with e | e
        · exact .inr (cq q e)
        rcases List.mem_cons.mp e with e | e
        · exact .inr (cq q' e)
        rcases List.mem_cons.mp e with e | e
        · exact .inl (by rw [e])
        · cases e
    rcases h251 with h | h
    · exact .inr (.inr (.inr (.inr (.inl h))))
    · exact .inr (.inr (.inr (.inr (.inr h))))
  · exact .inl hx
theorem zn_has {T : List (Addr × Obj) → Prop} (hA : ∀ t, T t → TwAny t) {led r : List (Addr × Obj)} (Z : Zn T led r) : (∃ o, ((95 : Addr), o) ∈ r) ∧ (∃ o, ((102 : Addr), o) ∈ r) ∧ (∃ o, ((188 : Addr), o) ∈ r) ∧ (∃ o, ((251 : Addr), o) ∈ r) ∧ ∀ x ∈ led, x ∈ r := by
  obtain ⟨t95, t102, t188, t251, z1, z2, z3, z4, rfl, _⟩ := Z
  exact ⟨has_l (tb_has z1), has_r (has_l (tb_has z2)), has_r (has_r (has_l (tb_has z3))), has_r (has_r (has_r (has_l (tw_has (hA _ z4))))), fun x hx => List.mem_append_right _ (List.mem_append_right _ (List.mem_append_right _ (List.mem_append_right _ hx)))⟩
section
variable {T : List (Addr × Obj) → Prop} {base r0 r' l : List (Addr × Obj)} {I : Addr} {o : Obj} {g h : Heap} {L : Addr}
theorem zn_put (hA : ∀ t, T t → TwAny t) (Z : Zn T base r0) (hoff : ∀ p ∈ r0, p.1 ≠ I) : ∃ r1, Zn T ((I, o) :: base) r1 ∧ ∀ x ∈ r1, x ∈ (I, o) :: r0 := by
  obtain ⟨⟨o1, h1⟩, ⟨o2, h2⟩, ⟨o3, h3⟩, ⟨o4, h4⟩, _⟩ := zn_has hA Z
  obtain ⟨t95, t102, t188, t251, z1, z2, z3, z4, rfl, z5⟩ := Z
  refine ⟨_, ⟨t95, t102, t188, t251, z1, z2, z3, z4, rfl, fun x hx => ?_⟩, fun x hx => ?_⟩
  · rcases List.mem_cons.mp hx with e | hx
    · subst e
      exact ⟨(hoff _ h1).symm, (hoff _ h2).symm, (hoff _ h3).symm, (hoff _ h4).symm⟩
    · exact z5 x hx
  · simp only [List.mem_append, List.mem_cons] at hx ⊢
    rcases hx with h | h | h | h | h | h <;> simp [h]
theorem zn_drop (Z : Zn T ((I, o) :: base) r0) : ∃ r1, Zn T base r1 ∧ (∀ x ∈ r1, x ∈ r0) ∧ (I, o) ∈ r0 := by
  obtain ⟨t95, t102, t188, t251, z1, z2, z3, z4, rfl, z5⟩ := Z
  refine ⟨_, ⟨t95, t102, t188, t251, z1, z2, z3, z4, rfl, fun x hx => z5 x (.tail _ hx)⟩, fun x hx => ?_, ?_⟩
  · simp only [List.mem_append, List.mem_cons] at hx ⊢
    rcases hx with h | h | h | h | h <;> simp [h]
  · simp
theorem zn_off (hA : ∀ t, T t → TwAny t) (Zo : Zn T base r0) (hoff : ∀ p ∈ r0, p.1 ≠ I) (Z : Zn T base r') (N : News g L h l) (hI : (I, o) ∈ l) (hs : ∀ x ∈ r', x ∈ l) (hO : RngO o) : ∀ p ∈ r', p.1 ≠ I := by
  obtain ⟨⟨o1, h1⟩, ⟨o2, h2⟩, ⟨o3, h3⟩, ⟨o4, h4⟩, hb⟩ := zn_has hA Zo
  intro p hp e
  rcases zn_ent hA Z p hp with h | h | h | h | h | ⟨vs, y, t, d1, d2⟩
  · exact hoff p (hb p h) e
  · exact hoff _ h1 (h ▸ e)
  · exact hoff _ h2 (h ▸ e)
  · exact hoff _ h3 (h ▸ e)
  · exact hoff _ h4 (h ▸ e)
  · have a1 := (N p (hs p hp)).1
    have a2 := (N _ hI).1
    rw [e, a2] at a1
    have a3 : o = p.2 := by injection a1
    exact hO.no_code (a3 ▸ d1) d2
theorem turn_zn {GP : Heap → Prop} {s : Shared} {P : (Str → Option Value) → Prop} {Q : Flow → Shared → Prop} {tk' : Nat} {m' : Str → Option Value} {l0 : List (Addr × Obj)} (hA : ∀ t, T t → TwAny t) (Zo : Zn T base r0) (hoff : ∀ p ∈ r0, p.1 ≠ I) (hO : RngO o) (Z : Zn T ((I, o) :: base) l0)
    (hg : GP g) (F : Fr g L h m') (N : News g L h l) (hs : ∀ x ∈ l0, x ∈ l) (hP : P m') : TurnEnd GP L s I o (fun m l => P m ∧ Zn T base l) Q .next { s with heap := h, toks := tk' } := by
  obtain ⟨r1, z1, z2, z3⟩ := zn_drop Z
  exact turn_end hg F N (hs _ z3) (fun x hx => hs _ (z2 x hx)) (zn_off hA Zo hoff z1 N (hs _ z3) (fun x hx => hs _ (z2 x hx)) hO) ⟨hP, z1⟩
end
theorem map_as {m : Str → Option Value} {x : Str} {v : Value} (h : m x = some v) : (fun y => if y = x then some v else m y) = m := by
  funext y
  by_cases e : y = x
  · rw [if_pos e, e, h]
  · rw [if_neg e]
section
variable {prog : Program} {w : World} {A : Around} {E : Value → Shared → Prop} {Q : Flow → Shared → Prop} {env : Env} {s : Shared} {GP : Heap → Prop} {T : List (Addr × Obj) → Prop} {base r0 l : List (Addr × Obj)} {x xo xp : Str} {vo vp : Value} {body : List Stmt} {r : Addr} {b₀ : Int} {t u v : Tok} {n : Nat} {g : Heap} {m : Str → Option Value}
/-- the loop over the places: one name stays -/
theorem forZ1 (hA : ∀ t, T t → TwAny t) (hh : A.handled = none) (hr : IsRange s.heap r 0 b₀ 1 t u v) (hsm : Builtin.Range.small 0 b₀ 1 = true) (hn : Builtin.Range.rangeSize 0 b₀ 1 = (n : Int)) (hg : GP g) (F : Fr g env.locals s.heap m) (N : News g env.locals s.heap l)
    (hm : m xo = some vo) (Z : Zn T base r0) (hs : ∀ y ∈ r0, y ∈ l)
    (turn : ∀ (i : Nat) (k : Int) (g : Heap) (m : Str → Option Value) (I : Addr) (o : Obj) (t : Tok) (h : Heap) (tk : Nat) (l1 r0' : List (Addr × Obj)), 0 ≤ k → k < n → RngO o → GP g → Zn T base r0' → (∀ p ∈ r0', p.1 ≠ I) → Zn T ((I, o) :: base) l1 → Fr g env.locals h (fun y => if y = x then some (.int k t) else if y = xo then some vo else m y) → News g env.locals h l1 →
      wpAny (model prog w) A (execs body env) (TurnEnd GP env.locals s I o (fun m l => m xo = some vo ∧ Zn T base l) Q) E { s with heap := h, toks := tk })
    (done : ∀ (g : Heap) (m : Str → Option Value) (h : Heap) (tk : Nat) (l : List (Addr × Obj)), GP g → Zn T base l → Fr g env.locals h (fun y => if y = xo then some vo else m y) → News g env.locals h l → Q .next { s with heap := h, toks := tk }) :
    ForT prog w A GP (fun _ m l => m xo = some vo ∧ Zn T base l) env x body Q E (.ref r) s := by
  refine ⟨r, 0, b₀, t, u, v, n, g, m, r0, rfl, hh, hr, hsm, hn, hg, F, news_sub N hs, ⟨hm, Z⟩, ?_, ?_⟩
  · intro i g m led I o t h tk hi hO hg hJ hoff F N
    obtain ⟨hm, Z⟩ := hJ
    obtain ⟨r1, z1, z2⟩ := zn_put (o := o) hA Z hoff
    rw [← map_as hm] at F
    exact turn i (0 + (i : Int)) g m I o t h tk r1 led (by omega) (by omega) hO hg Z hoff z1 F (news_sub N z2)
  · intro g m led h tk hg hJ F N
    rw [← map_as hJ.1] at F
    exact done g m h tk led hg hJ.2 F N
/-- the loop over the readers: two names stay -/
theorem forZ2 (hA : ∀ t, T t → TwAny t) (hh : A.handled = none) (hr : IsRange s.heap r 0 4 1 t u v) (hg : GP g) (F : Fr g env.locals s.heap m) (N : News g env.locals s.heap l)
    (hm : m xo = some vo) (hm2 : m xp = some vp) (Z : Zn T base r0) (hs : ∀ y ∈ r0, y ∈ l)
    (turn : ∀ (k : Int) (g : Heap) (m : Str → Option Value) (I : Addr) (o : Obj) (t : Tok) (h : Heap) (tk : Nat) (l1 r0' : List (Addr × Obj)), k = 0 ∨ k = 1 ∨ k = 2 ∨ k = 3 → RngO o → GP g → Zn T base r0' → (∀ p ∈ r0', p.1 ≠ I) → Zn T ((I, o) :: base) l1 → Fr g env.locals h (fun y => if y = x then some (.int k t) else if y = xo then some vo else if y = xp then some vp else m y) → News g env.locals h l1 →
      wpAny (model prog w) A (execs body env) (TurnEnd GP env.locals s I o (fun m l => (m xo = some vo ∧ m xp = some vp) ∧ Zn T base l) Q) E { s with heap := h, toks := tk })
    (done : ∀ (g : Heap) (m : Str → Option Value) (h : Heap) (tk : Nat) (l : List (Addr × Obj)), GP g → Zn T base l → Fr g env.locals h (fun y => if y = xo then some vo else if y = xp then some vp else m y) → News g env.locals h l → Q .next { s with heap := h, toks := tk }) :
    ForT prog w A GP (fun _ m l => (m xo = some vo ∧ m xp = some vp) ∧ Zn T base l) env x body Q E (.ref r) s := by
  refine ⟨r, 0, 4, t, u, v, 4, g, m, r0, rfl, hh, hr, by decide, by decide, hg, F, news_sub N hs, ⟨⟨hm, hm2⟩, Z⟩, ?_, ?_⟩
  · intro i g m led I o t h tk hi hO hg hJ hoff F N
    obtain ⟨⟨hm, hm2⟩, Z⟩ := hJ
    obtain ⟨r1, z1, z2⟩ := zn_put (o := o) hA Z hoff
    rw [← map_as hm, ← map_as hm2] at F
    exact turn (0 + (i : Int)) g m I o t h tk r1 led (by omega) hO hg Z hoff z1 F (news_sub N z2)
  · intro g m led h tk hg hJ F N
    rw [← map_as hJ.1.1, ← map_as hJ.1.2] at F
    exact done g m h tk led hg hJ.2 F N
end
end
section
open PySem PySem.W PySem.Spec PySem.Calls PyProof.Rows PyProof.V
theorem bints_In (b : Array UInt8) : KBa.In (KBw.bInts b) := fun _ h => KBw.ints_in h
section
variable {w : World} {T : List (Addr × Obj) → Prop} {vs : List Value} {led r : List (Addr × Obj)} {ks : List Int} {p d m : Nat} {n : Int} {t : Tok}
/-- the row up to the tag's end -/
def TgK (ks : List Int) (p n : Nat) (led l : List (Addr × Obj)) (v : Value) : Prop :=
  ∃ a b t1 t2, v = .ref a ∧ KBw.bInts b = (ks.drop p).take (n + 1 - p) ∧ l = (a, tupObj [.bytes b t1, .int ((n + 1 : Nat) : Int) t2]) :: led ∧ (∀ x ∈ led, x.1 < a)
theorem tag_k1 (C : Ct w 242 vs d led (TagL ks p led) (fun _ _ => False)) (h : tagEnd ks p = some m) : Ct w 242 vs d led (TgK ks p m led) (fun _ _ => False) :=
  C.perm (fun _ h => h) (fun l' v x => by
    rcases x with ⟨a, b, n, t1, t2, e, e1, e2, e3, hl⟩ | ⟨e, _⟩
    · rw [h] at e
      injection e with e
      subst e
      exact ⟨_, fun _ h => h, a, b, t1, t2, e1, e2, e3, hl⟩
    · rw [h] at e; cases e) (fun _ _ h => h)
theorem tag_k2 (C : Ct w 242 vs d led (TagL ks p led) (fun _ _ => False)) (h : tagEnd ks p = none) : Ct w 242 vs d led (StrR "index" led) (fun _ _ => False) :=
  C.perm (fun _ h => h) (fun l' v x => by
    rcases x with ⟨a, b, n, t1, t2, e, _⟩ | ⟨_, e1, t, e2⟩
    · rw [h] at e; cases e
    · exact ⟨_, fun _ h => h, t, e2, e1⟩) (fun _ _ h => h)
/-- the tag's reading -/
def TagZ (ks : List Int) (p : Nat) (led l : List (Addr × Obj)) (v : Value) : Prop :=
  (∃ n, tagEnd ks p = some n ∧ TgK ks p n led l v) ∨ (tagEnd ks p = none ∧ StrR "index" led l v)
theorem tagz_of {l : List (Addr × Obj)} {v : Value} (x : TagL ks p led l v) : TagZ ks p led l v := by
  rcases x with ⟨a, b, n, t1, t2, e, e1, e2, e3, hl⟩ | ⟨e, e1, t, e2⟩
  · exact .inl ⟨n, e, a, b, t1, t2, e1, e2, e3, hl⟩
  · exact .inr ⟨e, t, e2, e1⟩
theorem w156 : Ct w 156 [.int (fixOf 0 n) t] 1 led (IR (vsz (fU64 n)) led) (fun _ _ => False) := c156 w (fU64 n) t led (fU64_bd n).lo (fU64_bd n)
theorem w193 (hA : ∀ t, T t → TwAny t) (Z : Zn T led r) : Ct w 193 [.int (fixOf 0 n) t] 6 r (fun l v => Zn T led l ∧ BV (enc (fU64 n).toNat) v) (fun _ _ => False) := e193 hA Z (fU64_bd n).lo (fU64_bd n)
end
theorem size_in {b : Array UInt8} {k n : Int} {q : Nat} (h0 : 0 ≤ k) (h : scan (KBw.bInts b) k.toNat 10 0 0 = .ok n q) : vsz (fU64 n) ≤ (q : Int) - k := by
  have := (read_size (bints_In b) h).1
  omega
theorem short_absurd {b c d : Array UInt8} {k n : Int} {q : Nat} (h : (c.toList != d.toList) = true)
    (hc : KBw.bInts c = List.take (clipAt (KBw.bInts b).length (q : Int) - clipAt (KBw.bInts b).length k) (List.drop (clipAt (KBw.bInts b).length k) (KBw.bInts b))) (hd : KBw.bInts d = enc (fU64 n).toNat)
    (hs : scan (KBw.bInts b) k.toNat 10 0 0 = .ok n q) (h0 : 0 ≤ k) (hsz : (q : Int) - k = vsz (fU64 n)) (h10 : vsz (fU64 n) < 10) : False := by
  obtain ⟨a, rfl⟩ : ∃ a : Nat, k = a := ⟨k.toNat, by omega⟩
  rw [Int.toNat_natCast] at hs
  obtain ⟨_, _, e2, e3, _, _, _⟩ := scan_spec (KBw.bInts b) (bints_In b) a 10 0 0 n q hs
  rw [clipAt_nat, clipAt_nat, Nat.min_eq_left (by omega), Nat.min_eq_left (by omega)] at hc
  rw [read_short (bints_In b) hs hsz h10] at hc
  exact bytes_absurd h hc hd
end
section
open PySem PySem.W PySem.Spec PySem.Calls PyProof.Rows
local macro_rules | `(tactic| walk_at "execs cons") => `(tactic| k_extra "execs cons")
local macro_rules | `(tactic| walk_at "subscriptTail Name Slice bytes ref") => `(tactic| k_extra "subscriptTail Name Slice bytes ref")
local macro_rules | `(tactic| walk_at "call builtin:isinstance") => `(tactic| k_extra "call builtin:isinstance")
local macro_rules | `(tactic| walk_at "exec For Name Call cons nil") => `(tactic| (k_here; k_extra "exec For Name Call cons nil"))
local macro_rules | `(tactic| walk_at "ForT") => `(tactic| k_extra "ForT")
local macro_rules | `(tactic| walk_at "TurnEnd") => `(tactic| k_extra "TurnEnd")
local macro_rules | `(tactic| walk_at "call builtin:len") => `(tactic| k_extra "call builtin:len")
local macro_rules | `(tactic| walk_at "compareOp NotEq ref ref") => `(tactic| k_extra "compareOp NotEq ref ref")
set_option maxHeartbeats 4000000 in
theorem c249 (w : World) (b : Array UInt8) (t : Tok) (p : Nat) (led r : List (Addr × Obj)) (hb : (KBw.bInts b).length ≤ 14) (Z : Zn (Tph p) led r) :
  CtT w 249 [.bytes b t] 12 r (fun led' v => v = .bool true ∧ Zn (Tph p) led led') := by
  unfold CtT
  intro loose mean mg mb dp un gd cn cs a ccd outer A₀ base h₀ L m s Q E BS B F N D hk hd hu hret
  have X := BS.X.keeps B.stays
  have T := BS.T.keeps B.stays
  have XB := BS.X
  have TB := BS.T
  have hMk : KstMark := kstMark
  k_with_none
  k_with "loadName" => (k_here; k_dflt (refine' loadX_L ?k1 ?k2 ?_ ?a ?b; (case a => rfl); (case b => rfl); (case k1 => k_asm); (case k2 => exact rfl); k_whole))
  k_with "leaving ref" => (k_here; k_dflt (first
  | (refine' leaveX_new ?k1 ?k0 ?k2 ?k3 ?k4 ?k5 ?_; (case k0 => assumption); (case k2 => assumption); (case k1 => assumption); (case k3 => k_asm); (case k4 => exact rfl); (case k5 => exact rfl); k_whole; intro h' R' U'; (try dsimp only at R' U' ⊢))
  | (refine' leaveX_made ?k1 ?k0 ?k2 ?k3 ?k4 ?k5 ?_; (case k0 => first | assumption | exact Heap.MadeExc.of (by assumption)); (case k2 => assumption); (case k1 => assumption); (case k3 => k_asm); (case k4 => exact rfl); (case k5 => exact rfl); k_whole; intro h' R' U'; (try dsimp only at R' U' ⊢))
  | (refine' leaveX_on ?k1 ?k2 ?k3 ?k4 ?k5 ?_; (case k3 => assumption); (case k2 => assumption); (case k1 => assumption); (case k4 => assumption); (case k5 => exact rfl); k_whole; intro h' R' U'; (try dsimp only at R' U' ⊢))))
  k_with "subscriptTail Name Name bytes int" => (k_here; (with_reducible show wpAny _ _ (subscriptTail _ _ (Value.bytes _ _) (Value.int _ _)) _ _ _); (with_unfolding_all refine' item_or ?h0 (by kba_ints) ?h1 ?h2 ?h3 ?h4 ?h5 ?h6 ?h7; (case h0 => rfl); (case h1 => omega); (case h2 => omega); (case h3 => omega); (case h6 => with_unfolding_all rfl); (case h7 => (intro _; with_unfolding_all rfl)); k_whole); first | (intro hlt' t' tk' h0' h1') | (intro hge' h' tk' e' x'))
  k_with "exec Raise some none" => (k_here; k_dflt (refine' RaiseX_own ?F ?X ?T ?e ?q PySem.F.excBase_Exception ?h ?_ ?a ?b ?c ?d ?g; (case F => k_asm); (case X => k_asm); (case T => k_asm); (case e => k_is); (case q => k_exc); (case h => first | rfl | assumption); (case a => rfl); (case b => rfl); (case c => rfl); (case d => rfl); (case g => decide); k_whole))
  k_with "binaryOp BitAnd int int" => (first | (refine and_to (bitAnd_m7 _) ?_) | (refine and_to (band128 _) ?_) | (refine and_to (bitAnd_m3 _) ?_) | (refine and_to (bitAnd_m1 _) ?_))
  k_with "inplaceOp BitAnd int int" => (first | (refine iand_to (band64 _) ?_) | (refine iand_to (bitAnd_m32 _) ?_))
  k_with "binaryOp LShift int int" => ((refine shl_to ?_ ?_ ?_ ?_); (focus omega); (focus omega); (focus omega))
  k_with "exec FunctionDef" => (k_here; (rename (_ = _ ++ _) => hr9; subst hr9); k_dflt (refine' nestDef_K ?d0 ?k0 ?a0 ?_; (case d0 => exact rfl); (case k0 => exact rfl); (case a0 => exact rfl)); (first
  | (k_dflt (refine' nestB (mid := [_]) ?F ?N ?T ?C ?cd ?tb ?o1 ?o2 ?hT ?cl ?_; (case F => k_asm); (case T => k_asm); (case cd => exact rfl); (case C => kn_code); (case tb => assumption); (case N => k_asm); (case o2 => assumption); (case hT => assumption); (case o1 => (intro x9 h9; rcases List.mem_cons.mp h9 with e9 | h9; (subst e9; k_ne); cases h9)); (case cl => exact rfl); k_whole))
  | (k_dflt (refine' nestB (mid := [_, _]) ?F ?N ?T ?C ?cd ?tb ?o1 ?o2 ?hT ?cl ?_; (case F => k_asm); (case T => k_asm); (case cd => exact rfl); (case C => kn_code); (case tb => assumption); (case N => k_asm); (case o2 => assumption); (case hT => assumption); (case o1 => (intro x9 h9; rcases List.mem_cons.mp h9 with e9 | h9; (subst e9; k_ne); rcases List.mem_cons.mp h9 with e9 | h9; (subst e9; k_ne); cases h9)); (case cl => exact rfl); k_whole))); (intro f' c' oc' vs' t' ct' dc' h' tk' F' N' d1' d2' n3' l1; (simp only [List.cons_append, List.nil_append] at N' l1); (try k_lt l1)))
  k_with "execs cons" => (k_here; k_dflt (refine wpAny_execs_cons ?_); (try dsimp only))
  k_with "subscriptTail Name Slice bytes ref" => (k_here; (with_reducible show wpAny _ _ (subscriptTail _ (Expr.Slice _ _ none _) (Value.bytes _ _) (Value.ref _)) _ _ _); (try dsimp only); (rename Fr _ _ _ _ => F'); (rename News _ _ _ _ => N'); (refine KBc.slice_K (s := ⟨_, _, _, _, _⟩) F' N' rfl (by constructor) (by constructor) (by omega) ?_); intro _ _ _ _ _ kbcK; (try simp only [Option.elim] at kbcK))
  k_with "call builtin:isinstance" => (k_here; (with_reducible show wpAny _ _ (call _ [Value.ref _, Value.type _]) _ _ _); (try dsimp only); k_dflt (refine' kia_one kitx_tuple ?X ?c ?ee ?nb ?_; (case c => (refine' kitAt_N ?N ?m ?c2; (case N => k_asm); (case m => k_mem); (case c2 => exact rfl))); (case X => ((rename Fr _ _ _ _ => F8); exact Frag.In.keeps (by with_reducible assumption) (Fr.keep F8))); (case ee => kit_is); (case nb => kit_nb); k_whole; intro _))
  k_with "call builtin:len" => (k_here; (with_reducible show wpAny _ _ (call (Value.builtin "len") [Value.bytes _ _]) _ _ _); (with_reducible refine len_oct (by assumption) ?_))
  k_with "compareOp NotEq ref ref" => (k_here; k_dflt (first
  | (refine' ne_ii ?eN ?ea ?eb ?ee ?ef ?eu ?_; (case eN => k_asm); (case ea => k_mem); (case eb => k_mem); (case ee => first | exact rfl | omega); (case ef => first | exact rfl | omega); (case eu => k_units); k_whole)
  | (refine' ne_bi ?eN ?ea ?eb ?ec ?ed ?ee ?eu ?_; (case eN => k_asm); (case ea => k_mem); (case eb => k_mem); (case ec => assumption); (case ed => assumption); (case ee => first | exact rfl | omega); (case eu => k_units); k_whole)))
  w_top off
  k_with "exec For Name Call cons nil" => first | ((with_reducible show wpAny _ _ (exec (Stmt.For (Expr.Name (Str.ofString "place") _) _ _ _ _) _) _ _ _); k_dflt (refine' for_turn (fun g => KtsTurn ((envOf cn cs L a ccd :: outer).filterMap (·.frame)) g' g ∧ Below (ktrTop dp un gd cn cs L a ccd [] outer) base (envOf cn cs L a ccd :: outer) g ∧ KtsDicts ((envOf cn cs L a ccd :: outer).filterMap (·.frame)) g) (fun _ m l => m (Str.ofString "octets") = some (.bytes b t) ∧ Zn (Tph p) led l) ?hx ?hp ?_; (case hx => exact rfl); (case hp => exact rfl))) | ((with_reducible show wpAny _ _ (exec (Stmt.For (Expr.Name (Str.ofString "which") _) _ _ _ _) _) _ _ _); k_dflt (refine' for_turn (fun g => KtsTurn ((envOf cn cs L a ccd :: outer).filterMap (·.frame)) g' g ∧ Below (ktrTop dp un gd cn cs L a ccd [] outer) base (envOf cn cs L a ccd :: outer) g ∧ KtsDicts ((envOf cn cs L a ccd :: outer).filterMap (·.frame)) g) (fun _ m l => (m (Str.ofString "octets") = some (.bytes b t) ∧ m (Str.ofString "place") = some (.int kP tP)) ∧ Zn (Tph p) ((iP, oP) :: led) l) ?hx ?hp ?_; (case hx => exact rfl); (case hp => exact rfl)))
  k_with "ForT" => k_dflt (first | ((rename Fr _ _ _ _ => lF'); (rename News _ _ _ _ => lN'); (rename IsRange _ _ _ _ _ _ _ _ => rgX); k_dflt (refine' forZ1 (tph_any _) ?hh rgX ?hsm ?hn ?hg lF' lN' ?hm ?hZ ?hs ?_ ?_; (case hh => exact rfl); (case hsm => exact small_one (by omega) (by omega) (by omega) (by omega)); (case hn => exact rangeSize_nat _ _); (case hg => exact ⟨KtsTurn.refl, B', D'⟩); (case hm => exact rfl); (case hZ => exact Z); (case hs => kst_inAny)); (focus intro iN kP gP mP iP oP tP hP tkP lP rP hk0 hk1 hO hGg Zo hoff Zg Fg Ng; (obtain ⟨TUg, Bg, Dg⟩ := hGg; (have Xg := BS.X.keeps Bg.stays); (have Tg := BS.T.keeps Bg.stays); (try dsimp only))); (rotate_left); (focus intro gP mP hP tkP lP hGg Zg Fg Ng; (obtain ⟨TUg, Bg, Dg⟩ := hGg; (have Xg := BS.X.keeps Bg.stays); (have Tg := BS.T.keeps Bg.stays); (try dsimp only))); (rotate_right)) | ((rename Fr _ _ _ _ => lF'); (rename News _ _ _ _ => lN'); (rename IsRange _ _ _ _ _ _ _ _ => rgX); k_dflt (refine' forZ2 (tph_any _) ?hh rgX ?hg lF' lN' ?hm ?hm2 ?hZ ?hs ?_ ?_; (case hh => exact rfl); (case hg => exact ⟨by assumption, by assumption, by assumption⟩); (case hm => exact rfl); (case hm2 => exact rfl); (case hZ => assumption); (case hs => kst_inAny)); (focus intro kW gW mW iW oW tW hW tkW lW rW hk hO2 hGg Zo2 hoff2 Zg Fg Ng; (obtain ⟨TUg, Bg, Dg⟩ := hGg; (have Xg := BS.X.keeps Bg.stays); (have Tg := BS.T.keeps Bg.stays); (try dsimp only)); (rcases hk with hk | hk | hk | hk) <;> subst hk); (rotate_left); (rotate_left); (rotate_left); (rotate_left); (focus intro gW mW hW tkW lW hGg Zg Fg Ng; (obtain ⟨TUg, Bg, Dg⟩ := hGg; (have Xg := BS.X.keeps Bg.stays); (have Tg := BS.T.keeps Bg.stays); (try dsimp only))); (rotate_right)) | (refine stop_in ?_))
  k_with "call ref" => k_dflt (first | ((with_reducible show wpAny _ _ (call (Value.ref 235) _) _ _ _); (rename KtsTurn _ _ _ => TU8); (refine' CtT.use (z235 (ks := KBw.bInts b) (tph_any _) (by assumption) rfl hb (by omega) (by omega) (by omega) (by omega)) BS ?cB ?cF ?cN ?cD ?ck ?cd ?cu ?_); (case cB => assumption); (case cF => assumption); (case cN => first | assumption | exact news_sub (by assumption) (by kst_inAny)); (case cD => assumption); (case ck => exact rfl); (case cd => k_room); (case cu => k_units); (intro v9 led9 h9 tk9 g9 TU9 F9 N9 B9 D9 x9; (have X9 := BS.X.keeps B9.stays); (have T9 := BS.T.keeps B9.stays); (have TU7 := KtsTurn.trans TU8 TU9; clear TU8 TU9); (obtain ⟨l09, Z9, hc9⟩ := x9; rcases hc9 with ⟨n9, q9, a9, t19, t29, hs9, e9, e9', hl9⟩ | ⟨hs9, e9', t9, e9⟩ | ⟨hs9, e9', t9, e9⟩); (all_goals (subst e9; subst e9')); (all_goals (try (have hz9 := size_in (by omega) hs9))); (all_goals (try dsimp only)))) | ((with_reducible show wpAny _ _ (call (Value.ref 235) _) _ _ _); (rename KtsTurn _ _ _ => TU8); (refine' CtT.use (c235t w b (KBw.bInts b) _ _ _ _ _ rfl (by omega) (by omega) (by omega)) BS ?cB ?cF ?cN ?cD ?ck ?cd ?cu ?_); (case cB => assumption); (case cF => assumption); (case cN => first | assumption | exact news_sub (by assumption) (by kst_inAny)); (case cD => assumption); (case ck => exact rfl); (case cd => k_room); (case cu => k_units); (intro v9 led9 h9 tk9 g9 TU9 F9 N9 B9 D9 x9; (have X9 := BS.X.keeps B9.stays); (have T9 := BS.T.keeps B9.stays); (have TU7 := KtsTurn.trans TU8 TU9; clear TU8 TU9); (rcases tagz_of x9 with ⟨m9, hs9, a9, b9, t19, t29, e9, hb9, e9', hl9⟩ | ⟨hs9, t9, e9, e9'⟩); (all_goals (subst e9; subst e9')); (all_goals (try dsimp only)))) | ((with_reducible show wpAny _ _ (call (Value.ref 228) _) _ _ _); (refine' Ct.use (due_k1 (d228_0 (ks := KBw.bInts b) rfl hb (by omega) (by omega)) (by assumption)) BS ?cB ?cF ?cN ?ck ?cd ?cu ?_ ?_); (case cB => assumption); (case cF => assumption); (case cN => first | assumption | exact news_sub (by assumption) (by kst_inAny)); (case ck => exact rfl); (case cd => k_room); (case cu => k_units); (all_goals first | (intro e9 cls9 G9 led9 h9 tk9 F9 R9 U9 x9; exact x9.elim) | (intro v9 led9 h9 tk9 F9 N9 x9; obtain ⟨a9, t19, t29, e9, e9', hl9⟩ := x9; subst e9; subst e9'; (try dsimp only)))) | ((with_reducible show wpAny _ _ (call (Value.ref 228) _) _ _ _); (refine' Ct.use (due_k2 (d228_0 (ks := KBw.bInts b) rfl hb (by omega) (by omega)) (by assumption)) BS ?cB ?cF ?cN ?ck ?cd ?cu ?_ ?_); (case cB => assumption); (case cF => assumption); (case cN => first | assumption | exact news_sub (by assumption) (by kst_inAny)); (case ck => exact rfl); (case cd => k_room); (case cu => k_units); (all_goals first | (intro e9 cls9 G9 led9 h9 tk9 F9 R9 U9 x9; exact x9.elim) | (intro v9 led9 h9 tk9 F9 N9 x9; obtain ⟨t9, e9, e9'⟩ := x9; subst e9; subst e9'; (try dsimp only)))) | ((with_reducible show wpAny _ _ (call (Value.ref 228) _) _ _ _); (refine' Ct.use (due_k3 (d228_0 (ks := KBw.bInts b) rfl hb (by omega) (by omega)) (by assumption)) BS ?cB ?cF ?cN ?ck ?cd ?cu ?_ ?_); (case cB => assumption); (case cF => assumption); (case cN => first | assumption | exact news_sub (by assumption) (by kst_inAny)); (case ck => exact rfl); (case cd => k_room); (case cu => k_units); (all_goals first | (intro e9 cls9 G9 led9 h9 tk9 F9 R9 U9 x9; exact x9.elim) | (intro v9 led9 h9 tk9 F9 N9 x9; obtain ⟨t9, e9, e9'⟩ := x9; subst e9; subst e9'; (try dsimp only)))) | ((with_reducible show wpAny _ _ (call (Value.ref 228) _) _ _ _); (refine' Ct.use (due_k1 (d228_1 (ks := KBw.bInts b) rfl hb (by omega) (by omega)) (by assumption)) BS ?cB ?cF ?cN ?ck ?cd ?cu ?_ ?_); (case cB => assumption); (case cF => assumption); (case cN => first | assumption | exact news_sub (by assumption) (by kst_inAny)); (case ck => exact rfl); (case cd => k_room); (case cu => k_units); (all_goals first | (intro e9 cls9 G9 led9 h9 tk9 F9 R9 U9 x9; exact x9.elim) | (intro v9 led9 h9 tk9 F9 N9 x9; obtain ⟨a9, t19, t29, e9, e9', hl9⟩ := x9; subst e9; subst e9'; (try dsimp only)))) | ((with_reducible show wpAny _ _ (call (Value.ref 228) _) _ _ _); (refine' Ct.use (due_k2 (d228_1 (ks := KBw.bInts b) rfl hb (by omega) (by omega)) (by assumption)) BS ?cB ?cF ?cN ?ck ?cd ?cu ?_ ?_); (case cB => assumption); (case cF => assumption); (case cN => first | assumption | exact news_sub (by assumption) (by kst_inAny)); (case ck => exact rfl); (case cd => k_room); (case cu => k_units); (all_goals first | (intro e9 cls9 G9 led9 h9 tk9 F9 R9 U9 x9; exact x9.elim) | (intro v9 led9 h9 tk9 F9 N9 x9; obtain ⟨t9, e9, e9'⟩ := x9; subst e9; subst e9'; (try dsimp only)))) | ((with_reducible show wpAny _ _ (call (Value.ref 228) _) _ _ _); (refine' Ct.use (due_k3 (d228_1 (ks := KBw.bInts b) rfl hb (by omega) (by omega)) (by assumption)) BS ?cB ?cF ?cN ?ck ?cd ?cu ?_ ?_); (case cB => assumption); (case cF => assumption); (case cN => first | assumption | exact news_sub (by assumption) (by kst_inAny)); (case ck => exact rfl); (case cd => k_room); (case cu => k_units); (all_goals first | (intro e9 cls9 G9 led9 h9 tk9 F9 R9 U9 x9; exact x9.elim) | (intro v9 led9 h9 tk9 F9 N9 x9; obtain ⟨t9, e9, e9'⟩ := x9; subst e9; subst e9'; (try dsimp only)))) | ((with_reducible show wpAny _ _ (call (Value.ref 228) _) _ _ _); (refine' Ct.use (due_k1 (d228_2 (ks := KBw.bInts b) rfl hb (by omega) (by omega)) (by assumption)) BS ?cB ?cF ?cN ?ck ?cd ?cu ?_ ?_); (case cB => assumption); (case cF => assumption); (case cN => first | assumption | exact news_sub (by assumption) (by kst_inAny)); (case ck => exact rfl); (case cd => k_room); (case cu => k_units); (all_goals first | (intro e9 cls9 G9 led9 h9 tk9 F9 R9 U9 x9; exact x9.elim) | (intro v9 led9 h9 tk9 F9 N9 x9; obtain ⟨a9, t19, t29, e9, e9', hl9⟩ := x9; subst e9; subst e9'; (try dsimp only)))) | ((with_reducible show wpAny _ _ (call (Value.ref 228) _) _ _ _); (refine' Ct.use (due_k2 (d228_2 (ks := KBw.bInts b) rfl hb (by omega) (by omega)) (by assumption)) BS ?cB ?cF ?cN ?ck ?cd ?cu ?_ ?_); (case cB => assumption); (case cF => assumption); (case cN => first | assumption | exact news_sub (by assumption) (by kst_inAny)); (case ck => exact rfl); (case cd => k_room); (case cu => k_units); (all_goals first | (intro e9 cls9 G9 led9 h9 tk9 F9 R9 U9 x9; exact x9.elim) | (intro v9 led9 h9 tk9 F9 N9 x9; obtain ⟨t9, e9, e9'⟩ := x9; subst e9; subst e9'; (try dsimp only)))) | ((with_reducible show wpAny _ _ (call (Value.ref 228) _) _ _ _); (refine' Ct.use (due_k3 (d228_2 (ks := KBw.bInts b) rfl hb (by omega) (by omega)) (by assumption)) BS ?cB ?cF ?cN ?ck ?cd ?cu ?_ ?_); (case cB => assumption); (case cF => assumption); (case cN => first | assumption | exact news_sub (by assumption) (by kst_inAny)); (case ck => exact rfl); (case cd => k_room); (case cu => k_units); (all_goals first | (intro e9 cls9 G9 led9 h9 tk9 F9 R9 U9 x9; exact x9.elim) | (intro v9 led9 h9 tk9 F9 N9 x9; obtain ⟨t9, e9, e9'⟩ := x9; subst e9; subst e9'; (try dsimp only)))) | ((with_reducible show wpAny _ _ (call (Value.ref 228) _) _ _ _); (refine' Ct.use (due_k1 (d228_3 (ks := KBw.bInts b) rfl hb (by omega) (by omega)) (by assumption)) BS ?cB ?cF ?cN ?ck ?cd ?cu ?_ ?_); (case cB => assumption); (case cF => assumption); (case cN => first | assumption | exact news_sub (by assumption) (by kst_inAny)); (case ck => exact rfl); (case cd => k_room); (case cu => k_units); (all_goals first | (intro e9 cls9 G9 led9 h9 tk9 F9 R9 U9 x9; exact x9.elim) | (intro v9 led9 h9 tk9 F9 N9 x9; obtain ⟨a9, t19, t29, e9, e9', hl9⟩ := x9; subst e9; subst e9'; (try dsimp only)))) | ((with_reducible show wpAny _ _ (call (Value.ref 228) _) _ _ _); (refine' Ct.use (due_k2 (d228_3 (ks := KBw.bInts b) rfl hb (by omega) (by omega)) (by assumption)) BS ?cB ?cF ?cN ?ck ?cd ?cu ?_ ?_); (case cB => assumption); (case cF => assumption); (case cN => first | assumption | exact news_sub (by assumption) (by kst_inAny)); (case ck => exact rfl); (case cd => k_room); (case cu => k_units); (all_goals first | (intro e9 cls9 G9 led9 h9 tk9 F9 R9 U9 x9; exact x9.elim) | (intro v9 led9 h9 tk9 F9 N9 x9; obtain ⟨t9, e9, e9'⟩ := x9; subst e9; subst e9'; (try dsimp only)))) | ((with_reducible show wpAny _ _ (call (Value.ref 228) _) _ _ _); (refine' Ct.use (due_k3 (d228_3 (ks := KBw.bInts b) rfl hb (by omega) (by omega)) (by assumption)) BS ?cB ?cF ?cN ?ck ?cd ?cu ?_ ?_); (case cB => assumption); (case cF => assumption); (case cN => first | assumption | exact news_sub (by assumption) (by kst_inAny)); (case ck => exact rfl); (case cd => k_room); (case cu => k_units); (all_goals first | (intro e9 cls9 G9 led9 h9 tk9 F9 R9 U9 x9; exact x9.elim) | (intro v9 led9 h9 tk9 F9 N9 x9; obtain ⟨t9, e9, e9'⟩ := x9; subst e9; subst e9'; (try dsimp only)))) | ((with_reducible show wpAny _ _ (call (Value.ref 242) _) _ _ _); (refine' Ct.use (tag_k1 (c242 w b (KBw.bInts b) _ _ _ _ rfl (by omega) (by omega) (by omega)) (by assumption)) BS ?cB ?cF ?cN ?ck ?cd ?cu ?_ ?_); (case cB => assumption); (case cF => assumption); (case cN => first | assumption | exact news_sub (by assumption) (by kst_inAny)); (case ck => exact rfl); (case cd => k_room); (case cu => k_units); (all_goals first | (intro e9 cls9 G9 led9 h9 tk9 F9 R9 U9 x9; exact x9.elim) | (intro v9 led9 h9 tk9 F9 N9 x9; obtain ⟨a9, b9, t19, t29, e9, hb9, e9', hl9⟩ := x9; subst e9; subst e9'; (try dsimp only)))) | ((with_reducible show wpAny _ _ (call (Value.ref 242) _) _ _ _); (refine' Ct.use (tag_k2 (c242 w b (KBw.bInts b) _ _ _ _ rfl (by omega) (by omega) (by omega)) (by assumption)) BS ?cB ?cF ?cN ?ck ?cd ?cu ?_ ?_); (case cB => assumption); (case cF => assumption); (case cN => first | assumption | exact news_sub (by assumption) (by kst_inAny)); (case ck => exact rfl); (case cd => k_room); (case cu => k_units); (all_goals first | (intro e9 cls9 G9 led9 h9 tk9 F9 R9 U9 x9; exact x9.elim) | (intro v9 led9 h9 tk9 F9 N9 x9; obtain ⟨t9, e9, e9'⟩ := x9; subst e9; subst e9'; (try dsimp only)))) | ((with_reducible show wpAny _ _ (call (Value.ref 156) _) _ _ _); (refine' Ct.use (w156) BS ?cB ?cF ?cN ?ck ?cd ?cu ?_ ?_); (case cB => assumption); (case cF => assumption); (case cN => first | assumption | exact news_sub (by assumption) (by kst_inAny)); (case ck => exact rfl); (case cd => k_room); (case cu => k_units); (all_goals first | (intro e9 cls9 G9 led9 h9 tk9 F9 R9 U9 x9; exact x9.elim) | (intro v9 led9 h9 tk9 F9 N9 x9; obtain ⟨t9, e9, e9'⟩ := x9; subst e9; subst e9'; (try dsimp only)))) | ((with_reducible show wpAny _ _ (call (Value.ref 193) _) _ _ _); (refine' Ct.use (w193 (tph_any _) (by assumption)) BS ?cB ?cF ?cN ?ck ?cd ?cu ?_ ?_); (case cB => assumption); (case cF => assumption); (case cN => first | assumption | exact news_sub (by assumption) (by kst_inAny)); (case ck => exact rfl); (case cd => k_room); (case cu => k_units); (all_goals first | (intro e9 cls9 G9 led9 h9 tk9 F9 R9 U9 x9; exact x9.elim) | (intro v9 led9 h9 tk9 F9 N9 x9; obtain ⟨Z9, b9, t9, e9, hb9⟩ := x9; subst e9; skip; (try dsimp only)))) | (refine stop_in ?_))
  refine wpAny_call ?_
  k_dflt (refine' code_defS B F X N T XB TB D KtsTurn.refl ?kA ?k6 ?k7 ?k8 ?k9 ?kB ?_ hk ?c2 ?c3 ?c4 ?c5; (case kA => exact rfl); (case k6 => k_is); (case k7 => k_is); (case k8 => k_room); (case k9 => exact BindsTo.of_eq rfl); (case c5 => decide); (case kB => exact locs rfl); (case c2 => exact rfl); (case c3 => exact rfl); (case c4 => exact rfl); k_whole; intro g' L' h' FG' F' N' B' X' T' D'; (try dsimp only); (try k_lift B'); (try k_fold))
  k_steps
  all_goals first
    | exact turn_zn (tph_any _) Zo2 hoff2 hO2 (by assumption) ⟨by assumption, by assumption, by assumption⟩ (by assumption) (by assumption) (by kst_inAny) ⟨rfl, rfl⟩
    | exact turn_zn (tph_any _) Zo hoff hO (by assumption) ⟨by assumption, by assumption, by assumption⟩ (by assumption) (by assumption) (by kst_inAny) rfl
    | exact hret _ _ _ _ _ (by assumption) (by assumption) (by assumption) (by assumption) (by assumption) ⟨rfl, by assumption⟩
    | exact (short_absurd (by assumption) (by assumption) (by assumption) (by assumption) (by assumption) (by omega) (by omega)).elim
    | (exfalso; omega)
end
section
open PySem PySem.W PySem.Spec PySem.Calls PyProof.Rows PyProof.V
abbrev addrOf {h : Heap} {a : Addr} {vs : Array Value} (_ : h.IsList a vs) : Addr := a
abbrev groundOf {A : Around} {base g : Heap} {o : List Env} (_ : Below A base o g) : Heap := g
theorem turn_nil {g g' : Heap} (T : KtsTurn [] g g') {b : Addr} {o : Obj} (e : g.get? b = some o) : g'.get? b = some o := T.other b o e (fun h => nomatch h)
/-- a call in the outermost frame: no frame above turns -/
theorem CtT.use0 {w : World} {f : Addr} {vs : List Value} {d : Nat} {led : List (Addr × Obj)} {R : List (Addr × Obj) → Value → Prop} (C : CtT w f vs d led R)
    {loose : List Str} {mean : ExcName → Option Value} {mg mb : Str → Option Value} {dp un : Nat} {gd : Option (List Code)} {cn : Str} {cs : Scope} {a : Addr} {ccd : Value} {A₀ : Around} {base h₀ : Heap} {L : Addr} {m : Str → Option Value} {s : Shared} {Q E : Value → Shared → Prop}
    (BS : Bs w loose mean mg mb base) (B : Below A₀ base [] h₀) (F : Fr h₀ L s.heap m) (N : News h₀ L s.heap led) (hk : cs.kind = .function) (hd : dp + d < recursionLimit) (hu : un + 8 * d < cLine)
    (k : ∀ v led' h' tk', Fr h₀ L h' m → News h₀ L h' led' → R led' v → Q v { s with heap := h', toks := tk' }) :
    wpAny (model PySem.Challenge.rw_jd0021_01.row.prog w) (ktrTop dp un gd cn cs L a ccd [] []) (call (.ref f) vs) Q E s :=
  C.use BS B F N ktsDicts_nil hk hd hu fun v led' h' tk' h₀' T F' N' _ _ r =>
    k v led' h' tk' ⟨F'.ns, fun b o e => F'.keep b o (turn_nil T e), T.size ▸ F'.above⟩
      (fun p hp => ⟨(N' p hp).1, (N' p hp).2.1, by
        cases e : h₀.get? p.1 with
        | none => rfl
        | some o => have := turn_nil T e; rw [(N' p hp).2.2] at this; cases this⟩) r
theorem Ct214.use {w : World} (C : Ct214 w)
    {loose : List Str} {mean : ExcName → Option Value} {mg mb : Str → Option Value} {dp un : Nat} {gd : Option (List Code)} {cn : Str} {cs : Scope} {a : Addr} {ccd : Value} {cl : List (Str × Addr)} {outer : List Env} {A₀ : Around} {base h₀ : Heap} {L : Addr} {m : Str → Option Value} {s : Shared} {Q E : Value → Shared → Prop} {l : Addr} {vs : List Value} {ns : List Int} {led : List (Addr × Obj)}
    (BS : Bs w loose mean mg mb base) (B : Below A₀ base outer h₀) (F : Fr h₀ L s.heap m) (N : News h₀ L s.heap led) (hk : cs.kind = .function) (hd : dp + 3 < recursionLimit) (hu : un + 8 * 3 < cLine)
    (hls : base.IsList l vs.toArray) (hi : IntsAre vs ns) (hlen : ns.length ≤ 63)
    (k : ∀ v led' h' tk', Fr h₀ L h' m → News h₀ L h' led' → OctR led led' v → Q v { s with heap := h', toks := tk' }) :
    wpAny (model PySem.Challenge.rw_jd0021_01.row.prog w) (ktrTop dp un gd cn cs L a ccd cl outer) (call (.ref 214) [.ref l]) Q E s :=
  C loose mean mg mb dp un gd cn cs a ccd cl outer A₀ base h₀ L m s Q E l vs ns led BS B F N hk hd hu hls hi hlen k
theorem y270 {w : World} {n : Int} {t : Tok} {led r : List (Addr × Obj)} (hn1 : Bd n) (Z : Zn (Tph 0) led r) : Ct w 270 [.int n t] 12 r (fun l v => v = .bool true ∧ Zn (Tph 0) led l) (fun _ _ => False) := c270 w n t led r hn1.lo hn1 Z
theorem zn0 : Zn (Tph 0) [] [(95, tabObj #[]), (102, tabObj #[]), (188, tabObj #[]), (251, tabObj #[])] :=
  ⟨[(95, tabObj #[])], [(102, tabObj #[])], [(188, tabObj #[])], [(251, tabObj #[])], .inl rfl, .inl rfl, .inl rfl, .inl rfl, rfl, fun _ h => nomatch h⟩
theorem zn_grown {led r : List (Addr × Obj)} (Z : Zn (Tph 0) led r) {h₀ h : Heap} {L : Addr} (N : News h₀ L h r) : GrownAll [(255, 251), (106, 102), (99, 95), (192, 188)] h := by
  obtain ⟨t95, t102, t188, t251, z1, z2, z3, z4, rfl, _⟩ := Z
  have tb : ∀ {P : Addr} {ln cl : Int} {q : Str} {ts : List (Addr × Obj)}, Tb P ln cl q ts → ∃ ps, (P, tabObj ps) ∈ ts := fun {P ln cl q ts} h => by
    rcases h with rfl | ⟨c, oc, vs, t, rfl, _⟩
    · exact ⟨_, .head _⟩
    · exact ⟨_, .tail _ (.head _)⟩
  have tw : ∃ ps, ((251 : Addr), tabObj ps) ∈ t251 := by
    rcases Tw0.any z4 with rfl | ⟨c, oc, rfl, q⟩ | ⟨c, oc, d, od, rfl, q, q'⟩
    · exact ⟨_, .head _⟩
    · exact ⟨_, .tail _ (.head _)⟩
    · exact ⟨_, .tail _ (.tail _ (.head _))⟩
  obtain ⟨p1, h1⟩ := tb z1
  obtain ⟨p2, h2⟩ := tb z2
  obtain ⟨p3, h3⟩ := tb z3
  obtain ⟨p4, h4⟩ := tw
  exact ⟨GrownAt.of N (List.mem_append_right _ (List.mem_append_right _ (List.mem_append_right _ (List.mem_append_left _ h4)))), GrownAt.of N (List.mem_append_right _ (List.mem_append_left _ h2)), GrownAt.of N (List.mem_append_left _ h1), GrownAt.of N (List.mem_append_right _ (List.mem_append_right _ (List.mem_append_left _ h3))), trivial⟩
section
variable {prog : Program} {w : World} {A : Around} {E : Value → Shared → Prop} {Q : Flow → Shared → Prop} {env : Env} {s : Shared} {GP : Heap → Prop} {T : List (Addr × Obj) → Prop} {base r0 l : List (Addr × Obj)} {x xo xp : Str} {vo vp : Value} {body : List Stmt} {r : Addr} {t u v : Tok} {g : Heap} {m : Str → Option Value}
/-- the loops of the law: two names stay -/
theorem forZ3 (hA : ∀ t, T t → TwAny t) (hh : A.handled = none) (hr : IsRange s.heap r 0 3 1 t u v) (hg : GP g) (F : Fr g env.locals s.heap m) (N : News g env.locals s.heap l)
    (hm : m xo = some vo) (hm2 : m xp = some vp) (Z : Zn T base r0) (hs : ∀ y ∈ r0, y ∈ l)
    (turn : ∀ (k : Int) (g : Heap) (m : Str → Option Value) (I : Addr) (o : Obj) (t : Tok) (h : Heap) (tk : Nat) (l1 r0' : List (Addr × Obj)), k = 0 ∨ k = 1 ∨ k = 2 → RngO o → GP g → Zn T base r0' → (∀ p ∈ r0', p.1 ≠ I) → Zn T ((I, o) :: base) l1 → Fr g env.locals h (fun y => if y = x then some (.int k t) else if y = xo then some vo else if y = xp then some vp else m y) → News g env.locals h l1 →
      wpAny (model prog w) A (execs body env) (TurnEnd GP env.locals s I o (fun m l => (m xo = some vo ∧ m xp = some vp) ∧ Zn T base l) Q) E { s with heap := h, toks := tk })
    (done : ∀ (g : Heap) (m : Str → Option Value) (h : Heap) (tk : Nat) (l : List (Addr × Obj)), GP g → Zn T base l → Fr g env.locals h (fun y => if y = xo then some vo else if y = xp then some vp else m y) → News g env.locals h l → Q .next { s with heap := h, toks := tk }) :
    ForT prog w A GP (fun _ m l => (m xo = some vo ∧ m xp = some vp) ∧ Zn T base l) env x body Q E (.ref r) s := by
  refine ⟨r, 0, 3, t, u, v, 3, g, m, r0, rfl, hh, hr, by decide, by decide, hg, F, news_sub N hs, ⟨⟨hm, hm2⟩, Z⟩, ?_, ?_⟩
  · intro i g m led I o t h tk hi hO hg hJ hoff F N
    obtain ⟨⟨hm, hm2⟩, Z⟩ := hJ
    obtain ⟨r1, z1, z2⟩ := zn_put (o := o) hA Z hoff
    rw [← map_as hm, ← map_as hm2] at F
    exact turn (0 + (i : Int)) g m I o t h tk r1 led (by omega) hO hg Z hoff z1 F (news_sub N z2)
  · intro g m led h tk hg hJ F N
    rw [← map_as hJ.1.1, ← map_as hJ.1.2] at F
    exact done g m h tk led hg hJ.2 F N
end
end
section
open PySem PySem.W PySem.Spec PySem.Calls PyProof.Rows PyProof.V
def IntAny (led led' : List (Addr × Obj)) (v : Value) : Prop := ∃ x t, v = .int x t ∧ led' = led
/-- the contract of _law_cell -/
def Ct207 (w : World) : Prop :=
  ∀ (loose : List Str) (mean : ExcName → Option Value) (mg mb : Str → Option Value) (dp un : Nat) (gd : Option (List Code)) (cn : Str) (cs : Scope) (a : Addr) (ccd : Value) (cl : List (Str × Addr)) (outer : List Env) (A₀ : Around) (base h₀ : Heap) (L : Addr) (m : Str → Option Value) (s : Shared) (Q E : Value → Shared → Prop) (l : Addr) (vs : List Value) (ns : List Int) (led : List (Addr × Obj)) (k : Int) (t : Tok),
    Bs w loose mean mg mb base → Below A₀ base outer h₀ → Fr h₀ L s.heap m → News h₀ L s.heap led → cs.kind = .function → dp + 3 < recursionLimit → un + 8 * 3 < cLine →
    base.IsList l vs.toArray → IntsAre vs ns → ns.length ≤ 63 → 0 ≤ k → k ≤ 1000 →
    (∀ v led' h' tk', Fr h₀ L h' m → News h₀ L h' led' → IntAny led led' v → Q v { s with heap := h', toks := tk' }) →
    wpAny (model PySem.Challenge.rw_jd0021_01.row.prog w) (ktrTop dp un gd cn cs L a ccd cl outer) (call (.ref 207) [.ref l, .int k t]) Q E s
theorem Ct207.use {w : World} (C : Ct207 w)
    {loose : List Str} {mean : ExcName → Option Value} {mg mb : Str → Option Value} {dp un : Nat} {gd : Option (List Code)} {cn : Str} {cs : Scope} {a : Addr} {ccd : Value} {cl : List (Str × Addr)} {outer : List Env} {A₀ : Around} {base h₀ : Heap} {L : Addr} {m : Str → Option Value} {s : Shared} {Q E : Value → Shared → Prop} {l : Addr} {vs : List Value} {ns : List Int} {led : List (Addr × Obj)} {k : Int} {t : Tok}
    (BS : Bs w loose mean mg mb base) (B : Below A₀ base outer h₀) (F : Fr h₀ L s.heap m) (N : News h₀ L s.heap led) (hk : cs.kind = .function) (hd : dp + 3 < recursionLimit) (hu : un + 8 * 3 < cLine)
    (hls : base.IsList l vs.toArray) (hi : IntsAre vs ns) (hlen : ns.length ≤ 63) (h0 : 0 ≤ k) (h1 : k ≤ 1000)
    (ret : ∀ v led' h' tk', Fr h₀ L h' m → News h₀ L h' led' → IntAny led led' v → Q v { s with heap := h', toks := tk' }) :
    wpAny (model PySem.Challenge.rw_jd0021_01.row.prog w) (ktrTop dp un gd cn cs L a ccd cl outer) (call (.ref 207) [.ref l, .int k t]) Q E s :=
  C loose mean mg mb dp un gd cn cs a ccd cl outer A₀ base h₀ L m s Q E l vs ns led k t BS B F N hk hd hu hls hi hlen h0 h1 ret
theorem le63 {vs : List Value} {ns : List Int} (_ : IntsAre vs ns) (hc : ¬ ((63 : Nat) : Int) < ((ns.length : Nat) : Int)) : ns.length ≤ 63 := by omega
theorem bs_hide {w : World} {loose : List Str} {mean : ExcName → Option Value} {mg mb : Str → Option Value} {base : Heap} (h : Bs w loose mean mg mb base) : ∃ lo me, Bs w lo me mg mb base := ⟨_, _, h⟩
end
section
open PySem PySem.W PySem.Spec PySem.Calls PyProof.Rows
set_option maxHeartbeats 4000000 in
theorem c207 (w : World) : Ct207 w := by
  unfold Ct207
  intro loose mean mg mb dp un gd cn cs a ccd cl outer A₀ base h₀ L m s Q E l vs ns led k t BS B F N hk hd hu hls hi hlen hk0 hk1 hret
  have X := BS.X.keeps B.stays
  have T := BS.T.keeps B.stays
  have hMk : KstMark := kstMark
  k_with_none
  k_with "loadName" => (k_here; k_dflt (refine' loadX_L ?k1 ?k2 ?_ ?a ?b; (case a => rfl); (case b => rfl); (case k1 => k_asm); (case k2 => exact rfl); k_whole))
  k_with "leaving ref" => (k_here; k_dflt (first
  | (refine' leaveX_new ?k1 ?k0 ?k2 ?k3 ?k4 ?k5 ?_; (case k0 => assumption); (case k2 => assumption); (case k1 => assumption); (case k3 => k_asm); (case k4 => exact rfl); (case k5 => exact rfl); k_whole; intro h' R' U'; (try dsimp only at R' U' ⊢))
  | (refine' leaveX_made ?k1 ?k0 ?k2 ?k3 ?k4 ?k5 ?_; (case k0 => first | assumption | exact Heap.MadeExc.of (by assumption)); (case k2 => assumption); (case k1 => assumption); (case k3 => k_asm); (case k4 => exact rfl); (case k5 => exact rfl); k_whole; intro h' R' U'; (try dsimp only at R' U' ⊢))
  | (refine' leaveX_on ?k1 ?k2 ?k3 ?k4 ?k5 ?_; (case k3 => assumption); (case k2 => assumption); (case k1 => assumption); (case k4 => assumption); (case k5 => exact rfl); k_whole; intro h' R' U'; (try dsimp only at R' U' ⊢))))
  k_with "subscriptTail Name Name bytes int" => (k_here; (with_reducible show wpAny _ _ (subscriptTail _ _ (Value.bytes _ _) (Value.int _ _)) _ _ _); (with_unfolding_all refine' item_or ?h0 (by kba_ints) ?h1 ?h2 ?h3 ?h4 ?h5 ?h6 ?h7; (case h0 => rfl); (case h1 => omega); (case h2 => omega); (case h3 => omega); (case h6 => with_unfolding_all rfl); (case h7 => (intro _; with_unfolding_all rfl)); k_whole); first | (intro hlt' t' tk' h0' h1') | (intro hge' h' tk' e' x'))
  k_with "exec Raise some none" => (k_here; k_dflt (refine' RaiseX_own ?F ?X ?T ?e ?q PySem.F.excBase_Exception ?h ?_ ?a ?b ?c ?d ?g; (case F => k_asm); (case X => k_asm); (case T => k_asm); (case e => k_is); (case q => k_exc); (case h => first | rfl | assumption); (case a => rfl); (case b => rfl); (case c => rfl); (case d => rfl); (case g => decide); k_whole))
  k_with "binaryOp BitAnd int int" => (first | (refine and_to (bitAnd_m7 _) ?_) | (refine and_to (band128 _) ?_) | (refine and_to (bitAnd_m3 _) ?_) | (refine and_to (bitAnd_m1 _) ?_))
  k_with "inplaceOp BitAnd int int" => (first | (refine iand_to (band64 _) ?_) | (refine iand_to (bitAnd_m32 _) ?_))
  k_with "binaryOp LShift int int" => ((refine shl_to ?_ ?_ ?_ ?_); (focus omega); (focus omega); (focus omega))
  k_with "exec FunctionDef" => (k_here; (rename (_ = _ ++ _) => hr9; subst hr9); k_dflt (refine' nestDef_K ?d0 ?k0 ?a0 ?_; (case d0 => exact rfl); (case k0 => exact rfl); (case a0 => exact rfl)); (first
  | (k_dflt (refine' nestB (mid := [_]) ?F ?N ?T ?C ?cd ?tb ?o1 ?o2 ?hT ?cl ?_; (case F => k_asm); (case T => k_asm); (case cd => exact rfl); (case C => kn_code); (case tb => assumption); (case N => k_asm); (case o2 => assumption); (case hT => assumption); (case o1 => (intro x9 h9; rcases List.mem_cons.mp h9 with e9 | h9; (subst e9; k_ne); cases h9)); (case cl => exact rfl); k_whole))
  | (k_dflt (refine' nestB (mid := [_, _]) ?F ?N ?T ?C ?cd ?tb ?o1 ?o2 ?hT ?cl ?_; (case F => k_asm); (case T => k_asm); (case cd => exact rfl); (case C => kn_code); (case tb => assumption); (case N => k_asm); (case o2 => assumption); (case hT => assumption); (case o1 => (intro x9 h9; rcases List.mem_cons.mp h9 with e9 | h9; (subst e9; k_ne); rcases List.mem_cons.mp h9 with e9 | h9; (subst e9; k_ne); cases h9)); (case cl => exact rfl); k_whole))); (intro f' c' oc' vs' t' ct' dc' h' tk' F' N' d1' d2' n3' l1; (simp only [List.cons_append, List.nil_append] at N' l1); (try k_lt l1)))
  w_top off
  refine wpAny_call ?_
  k_dflt cell_enter
  k_steps
  all_goals first
    | exact hret _ _ _ _ (by assumption) (news_sub (by assumption) (by kst_inAny)) ⟨_, _, rfl, rfl⟩
end
end Mine
local macro_rules | `(tactic| walk_at "callWith ref") => `(tactic| k_extra "callWith ref")
local macro_rules | `(tactic| walk_at "execs cons") => `(tactic| k_extra "execs cons")
local macro_rules | `(tactic| walk_at "GrownAll") => `(tactic| (k_dflt (exact zn_grown (by assumption) (by assumption))))
local macro_rules | `(tactic| walk_at "exec For Name Call cons nil") => `(tactic| (k_here; k_extra "exec For Name Call cons nil"))
local macro_rules | `(tactic| walk_at "ForT") => `(tactic| k_extra "ForT")
local macro_rules | `(tactic| walk_at "TurnEnd") => `(tactic| k_extra "TurnEnd")
set_option maxHeartbeats 8000000 in
theorem PySem.Challenge.cw_jd0021_01_holds : PySem.Challenge.rw_jd0021_01.Holds := by
  refine Mine.hd.hd (by rfl) (by rfl) (by rfl) ?_
  k_go0
  all_goals try k_fold
  rename Below _ _ _ _ => B0
  rename Top _ _ _ _ _ _ => T0
  rename Frag.In _ _ => X0
  rename Fr _ _ _ _ => F0
  rename News _ _ _ _ => N0
  have BS := Bs.mk X0 T0 (by with_reducible assumption) (by with_reducible assumption) (by with_reducible assumption) (by with_reducible assumption)
  have Z0 := zn0
  rename IntsAre _ _ => hi0
  rename Heap.IsList _ _ _ => hls0
  rename (Shared.gens _ = #[]) => hg0
  have hlen0 := le63 hi0 (by omega)
  obtain ⟨lo, me, BS⟩ := bs_hide BS
  clear X0 T0
  have X0 := BS.X
  have T0 := BS.T
  k_with_none
  k_with "loadName" => (k_here; k_dflt (refine' loadX_L ?k1 ?k2 ?_ ?a ?b; (case a => rfl); (case b => rfl); (case k1 => k_asm); (case k2 => exact rfl); k_whole))
  k_with "leaving ref" => (k_here; k_dflt (first
  | (refine' leaveX_new ?k1 ?k0 ?k2 ?k3 ?k4 ?k5 ?_; (case k0 => assumption); (case k2 => assumption); (case k1 => assumption); (case k3 => k_asm); (case k4 => exact rfl); (case k5 => exact rfl); k_whole; intro h' R' U'; (try dsimp only at R' U' ⊢))
  | (refine' leaveX_made ?k1 ?k0 ?k2 ?k3 ?k4 ?k5 ?_; (case k0 => first | assumption | exact Heap.MadeExc.of (by assumption)); (case k2 => assumption); (case k1 => assumption); (case k3 => k_asm); (case k4 => exact rfl); (case k5 => exact rfl); k_whole; intro h' R' U'; (try dsimp only at R' U' ⊢))
  | (refine' leaveX_on ?k1 ?k2 ?k3 ?k4 ?k5 ?_; (case k3 => assumption); (case k2 => assumption); (case k1 => assumption); (case k4 => assumption); (case k5 => exact rfl); k_whole; intro h' R' U'; (try dsimp only at R' U' ⊢))))
  k_with "subscriptTail Name Name bytes int" => (k_here; (with_reducible show wpAny _ _ (subscriptTail _ _ (Value.bytes _ _) (Value.int _ _)) _ _ _); (with_unfolding_all refine' item_or ?h0 (by kba_ints) ?h1 ?h2 ?h3 ?h4 ?h5 ?h6 ?h7; (case h0 => rfl); (case h1 => omega); (case h2 => omega); (case h3 => omega); (case h6 => with_unfolding_all rfl); (case h7 => (intro _; with_unfolding_all rfl)); k_whole); first | (intro hlt' t' tk' h0' h1') | (intro hge' h' tk' e' x'))
  k_with "exec Raise some none" => (k_here; k_dflt (refine' RaiseX_own ?F ?X ?T ?e ?q PySem.F.excBase_Exception ?h ?_ ?a ?b ?c ?d ?g; (case F => k_asm); (case X => k_asm); (case T => k_asm); (case e => k_is); (case q => k_exc); (case h => first | rfl | assumption); (case a => rfl); (case b => rfl); (case c => rfl); (case d => rfl); (case g => decide); k_whole))
  k_with "binaryOp BitAnd int int" => (first | (refine and_to (bitAnd_m7 _) ?_) | (refine and_to (band128 _) ?_) | (refine and_to (bitAnd_m3 _) ?_) | (refine and_to (bitAnd_m1 _) ?_))
  k_with "inplaceOp BitAnd int int" => (first | (refine iand_to (band64 _) ?_) | (refine iand_to (bitAnd_m32 _) ?_))
  k_with "binaryOp LShift int int" => ((refine shl_to ?_ ?_ ?_ ?_); (focus omega); (focus omega); (focus omega))
  k_with "exec FunctionDef" => (k_here; (rename (_ = _ ++ _) => hr9; subst hr9); k_dflt (refine' nestDef_K ?d0 ?k0 ?a0 ?_; (case d0 => exact rfl); (case k0 => exact rfl); (case a0 => exact rfl)); (first
  | (k_dflt (refine' nestB (mid := [_]) ?F ?N ?T ?C ?cd ?tb ?o1 ?o2 ?hT ?cl ?_; (case F => k_asm); (case T => k_asm); (case cd => exact rfl); (case C => kn_code); (case tb => assumption); (case N => k_asm); (case o2 => assumption); (case hT => assumption); (case o1 => (intro x9 h9; rcases List.mem_cons.mp h9 with e9 | h9; (subst e9; k_ne); cases h9)); (case cl => exact rfl); k_whole))
  | (k_dflt (refine' nestB (mid := [_, _]) ?F ?N ?T ?C ?cd ?tb ?o1 ?o2 ?hT ?cl ?_; (case F => k_asm); (case T => k_asm); (case cd => exact rfl); (case C => kn_code); (case tb => assumption); (case N => k_asm); (case o2 => assumption); (case hT => assumption); (case o1 => (intro x9 h9; rcases List.mem_cons.mp h9 with e9 | h9; (subst e9; k_ne); rcases List.mem_cons.mp h9 with e9 | h9; (subst e9; k_ne); cases h9)); (case cl => exact rfl); k_whole))); (intro f' c' oc' vs' t' ct' dc' h' tk' F' N' d1' d2' n3' l1; (simp only [List.cons_append, List.nil_append] at N' l1); (try k_lt l1)))
  k_with "callWith ref" => (k_here; k_dflt (refine' callWith_K ?k1 ?k2 ?_; (case k1 => k_asm); (case k2 => k_is); k_whole))
  k_with "execs cons" => (k_here; k_dflt (refine wpAny_execs_cons ?_); (try dsimp only))
  k_with "exec For Name Call cons nil" => (k_dflt (refine' for_turn (fun g => g = groundOf B0) (fun _ m l => (m (Str.ofString "script") = some (.ref (addrOf hls0)) ∧ m (Str.ofString "octets") = some (.bytes bO tO)) ∧ Zn (Tph 0) [] l) ?hx ?hp ?_; (case hx => exact rfl); (case hp => exact rfl)))
  k_with "ForT" => k_dflt (first | ((rename Fr _ _ _ _ => lF'); (rename News _ _ _ _ => lN'); (rename IsRange _ _ _ _ _ _ _ _ => rgX); k_dflt (refine' forZ3 (tph_any _) ?hh rgX ?hg lF' lN' ?hm ?hm2 ?hZ ?hs ?_ ?_; (case hh => exact rfl); (case hg => exact rfl); (case hm => exact rfl); (case hm2 => exact rfl); (case hZ => assumption); (case hs => kst_inAny)); (focus intro kW gW mW iW oW tW hW tkW lW rW hk hO hGg Zo hoff Zg Fg Ng; subst hGg; (try dsimp only)); (rotate_left); (focus intro gW mW hW tkW lW hGg Zg Fg Ng; subst hGg; (try dsimp only)); (rotate_right)) | (refine stop_in ?_))
  k_with "call ref" => k_dflt (first | ((with_reducible show wpAny _ _ (call (Value.ref 207) _) _ _ _); (refine' Ct207.use (c207 _) BS ?cB ?cF ?cN ?ck ?cd ?cu ?cl ?ci ?cn ?c0 ?c1 ?_); (case cB => assumption); (case cF => assumption); (case cN => first | assumption | exact news_sub (by assumption) (by kst_inAny)); (case ck => exact rfl); (case cd => first | decide | k_room); (case cu => first | decide | k_units); (case cl => assumption); (case ci => assumption); (case cn => omega); (case c0 => omega); (case c1 => omega); (intro v9 led9 h9 tk9 F9 N9 x9; obtain ⟨xC, tC, e9, e9'⟩ := x9; subst e9; subst e9'; (try dsimp only))) | ((with_reducible show wpAny _ _ (call (Value.ref 214) _) _ _ _); (refine' Ct214.use (c214 _) BS ?cB ?cF ?cN ?ck ?cd ?cu ?cl ?ci ?cn ?_); (case cB => assumption); (case cF => assumption); (case cN => first | assumption | exact news_sub (by assumption) (by kst_inAny)); (case ck => exact rfl); (case cd => first | decide | k_room); (case cu => first | decide | k_units); (case cl => assumption); (case ci => assumption); (case cn => omega); (intro v9 led9 h9 tk9 F9 N9 x9; obtain ⟨bO, tO, e9, hbO, e9'⟩ := x9; subst e9; subst e9'; (try dsimp only))) | ((with_reducible show wpAny _ _ (call (Value.ref 249) _) _ _ _); (refine' CtT.use0 (c249 _ _ _ 0 _ _ (by assumption) (by assumption)) BS ?cB ?cF ?cN ?ck ?cd ?cu ?_); (case cB => assumption); (case cF => assumption); (case cN => first | assumption | exact news_sub (by assumption) (by kst_inAny)); (case ck => exact rfl); (case cd => first | decide | k_room); (case cu => first | decide | k_units); (intro v9 led9 h9 tk9 F9 N9 x9; obtain ⟨e9, Z9⟩ := x9; subst e9; skip; (try dsimp only))) | ((with_reducible show wpAny _ _ (call (Value.ref 263) _) _ _ _); (refine' Ct.use (c263 _ _ _ _) BS ?cB ?cF ?cN ?ck ?cd ?cu ?_ ?_); (case cB => assumption); (case cF => assumption); (case cN => first | assumption | exact news_sub (by assumption) (by kst_inAny)); (case ck => exact rfl); (case cd => first | decide | k_room); (case cu => first | decide | k_units); (all_goals first | (intro e9 cls9 G9 led9 h9 tk9 F9 R9 U9 x9; exact x9.elim) | (intro v9 led9 h9 tk9 F9 N9 x9; obtain ⟨n9, t9, e9, hn9, e9'⟩ := x9; subst e9; subst e9'; (try dsimp only)))) | ((with_reducible show wpAny _ _ (call (Value.ref 270) _) _ _ _); (refine' Ct.use (y270 (by assumption) (by assumption)) BS ?cB ?cF ?cN ?ck ?cd ?cu ?_ ?_); (case cB => assumption); (case cF => assumption); (case cN => first | assumption | exact news_sub (by assumption) (by kst_inAny)); (case ck => exact rfl); (case cd => first | decide | k_room); (case cu => first | decide | k_units); (all_goals first | (intro e9 cls9 G9 led9 h9 tk9 F9 R9 U9 x9; exact x9.elim) | (intro v9 led9 h9 tk9 F9 N9 x9; obtain ⟨e9, Z9⟩ := x9; subst e9; skip; (try dsimp only)))) | ((with_reducible show wpAny _ _ (call (Value.ref 284) _) _ _ _); (refine' CtT.use0 (c284 _ _ _ _ _ 0 _ _ (by assumption) (by assumption)) BS ?cB ?cF ?cN ?ck ?cd ?cu ?_); (case cB => assumption); (case cF => assumption); (case cN => first | assumption | exact news_sub (by assumption) (by kst_inAny)); (case ck => exact rfl); (case cd => first | decide | k_room); (case cu => first | decide | k_units); (intro v9 led9 h9 tk9 F9 N9 x9; obtain ⟨e9, Z9⟩ := x9; subst e9; skip; (try dsimp only))))
  k_steps
  all_goals first
    | exact turn_zn (tph_any _) Zo hoff hO (by assumption) rfl (by assumption) (by assumption) (by kst_inAny) ⟨rfl, rfl⟩
end
