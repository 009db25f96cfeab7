import PyProof.Rows.All
import Wide.All
import OpenK.AllK
import Wide.FinOn
import PySem.Challenge.RW_ix0032_01
open PySem PySem.W PyProof.Rows PySem.Calls PySem.SeqAt
set_option Elab.async false
set_option maxRecDepth 100000
set_option linter.unusedVariables false
set_option linter.unusedSimpArgs false
set_option maxHeartbeats 400000

namespace Mine
def nthS : Nat → List Stmt → Stmt
  | 0, s :: _ => s
  | n + 1, _ :: r => nthS n r
  | _, [] => .Pass ⟨0, 0, 0, 0⟩
abbrev prg : Program := PySem.Challenge.pw_ix0032_01
def stm (i : Nat) : Stmt := nthS i prg.main.body
def inS (k : Nat) : Stmt → Stmt
  | .ClassDef _ _ _ b .. => nthS k b
  | s => s
def fnP : Stmt → Arguments
  | .FunctionDef _ p .. => p
  | _ => default
def fnB : Stmt → List Stmt
  | .FunctionDef _ _ b .. => b
  | _ => []
def clB : Stmt → List Stmt
  | .ClassDef _ _ _ b .. => b
  | _ => []
def dO (b : List Stmt) : Str := (docOf b).getD ⟨#[]⟩
def fnS : Stmt → Scope
  | .FunctionDef _ _ _ _ _ _ s .. => s
  | _ => default
def fnD (s : Stmt) (nm qn : Str) (g : Addr) (cl : List (Str × Addr)) (df kd dc pm : Value) (an : Option Addr) (cd ct : Value) (b : Addr) : FuncData := ⟨nm, qn, fnP s, .stmts (fnB s), fnS s, g, cl, df, kd, dc, pm, an, cd, ct, b⟩
noncomputable def en (P : Params) (x : Str) (t : Tok) (v : Value) : DictEntry := ⟨PyData.keyHash P x, .str x t, v⟩
noncomputable def o43 (P : Params) : Obj := { cls := Value.type "tuple", data := Data.seq #[] }
noncomputable def o44 (P : Params) : Obj := { cls := Value.none, data := Data.fields #[] }
noncomputable def o45 (P : Params) : Obj := { cls := Value.type "code", data := Data.fields #[Value.str (Str.ofString "<module>") 182, Value.str (Str.ofString "<module>") 183, Value.str (Str.ofString "/claim/cut.py") 184, Value.int 1 0, Value.int 0 0, Value.int 0 0, Value.int 0 0, Value.int 0 0, Value.ref 11, Value.bool false, Value.int 181 0, Value.ref 12, Value.none, Value.none, Value.none, Value.none, Value.int 185 0, Value.int 1 0, Value.str (Str.ofString "/claim/cut.py") 186] }
noncomputable def o46 (P : Params) : Obj := { cls := Value.type "frame", slots := #[some (Value.ref 13), some (Value.ref 3), some (Value.ref 3), none, some (Value.str (Str.ofString "__main__") 164), none, some (Value.ref 0)] }
noncomputable def o49 (P : Params) : Obj := { cls := Value.type "dict", data := Data.dict #[en P "__name__" 165 (Value.str (Str.ofString "h2.exceptions") 246), en P "__doc__" 166 (Value.none), en P "__package__" 167 (Value.none), en P "__loader__" 168 (Value.builtin "__main__.__loader__#opaque"), en P "__spec__" 169 (Value.none), en P "__annotations__" 170 (Value.ref 6), en P "__builtins__" 171 (Value.ref 4), en P "__file__" 173 (Value.str (Str.ofString "/claim/cut.py") 172), en P "__cached__" 174 (Value.none), en P "_wall" 193 (Value.ref 21), en P "ErrorCodes" 245 (Value.ref 31)] 11 }
noncomputable def o67 (P : Params) : Obj := { cls := Value.type "type", data := Data.cls { name := Str.ofString "ErrorCodes", bases := [Value.type "object"], mro := [Value.ref 31, Value.type "object"], ns := 30, qualname := Str.ofString "ErrorCodes" }, slots := #[none, none, some (Value.str (Str.ofString "ErrorCodes") 196), some (Value.str (Str.ofString "ErrorCodes") 204), some (Value.builtin "object.__new__"), some (Value.bool true)] }
noncomputable def o59 (P : Params) : Obj := { cls := Value.type "builtin_function_or_method", data := Data.fields #[Value.builtin "type.__prepare__", Value.type "type"] }
noncomputable def o55 (P : Params) : Obj := { cls := Value.none, data := Data.func (Mine.fnD (Mine.stm 0) (Str.ofString "_wall") (Str.ofString "_wall") 0 [] Value.none Value.none Value.none Value.none none Value.none Value.none 0) }
noncomputable def o71 (P : Params) : Obj := { cls := Value.type "builtin_function_or_method", data := Data.fields #[Value.builtin "object.__init_subclass__", Value.ref 31] }
noncomputable def o63 (P : Params) : Obj := { cls := Value.type "code", data := Data.fields #[Value.str (Str.ofString "ErrorCodes") 198, Value.str (Str.ofString "ErrorCodes") 199, Value.str (Str.ofString "/claim/cut.py") 200, Value.int 5 0, Value.int 0 0, Value.int 0 0, Value.int 0 0, Value.int 0 0, Value.ref 25, Value.bool false, Value.int 181 0, Value.ref 26, Value.none, Value.none, Value.none, Value.none, Value.int 201 0, Value.int 5 0, Value.str (Str.ofString "/claim/cut.py") 202] }
noncomputable def o53 (P : Params) : Obj := { cls := Value.type "tuple", data := Data.seq #[Value.str (Str.ofString "k") 190] }
noncomputable def o69 (P : Params) : Obj := { cls := Value.type "getset_descriptor", data := Data.fields #[Value.str (Str.ofString "__weakref__") 242, Value.ref 31, Value.builtin "ExceptionGroup.__weakref__", Value.none] }
noncomputable def o57 (P : Params) : Obj := { cls := Value.type "function", data := Data.func (Mine.fnD (Mine.stm 0) (Str.ofString "_wall") (Str.ofString "_wall") 3 [] Value.none Value.none Value.none (Value.str (Str.ofString "__main__") 164) none (Value.ref 20) Value.none 0) }
noncomputable def o68 (P : Params) : Obj := { cls := Value.type "getset_descriptor", data := Data.fields #[Value.str (Str.ofString "__dict__") 240, Value.ref 31, Value.builtin "function.__dict__", Value.builtin "function.__dict__#set"] }
noncomputable def o60 (P : Params) : Obj := { cls := Value.type "dict", data := Data.dict #[en P "__module__" 203 (Value.str (Str.ofString "h2.errors") 194), en P "__qualname__" 205 (Value.str (Str.ofString "ErrorCodes") 204), en P "__firstlineno__" 207 (Value.int 5 206), en P "__doc__" 209 (Value.str (Mine.dO (Mine.clB (Mine.stm 2))) 208), en P "NO_ERROR" 212 (Value.int 0 211), en P "PROTOCOL_ERROR" 214 (Value.int 1 213), en P "INTERNAL_ERROR" 216 (Value.int 2 215), en P "FLOW_CONTROL_ERROR" 218 (Value.int 3 217), en P "SETTINGS_TIMEOUT" 220 (Value.int 4 219), en P "STREAM_CLOSED" 222 (Value.int 5 221), en P "FRAME_SIZE_ERROR" 224 (Value.int 6 223), en P "REFUSED_STREAM" 226 (Value.int 7 225), en P "CANCEL" 228 (Value.int 8 227), en P "COMPRESSION_ERROR" 230 (Value.int 9 229), en P "CONNECT_ERROR" 232 (Value.int 10 231), en P "ENHANCE_YOUR_CALM" 234 (Value.int 11 233), en P "INADEQUATE_SECURITY" 236 (Value.int 12 235), en P "HTTP_1_1_REQUIRED" 238 (Value.int 13 237), en P "__static_attributes__" 239 (Value.ref 29)] 19 }
noncomputable def o50 (P : Params) : Obj := { cls := Value.none, data := Data.fields #[Value.int 1 0, Value.int 0 0, Value.ref 20, Value.int 5 0, Value.int 0 0, Value.ref 27] }
noncomputable def o56 (P : Params) : Obj := { cls := Value.type "code", data := Data.fields #[Value.str (Str.ofString "_wall") 187, Value.str (Str.ofString "_wall") 188, Value.str (Str.ofString "/claim/cut.py") 189, Value.int 1 0, Value.int 1 0, Value.int 0 0, Value.int 0 0, Value.int 3 0, Value.ref 15, Value.bool true, Value.int 181 0, Value.ref 16, Value.none, Value.ref 17, Value.ref 18, Value.ref 19, Value.int 191 0, Value.int 1 0, Value.str (Str.ofString "/claim/cut.py") 192] }
noncomputable def o64 (P : Params) : Obj := { cls := Value.type "frame", slots := #[some (Value.ref 27), some (Value.ref 3), some (Value.ref 24), none, some (Value.str (Str.ofString "h2.errors") 194), none, some (Value.ref 0)] }
noncomputable def o70 (P : Params) : Obj := { cls := Value.type "super", data := Data.fields #[Value.ref 31, Value.ref 31, Value.ref 31] }
noncomputable def o66 (P : Params) : Obj := { cls := Value.type "dict", data := Data.dict #[en P "__module__" 203 (Value.str (Str.ofString "h2.errors") 194), en P "__firstlineno__" 207 (Value.int 5 206), en P "__doc__" 209 (Value.str (Mine.dO (Mine.clB (Mine.stm 2))) 208), en P "NO_ERROR" 212 (Value.int 0 211), en P "PROTOCOL_ERROR" 214 (Value.int 1 213), en P "INTERNAL_ERROR" 216 (Value.int 2 215), en P "FLOW_CONTROL_ERROR" 218 (Value.int 3 217), en P "SETTINGS_TIMEOUT" 220 (Value.int 4 219), en P "STREAM_CLOSED" 222 (Value.int 5 221), en P "FRAME_SIZE_ERROR" 224 (Value.int 6 223), en P "REFUSED_STREAM" 226 (Value.int 7 225), en P "CANCEL" 228 (Value.int 8 227), en P "COMPRESSION_ERROR" 230 (Value.int 9 229), en P "CONNECT_ERROR" 232 (Value.int 10 231), en P "ENHANCE_YOUR_CALM" 234 (Value.int 11 233), en P "INADEQUATE_SECURITY" 236 (Value.int 12 235), en P "HTTP_1_1_REQUIRED" 238 (Value.int 13 237), en P "__static_attributes__" 239 (Value.ref 29), en P "__dict__" 241 (Value.ref 32), en P "__weakref__" 243 (Value.ref 33)] 3 }
noncomputable def o88 (P : Params) : Obj := { cls := Value.type "dict", data := Data.dict #[en P "__name__" 165 (Value.str (Str.ofString "h2.utilities") 290), en P "__doc__" 166 (Value.none), en P "__package__" 167 (Value.none), en P "__loader__" 168 (Value.builtin "__main__.__loader__#opaque"), en P "__spec__" 169 (Value.none), en P "__annotations__" 170 (Value.ref 6), en P "__builtins__" 171 (Value.ref 4), en P "__file__" 173 (Value.str (Str.ofString "/claim/cut.py") 172), en P "__cached__" 174 (Value.none), en P "_wall" 193 (Value.ref 21), en P "ErrorCodes" 245 (Value.ref 31), en P "H2Error" 269 (Value.ref 45), en P "ProtocolError" 289 (Value.ref 58)] 13 }
noncomputable def o86 (P : Params) : Obj := { cls := Value.type "super", data := Data.fields #[Value.ref 45, Value.ref 45, Value.ref 45] }
noncomputable def o97 (P : Params) : Obj := { cls := Value.type "frame", slots := #[some (Value.ref 54), some (Value.ref 3), some (Value.ref 51), none, some (Value.str (Str.ofString "h2.exceptions") 246), none, some (Value.ref 0)] }
noncomputable def o93 (P : Params) : Obj := { cls := Value.type "dict", data := Data.dict #[en P "__module__" 277 (Value.str (Str.ofString "h2.exceptions") 246), en P "__qualname__" 279 (Value.str (Str.ofString "ProtocolError") 278), en P "__firstlineno__" 281 (Value.int 30 280), en P "__doc__" 283 (Value.str (Mine.dO (Mine.clB (Mine.stm 5))) 282), en P "error_code" 286 (Value.int 1 213), en P "__static_attributes__" 287 (Value.ref 56)] 6 }
noncomputable def o101 (P : Params) : Obj := { cls := Value.type "super", data := Data.fields #[Value.ref 58, Value.ref 58, Value.ref 58] }
noncomputable def o91 (P : Params) : Obj := { cls := Value.type "tuple", data := Data.seq #[Value.ref 45] }
noncomputable def o80 (P : Params) : Obj := { cls := Value.type "code", data := Data.fields #[Value.str (Str.ofString "H2Error") 250, Value.str (Str.ofString "H2Error") 251, Value.str (Str.ofString "/claim/cut.py") 252, Value.int 26 0, Value.int 0 0, Value.int 0 0, Value.int 0 0, Value.int 0 0, Value.ref 39, Value.bool false, Value.int 181 0, Value.ref 40, Value.none, Value.none, Value.none, Value.none, Value.int 253 0, Value.int 26 0, Value.str (Str.ofString "/claim/cut.py") 254] }
noncomputable def o99 (P : Params) : Obj := { cls := Value.type "dict", data := Data.dict #[en P "__module__" 277 (Value.str (Str.ofString "h2.exceptions") 246), en P "__firstlineno__" 281 (Value.int 30 280), en P "__doc__" 283 (Value.str (Mine.dO (Mine.clB (Mine.stm 5))) 282), en P "error_code" 286 (Value.int 1 213), en P "__static_attributes__" 287 (Value.ref 56)] 1 }
noncomputable def o90 (P : Params) : Obj := { cls := Value.type "type", data := Data.cls { name := Str.ofString "H2Error", bases := [Value.type "Exception"], mro := [Value.ref 45, Value.type "Exception", Value.type "BaseException", Value.type "object"], ns := 44, qualname := Str.ofString "H2Error", subclasses := [Value.ref 58] }, slots := #[some (Value.ref 36), none, some (Value.str (Str.ofString "H2Error") 248), some (Value.str (Str.ofString "H2Error") 256), some (Value.builtin "Exception.__new__"), some (Value.bool true)] }
noncomputable def o72 (P : Params) : Obj := { cls := Value.none, data := Data.dict #[en P "type.__subclasses__.Exception.0" 266 (Value.int 45 0), en P "type.__subclasses__.Exception.n" 267 (Value.int 1 0)] 2 }
noncomputable def o87 (P : Params) : Obj := { cls := Value.type "builtin_function_or_method", data := Data.fields #[Value.builtin "object.__init_subclass__", Value.ref 45] }
noncomputable def o89 (P : Params) : Obj := { cls := Value.none, data := Data.fields #[Value.int 1 0, Value.int 0 0, Value.ref 20, Value.int 5 0, Value.int 0 0, Value.ref 27, Value.int 26 0, Value.int 0 0, Value.ref 41, Value.int 30 0, Value.int 0 0, Value.ref 54] }
noncomputable def o75 (P : Params) : Obj := { cls := Value.type "tuple", data := Data.seq #[Value.type "Exception"] }
noncomputable def o83 (P : Params) : Obj := { cls := Value.type "dict", data := Data.dict #[en P "__module__" 255 (Value.str (Str.ofString "h2.exceptions") 246), en P "__firstlineno__" 259 (Value.int 26 258), en P "__doc__" 261 (Value.str (Mine.dO (Mine.clB (Mine.stm 4))) 260), en P "__static_attributes__" 263 (Value.ref 43), en P "__weakref__" 265 (Value.ref 46)] 2 }
noncomputable def o102 (P : Params) : Obj := { cls := Value.type "builtin_function_or_method", data := Data.fields #[Value.builtin "object.__init_subclass__", Value.ref 58] }
noncomputable def o81 (P : Params) : Obj := { cls := Value.type "frame", slots := #[some (Value.ref 41), some (Value.ref 3), some (Value.ref 38), none, some (Value.str (Str.ofString "h2.exceptions") 246), none, some (Value.ref 0)] }
noncomputable def o100 (P : Params) : Obj := { cls := Value.type "type", data := Data.cls { name := Str.ofString "ProtocolError", bases := [Value.ref 45], mro := [Value.ref 58, Value.ref 45, Value.type "Exception", Value.type "BaseException", Value.type "object"], ns := 57, qualname := Str.ofString "ProtocolError" }, slots := #[some (Value.ref 49), none, some (Value.str (Str.ofString "ProtocolError") 270), some (Value.str (Str.ofString "ProtocolError") 278), some (Value.builtin "Exception.__new__"), some (Value.bool true)] }
noncomputable def o77 (P : Params) : Obj := { cls := Value.type "dict", data := Data.dict #[en P "__module__" 255 (Value.str (Str.ofString "h2.exceptions") 246), en P "__qualname__" 257 (Value.str (Str.ofString "H2Error") 256), en P "__firstlineno__" 259 (Value.int 26 258), en P "__doc__" 261 (Value.str (Mine.dO (Mine.clB (Mine.stm 4))) 260), en P "__static_attributes__" 263 (Value.ref 43)] 5 }
noncomputable def o96 (P : Params) : Obj := { cls := Value.type "code", data := Data.fields #[Value.str (Str.ofString "ProtocolError") 272, Value.str (Str.ofString "ProtocolError") 273, Value.str (Str.ofString "/claim/cut.py") 274, Value.int 30 0, Value.int 0 0, Value.int 0 0, Value.int 0 0, Value.int 0 0, Value.ref 52, Value.bool false, Value.int 181 0, Value.ref 53, Value.none, Value.none, Value.none, Value.none, Value.int 275 0, Value.int 30 0, Value.str (Str.ofString "/claim/cut.py") 276] }
noncomputable def o85 (P : Params) : Obj := { cls := Value.type "getset_descriptor", data := Data.fields #[Value.str (Str.ofString "__weakref__") 264, Value.ref 45, Value.builtin "ExceptionGroup.__weakref__", Value.none] }
noncomputable def o152 (P : Params) : Obj := { cls := Value.type "dict", data := Data.dict #[en P "__name__" 165 (Value.str (Str.ofString "h2.utilities") 290), en P "__doc__" 166 (Value.none), en P "__package__" 167 (Value.none), en P "__loader__" 168 (Value.builtin "__main__.__loader__#opaque"), en P "__spec__" 169 (Value.none), en P "__annotations__" 170 (Value.ref 6), en P "__builtins__" 171 (Value.ref 4), en P "__file__" 173 (Value.str (Str.ofString "/claim/cut.py") 172), en P "__cached__" 174 (Value.none), en P "_wall" 193 (Value.ref 21), en P "ErrorCodes" 245 (Value.ref 31), en P "H2Error" 269 (Value.ref 45), en P "ProtocolError" 289 (Value.ref 58), en P "_tuplegetter" 348 (Value.ref 99), en P "SIGIL" 351 (Value.int 58 350), en P "CONNECTION_HEADERS" 357 (Value.ref 104), en P "_ALLOWED_PSEUDO_HEADER_FIELDS" 364 (Value.ref 105), en P "_REQUEST_ONLY_HEADERS" 370 (Value.ref 106), en P "_RESPONSE_ONLY_HEADERS" 372 (Value.ref 107), en P "_CONNECT_REQUEST_ONLY_HEADERS" 374 (Value.ref 108)] 20 }
noncomputable def o107 (P : Params) : Obj := { cls := Value.type "dict", data := Data.dict #[en P "__module__" 299 (Value.str (Str.ofString "h2.utilities") 290), en P "__qualname__" 301 (Value.str (Str.ofString "_tuplegetter") 300), en P "__firstlineno__" 303 (Value.int 36 302), en P "__init__" 312 (Value.ref 74), en P "__get__" 321 (Value.ref 82), en P "__set__" 330 (Value.ref 89), en P "__delete__" 338 (Value.ref 96), en P "__static_attributes__" 341 (Value.ref 97)] 8 }
noncomputable def o139 (P : Params) : Obj := { cls := Value.type "code", data := Data.fields #[Value.str (Str.ofString "__delete__") 331, Value.str (Str.ofString "_tuplegetter.__delete__") 332, Value.str (Str.ofString "/claim/cut.py") 333, Value.int 52 0, Value.int 2 0, Value.int 0 0, Value.int 0 0, Value.int 3 0, Value.ref 90, Value.bool true, Value.int 181 0, Value.ref 91, Value.none, Value.ref 92, Value.ref 93, Value.ref 94, Value.int 336 0, Value.int 52 0, Value.str (Str.ofString "/claim/cut.py") 337] }
noncomputable def o147 (P : Params) : Obj := { cls := Value.type "builtin_function_or_method", data := Data.fields #[Value.builtin "object.__init_subclass__", Value.ref 99] }
noncomputable def o131 (P : Params) : Obj := { cls := Value.none, data := Data.func (Mine.fnD (Mine.inS 2 (Mine.stm 7)) (Str.ofString "__set__") (Str.ofString "_tuplegetter.__set__") 0 [] Value.none Value.none Value.none Value.none none Value.none Value.none 0) }
noncomputable def o111 (P : Params) : Obj := { cls := Value.type "frame", slots := #[some (Value.ref 66), some (Value.ref 3), some (Value.ref 63), none, some (Value.str (Str.ofString "h2.utilities") 290), none, some (Value.ref 0)] }
noncomputable def o143 (P : Params) : Obj := { cls := Value.type "type", data := Data.cls { name := Str.ofString "_tuplegetter", bases := [Value.type "object"], mro := [Value.ref 99, Value.type "object"], ns := 98, qualname := Str.ofString "_tuplegetter" }, slots := #[none, none, some (Value.str (Str.ofString "_tuplegetter") 292), some (Value.str (Str.ofString "_tuplegetter") 300), some (Value.builtin "object.__new__"), some (Value.bool true)] }
noncomputable def o119 (P : Params) : Obj := { cls := Value.type "tuple", data := Data.seq #[Value.none] }
noncomputable def o151 (P : Params) : Obj := { cls := Value.type "tuple", data := Data.seq #[Value.bytes #[58, 115, 116, 97, 116, 117, 115] 371] }
noncomputable def o109 (P : Params) : Obj := { cls := Value.none, data := Data.fields #[Value.int 38 0, Value.int 4 0, Value.ref 73, Value.int 42 0, Value.int 4 0, Value.ref 81, Value.int 49 0, Value.int 4 0, Value.ref 88, Value.int 52 0, Value.int 4 0, Value.ref 95] }
noncomputable def o141 (P : Params) : Obj := { cls := Value.type "tuple", data := Data.seq #[Value.str (Str.ofString "__doc__") 339, Value.str (Str.ofString "index") 340] }
noncomputable def o125 (P : Params) : Obj := { cls := Value.type "code", data := Data.fields #[Value.str (Str.ofString "__get__") 313, Value.str (Str.ofString "_tuplegetter.__get__") 314, Value.str (Str.ofString "/claim/cut.py") 315, Value.int 42 0, Value.int 3 0, Value.int 0 0, Value.int 0 0, Value.int 3 0, Value.ref 76, Value.bool true, Value.int 181 0, Value.ref 77, Value.none, Value.ref 78, Value.ref 79, Value.ref 80, Value.int 319 0, Value.int 42 0, Value.str (Str.ofString "/claim/cut.py") 320] }
noncomputable def o117 (P : Params) : Obj := { cls := Value.type "code", data := Data.fields #[Value.str (Str.ofString "__init__") 304, Value.str (Str.ofString "_tuplegetter.__init__") 305, Value.str (Str.ofString "/claim/cut.py") 306, Value.int 38 0, Value.int 3 0, Value.int 0 0, Value.int 0 0, Value.int 3 0, Value.ref 68, Value.bool true, Value.int 181 0, Value.ref 69, Value.none, Value.ref 70, Value.ref 71, Value.ref 72, Value.int 310 0, Value.int 38 0, Value.str (Str.ofString "/claim/cut.py") 311] }
noncomputable def o149 (P : Params) : Obj := { cls := Value.type "tuple", data := Data.seq #[Value.bytes #[58, 109, 101, 116, 104, 111, 100] 358, Value.bytes #[58, 115, 99, 104, 101, 109, 101] 359, Value.bytes #[58, 97, 117, 116, 104, 111, 114, 105, 116, 121] 360, Value.bytes #[58, 112, 97, 116, 104] 361, Value.bytes #[58, 115, 116, 97, 116, 117, 115] 362, Value.bytes #[58, 112, 114, 111, 116, 111, 99, 111, 108] 363] }
noncomputable def o133 (P : Params) : Obj := { cls := Value.type "function", data := Data.func (Mine.fnD (Mine.inS 2 (Mine.stm 7)) (Str.ofString "__set__") (Str.ofString "_tuplegetter.__set__") 3 [] Value.none Value.none Value.none (Value.str (Str.ofString "h2.utilities") 290) none (Value.ref 88) Value.none 0) }
noncomputable def o145 (P : Params) : Obj := { cls := Value.type "getset_descriptor", data := Data.fields #[Value.str (Str.ofString "__weakref__") 344, Value.ref 99, Value.builtin "ExceptionGroup.__weakref__", Value.none] }
noncomputable def o129 (P : Params) : Obj := { cls := Value.type "tuple", data := Data.seq #[Value.str (Str.ofString "self") 325, Value.str (Str.ofString "obj") 326, Value.str (Str.ofString "value") 327] }
noncomputable def o140 (P : Params) : Obj := { cls := Value.type "function", data := Data.func (Mine.fnD (Mine.inS 3 (Mine.stm 7)) (Str.ofString "__delete__") (Str.ofString "_tuplegetter.__delete__") 3 [] Value.none Value.none Value.none (Value.str (Str.ofString "h2.utilities") 290) none (Value.ref 95) Value.none 0) }
noncomputable def o124 (P : Params) : Obj := { cls := Value.none, data := Data.func (Mine.fnD (Mine.inS 1 (Mine.stm 7)) (Str.ofString "__get__") (Str.ofString "_tuplegetter.__get__") 0 [] Value.none Value.none Value.none Value.none none Value.none Value.none 0) }
noncomputable def o116 (P : Params) : Obj := { cls := Value.none, data := Data.func (Mine.fnD (Mine.inS 0 (Mine.stm 7)) (Str.ofString "__init__") (Str.ofString "_tuplegetter.__init__") 0 [] Value.none Value.none Value.none Value.none none Value.none Value.none 0) }
noncomputable def o148 (P : Params) : Obj := { cls := Value.type "tuple", data := Data.seq #[Value.bytes #[99, 111, 110, 110, 101, 99, 116, 105, 111, 110] 352, Value.bytes #[112, 114, 111, 120, 121, 45, 99, 111, 110, 110, 101, 99, 116, 105, 111, 110] 353, Value.bytes #[107, 101, 101, 112, 45, 97, 108, 105, 118, 101] 354, Value.bytes #[116, 114, 97, 110, 115, 102, 101, 114, 45, 101, 110, 99, 111, 100, 105, 110, 103] 355, Value.bytes #[117, 112, 103, 114, 97, 100, 101] 356] }
noncomputable def o132 (P : Params) : Obj := { cls := Value.type "code", data := Data.fields #[Value.str (Str.ofString "__set__") 322, Value.str (Str.ofString "_tuplegetter.__set__") 323, Value.str (Str.ofString "/claim/cut.py") 324, Value.int 49 0, Value.int 3 0, Value.int 0 0, Value.int 0 0, Value.int 3 0, Value.ref 83, Value.bool true, Value.int 181 0, Value.ref 84, Value.none, Value.ref 85, Value.ref 86, Value.ref 87, Value.int 328 0, Value.int 49 0, Value.str (Str.ofString "/claim/cut.py") 329] }
noncomputable def o104 (P : Params) : Obj := { cls := Value.none, data := Data.fields #[Value.int 1 0, Value.int 0 0, Value.ref 20, Value.int 5 0, Value.int 0 0, Value.ref 27, Value.int 26 0, Value.int 0 0, Value.ref 41, Value.int 30 0, Value.int 0 0, Value.ref 54, Value.int 36 0, Value.int 0 0, Value.ref 66] }
noncomputable def o144 (P : Params) : Obj := { cls := Value.type "getset_descriptor", data := Data.fields #[Value.str (Str.ofString "__dict__") 342, Value.ref 99, Value.builtin "function.__dict__", Value.builtin "function.__dict__#set"] }
noncomputable def o153 (P : Params) : Obj := { cls := Value.type "tuple", data := Data.seq #[Value.bytes #[58, 112, 114, 111, 116, 111, 99, 111, 108] 373] }
noncomputable def o136 (P : Params) : Obj := { cls := Value.type "tuple", data := Data.seq #[Value.str (Str.ofString "self") 334, Value.str (Str.ofString "obj") 335] }
noncomputable def o110 (P : Params) : Obj := { cls := Value.type "code", data := Data.fields #[Value.str (Str.ofString "_tuplegetter") 294, Value.str (Str.ofString "_tuplegetter") 295, Value.str (Str.ofString "/claim/cut.py") 296, Value.int 36 0, Value.int 0 0, Value.int 0 0, Value.int 0 0, Value.int 0 0, Value.ref 64, Value.bool false, Value.int 181 0, Value.ref 65, Value.none, Value.none, Value.none, Value.none, Value.int 297 0, Value.int 36 0, Value.str (Str.ofString "/claim/cut.py") 298] }
noncomputable def o142 (P : Params) : Obj := { cls := Value.type "dict", data := Data.dict #[en P "__module__" 299 (Value.str (Str.ofString "h2.utilities") 290), en P "__firstlineno__" 303 (Value.int 36 302), en P "__init__" 312 (Value.ref 74), en P "__get__" 321 (Value.ref 82), en P "__set__" 330 (Value.ref 89), en P "__delete__" 338 (Value.ref 96), en P "__static_attributes__" 341 (Value.ref 97), en P "__dict__" 343 (Value.ref 100), en P "__weakref__" 345 (Value.ref 101), en P "__doc__" 346 (Value.none)] 4 }
noncomputable def o126 (P : Params) : Obj := { cls := Value.type "function", data := Data.func (Mine.fnD (Mine.inS 1 (Mine.stm 7)) (Str.ofString "__get__") (Str.ofString "_tuplegetter.__get__") 3 [] (Value.ref 75) Value.none Value.none (Value.str (Str.ofString "h2.utilities") 290) none (Value.ref 81) Value.none 0) }
noncomputable def o118 (P : Params) : Obj := { cls := Value.type "function", data := Data.func (Mine.fnD (Mine.inS 0 (Mine.stm 7)) (Str.ofString "__init__") (Str.ofString "_tuplegetter.__init__") 3 [] Value.none Value.none Value.none (Value.str (Str.ofString "h2.utilities") 290) none (Value.ref 73) Value.none 0) }
noncomputable def o150 (P : Params) : Obj := { cls := Value.type "tuple", data := Data.seq #[Value.bytes #[58, 115, 99, 104, 101, 109, 101] 365, Value.bytes #[58, 112, 97, 116, 104] 366, Value.bytes #[58, 97, 117, 116, 104, 111, 114, 105, 116, 121] 367, Value.bytes #[58, 109, 101, 116, 104, 111, 100] 368, Value.bytes #[58, 112, 114, 111, 116, 111, 99, 111, 108] 369] }
noncomputable def o114 (P : Params) : Obj := { cls := Value.type "tuple", data := Data.seq #[Value.str (Str.ofString "self") 307, Value.str (Str.ofString "index") 308, Value.str (Str.ofString "doc") 309] }
noncomputable def o146 (P : Params) : Obj := { cls := Value.type "super", data := Data.fields #[Value.ref 99, Value.ref 99, Value.ref 99] }
noncomputable def o122 (P : Params) : Obj := { cls := Value.type "tuple", data := Data.seq #[Value.str (Str.ofString "self") 316, Value.str (Str.ofString "obj") 317, Value.str (Str.ofString "objtype") 318] }
noncomputable def o138 (P : Params) : Obj := { cls := Value.none, data := Data.func (Mine.fnD (Mine.inS 3 (Mine.stm 7)) (Str.ofString "__delete__") (Str.ofString "_tuplegetter.__delete__") 0 [] Value.none Value.none Value.none Value.none none Value.none Value.none 0) }
noncomputable def o154 (P : Params) : Obj := { cls := Value.type "dict", data := Data.dict #[en P "__name__" 165 (Value.str (Str.ofString "h2.utilities") 290), en P "__doc__" 166 (Value.none), en P "__package__" 167 (Value.none), en P "__loader__" 168 (Value.builtin "__main__.__loader__#opaque"), en P "__spec__" 169 (Value.none), en P "__annotations__" 170 (Value.ref 6), en P "__builtins__" 171 (Value.ref 4), en P "__file__" 173 (Value.str (Str.ofString "/claim/cut.py") 172), en P "__cached__" 174 (Value.none), en P "_wall" 193 (Value.ref 21), en P "ErrorCodes" 245 (Value.ref 31), en P "H2Error" 269 (Value.ref 45), en P "ProtocolError" 289 (Value.ref 58), en P "_tuplegetter" 348 (Value.ref 99), en P "SIGIL" 351 (Value.int 58 350), en P "CONNECTION_HEADERS" 357 (Value.ref 104), en P "_ALLOWED_PSEUDO_HEADER_FIELDS" 364 (Value.ref 105), en P "_REQUEST_ONLY_HEADERS" 370 (Value.ref 106), en P "_RESPONSE_ONLY_HEADERS" 372 (Value.ref 107), en P "_CONNECT_REQUEST_ONLY_HEADERS" 374 (Value.ref 108), en P "HeaderValidationFlags" 515 (Value.ref 182)] 21 }
noncomputable def o190 (P : Params) : Obj := { cls := Value.type "code", data := Data.fields #[Value.str (Str.ofString "_replace") 431, Value.str (Str.ofString "HeaderValidationFlags._replace") 432, Value.str (Str.ofString "/claim/cut.py") 433, Value.int 78 0, Value.int 1 0, Value.int 1 0, Value.int 0 0, Value.int 11 0, Value.ref 138, Value.bool true, Value.int 181 0, Value.ref 139, Value.none, Value.ref 140, Value.ref 141, Value.ref 142, Value.int 438 0, Value.int 78 0, Value.str (Str.ofString "/claim/cut.py") 439] }
noncomputable def o158 (P : Params) : Obj := { cls := Value.type "dict", data := Data.dict #[en P "__module__" 382 (Value.str (Str.ofString "h2.utilities") 290), en P "__qualname__" 384 (Value.str (Str.ofString "HeaderValidationFlags") 383), en P "__firstlineno__" 386 (Value.int 60 385), en P "__doc__" 388 (Value.str (Mine.dO (Mine.clB (Mine.stm 14))) 387), en P "__slots__" 390 (Value.ref 117), en P "_fields" 395 (Value.ref 118), en P "_field_defaults" 396 (Value.ref 119), en P "__new__" 408 (Value.ref 126), en P "_make" 430 (Value.ref 135), en P "_replace" 441 (Value.ref 144), en P "__replace__" 442 (Value.ref 144), en P "__repr__" 450 (Value.ref 151), en P "_asdict" 457 (Value.ref 158), en P "__getnewargs__" 465 (Value.ref 165), en P "__match_args__" 470 (Value.ref 166), en P "is_client" 480 (Value.ref 168), en P "is_trailer" 490 (Value.ref 171), en P "is_response_header" 500 (Value.ref 174), en P "is_push_promise" 510 (Value.ref 177), en P "__static_attributes__" 511 (Value.ref 179), en P "__classcell__" 512 (Value.ref 112)] 21 }
noncomputable def o222 (P : Params) : Obj := { cls := Value.type "frame", data := Data.dict #[en P "self" 493 (Value.ref 174), en P "index" 494 (Value.int 2 491), en P "doc" 495 (Value.str (Str.ofString "Alias for field number 2") 492)] 3 }
noncomputable def o182 (P : Params) : Obj := { cls := Value.type "classmethod", dict := some 134, data := Data.fields #[Value.ref 133, Value.bool false] }
noncomputable def o214 (P : Params) : Obj := { cls := Value.type "dict", data := Data.dict #[en P "index" 477 (Value.int 0 471), en P "__doc__" 479 (Value.str (Str.ofString "Alias for field number 0") 472)] 2 }
noncomputable def o198 (P : Params) : Obj := { cls := Value.type "function", data := Data.func (Mine.fnD (Mine.inS 8 (Mine.stm 14)) (Str.ofString "__repr__") (Str.ofString "HeaderValidationFlags.__repr__") 3 [] Value.none Value.none (Value.str (Mine.dO (Mine.fnB (Mine.inS 8 (Mine.stm 14)))) 449) (Value.str (Str.ofString "h2.utilities") 290) none (Value.ref 150) Value.none 0) }
noncomputable def o166 (P : Params) : Obj := { cls := Value.type "dict", data := Data.dict #[] }
noncomputable def o230 (P : Params) : Obj := { cls := Value.type "staticmethod", data := Data.fields #[Value.ref 126] }
noncomputable def o178 (P : Params) : Obj := { cls := Value.none, data := Data.func (Mine.fnD (Mine.inS 5 (Mine.stm 14)) (Str.ofString "_make") (Str.ofString "HeaderValidationFlags._make") 0 [] Value.none Value.none Value.none Value.none none Value.none Value.none 0) }
noncomputable def o210 (P : Params) : Obj := { cls := Value.none, data := Data.func (Mine.fnD (Mine.inS 10 (Mine.stm 14)) (Str.ofString "__getnewargs__") (Str.ofString "HeaderValidationFlags.__getnewargs__") 0 [] Value.none Value.none Value.none Value.none none Value.none Value.none 0) }
noncomputable def o194 (P : Params) : Obj := { cls := Value.type "tuple", data := Data.seq #[Value.str (Str.ofString "self") 446] }
noncomputable def o162 (P : Params) : Obj := { cls := Value.type "code", data := Data.fields #[Value.str (Str.ofString "HeaderValidationFlags") 377, Value.str (Str.ofString "HeaderValidationFlags") 378, Value.str (Str.ofString "/claim/cut.py") 379, Value.int 60 0, Value.int 0 0, Value.int 0 0, Value.int 0 0, Value.int 0 0, Value.ref 113, Value.bool false, Value.int 181 0, Value.ref 114, Value.none, Value.none, Value.none, Value.none, Value.int 380 0, Value.int 60 0, Value.str (Str.ofString "/claim/cut.py") 381] }
noncomputable def o218 (P : Params) : Obj := { cls := Value.ref 99, dict := some 170 }
noncomputable def o176 (P : Params) : Obj := { cls := Value.type "tuple", data := Data.seq #[Value.str (Str.ofString "cls") 412, Value.str (Str.ofString "iterable") 413, Value.str (Str.ofString "result") 414] }
noncomputable def o208 (P : Params) : Obj := { cls := Value.type "tuple", data := Data.seq #[Value.str (Str.ofString "self") 461] }
noncomputable def o224 (P : Params) : Obj := { cls := Value.ref 99, dict := some 176 }
noncomputable def o184 (P : Params) : Obj := { cls := Value.type "tuple", data := Data.seq #[Value.ref 112] }
noncomputable def o216 (P : Params) : Obj := { cls := Value.type "frame", data := Data.dict #[en P "self" 473 (Value.ref 168), en P "index" 474 (Value.int 0 471), en P "doc" 475 (Value.str (Str.ofString "Alias for field number 0") 472)] 3 }
noncomputable def o232 (P : Params) : Obj := { cls := Value.type "builtin_function_or_method", data := Data.fields #[Value.builtin "object.__init_subclass__", Value.ref 182] }
noncomputable def o180 (P : Params) : Obj := { cls := Value.type "function", data := Data.func (Mine.fnD (Mine.inS 5 (Mine.stm 14)) (Str.ofString "_make") (Str.ofString "HeaderValidationFlags._make") 3 [] Value.none Value.none (Value.str (Mine.dO (Mine.fnB (Mine.inS 5 (Mine.stm 14)))) 417) (Value.str (Str.ofString "h2.utilities") 290) (some 136) (Value.ref 132) Value.none 0) }
noncomputable def o212 (P : Params) : Obj := { cls := Value.type "function", data := Data.func (Mine.fnD (Mine.inS 10 (Mine.stm 14)) (Str.ofString "__getnewargs__") (Str.ofString "HeaderValidationFlags.__getnewargs__") 3 [] Value.none Value.none (Value.str (Mine.dO (Mine.fnB (Mine.inS 10 (Mine.stm 14)))) 464) (Value.str (Str.ofString "h2.utilities") 290) none (Value.ref 164) Value.none 0) }
noncomputable def o196 (P : Params) : Obj := { cls := Value.none, data := Data.func (Mine.fnD (Mine.inS 8 (Mine.stm 14)) (Str.ofString "__repr__") (Str.ofString "HeaderValidationFlags.__repr__") 0 [] Value.none Value.none Value.none Value.none none Value.none Value.none 0) }
noncomputable def o228 (P : Params) : Obj := { cls := Value.type "dict", data := Data.dict #[en P "__module__" 382 (Value.str (Str.ofString "h2.utilities") 290), en P "__firstlineno__" 386 (Value.int 60 385), en P "__doc__" 388 (Value.str (Mine.dO (Mine.clB (Mine.stm 14))) 387), en P "__slots__" 390 (Value.ref 117), en P "_fields" 395 (Value.ref 118), en P "_field_defaults" 396 (Value.ref 119), en P "__new__" 408 (Value.ref 183), en P "_make" 430 (Value.ref 135), en P "_replace" 441 (Value.ref 144), en P "__replace__" 442 (Value.ref 144), en P "__repr__" 450 (Value.ref 151), en P "_asdict" 457 (Value.ref 158), en P "__getnewargs__" 465 (Value.ref 165), en P "__match_args__" 470 (Value.ref 166), en P "is_client" 480 (Value.ref 168), en P "is_trailer" 490 (Value.ref 171), en P "is_response_header" 500 (Value.ref 174), en P "is_push_promise" 510 (Value.ref 177), en P "__static_attributes__" 511 (Value.ref 179)] 2 }
noncomputable def o156 (P : Params) : Obj := { cls := Value.type "tuple", data := Data.seq #[Value.type "tuple"] }
noncomputable def o220 (P : Params) : Obj := { cls := Value.type "dict", data := Data.dict #[en P "index" 497 (Value.int 2 491), en P "__doc__" 499 (Value.str (Str.ofString "Alias for field number 2") 492)] 2 }
noncomputable def o204 (P : Params) : Obj := { cls := Value.type "code", data := Data.fields #[Value.str (Str.ofString "_asdict") 451, Value.str (Str.ofString "HeaderValidationFlags._asdict") 452, Value.str (Str.ofString "/claim/cut.py") 453, Value.int 93 0, Value.int 1 0, Value.int 0 0, Value.int 0 0, Value.int 3 0, Value.ref 152, Value.bool true, Value.int 181 0, Value.ref 153, Value.none, Value.ref 154, Value.ref 155, Value.ref 156, Value.int 455 0, Value.int 93 0, Value.str (Str.ofString "/claim/cut.py") 456] }
noncomputable def o172 (P : Params) : Obj := { cls := Value.type "code", data := Data.fields #[Value.str (Str.ofString "__new__") 397, Value.str (Str.ofString "HeaderValidationFlags.__new__") 398, Value.str (Str.ofString "/claim/cut.py") 399, Value.int 66 0, Value.int 5 0, Value.int 0 0, Value.int 0 0, Value.int 3 0, Value.ref 120, Value.bool true, Value.int 181 0, Value.ref 121, Value.none, Value.ref 122, Value.ref 123, Value.ref 124, Value.int 405 0, Value.int 66 0, Value.str (Str.ofString "/claim/cut.py") 406] }
noncomputable def o191 (P : Params) : Obj := { cls := Value.type "function", data := Data.func (Mine.fnD (Mine.inS 6 (Mine.stm 14)) (Str.ofString "_replace") (Str.ofString "HeaderValidationFlags._replace") 3 [(Str.ofString "__class__", 112)] Value.none Value.none (Value.str (Mine.dO (Mine.fnB (Mine.inS 6 (Mine.stm 14)))) 440) (Value.str (Str.ofString "h2.utilities") 290) none (Value.ref 143) (Value.ref 137) 0) }
noncomputable def o159 (P : Params) : Obj := { cls := Value.type "cell", data := Data.cell (some (Value.ref 182)) }
noncomputable def o223 (P : Params) : Obj := { cls := Value.type "dict", data := Data.dict #[en P "index" 507 (Value.int 3 501), en P "__doc__" 509 (Value.str (Str.ofString "Alias for field number 3") 502)] 2 }
noncomputable def o215 (P : Params) : Obj := { cls := Value.ref 99, dict := some 167 }
noncomputable def o231 (P : Params) : Obj := { cls := Value.type "super", data := Data.fields #[Value.ref 182, Value.ref 182, Value.ref 182] }
noncomputable def o155 (P : Params) : Obj := { cls := Value.none, data := Data.fields #[Value.int 1 0, Value.int 0 0, Value.ref 20, Value.int 5 0, Value.int 0 0, Value.ref 27, Value.int 26 0, Value.int 0 0, Value.ref 41, Value.int 30 0, Value.int 0 0, Value.ref 54, Value.int 36 0, Value.int 0 0, Value.ref 66, Value.int 60 0, Value.int 0 0, Value.ref 115] }
noncomputable def o179 (P : Params) : Obj := { cls := Value.type "code", data := Data.fields #[Value.str (Str.ofString "_make") 409, Value.str (Str.ofString "HeaderValidationFlags._make") 410, Value.str (Str.ofString "/claim/cut.py") 411, Value.int 70 0, Value.int 2 0, Value.int 0 0, Value.int 0 0, Value.int 3 0, Value.ref 127, Value.bool true, Value.int 181 0, Value.ref 128, Value.none, Value.ref 129, Value.ref 130, Value.ref 131, Value.int 415 0, Value.int 70 0, Value.str (Str.ofString "/claim/cut.py") 416] }
noncomputable def o211 (P : Params) : Obj := { cls := Value.type "code", data := Data.fields #[Value.str (Str.ofString "__getnewargs__") 458, Value.str (Str.ofString "HeaderValidationFlags.__getnewargs__") 459, Value.str (Str.ofString "/claim/cut.py") 460, Value.int 96 0, Value.int 1 0, Value.int 0 0, Value.int 0 0, Value.int 3 0, Value.ref 159, Value.bool true, Value.int 181 0, Value.ref 160, Value.none, Value.ref 161, Value.ref 162, Value.ref 163, Value.int 462 0, Value.int 96 0, Value.str (Str.ofString "/claim/cut.py") 463] }
noncomputable def o163 (P : Params) : Obj := { cls := Value.type "frame", slots := #[some (Value.ref 115), some (Value.ref 3), some (Value.ref 111), none, some (Value.str (Str.ofString "h2.utilities") 290), none, some (Value.ref 0)] }
noncomputable def o227 (P : Params) : Obj := { cls := Value.type "list", data := Data.seq #[] }
noncomputable def o187 (P : Params) : Obj := { cls := Value.type "tuple", data := Data.seq #[Value.str (Str.ofString "self") 435, Value.str (Str.ofString "kwds") 436, Value.str (Str.ofString "result") 437] }
noncomputable def o219 (P : Params) : Obj := { cls := Value.type "frame", data := Data.dict #[en P "self" 483 (Value.ref 171), en P "index" 484 (Value.int 1 481), en P "doc" 485 (Value.str (Str.ofString "Alias for field number 1") 482)] 3 }
noncomputable def o203 (P : Params) : Obj := { cls := Value.none, data := Data.func (Mine.fnD (Mine.inS 9 (Mine.stm 14)) (Str.ofString "_asdict") (Str.ofString "HeaderValidationFlags._asdict") 0 [] Value.none Value.none Value.none Value.none none Value.none Value.none 0) }
noncomputable def o171 (P : Params) : Obj := { cls := Value.none, data := Data.func (Mine.fnD (Mine.inS 4 (Mine.stm 14)) (Str.ofString "__new__") (Str.ofString "HeaderValidationFlags.__new__") 0 [] Value.none Value.none Value.none Value.none none Value.none Value.none 0) }
noncomputable def o161 (P : Params) : Obj := { cls := Value.none, data := Data.fields #[Value.int 66 0, Value.int 4 0, Value.ref 125, Value.int 71 0, Value.int 4 0, Value.ref 132, Value.int 78 0, Value.int 4 0, Value.ref 143, Value.int 89 0, Value.int 4 0, Value.ref 150, Value.int 93 0, Value.int 4 0, Value.ref 157, Value.int 96 0, Value.int 4 0, Value.ref 164] }
noncomputable def o225 (P : Params) : Obj := { cls := Value.type "frame", data := Data.dict #[en P "self" 503 (Value.ref 177), en P "index" 504 (Value.int 3 501), en P "doc" 505 (Value.str (Str.ofString "Alias for field number 3") 502)] 3 }
noncomputable def o185 (P : Params) : Obj := { cls := Value.type "tuple", data := Data.seq #[Value.str (Str.ofString "__class__") 434] }
noncomputable def o217 (P : Params) : Obj := { cls := Value.type "dict", data := Data.dict #[en P "index" 487 (Value.int 1 481), en P "__doc__" 489 (Value.str (Str.ofString "Alias for field number 1") 482)] 2 }
noncomputable def o201 (P : Params) : Obj := { cls := Value.type "tuple", data := Data.seq #[Value.str (Str.ofString "self") 454] }
noncomputable def o169 (P : Params) : Obj := { cls := Value.type "tuple", data := Data.seq #[Value.str (Str.ofString "_cls") 400, Value.str (Str.ofString "is_client") 401, Value.str (Str.ofString "is_trailer") 402, Value.str (Str.ofString "is_response_header") 403, Value.str (Str.ofString "is_push_promise") 404] }
noncomputable def o181 (P : Params) : Obj := { cls := Value.type "dict", data := Data.dict #[en P "__module__" 419 (Value.str (Str.ofString "h2.utilities") 290), en P "__name__" 422 (Value.str (Str.ofString "_make") 421), en P "__qualname__" 425 (Value.str (Str.ofString "HeaderValidationFlags._make") 424), en P "__doc__" 427 (Value.str (Mine.dO (Mine.fnB (Mine.inS 5 (Mine.stm 14)))) 417), en P "__annotations__" 429 (Value.ref 136)] 5 }
noncomputable def o213 (P : Params) : Obj := { cls := Value.type "tuple", data := Data.seq #[Value.str (Str.ofString "is_client") 466, Value.str (Str.ofString "is_trailer") 467, Value.str (Str.ofString "is_response_header") 468, Value.str (Str.ofString "is_push_promise") 469] }
noncomputable def o197 (P : Params) : Obj := { cls := Value.type "code", data := Data.fields #[Value.str (Str.ofString "__repr__") 443, Value.str (Str.ofString "HeaderValidationFlags.__repr__") 444, Value.str (Str.ofString "/claim/cut.py") 445, Value.int 89 0, Value.int 1 0, Value.int 0 0, Value.int 0 0, Value.int 3 0, Value.ref 145, Value.bool true, Value.int 181 0, Value.ref 146, Value.none, Value.ref 147, Value.ref 148, Value.ref 149, Value.int 447 0, Value.int 89 0, Value.str (Str.ofString "/claim/cut.py") 448] }
noncomputable def o165 (P : Params) : Obj := { cls := Value.type "tuple", data := Data.seq #[Value.str (Str.ofString "is_client") 391, Value.str (Str.ofString "is_trailer") 392, Value.str (Str.ofString "is_response_header") 393, Value.str (Str.ofString "is_push_promise") 394] }
noncomputable def o229 (P : Params) : Obj := { cls := Value.type "type", data := Data.cls { name := Str.ofString "HeaderValidationFlags", bases := [Value.type "tuple"], mro := [Value.ref 182, Value.type "tuple", Value.type "object"], ns := 181, qualname := Str.ofString "HeaderValidationFlags", hasDict := false }, slots := #[some (Value.ref 109), none, some (Value.str (Str.ofString "HeaderValidationFlags") 375), some (Value.str (Str.ofString "HeaderValidationFlags") 383), some Value.none, some (Value.bool false)] }
noncomputable def o189 (P : Params) : Obj := { cls := Value.none, data := Data.func (Mine.fnD (Mine.inS 6 (Mine.stm 14)) (Str.ofString "_replace") (Str.ofString "HeaderValidationFlags._replace") 0 [] Value.none Value.none Value.none Value.none none Value.none Value.none 0) }
noncomputable def o221 (P : Params) : Obj := { cls := Value.ref 99, dict := some 173 }
noncomputable def o205 (P : Params) : Obj := { cls := Value.type "function", data := Data.func (Mine.fnD (Mine.inS 9 (Mine.stm 14)) (Str.ofString "_asdict") (Str.ofString "HeaderValidationFlags._asdict") 3 [] Value.none Value.none Value.none (Value.str (Str.ofString "h2.utilities") 290) none (Value.ref 157) Value.none 0) }
noncomputable def o173 (P : Params) : Obj := { cls := Value.type "function", data := Data.func (Mine.fnD (Mine.inS 4 (Mine.stm 14)) (Str.ofString "__new__") (Str.ofString "HeaderValidationFlags.__new__") 3 [] Value.none Value.none (Value.str (Mine.dO (Mine.fnB (Mine.inS 4 (Mine.stm 14)))) 407) (Value.str (Str.ofString "h2.utilities") 290) none (Value.ref 125) Value.none 0) }
noncomputable def o306 (P : Params) : Obj := { cls := Value.type "dict", data := Data.dict #[en P "__name__" 165 (Value.str (Str.ofString "law_ix0032_01") 638), en P "__doc__" 166 (Value.none), en P "__package__" 167 (Value.none), en P "__loader__" 168 (Value.builtin "__main__.__loader__#opaque"), en P "__spec__" 169 (Value.none), en P "__annotations__" 170 (Value.ref 6), en P "__builtins__" 171 (Value.ref 4), en P "__file__" 173 (Value.str (Str.ofString "/claim/cut.py") 172), en P "__cached__" 174 (Value.none), en P "_wall" 193 (Value.ref 21), en P "ErrorCodes" 245 (Value.ref 31), en P "H2Error" 269 (Value.ref 45), en P "ProtocolError" 289 (Value.ref 58), en P "_tuplegetter" 348 (Value.ref 99), en P "SIGIL" 351 (Value.int 58 350), en P "CONNECTION_HEADERS" 357 (Value.ref 104), en P "_ALLOWED_PSEUDO_HEADER_FIELDS" 364 (Value.ref 105), en P "_REQUEST_ONLY_HEADERS" 370 (Value.ref 106), en P "_RESPONSE_ONLY_HEADERS" 372 (Value.ref 107), en P "_CONNECT_REQUEST_ONLY_HEADERS" 374 (Value.ref 108), en P "HeaderValidationFlags" 515 (Value.ref 182), en P "validate_headers" 524 (Value.ref 192), en P "_reject_illegal_characters" 537 (Value.ref 199), en P "_reject_empty_header_names" 548 (Value.ref 206), en P "_reject_te" 559 (Value.ref 213), en P "_reject_connection_header" 570 (Value.ref 220), en P "_assert_header_in_set" 580 (Value.ref 227), en P "_reject_pseudo_header_fields" 594 (Value.ref 234), en P "_check_pseudo_header_field_acceptability" 601 (Value.ref 239), en P "_validate_host_authority_header" 615 (Value.ref 246), en P "_check_host_authority_header" 625 (Value.ref 253), en P "_check_path_header" 637 (Value.ref 260)] 32 }
noncomputable def o313 (P : Params) : Obj := { cls := Value.type "code", data := Data.fields #[Value.str (Str.ofString "validate_headers") 516, Value.str (Str.ofString "validate_headers") 517, Value.str (Str.ofString "/claim/cut.py") 518, Value.int 104 0, Value.int 2 0, Value.int 0 0, Value.int 0 0, Value.int 3 0, Value.ref 186, Value.bool true, Value.int 181 0, Value.ref 187, Value.none, Value.ref 188, Value.ref 189, Value.ref 190, Value.int 521 0, Value.int 104 0, Value.str (Str.ofString "/claim/cut.py") 522] }
noncomputable def o345 (P : Params) : Obj := { cls := Value.type "tuple", data := Data.seq #[Value.str (Str.ofString "bytes_header") 574, Value.str (Str.ofString "header_set") 575, Value.str (Str.ofString "msg") 576] }
noncomputable def o361 (P : Params) : Obj := { cls := Value.type "function", data := Data.func (Mine.fnD (Mine.stm 22) (Str.ofString "_check_pseudo_header_field_acceptability") (Str.ofString "_check_pseudo_header_field_acceptability") 3 [] Value.none Value.none (Value.str (Mine.dO (Mine.fnB (Mine.stm 22))) 600) (Value.str (Str.ofString "h2.utilities") 290) none (Value.ref 238) Value.none 0) }
noncomputable def o321 (P : Params) : Obj := { cls := Value.type "function", data := Data.func (Mine.fnD (Mine.stm 16) (Str.ofString "_reject_illegal_characters") (Str.ofString "_reject_illegal_characters") 3 [] Value.none Value.none (Value.str (Mine.dO (Mine.fnB (Mine.stm 16))) 536) (Value.str (Str.ofString "h2.utilities") 290) none (Value.ref 198) Value.none 0) }
noncomputable def o381 (P : Params) : Obj := { cls := Value.type "code", data := Data.fields #[Value.str (Str.ofString "_check_path_header") 626, Value.str (Str.ofString "_check_path_header") 627, Value.str (Str.ofString "/claim/cut.py") 628, Value.int 290 0, Value.int 2 0, Value.int 0 0, Value.int 0 0, Value.int 3 0, Value.ref 254, Value.bool true, Value.int 181 0, Value.ref 255, Value.none, Value.ref 256, Value.ref 257, Value.ref 258, Value.int 634 0, Value.int 290 0, Value.str (Str.ofString "/claim/cut.py") 635] }
noncomputable def o317 (P : Params) : Obj := { cls := Value.type "tuple", data := Data.seq #[Value.str (Str.ofString "headers") 528, Value.str (Str.ofString "hdr_validation_flags") 529, Value.str (Str.ofString "header") 530, Value.str (Str.ofString "c") 531, Value.str (Str.ofString "msg") 532, Value.str (Str.ofString "field_value") 533] }
noncomputable def o349 (P : Params) : Obj := { cls := Value.type "function", data := Data.func (Mine.fnD (Mine.stm 20) (Str.ofString "_assert_header_in_set") (Str.ofString "_assert_header_in_set") 3 [] Value.none Value.none (Value.str (Mine.dO (Mine.fnB (Mine.stm 20))) 579) (Value.str (Str.ofString "h2.utilities") 290) none (Value.ref 226) Value.none 0) }
noncomputable def o333 (P : Params) : Obj := { cls := Value.none, data := Data.func (Mine.fnD (Mine.stm 18) (Str.ofString "_reject_te") (Str.ofString "_reject_te") 0 [] Value.none Value.none Value.none Value.none none Value.none Value.none 0) }
noncomputable def o341 (P : Params) : Obj := { cls := Value.type "code", data := Data.fields #[Value.str (Str.ofString "_reject_connection_header") 560, Value.str (Str.ofString "_reject_connection_header") 561, Value.str (Str.ofString "/claim/cut.py") 562, Value.int 166 0, Value.int 2 0, Value.int 0 0, Value.int 0 0, Value.int 35 0, Value.ref 214, Value.bool true, Value.int 181 0, Value.ref 215, Value.none, Value.ref 216, Value.ref 217, Value.ref 218, Value.int 567 0, Value.int 166 0, Value.str (Str.ofString "/claim/cut.py") 568] }
noncomputable def o373 (P : Params) : Obj := { cls := Value.none, data := Data.func (Mine.fnD (Mine.stm 24) (Str.ofString "_check_host_authority_header") (Str.ofString "_check_host_authority_header") 0 [] Value.none Value.none Value.none Value.none none Value.none Value.none 0) }
noncomputable def o379 (P : Params) : Obj := { cls := Value.type "tuple", data := Data.seq #[Value.str (Str.ofString "headers") 633] }
noncomputable def o347 (P : Params) : Obj := { cls := Value.none, data := Data.func (Mine.fnD (Mine.stm 20) (Str.ofString "_assert_header_in_set") (Str.ofString "_assert_header_in_set") 0 [] Value.none Value.none Value.none Value.none none Value.none Value.none 0) }
noncomputable def o331 (P : Params) : Obj := { cls := Value.type "tuple", data := Data.seq #[Value.str (Str.ofString "headers") 552, Value.str (Str.ofString "hdr_validation_flags") 553, Value.str (Str.ofString "header") 554, Value.str (Str.ofString "msg") 555] }
noncomputable def o355 (P : Params) : Obj := { cls := Value.type "code", data := Data.fields #[Value.str (Str.ofString "_reject_pseudo_header_fields") 581, Value.str (Str.ofString "_reject_pseudo_header_fields") 582, Value.str (Str.ofString "/claim/cut.py") 583, Value.int 185 0, Value.int 2 0, Value.int 0 0, Value.int 0 0, Value.int 35 0, Value.ref 228, Value.bool true, Value.int 181 0, Value.ref 229, Value.none, Value.ref 230, Value.ref 231, Value.ref 232, Value.int 591 0, Value.int 185 0, Value.str (Str.ofString "/claim/cut.py") 592] }
noncomputable def o371 (P : Params) : Obj := { cls := Value.type "tuple", data := Data.seq #[Value.str (Str.ofString "headers") 619, Value.str (Str.ofString "hdr_validation_flags") 620, Value.str (Str.ofString "skip_validation") 621] }
noncomputable def o319 (P : Params) : Obj := { cls := Value.none, data := Data.func (Mine.fnD (Mine.stm 16) (Str.ofString "_reject_illegal_characters") (Str.ofString "_reject_illegal_characters") 0 [] Value.none Value.none Value.none Value.none none Value.none Value.none 0) }
noncomputable def o335 (P : Params) : Obj := { cls := Value.type "function", data := Data.func (Mine.fnD (Mine.stm 18) (Str.ofString "_reject_te") (Str.ofString "_reject_te") 3 [] Value.none Value.none (Value.str (Mine.dO (Mine.fnB (Mine.stm 18))) 558) (Value.str (Str.ofString "h2.utilities") 290) none (Value.ref 212) Value.none 0) }
noncomputable def o367 (P : Params) : Obj := { cls := Value.type "code", data := Data.fields #[Value.str (Str.ofString "_validate_host_authority_header") 602, Value.str (Str.ofString "_validate_host_authority_header") 603, Value.str (Str.ofString "/claim/cut.py") 604, Value.int 251 0, Value.int 1 0, Value.int 0 0, Value.int 0 0, Value.int 35 0, Value.ref 240, Value.bool true, Value.int 181 0, Value.ref 241, Value.none, Value.ref 242, Value.ref 243, Value.ref 244, Value.int 612 0, Value.int 251 0, Value.str (Str.ofString "/claim/cut.py") 613] }
noncomputable def o327 (P : Params) : Obj := { cls := Value.type "code", data := Data.fields #[Value.str (Str.ofString "_reject_empty_header_names") 538, Value.str (Str.ofString "_reject_empty_header_names") 539, Value.str (Str.ofString "/claim/cut.py") 540, Value.int 144 0, Value.int 2 0, Value.int 0 0, Value.int 0 0, Value.int 35 0, Value.ref 200, Value.bool true, Value.int 181 0, Value.ref 201, Value.none, Value.ref 202, Value.ref 203, Value.ref 204, Value.int 545 0, Value.int 144 0, Value.str (Str.ofString "/claim/cut.py") 546] }
noncomputable def o359 (P : Params) : Obj := { cls := Value.none, data := Data.func (Mine.fnD (Mine.stm 22) (Str.ofString "_check_pseudo_header_field_acceptability") (Str.ofString "_check_pseudo_header_field_acceptability") 0 [] Value.none Value.none Value.none Value.none none Value.none Value.none 0) }
noncomputable def o375 (P : Params) : Obj := { cls := Value.type "function", data := Data.func (Mine.fnD (Mine.stm 24) (Str.ofString "_check_host_authority_header") (Str.ofString "_check_host_authority_header") 3 [] Value.none Value.none (Value.str (Mine.dO (Mine.fnB (Mine.stm 24))) 624) (Value.str (Str.ofString "h2.utilities") 290) none (Value.ref 252) Value.none 0) }
noncomputable def o378 (P : Params) : Obj := { cls := Value.type "tuple", data := Data.seq #[Value.str (Str.ofString "headers") 629, Value.str (Str.ofString "hdr_validation_flags") 630, Value.str (Str.ofString "inner") 631, Value.str (Str.ofString "skip_validation") 632] }
noncomputable def o314 (P : Params) : Obj := { cls := Value.type "function", data := Data.func (Mine.fnD (Mine.stm 15) (Str.ofString "validate_headers") (Str.ofString "validate_headers") 3 [] Value.none Value.none (Value.str (Mine.dO (Mine.fnB (Mine.stm 15))) 523) (Value.str (Str.ofString "h2.utilities") 290) none (Value.ref 191) Value.none 0) }
noncomputable def o354 (P : Params) : Obj := { cls := Value.none, data := Data.func (Mine.fnD (Mine.stm 21) (Str.ofString "_reject_pseudo_header_fields") (Str.ofString "_reject_pseudo_header_fields") 0 [] Value.none Value.none Value.none Value.none none Value.none Value.none 0) }
noncomputable def o338 (P : Params) : Obj := { cls := Value.type "tuple", data := Data.seq #[Value.str (Str.ofString "headers") 563, Value.str (Str.ofString "hdr_validation_flags") 564, Value.str (Str.ofString "header") 565, Value.str (Str.ofString "msg") 566] }
noncomputable def o307 (P : Params) : Obj := { cls := Value.none, data := Data.fields #[Value.int 1 0, Value.int 0 0, Value.ref 20, Value.int 5 0, Value.int 0 0, Value.ref 27, Value.int 26 0, Value.int 0 0, Value.ref 41, Value.int 30 0, Value.int 0 0, Value.ref 54, Value.int 36 0, Value.int 0 0, Value.ref 66, Value.int 60 0, Value.int 0 0, Value.ref 115, Value.int 104 0, Value.int 0 0, Value.ref 191, Value.int 118 0, Value.int 0 0, Value.ref 198, Value.int 144 0, Value.int 0 0, Value.ref 205, Value.int 156 0, Value.int 0 0, Value.ref 212, Value.int 166 0, Value.int 0 0, Value.ref 219, Value.int 176 0, Value.int 0 0, Value.ref 226, Value.int 185 0, Value.int 0 0, Value.ref 233, Value.int 214 0, Value.int 0 0, Value.ref 238, Value.int 251 0, Value.int 0 0, Value.ref 245, Value.int 280 0, Value.int 0 0, Value.ref 252, Value.int 290 0, Value.int 0 0, Value.ref 259] }
noncomputable def o382 (P : Params) : Obj := { cls := Value.type "function", data := Data.func (Mine.fnD (Mine.stm 25) (Str.ofString "_check_path_header") (Str.ofString "_check_path_header") 3 [] Value.none Value.none (Value.str (Mine.dO (Mine.fnB (Mine.stm 25))) 636) (Value.str (Str.ofString "h2.utilities") 290) none (Value.ref 259) Value.none 0) }
noncomputable def o334 (P : Params) : Obj := { cls := Value.type "code", data := Data.fields #[Value.str (Str.ofString "_reject_te") 549, Value.str (Str.ofString "_reject_te") 550, Value.str (Str.ofString "/claim/cut.py") 551, Value.int 156 0, Value.int 2 0, Value.int 0 0, Value.int 0 0, Value.int 35 0, Value.ref 207, Value.bool true, Value.int 181 0, Value.ref 208, Value.none, Value.ref 209, Value.ref 210, Value.ref 211, Value.int 556 0, Value.int 156 0, Value.str (Str.ofString "/claim/cut.py") 557] }
noncomputable def o366 (P : Params) : Obj := { cls := Value.none, data := Data.func (Mine.fnD (Mine.stm 23) (Str.ofString "_validate_host_authority_header") (Str.ofString "_validate_host_authority_header") 0 [] Value.none Value.none Value.none Value.none none Value.none Value.none 0) }
noncomputable def o326 (P : Params) : Obj := { cls := Value.none, data := Data.func (Mine.fnD (Mine.stm 17) (Str.ofString "_reject_empty_header_names") (Str.ofString "_reject_empty_header_names") 0 [] Value.none Value.none Value.none Value.none none Value.none Value.none 0) }
noncomputable def o342 (P : Params) : Obj := { cls := Value.type "function", data := Data.func (Mine.fnD (Mine.stm 19) (Str.ofString "_reject_connection_header") (Str.ofString "_reject_connection_header") 3 [] Value.none Value.none (Value.str (Mine.dO (Mine.fnB (Mine.stm 19))) 569) (Value.str (Str.ofString "h2.utilities") 290) none (Value.ref 219) Value.none 0) }
noncomputable def o310 (P : Params) : Obj := { cls := Value.type "tuple", data := Data.seq #[Value.str (Str.ofString "headers") 519, Value.str (Str.ofString "hdr_validation_flags") 520] }
noncomputable def o374 (P : Params) : Obj := { cls := Value.type "code", data := Data.fields #[Value.str (Str.ofString "_check_host_authority_header") 616, Value.str (Str.ofString "_check_host_authority_header") 617, Value.str (Str.ofString "/claim/cut.py") 618, Value.int 280 0, Value.int 2 0, Value.int 0 0, Value.int 0 0, Value.int 3 0, Value.ref 247, Value.bool true, Value.int 181 0, Value.ref 248, Value.none, Value.ref 249, Value.ref 250, Value.ref 251, Value.int 622 0, Value.int 280 0, Value.str (Str.ofString "/claim/cut.py") 623] }
noncomputable def o380 (P : Params) : Obj := { cls := Value.none, data := Data.func (Mine.fnD (Mine.stm 25) (Str.ofString "_check_path_header") (Str.ofString "_check_path_header") 0 [] Value.none Value.none Value.none Value.none none Value.none Value.none 0) }
noncomputable def o348 (P : Params) : Obj := { cls := Value.type "code", data := Data.fields #[Value.str (Str.ofString "_assert_header_in_set") 571, Value.str (Str.ofString "_assert_header_in_set") 572, Value.str (Str.ofString "/claim/cut.py") 573, Value.int 176 0, Value.int 2 0, Value.int 0 0, Value.int 0 0, Value.int 3 0, Value.ref 221, Value.bool true, Value.int 181 0, Value.ref 222, Value.none, Value.ref 223, Value.ref 224, Value.ref 225, Value.int 577 0, Value.int 176 0, Value.str (Str.ofString "/claim/cut.py") 578] }
noncomputable def o364 (P : Params) : Obj := { cls := Value.type "tuple", data := Data.seq #[Value.str (Str.ofString "headers") 605, Value.str (Str.ofString "authority_header_val") 606, Value.str (Str.ofString "host_header_val") 607, Value.str (Str.ofString "header") 608, Value.str (Str.ofString "msg") 609, Value.str (Str.ofString "authority_present") 610, Value.str (Str.ofString "host_present") 611] }
noncomputable def o324 (P : Params) : Obj := { cls := Value.type "tuple", data := Data.seq #[Value.str (Str.ofString "headers") 541, Value.str (Str.ofString "hdr_validation_flags") 542, Value.str (Str.ofString "header") 543, Value.str (Str.ofString "msg") 544] }
noncomputable def o356 (P : Params) : Obj := { cls := Value.type "function", data := Data.func (Mine.fnD (Mine.stm 21) (Str.ofString "_reject_pseudo_header_fields") (Str.ofString "_reject_pseudo_header_fields") 3 [] Value.none Value.none (Value.str (Mine.dO (Mine.fnB (Mine.stm 21))) 593) (Value.str (Str.ofString "h2.utilities") 290) none (Value.ref 233) Value.none 0) }
noncomputable def o340 (P : Params) : Obj := { cls := Value.none, data := Data.func (Mine.fnD (Mine.stm 19) (Str.ofString "_reject_connection_header") (Str.ofString "_reject_connection_header") 0 [] Value.none Value.none Value.none Value.none none Value.none Value.none 0) }
noncomputable def o320 (P : Params) : Obj := { cls := Value.type "code", data := Data.fields #[Value.str (Str.ofString "_reject_illegal_characters") 525, Value.str (Str.ofString "_reject_illegal_characters") 526, Value.str (Str.ofString "/claim/cut.py") 527, Value.int 118 0, Value.int 2 0, Value.int 0 0, Value.int 0 0, Value.int 35 0, Value.ref 193, Value.bool true, Value.int 181 0, Value.ref 194, Value.none, Value.ref 195, Value.ref 196, Value.ref 197, Value.int 534 0, Value.int 118 0, Value.str (Str.ofString "/claim/cut.py") 535] }
noncomputable def o352 (P : Params) : Obj := { cls := Value.type "tuple", data := Data.seq #[Value.str (Str.ofString "headers") 584, Value.str (Str.ofString "hdr_validation_flags") 585, Value.str (Str.ofString "seen_pseudo_header_fields") 586, Value.str (Str.ofString "seen_regular_header") 587, Value.str (Str.ofString "method") 588, Value.str (Str.ofString "header") 589, Value.str (Str.ofString "msg") 590] }
noncomputable def o368 (P : Params) : Obj := { cls := Value.type "function", data := Data.func (Mine.fnD (Mine.stm 23) (Str.ofString "_validate_host_authority_header") (Str.ofString "_validate_host_authority_header") 3 [] Value.none Value.none (Value.str (Mine.dO (Mine.fnB (Mine.stm 23))) 614) (Value.str (Str.ofString "h2.utilities") 290) none (Value.ref 245) Value.none 0) }
noncomputable def o328 (P : Params) : Obj := { cls := Value.type "function", data := Data.func (Mine.fnD (Mine.stm 17) (Str.ofString "_reject_empty_header_names") (Str.ofString "_reject_empty_header_names") 3 [] Value.none Value.none (Value.str (Mine.dO (Mine.fnB (Mine.stm 17))) 547) (Value.str (Str.ofString "h2.utilities") 290) none (Value.ref 205) Value.none 0) }
noncomputable def o360 (P : Params) : Obj := { cls := Value.type "code", data := Data.fields #[Value.str (Str.ofString "_check_pseudo_header_field_acceptability") 595, Value.str (Str.ofString "_check_pseudo_header_field_acceptability") 596, Value.str (Str.ofString "/claim/cut.py") 597, Value.int 214 0, Value.int 3 0, Value.int 0 0, Value.int 0 0, Value.int 3 0, Value.ref 235, Value.bool true, Value.int 181 0, Value.ref 236, Value.none, Value.none, Value.none, Value.ref 237, Value.int 598 0, Value.int 214 0, Value.str (Str.ofString "/claim/cut.py") 599] }
noncomputable def o312 (P : Params) : Obj := { cls := Value.none, data := Data.func (Mine.fnD (Mine.stm 15) (Str.ofString "validate_headers") (Str.ofString "validate_headers") 0 [] Value.none Value.none Value.none Value.none none Value.none Value.none 0) }
noncomputable def o383 (P : Params) : Obj := { cls := Value.type "dict", data := Data.dict #[en P "__name__" 165 (Value.str (Str.ofString "law_ix0032_01") 638), en P "__doc__" 166 (Value.none), en P "__package__" 167 (Value.none), en P "__loader__" 168 (Value.builtin "__main__.__loader__#opaque"), en P "__spec__" 169 (Value.none), en P "__annotations__" 170 (Value.ref 6), en P "__builtins__" 171 (Value.ref 4), en P "__file__" 173 (Value.str (Str.ofString "/claim/cut.py") 172), en P "__cached__" 174 (Value.none), en P "_wall" 193 (Value.ref 21), en P "ErrorCodes" 245 (Value.ref 31), en P "H2Error" 269 (Value.ref 45), en P "ProtocolError" 289 (Value.ref 58), en P "_tuplegetter" 348 (Value.ref 99), en P "SIGIL" 351 (Value.int 58 350), en P "CONNECTION_HEADERS" 357 (Value.ref 104), en P "_ALLOWED_PSEUDO_HEADER_FIELDS" 364 (Value.ref 105), en P "_REQUEST_ONLY_HEADERS" 370 (Value.ref 106), en P "_RESPONSE_ONLY_HEADERS" 372 (Value.ref 107), en P "_CONNECT_REQUEST_ONLY_HEADERS" 374 (Value.ref 108), en P "HeaderValidationFlags" 515 (Value.ref 182), en P "validate_headers" 524 (Value.ref 192), en P "_reject_illegal_characters" 537 (Value.ref 199), en P "_reject_empty_header_names" 548 (Value.ref 206), en P "_reject_te" 559 (Value.ref 213), en P "_reject_connection_header" 570 (Value.ref 220), en P "_assert_header_in_set" 580 (Value.ref 227), en P "_reject_pseudo_header_fields" 594 (Value.ref 234), en P "_check_pseudo_header_field_acceptability" 601 (Value.ref 239), en P "_validate_host_authority_header" 615 (Value.ref 246), en P "_check_host_authority_header" 625 (Value.ref 253), en P "_check_path_header" 637 (Value.ref 260), en P "_law_blocks" 680 (Value.ref 287), en P "_law_names" 686 (Value.ref 294), en P "_law_values" 692 (Value.ref 301), en P "_law_put" 701 (Value.ref 308), en P "_law_mixed" 710 (Value.ref 315), en P "_law_changed" 726 (Value.ref 322), en P "_law_pure" 732 (Value.ref 327), en P "_law_good" 738 (Value.ref 332), en P "_law_told" 746 (Value.ref 339), en P "law" 759 (Value.ref 346)] 42 }
noncomputable def o411 (P : Params) : Obj := { cls := Value.type "list", data := Data.seq #[Value.ref 266, Value.ref 269, Value.ref 272, Value.ref 277, Value.ref 280, Value.ref 286] }
noncomputable def o395 (P : Params) : Obj := { cls := Value.type "tuple", data := Data.seq #[Value.bytes #[120] 656, Value.bytes #[] 657] }
noncomputable def o459 (P : Params) : Obj := { cls := Value.type "tuple", data := Data.seq #[Value.str (Str.ofString "block") 742, Value.str (Str.ofString "flags") 743] }
noncomputable def o387 (P : Params) : Obj := { cls := Value.type "tuple", data := Data.seq #[Value.bytes #[58, 112, 97, 116, 104] 644, Value.bytes #[47] 645] }
noncomputable def o451 (P : Params) : Obj := { cls := Value.type "function", data := Data.func (Mine.fnD (Mine.stm 33) (Str.ofString "_law_pure") (Str.ofString "_law_pure") 3 [] Value.none Value.none Value.none (Value.str (Str.ofString "law_ix0032_01") 638) none (Value.ref 326) Value.none 0) }
noncomputable def o403 (P : Params) : Obj := { cls := Value.type "tuple", data := Data.seq #[Value.bytes #[58, 97, 117, 116, 104, 111, 114, 105, 116, 121] 668, Value.bytes #[97, 46, 98] 669] }
noncomputable def o435 (P : Params) : Obj := { cls := Value.type "tuple", data := Data.seq #[Value.str (Str.ofString "text") 705, Value.str (Str.ofString "number") 706, Value.str (Str.ofString "place") 707] }
noncomputable def o399 (P : Params) : Obj := { cls := Value.type "tuple", data := Data.seq #[Value.bytes #[58, 112, 97, 116, 104] 662, Value.bytes #[47, 112] 663] }
noncomputable def o463 (P : Params) : Obj := { cls := Value.type "function", data := Data.func (Mine.fnD (Mine.stm 35) (Str.ofString "_law_told") (Str.ofString "_law_told") 3 [] Value.none Value.none Value.none (Value.str (Str.ofString "law_ix0032_01") 638) none (Value.ref 338) Value.none 0) }
noncomputable def o431 (P : Params) : Obj := { cls := Value.type "code", data := Data.fields #[Value.str (Str.ofString "_law_put") 693, Value.str (Str.ofString "_law_put") 694, Value.str (Str.ofString "/claim/cut.py") 695, Value.int 312 0, Value.int 3 0, Value.int 0 0, Value.int 0 0, Value.int 3 0, Value.ref 302, Value.bool true, Value.int 181 0, Value.ref 303, Value.none, Value.ref 304, Value.ref 305, Value.ref 306, Value.int 699 0, Value.int 312 0, Value.str (Str.ofString "/claim/cut.py") 700] }
noncomputable def o391 (P : Params) : Obj := { cls := Value.type "tuple", data := Data.seq #[Value.bytes #[58, 115, 116, 97, 116, 117, 115] 650, Value.bytes #[50, 48, 48] 651] }
noncomputable def o455 (P : Params) : Obj := { cls := Value.type "code", data := Data.fields #[Value.str (Str.ofString "_law_good") 733, Value.str (Str.ofString "_law_good") 734, Value.str (Str.ofString "/claim/cut.py") 735, Value.int 346 0, Value.int 2 0, Value.int 0 0, Value.int 0 0, Value.int 3 0, Value.ref 328, Value.bool true, Value.int 181 0, Value.ref 329, Value.none, Value.none, Value.none, Value.ref 330, Value.int 736 0, Value.int 346 0, Value.str (Str.ofString "/claim/cut.py") 737] }
noncomputable def o423 (P : Params) : Obj := { cls := Value.none, data := Data.func (Mine.fnD (Mine.stm 29) (Str.ofString "_law_values") (Str.ofString "_law_values") 0 [] Value.none Value.none Value.none Value.none none Value.none Value.none 0) }
noncomputable def o407 (P : Params) : Obj := { cls := Value.type "tuple", data := Data.seq #[Value.bytes #[58, 115, 99, 104, 101, 109, 101] 674, Value.bytes #[104, 116, 116, 112] 675] }
noncomputable def o439 (P : Params) : Obj := { cls := Value.type "function", data := Data.func (Mine.fnD (Mine.stm 31) (Str.ofString "_law_mixed") (Str.ofString "_law_mixed") 3 [] Value.none Value.none Value.none (Value.str (Str.ofString "law_ix0032_01") 638) none (Value.ref 314) Value.none 0) }
noncomputable def o445 (P : Params) : Obj := { cls := Value.type "code", data := Data.fields #[Value.str (Str.ofString "_law_changed") 711, Value.str (Str.ofString "_law_changed") 712, Value.str (Str.ofString "/claim/cut.py") 713, Value.int 317 0, Value.int 2 0, Value.int 0 0, Value.int 0 0, Value.int 3 0, Value.ref 316, Value.bool true, Value.int 181 0, Value.ref 317, Value.none, Value.ref 318, Value.ref 319, Value.ref 320, Value.int 724 0, Value.int 317 0, Value.str (Str.ofString "/claim/cut.py") 725] }
noncomputable def o397 (P : Params) : Obj := { cls := Value.type "tuple", data := Data.seq #[Value.bytes #[58, 109, 101, 116, 104, 111, 100] 658, Value.bytes #[71, 69, 84] 659] }
noncomputable def o461 (P : Params) : Obj := { cls := Value.none, data := Data.func (Mine.fnD (Mine.stm 35) (Str.ofString "_law_told") (Str.ofString "_law_told") 0 [] Value.none Value.none Value.none Value.none none Value.none Value.none 0) }
noncomputable def o389 (P : Params) : Obj := { cls := Value.type "tuple", data := Data.seq #[Value.bytes #[116, 101] 648, Value.bytes #[116, 114, 97, 105, 108, 101, 114, 115] 649] }
noncomputable def o405 (P : Params) : Obj := { cls := Value.type "tuple", data := Data.seq #[Value.bytes #[58, 109, 101, 116, 104, 111, 100] 670, Value.bytes #[67, 79, 78, 78, 69, 67, 84] 671] }
noncomputable def o469 (P : Params) : Obj := { cls := Value.type "code", data := Data.fields #[Value.str (Str.ofString "law") 747, Value.str (Str.ofString "law") 748, Value.str (Str.ofString "/claim/cut.py") 749, Value.int 380 0, Value.int 1 0, Value.int 0 0, Value.int 0 0, Value.int 3 0, Value.ref 340, Value.bool true, Value.int 181 0, Value.ref 341, Value.none, Value.ref 342, Value.ref 343, Value.ref 344, Value.int 757 0, Value.int 380 0, Value.str (Str.ofString "/claim/cut.py") 758] }
noncomputable def o437 (P : Params) : Obj := { cls := Value.none, data := Data.func (Mine.fnD (Mine.stm 31) (Str.ofString "_law_mixed") (Str.ofString "_law_mixed") 0 [] Value.none Value.none Value.none Value.none none Value.none Value.none 0) }
noncomputable def o385 (P : Params) : Obj := { cls := Value.type "tuple", data := Data.seq #[Value.bytes #[58, 109, 101, 116, 104, 111, 100] 640, Value.bytes #[71, 69, 84] 641] }
noncomputable def o449 (P : Params) : Obj := { cls := Value.none, data := Data.func (Mine.fnD (Mine.stm 33) (Str.ofString "_law_pure") (Str.ofString "_law_pure") 0 [] Value.none Value.none Value.none Value.none none Value.none Value.none 0) }
noncomputable def o417 (P : Params) : Obj := { cls := Value.type "code", data := Data.fields #[Value.str (Str.ofString "_law_names") 681, Value.str (Str.ofString "_law_names") 682, Value.str (Str.ofString "/claim/cut.py") 683, Value.int 308 0, Value.int 0 0, Value.int 0 0, Value.int 0 0, Value.int 3 0, Value.ref 288, Value.bool true, Value.int 181 0, Value.ref 289, Value.none, Value.ref 290, Value.ref 291, Value.ref 292, Value.int 684 0, Value.int 308 0, Value.str (Str.ofString "/claim/cut.py") 685] }
noncomputable def o401 (P : Params) : Obj := { cls := Value.type "list", data := Data.seq #[Value.ref 273, Value.ref 274, Value.ref 275, Value.ref 276] }
noncomputable def o393 (P : Params) : Obj := { cls := Value.type "list", data := Data.seq #[Value.ref 267, Value.ref 268] }
noncomputable def o425 (P : Params) : Obj := { cls := Value.type "function", data := Data.func (Mine.fnD (Mine.stm 29) (Str.ofString "_law_values") (Str.ofString "_law_values") 3 [] Value.none Value.none Value.none (Value.str (Str.ofString "law_ix0032_01") 638) none (Value.ref 300) Value.none 0) }
noncomputable def o409 (P : Params) : Obj := { cls := Value.type "tuple", data := Data.seq #[Value.bytes #[58, 97, 117, 116, 104, 111, 114, 105, 116, 121] 678, Value.bytes #[97, 46, 98] 679] }
noncomputable def o444 (P : Params) : Obj := { cls := Value.none, data := Data.func (Mine.fnD (Mine.stm 32) (Str.ofString "_law_changed") (Str.ofString "_law_changed") 0 [] Value.none Value.none Value.none Value.none none Value.none Value.none 0) }
noncomputable def o396 (P : Params) : Obj := { cls := Value.type "list", data := Data.seq #[Value.ref 270, Value.ref 271] }
noncomputable def o428 (P : Params) : Obj := { cls := Value.type "tuple", data := Data.seq #[Value.str (Str.ofString "block") 696, Value.str (Str.ofString "place") 697, Value.str (Str.ofString "field") 698] }
noncomputable def o388 (P : Params) : Obj := { cls := Value.type "tuple", data := Data.seq #[Value.bytes #[58, 97, 117, 116, 104, 111, 114, 105, 116, 121] 646, Value.bytes #[97, 46, 98] 647] }
noncomputable def o404 (P : Params) : Obj := { cls := Value.type "list", data := Data.seq #[Value.ref 278, Value.ref 279] }
noncomputable def o468 (P : Params) : Obj := { cls := Value.none, data := Data.func (Mine.fnD (Mine.stm 36) (Str.ofString "law") (Str.ofString "law") 0 [] Value.none Value.none Value.none Value.none none Value.none Value.none 0) }
noncomputable def o384 (P : Params) : Obj := { cls := Value.none, data := Data.fields #[Value.int 1 0, Value.int 0 0, Value.ref 20, Value.int 5 0, Value.int 0 0, Value.ref 27, Value.int 26 0, Value.int 0 0, Value.ref 41, Value.int 30 0, Value.int 0 0, Value.ref 54, Value.int 36 0, Value.int 0 0, Value.ref 66, Value.int 60 0, Value.int 0 0, Value.ref 115, Value.int 104 0, Value.int 0 0, Value.ref 191, Value.int 118 0, Value.int 0 0, Value.ref 198, Value.int 144 0, Value.int 0 0, Value.ref 205, Value.int 156 0, Value.int 0 0, Value.ref 212, Value.int 166 0, Value.int 0 0, Value.ref 219, Value.int 176 0, Value.int 0 0, Value.ref 226, Value.int 185 0, Value.int 0 0, Value.ref 233, Value.int 214 0, Value.int 0 0, Value.ref 238, Value.int 251 0, Value.int 0 0, Value.ref 245, Value.int 280 0, Value.int 0 0, Value.ref 252, Value.int 290 0, Value.int 0 0, Value.ref 259, Value.int 308 0, Value.int 0 0, Value.ref 293, Value.int 310 0, Value.int 0 0, Value.ref 300, Value.int 312 0, Value.int 0 0, Value.ref 307, Value.int 314 0, Value.int 0 0, Value.ref 314, Value.int 317 0, Value.int 0 0, Value.ref 321, Value.int 340 0, Value.int 0 0, Value.ref 326, Value.int 346 0, Value.int 0 0, Value.ref 331, Value.int 375 0, Value.int 0 0, Value.ref 338, Value.int 380 0, Value.int 0 0, Value.ref 345] }
noncomputable def o416 (P : Params) : Obj := { cls := Value.none, data := Data.func (Mine.fnD (Mine.stm 28) (Str.ofString "_law_names") (Str.ofString "_law_names") 0 [] Value.none Value.none Value.none Value.none none Value.none Value.none 0) }
noncomputable def o400 (P : Params) : Obj := { cls := Value.type "tuple", data := Data.seq #[Value.bytes #[104, 111, 115, 116] 664, Value.bytes #[97, 46, 98] 665] }
noncomputable def o432 (P : Params) : Obj := { cls := Value.type "function", data := Data.func (Mine.fnD (Mine.stm 30) (Str.ofString "_law_put") (Str.ofString "_law_put") 3 [] Value.none Value.none Value.none (Value.str (Str.ofString "law_ix0032_01") 638) none (Value.ref 307) Value.none 0) }
noncomputable def o392 (P : Params) : Obj := { cls := Value.type "tuple", data := Data.seq #[Value.bytes #[115, 101, 114, 118, 101, 114] 652, Value.bytes #[120] 653] }
noncomputable def o456 (P : Params) : Obj := { cls := Value.type "function", data := Data.func (Mine.fnD (Mine.stm 34) (Str.ofString "_law_good") (Str.ofString "_law_good") 3 [] Value.none Value.none Value.none (Value.str (Str.ofString "law_ix0032_01") 638) none (Value.ref 331) Value.none 0) }
noncomputable def o424 (P : Params) : Obj := { cls := Value.type "code", data := Data.fields #[Value.str (Str.ofString "_law_values") 687, Value.str (Str.ofString "_law_values") 688, Value.str (Str.ofString "/claim/cut.py") 689, Value.int 310 0, Value.int 0 0, Value.int 0 0, Value.int 0 0, Value.int 3 0, Value.ref 295, Value.bool true, Value.int 181 0, Value.ref 296, Value.none, Value.ref 297, Value.ref 298, Value.ref 299, Value.int 690 0, Value.int 310 0, Value.str (Str.ofString "/claim/cut.py") 691] }
noncomputable def o408 (P : Params) : Obj := { cls := Value.type "tuple", data := Data.seq #[Value.bytes #[58, 112, 97, 116, 104] 676, Value.bytes #[47] 677] }
noncomputable def o446 (P : Params) : Obj := { cls := Value.type "function", data := Data.func (Mine.fnD (Mine.stm 32) (Str.ofString "_law_changed") (Str.ofString "_law_changed") 3 [] Value.none Value.none Value.none (Value.str (Str.ofString "law_ix0032_01") 638) none (Value.ref 321) Value.none 0) }
noncomputable def o398 (P : Params) : Obj := { cls := Value.type "tuple", data := Data.seq #[Value.bytes #[58, 115, 99, 104, 101, 109, 101] 660, Value.bytes #[104, 116, 116, 112] 661] }
noncomputable def o462 (P : Params) : Obj := { cls := Value.type "code", data := Data.fields #[Value.str (Str.ofString "_law_told") 739, Value.str (Str.ofString "_law_told") 740, Value.str (Str.ofString "/claim/cut.py") 741, Value.int 375 0, Value.int 2 0, Value.int 0 0, Value.int 0 0, Value.int 3 0, Value.ref 333, Value.bool true, Value.int 181 0, Value.ref 334, Value.none, Value.ref 335, Value.ref 336, Value.ref 337, Value.int 744 0, Value.int 375 0, Value.str (Str.ofString "/claim/cut.py") 745] }
noncomputable def o430 (P : Params) : Obj := { cls := Value.none, data := Data.func (Mine.fnD (Mine.stm 30) (Str.ofString "_law_put") (Str.ofString "_law_put") 0 [] Value.none Value.none Value.none Value.none none Value.none Value.none 0) }
noncomputable def o390 (P : Params) : Obj := { cls := Value.type "list", data := Data.seq #[Value.ref 261, Value.ref 262, Value.ref 263, Value.ref 264, Value.ref 265] }
noncomputable def o454 (P : Params) : Obj := { cls := Value.none, data := Data.func (Mine.fnD (Mine.stm 34) (Str.ofString "_law_good") (Str.ofString "_law_good") 0 [] Value.none Value.none Value.none Value.none none Value.none Value.none 0) }
noncomputable def o406 (P : Params) : Obj := { cls := Value.type "tuple", data := Data.seq #[Value.bytes #[58, 112, 114, 111, 116, 111, 99, 111, 108] 672, Value.bytes #[119, 115] 673] }
noncomputable def o470 (P : Params) : Obj := { cls := Value.type "function", data := Data.func (Mine.fnD (Mine.stm 36) (Str.ofString "law") (Str.ofString "law") 3 [] Value.none Value.none Value.none (Value.str (Str.ofString "law_ix0032_01") 638) none (Value.ref 345) Value.none 0) }
noncomputable def o438 (P : Params) : Obj := { cls := Value.type "code", data := Data.fields #[Value.str (Str.ofString "_law_mixed") 702, Value.str (Str.ofString "_law_mixed") 703, Value.str (Str.ofString "/claim/cut.py") 704, Value.int 314 0, Value.int 2 0, Value.int 0 0, Value.int 0 0, Value.int 3 0, Value.ref 309, Value.bool true, Value.int 181 0, Value.ref 310, Value.none, Value.ref 311, Value.ref 312, Value.ref 313, Value.int 708 0, Value.int 314 0, Value.str (Str.ofString "/claim/cut.py") 709] }
noncomputable def o386 (P : Params) : Obj := { cls := Value.type "tuple", data := Data.seq #[Value.bytes #[58, 115, 99, 104, 101, 109, 101] 642, Value.bytes #[104, 116, 116, 112, 115] 643] }
noncomputable def o450 (P : Params) : Obj := { cls := Value.type "code", data := Data.fields #[Value.str (Str.ofString "_law_pure") 727, Value.str (Str.ofString "_law_pure") 728, Value.str (Str.ofString "/claim/cut.py") 729, Value.int 340 0, Value.int 2 0, Value.int 0 0, Value.int 0 0, Value.int 3 0, Value.ref 323, Value.bool true, Value.int 181 0, Value.ref 324, Value.none, Value.none, Value.none, Value.ref 325, Value.int 730 0, Value.int 340 0, Value.str (Str.ofString "/claim/cut.py") 731] }
noncomputable def o418 (P : Params) : Obj := { cls := Value.type "function", data := Data.func (Mine.fnD (Mine.stm 28) (Str.ofString "_law_names") (Str.ofString "_law_names") 3 [] Value.none Value.none Value.none (Value.str (Str.ofString "law_ix0032_01") 638) none (Value.ref 293) Value.none 0) }
noncomputable def o402 (P : Params) : Obj := { cls := Value.type "tuple", data := Data.seq #[Value.bytes #[58, 109, 101, 116, 104, 111, 100] 666, Value.bytes #[67, 79, 78, 78, 69, 67, 84] 667] }
noncomputable def o466 (P : Params) : Obj := { cls := Value.type "tuple", data := Data.seq #[Value.str (Str.ofString "script") 750, Value.str (Str.ofString "start") 751, Value.str (Str.ofString "kind") 752, Value.str (Str.ofString "flags") 753, Value.str (Str.ofString "block") 754, Value.str (Str.ofString "drawn") 755, Value.str (Str.ofString "good") 756] }
noncomputable def o394 (P : Params) : Obj := { cls := Value.type "tuple", data := Data.seq #[Value.bytes #[115, 117, 109] 654, Value.bytes #[97, 32, 98] 655] }
noncomputable def o410 (P : Params) : Obj := { cls := Value.type "list", data := Data.seq #[Value.ref 281, Value.ref 282, Value.ref 283, Value.ref 284, Value.ref 285] }
noncomputable def o442 (P : Params) : Obj := { cls := Value.type "tuple", data := Data.seq #[Value.str (Str.ofString "block") 714, Value.str (Str.ofString "drawn") 715, Value.str (Str.ofString "deed") 716, Value.str (Str.ofString "rest") 717, Value.str (Str.ofString "field") 718, Value.str (Str.ofString "k") 719, Value.str (Str.ofString "name") 720, Value.str (Str.ofString "value") 721, Value.str (Str.ofString "others") 722, Value.str (Str.ofString "more") 723] }
noncomputable def heap46 (P : Params) : Heap := { objs := { toList := [boot_o_0 P, boot_o_1 P, boot_o_2 P, boot_o_3 P, boot_o_4 P, boot_o_5 P, boot_o_6 P, boot_o_7 P, boot_o_8 P, boot_o_9 P, boot_o_10 P, o43 P, o44 P, o45 P, o46 P] } }
noncomputable def tree47 (P : Params) : BT := BT.node (boot_o_0 P) (BT.node (boot_o_1 P) (BT.node (boot_o_3 P) (BT.node (boot_o_7 P) BT.nil BT.nil) (BT.node (o43 P) BT.nil BT.nil)) (BT.node (boot_o_5 P) (BT.node (boot_o_9 P) BT.nil BT.nil) (BT.node (o45 P) BT.nil BT.nil))) (BT.node (boot_o_2 P) (BT.node (boot_o_4 P) (BT.node (boot_o_8 P) BT.nil BT.nil) (BT.node (o44 P) BT.nil BT.nil)) (BT.node (boot_o_6 P) (BT.node (boot_o_10 P) BT.nil BT.nil) (BT.node (o46 P) BT.nil BT.nil)))
noncomputable def tree71 (P : Params) : BT := BT.node (boot_o_0 P) (BT.node (boot_o_1 P) (BT.node (o49 P) (BT.node (boot_o_7 P) (BT.node (o43 P) (BT.node (o67 P) BT.nil BT.nil) BT.nil) (BT.node (o59 P) BT.nil BT.nil)) (BT.node (o43 P) (BT.node (o55 P) (BT.node (o71 P) BT.nil BT.nil) BT.nil) (BT.node (o63 P) BT.nil BT.nil))) (BT.node (boot_o_5 P) (BT.node (boot_o_9 P) (BT.node (o53 P) (BT.node (o69 P) BT.nil BT.nil) BT.nil) (BT.node (o43 P) BT.nil BT.nil)) (BT.node (o45 P) (BT.node (o57 P) BT.nil BT.nil) (BT.node (o43 P) BT.nil BT.nil)))) (BT.node (boot_o_2 P) (BT.node (boot_o_4 P) (BT.node (boot_o_8 P) (BT.node (o44 P) (BT.node (o68 P) BT.nil BT.nil) BT.nil) (BT.node (o60 P) BT.nil BT.nil)) (BT.node (o50 P) (BT.node (o56 P) BT.nil BT.nil) (BT.node (o64 P) BT.nil BT.nil))) (BT.node (boot_o_6 P) (BT.node (boot_o_10 P) (BT.node (o43 P) (BT.node (o70 P) BT.nil BT.nil) BT.nil) (BT.node (o44 P) BT.nil BT.nil)) (BT.node (o46 P) (BT.node (o43 P) BT.nil BT.nil) (BT.node (o66 P) BT.nil BT.nil))))
noncomputable def tree102 (P : Params) : BT := BT.node (boot_o_0 P) (BT.node (boot_o_1 P) (BT.node (o88 P) (BT.node (boot_o_7 P) (BT.node (o43 P) (BT.node (o67 P) BT.nil BT.nil) (BT.node (o86 P) BT.nil BT.nil)) (BT.node (o59 P) (BT.node (o43 P) BT.nil BT.nil) (BT.node (o97 P) BT.nil BT.nil))) (BT.node (o43 P) (BT.node (o55 P) (BT.node (o71 P) BT.nil BT.nil) (BT.node (o93 P) BT.nil BT.nil)) (BT.node (o63 P) (BT.node (o43 P) BT.nil BT.nil) (BT.node (o101 P) BT.nil BT.nil)))) (BT.node (boot_o_5 P) (BT.node (boot_o_9 P) (BT.node (o53 P) (BT.node (o69 P) BT.nil BT.nil) (BT.node (o91 P) BT.nil BT.nil)) (BT.node (o43 P) (BT.node (o80 P) BT.nil BT.nil) (BT.node (o99 P) BT.nil BT.nil))) (BT.node (o45 P) (BT.node (o57 P) (BT.node (o59 P) BT.nil BT.nil) (BT.node (o44 P) BT.nil BT.nil)) (BT.node (o43 P) (BT.node (o90 P) BT.nil BT.nil) BT.nil)))) (BT.node (o72 P) (BT.node (boot_o_4 P) (BT.node (boot_o_8 P) (BT.node (o44 P) (BT.node (o68 P) BT.nil BT.nil) (BT.node (o87 P) BT.nil BT.nil)) (BT.node (o60 P) (BT.node (o44 P) BT.nil BT.nil) (BT.node (o43 P) BT.nil BT.nil))) (BT.node (o89 P) (BT.node (o56 P) (BT.node (o75 P) BT.nil BT.nil) (BT.node (o43 P) BT.nil BT.nil)) (BT.node (o64 P) (BT.node (o83 P) BT.nil BT.nil) (BT.node (o102 P) BT.nil BT.nil)))) (BT.node (boot_o_6 P) (BT.node (boot_o_10 P) (BT.node (o43 P) (BT.node (o70 P) BT.nil BT.nil) (BT.node (o59 P) BT.nil BT.nil)) (BT.node (o44 P) (BT.node (o81 P) BT.nil BT.nil) (BT.node (o100 P) BT.nil BT.nil))) (BT.node (o46 P) (BT.node (o43 P) (BT.node (o77 P) BT.nil BT.nil) (BT.node (o96 P) BT.nil BT.nil)) (BT.node (o66 P) (BT.node (o85 P) BT.nil BT.nil) BT.nil))))
noncomputable def tree153 (P : Params) : BT := BT.node (boot_o_0 P) (BT.node (boot_o_1 P) (BT.node (o152 P) (BT.node (boot_o_7 P) (BT.node (o43 P) (BT.node (o67 P) (BT.node (o107 P) BT.nil BT.nil) (BT.node (o139 P) BT.nil BT.nil)) (BT.node (o86 P) (BT.node (o43 P) BT.nil BT.nil) BT.nil)) (BT.node (o59 P) (BT.node (o43 P) (BT.node (o43 P) BT.nil BT.nil) (BT.node (o147 P) BT.nil BT.nil)) (BT.node (o97 P) (BT.node (o131 P) BT.nil BT.nil) BT.nil))) (BT.node (o43 P) (BT.node (o55 P) (BT.node (o71 P) (BT.node (o111 P) BT.nil BT.nil) (BT.node (o143 P) BT.nil BT.nil)) (BT.node (o93 P) (BT.node (o43 P) BT.nil BT.nil) BT.nil)) (BT.node (o63 P) (BT.node (o43 P) (BT.node (o119 P) BT.nil BT.nil) (BT.node (o151 P) BT.nil BT.nil)) (BT.node (o101 P) (BT.node (o44 P) BT.nil BT.nil) BT.nil)))) (BT.node (boot_o_5 P) (BT.node (boot_o_9 P) (BT.node (o53 P) (BT.node (o69 P) (BT.node (o109 P) BT.nil BT.nil) (BT.node (o141 P) BT.nil BT.nil)) (BT.node (o91 P) (BT.node (o125 P) BT.nil BT.nil) BT.nil)) (BT.node (o43 P) (BT.node (o80 P) (BT.node (o117 P) BT.nil BT.nil) (BT.node (o149 P) BT.nil BT.nil)) (BT.node (o99 P) (BT.node (o133 P) BT.nil BT.nil) BT.nil))) (BT.node (o45 P) (BT.node (o57 P) (BT.node (o59 P) (BT.node (o44 P) BT.nil BT.nil) (BT.node (o145 P) BT.nil BT.nil)) (BT.node (o44 P) (BT.node (o129 P) BT.nil BT.nil) BT.nil)) (BT.node (o43 P) (BT.node (o90 P) (BT.node (o44 P) BT.nil BT.nil) BT.nil) (BT.node (o43 P) (BT.node (o43 P) BT.nil BT.nil) BT.nil))))) (BT.node (o72 P) (BT.node (boot_o_4 P) (BT.node (boot_o_8 P) (BT.node (o44 P) (BT.node (o68 P) (BT.node (o43 P) BT.nil BT.nil) (BT.node (o140 P) BT.nil BT.nil)) (BT.node (o87 P) (BT.node (o124 P) BT.nil BT.nil) BT.nil)) (BT.node (o60 P) (BT.node (o44 P) (BT.node (o116 P) BT.nil BT.nil) (BT.node (o148 P) BT.nil BT.nil)) (BT.node (o43 P) (BT.node (o132 P) BT.nil BT.nil) BT.nil))) (BT.node (o104 P) (BT.node (o56 P) (BT.node (o75 P) (BT.node (o43 P) BT.nil BT.nil) (BT.node (o144 P) BT.nil BT.nil)) (BT.node (o43 P) (BT.node (o44 P) BT.nil BT.nil) BT.nil)) (BT.node (o64 P) (BT.node (o83 P) (BT.node (o43 P) BT.nil BT.nil) (BT.node (o153 P) BT.nil BT.nil)) (BT.node (o102 P) (BT.node (o136 P) BT.nil BT.nil) BT.nil)))) (BT.node (boot_o_6 P) (BT.node (boot_o_10 P) (BT.node (o43 P) (BT.node (o70 P) (BT.node (o110 P) BT.nil BT.nil) (BT.node (o142 P) BT.nil BT.nil)) (BT.node (o59 P) (BT.node (o126 P) BT.nil BT.nil) BT.nil)) (BT.node (o44 P) (BT.node (o81 P) (BT.node (o118 P) BT.nil BT.nil) (BT.node (o150 P) BT.nil BT.nil)) (BT.node (o100 P) (BT.node (o43 P) BT.nil BT.nil) BT.nil))) (BT.node (o46 P) (BT.node (o43 P) (BT.node (o77 P) (BT.node (o114 P) BT.nil BT.nil) (BT.node (o146 P) BT.nil BT.nil)) (BT.node (o96 P) (BT.node (o43 P) BT.nil BT.nil) BT.nil)) (BT.node (o66 P) (BT.node (o85 P) (BT.node (o122 P) BT.nil BT.nil) BT.nil) (BT.node (o59 P) (BT.node (o138 P) BT.nil BT.nil) BT.nil)))))
noncomputable def tree232 (P : Params) : BT := BT.node (boot_o_0 P) (BT.node (boot_o_1 P) (BT.node (o154 P) (BT.node (boot_o_7 P) (BT.node (o43 P) (BT.node (o67 P) (BT.node (o107 P) (BT.node (o43 P) BT.nil BT.nil) BT.nil) (BT.node (o139 P) (BT.node (o43 P) BT.nil BT.nil) BT.nil)) (BT.node (o86 P) (BT.node (o43 P) (BT.node (o190 P) BT.nil BT.nil) BT.nil) (BT.node (o158 P) (BT.node (o222 P) BT.nil BT.nil) BT.nil))) (BT.node (o59 P) (BT.node (o43 P) (BT.node (o43 P) (BT.node (o182 P) BT.nil BT.nil) BT.nil) (BT.node (o147 P) (BT.node (o214 P) BT.nil BT.nil) BT.nil)) (BT.node (o97 P) (BT.node (o131 P) (BT.node (o198 P) BT.nil BT.nil) BT.nil) (BT.node (o166 P) (BT.node (o230 P) BT.nil BT.nil) BT.nil)))) (BT.node (o43 P) (BT.node (o55 P) (BT.node (o71 P) (BT.node (o111 P) (BT.node (o178 P) BT.nil BT.nil) BT.nil) (BT.node (o143 P) (BT.node (o210 P) BT.nil BT.nil) BT.nil)) (BT.node (o93 P) (BT.node (o43 P) (BT.node (o194 P) BT.nil BT.nil) BT.nil) (BT.node (o162 P) (BT.node (o43 P) BT.nil BT.nil) BT.nil))) (BT.node (o63 P) (BT.node (o43 P) (BT.node (o119 P) (BT.node (o44 P) BT.nil BT.nil) BT.nil) (BT.node (o151 P) (BT.node (o218 P) BT.nil BT.nil) BT.nil)) (BT.node (o101 P) (BT.node (o44 P) (BT.node (o43 P) BT.nil BT.nil) BT.nil) (BT.node (o43 P) BT.nil BT.nil))))) (BT.node (boot_o_5 P) (BT.node (boot_o_9 P) (BT.node (o53 P) (BT.node (o69 P) (BT.node (o109 P) (BT.node (o176 P) BT.nil BT.nil) BT.nil) (BT.node (o141 P) (BT.node (o208 P) BT.nil BT.nil) BT.nil)) (BT.node (o91 P) (BT.node (o125 P) (BT.node (o43 P) BT.nil BT.nil) BT.nil) (BT.node (o43 P) (BT.node (o224 P) BT.nil BT.nil) BT.nil))) (BT.node (o43 P) (BT.node (o80 P) (BT.node (o117 P) (BT.node (o184 P) BT.nil BT.nil) BT.nil) (BT.node (o149 P) (BT.node (o216 P) BT.nil BT.nil) BT.nil)) (BT.node (o99 P) (BT.node (o133 P) (BT.node (o44 P) BT.nil BT.nil) BT.nil) (BT.node (o44 P) (BT.node (o232 P) BT.nil BT.nil) BT.nil)))) (BT.node (o45 P) (BT.node (o57 P) (BT.node (o59 P) (BT.node (o44 P) (BT.node (o180 P) BT.nil BT.nil) BT.nil) (BT.node (o145 P) (BT.node (o212 P) BT.nil BT.nil) BT.nil)) (BT.node (o44 P) (BT.node (o129 P) (BT.node (o196 P) BT.nil BT.nil) BT.nil) (BT.node (o43 P) (BT.node (o228 P) BT.nil BT.nil) BT.nil))) (BT.node (o43 P) (BT.node (o90 P) (BT.node (o44 P) (BT.node (o43 P) BT.nil BT.nil) BT.nil) (BT.node (o156 P) (BT.node (o220 P) BT.nil BT.nil) BT.nil)) (BT.node (o43 P) (BT.node (o43 P) (BT.node (o204 P) BT.nil BT.nil) BT.nil) (BT.node (o172 P) BT.nil BT.nil)))))) (BT.node (o72 P) (BT.node (boot_o_4 P) (BT.node (boot_o_8 P) (BT.node (o44 P) (BT.node (o68 P) (BT.node (o43 P) (BT.node (o44 P) BT.nil BT.nil) BT.nil) (BT.node (o140 P) (BT.node (o44 P) BT.nil BT.nil) BT.nil)) (BT.node (o87 P) (BT.node (o124 P) (BT.node (o191 P) BT.nil BT.nil) BT.nil) (BT.node (o159 P) (BT.node (o223 P) BT.nil BT.nil) BT.nil))) (BT.node (o60 P) (BT.node (o44 P) (BT.node (o116 P) (BT.node (o166 P) BT.nil BT.nil) BT.nil) (BT.node (o148 P) (BT.node (o215 P) BT.nil BT.nil) BT.nil)) (BT.node (o43 P) (BT.node (o132 P) (BT.node (o43 P) BT.nil BT.nil) BT.nil) (BT.node (o43 P) (BT.node (o231 P) BT.nil BT.nil) BT.nil)))) (BT.node (o155 P) (BT.node (o56 P) (BT.node (o75 P) (BT.node (o43 P) (BT.node (o179 P) BT.nil BT.nil) BT.nil) (BT.node (o144 P) (BT.node (o211 P) BT.nil BT.nil) BT.nil)) (BT.node (o43 P) (BT.node (o44 P) (BT.node (o43 P) BT.nil BT.nil) BT.nil) (BT.node (o163 P) (BT.node (o227 P) BT.nil BT.nil) BT.nil))) (BT.node (o64 P) (BT.node (o83 P) (BT.node (o43 P) (BT.node (o187 P) BT.nil BT.nil) BT.nil) (BT.node (o153 P) (BT.node (o219 P) BT.nil BT.nil) BT.nil)) (BT.node (o102 P) (BT.node (o136 P) (BT.node (o203 P) BT.nil BT.nil) BT.nil) (BT.node (o171 P) BT.nil BT.nil))))) (BT.node (boot_o_6 P) (BT.node (boot_o_10 P) (BT.node (o43 P) (BT.node (o70 P) (BT.node (o110 P) (BT.node (o43 P) BT.nil BT.nil) BT.nil) (BT.node (o142 P) (BT.node (o43 P) BT.nil BT.nil) BT.nil)) (BT.node (o59 P) (BT.node (o126 P) (BT.node (o44 P) BT.nil BT.nil) BT.nil) (BT.node (o161 P) (BT.node (o225 P) BT.nil BT.nil) BT.nil))) (BT.node (o44 P) (BT.node (o81 P) (BT.node (o118 P) (BT.node (o185 P) BT.nil BT.nil) BT.nil) (BT.node (o150 P) (BT.node (o217 P) BT.nil BT.nil) BT.nil)) (BT.node (o100 P) (BT.node (o43 P) (BT.node (o201 P) BT.nil BT.nil) BT.nil) (BT.node (o169 P) BT.nil BT.nil)))) (BT.node (o46 P) (BT.node (o43 P) (BT.node (o77 P) (BT.node (o114 P) (BT.node (o181 P) BT.nil BT.nil) BT.nil) (BT.node (o146 P) (BT.node (o213 P) BT.nil BT.nil) BT.nil)) (BT.node (o96 P) (BT.node (o43 P) (BT.node (o197 P) BT.nil BT.nil) BT.nil) (BT.node (o165 P) (BT.node (o229 P) BT.nil BT.nil) BT.nil))) (BT.node (o66 P) (BT.node (o85 P) (BT.node (o122 P) (BT.node (o189 P) BT.nil BT.nil) BT.nil) (BT.node (o59 P) (BT.node (o221 P) BT.nil BT.nil) BT.nil)) (BT.node (o59 P) (BT.node (o138 P) (BT.node (o205 P) BT.nil BT.nil) BT.nil) (BT.node (o173 P) BT.nil BT.nil))))))
noncomputable def tree382 (P : Params) : BT := BT.node (boot_o_0 P) (BT.node (boot_o_1 P) (BT.node (o306 P) (BT.node (boot_o_7 P) (BT.node (o43 P) (BT.node (o67 P) (BT.node (o107 P) (BT.node (o43 P) (BT.node (o44 P) BT.nil BT.nil) BT.nil) (BT.node (o313 P) BT.nil BT.nil)) (BT.node (o139 P) (BT.node (o43 P) BT.nil BT.nil) (BT.node (o345 P) BT.nil BT.nil))) (BT.node (o86 P) (BT.node (o43 P) (BT.node (o190 P) BT.nil BT.nil) (BT.node (o43 P) BT.nil BT.nil)) (BT.node (o158 P) (BT.node (o222 P) BT.nil BT.nil) (BT.node (o361 P) BT.nil BT.nil)))) (BT.node (o59 P) (BT.node (o43 P) (BT.node (o43 P) (BT.node (o182 P) BT.nil BT.nil) (BT.node (o321 P) BT.nil BT.nil)) (BT.node (o147 P) (BT.node (o214 P) BT.nil BT.nil) (BT.node (o43 P) BT.nil BT.nil))) (BT.node (o97 P) (BT.node (o131 P) (BT.node (o198 P) BT.nil BT.nil) (BT.node (o44 P) BT.nil BT.nil)) (BT.node (o166 P) (BT.node (o230 P) BT.nil BT.nil) (BT.node (o43 P) BT.nil BT.nil))))) (BT.node (o43 P) (BT.node (o55 P) (BT.node (o71 P) (BT.node (o111 P) (BT.node (o178 P) (BT.node (o381 P) BT.nil BT.nil) BT.nil) (BT.node (o317 P) BT.nil BT.nil)) (BT.node (o143 P) (BT.node (o210 P) BT.nil BT.nil) (BT.node (o349 P) BT.nil BT.nil))) (BT.node (o93 P) (BT.node (o43 P) (BT.node (o194 P) BT.nil BT.nil) (BT.node (o333 P) BT.nil BT.nil)) (BT.node (o162 P) (BT.node (o43 P) BT.nil BT.nil) (BT.node (o43 P) BT.nil BT.nil)))) (BT.node (o63 P) (BT.node (o43 P) (BT.node (o119 P) (BT.node (o44 P) BT.nil BT.nil) (BT.node (o43 P) BT.nil BT.nil)) (BT.node (o151 P) (BT.node (o218 P) BT.nil BT.nil) (BT.node (o43 P) BT.nil BT.nil))) (BT.node (o101 P) (BT.node (o44 P) (BT.node (o43 P) BT.nil BT.nil) (BT.node (o341 P) BT.nil BT.nil)) (BT.node (o43 P) (BT.node (o44 P) BT.nil BT.nil) (BT.node (o373 P) BT.nil BT.nil)))))) (BT.node (boot_o_5 P) (BT.node (boot_o_9 P) (BT.node (o53 P) (BT.node (o69 P) (BT.node (o109 P) (BT.node (o176 P) (BT.node (o379 P) BT.nil BT.nil) BT.nil) (BT.node (o43 P) BT.nil BT.nil)) (BT.node (o141 P) (BT.node (o208 P) BT.nil BT.nil) (BT.node (o347 P) BT.nil BT.nil))) (BT.node (o91 P) (BT.node (o125 P) (BT.node (o43 P) BT.nil BT.nil) (BT.node (o331 P) BT.nil BT.nil)) (BT.node (o43 P) (BT.node (o224 P) BT.nil BT.nil) (BT.node (o44 P) BT.nil BT.nil)))) (BT.node (o43 P) (BT.node (o80 P) (BT.node (o117 P) (BT.node (o184 P) BT.nil BT.nil) (BT.node (o44 P) BT.nil BT.nil)) (BT.node (o149 P) (BT.node (o216 P) BT.nil BT.nil) (BT.node (o355 P) BT.nil BT.nil))) (BT.node (o99 P) (BT.node (o133 P) (BT.node (o44 P) BT.nil BT.nil) (BT.node (o43 P) BT.nil BT.nil)) (BT.node (o44 P) (BT.node (o232 P) BT.nil BT.nil) (BT.node (o371 P) BT.nil BT.nil))))) (BT.node (o45 P) (BT.node (o57 P) (BT.node (o59 P) (BT.node (o44 P) (BT.node (o180 P) BT.nil BT.nil) (BT.node (o319 P) BT.nil BT.nil)) (BT.node (o145 P) (BT.node (o212 P) BT.nil BT.nil) (BT.node (o44 P) BT.nil BT.nil))) (BT.node (o44 P) (BT.node (o129 P) (BT.node (o196 P) BT.nil BT.nil) (BT.node (o335 P) BT.nil BT.nil)) (BT.node (o43 P) (BT.node (o228 P) BT.nil BT.nil) (BT.node (o367 P) BT.nil BT.nil)))) (BT.node (o43 P) (BT.node (o90 P) (BT.node (o44 P) (BT.node (o43 P) BT.nil BT.nil) (BT.node (o327 P) BT.nil BT.nil)) (BT.node (o156 P) (BT.node (o220 P) BT.nil BT.nil) (BT.node (o359 P) BT.nil BT.nil))) (BT.node (o43 P) (BT.node (o43 P) (BT.node (o204 P) BT.nil BT.nil) (BT.node (o43 P) BT.nil BT.nil)) (BT.node (o172 P) (BT.node (o43 P) BT.nil BT.nil) (BT.node (o375 P) BT.nil BT.nil))))))) (BT.node (o72 P) (BT.node (boot_o_4 P) (BT.node (boot_o_8 P) (BT.node (o44 P) (BT.node (o68 P) (BT.node (o43 P) (BT.node (o44 P) (BT.node (o378 P) BT.nil BT.nil) BT.nil) (BT.node (o314 P) BT.nil BT.nil)) (BT.node (o140 P) (BT.node (o44 P) BT.nil BT.nil) (BT.node (o43 P) BT.nil BT.nil))) (BT.node (o87 P) (BT.node (o124 P) (BT.node (o191 P) BT.nil BT.nil) (BT.node (o44 P) BT.nil BT.nil)) (BT.node (o159 P) (BT.node (o223 P) BT.nil BT.nil) (BT.node (o43 P) BT.nil BT.nil)))) (BT.node (o60 P) (BT.node (o44 P) (BT.node (o116 P) (BT.node (o166 P) BT.nil BT.nil) (BT.node (o43 P) BT.nil BT.nil)) (BT.node (o148 P) (BT.node (o215 P) BT.nil BT.nil) (BT.node (o354 P) BT.nil BT.nil))) (BT.node (o43 P) (BT.node (o132 P) (BT.node (o43 P) BT.nil BT.nil) (BT.node (o338 P) BT.nil BT.nil)) (BT.node (o43 P) (BT.node (o231 P) BT.nil BT.nil) (BT.node (o44 P) BT.nil BT.nil))))) (BT.node (o307 P) (BT.node (o56 P) (BT.node (o75 P) (BT.node (o43 P) (BT.node (o179 P) (BT.node (o382 P) BT.nil BT.nil) BT.nil) (BT.node (o43 P) BT.nil BT.nil)) (BT.node (o144 P) (BT.node (o211 P) BT.nil BT.nil) (BT.node (o43 P) BT.nil BT.nil))) (BT.node (o43 P) (BT.node (o44 P) (BT.node (o43 P) BT.nil BT.nil) (BT.node (o334 P) BT.nil BT.nil)) (BT.node (o163 P) (BT.node (o227 P) BT.nil BT.nil) (BT.node (o366 P) BT.nil BT.nil)))) (BT.node (o64 P) (BT.node (o83 P) (BT.node (o43 P) (BT.node (o187 P) BT.nil BT.nil) (BT.node (o326 P) BT.nil BT.nil)) (BT.node (o153 P) (BT.node (o219 P) BT.nil BT.nil) (BT.node (o44 P) BT.nil BT.nil))) (BT.node (o102 P) (BT.node (o136 P) (BT.node (o203 P) BT.nil BT.nil) (BT.node (o342 P) BT.nil BT.nil)) (BT.node (o171 P) (BT.node (o310 P) BT.nil BT.nil) (BT.node (o374 P) BT.nil BT.nil)))))) (BT.node (boot_o_6 P) (BT.node (boot_o_10 P) (BT.node (o43 P) (BT.node (o70 P) (BT.node (o110 P) (BT.node (o43 P) (BT.node (o380 P) BT.nil BT.nil) BT.nil) (BT.node (o44 P) BT.nil BT.nil)) (BT.node (o142 P) (BT.node (o43 P) BT.nil BT.nil) (BT.node (o348 P) BT.nil BT.nil))) (BT.node (o59 P) (BT.node (o126 P) (BT.node (o44 P) BT.nil BT.nil) (BT.node (o43 P) BT.nil BT.nil)) (BT.node (o161 P) (BT.node (o225 P) BT.nil BT.nil) (BT.node (o364 P) BT.nil BT.nil)))) (BT.node (o44 P) (BT.node (o81 P) (BT.node (o118 P) (BT.node (o185 P) BT.nil BT.nil) (BT.node (o324 P) BT.nil BT.nil)) (BT.node (o150 P) (BT.node (o217 P) BT.nil BT.nil) (BT.node (o356 P) BT.nil BT.nil))) (BT.node (o100 P) (BT.node (o43 P) (BT.node (o201 P) BT.nil BT.nil) (BT.node (o340 P) BT.nil BT.nil)) (BT.node (o169 P) (BT.node (o43 P) BT.nil BT.nil) (BT.node (o43 P) BT.nil BT.nil))))) (BT.node (o46 P) (BT.node (o43 P) (BT.node (o77 P) (BT.node (o114 P) (BT.node (o181 P) BT.nil BT.nil) (BT.node (o320 P) BT.nil BT.nil)) (BT.node (o146 P) (BT.node (o213 P) BT.nil BT.nil) (BT.node (o352 P) BT.nil BT.nil))) (BT.node (o96 P) (BT.node (o43 P) (BT.node (o197 P) BT.nil BT.nil) (BT.node (o43 P) BT.nil BT.nil)) (BT.node (o165 P) (BT.node (o229 P) BT.nil BT.nil) (BT.node (o368 P) BT.nil BT.nil)))) (BT.node (o66 P) (BT.node (o85 P) (BT.node (o122 P) (BT.node (o189 P) BT.nil BT.nil) (BT.node (o328 P) BT.nil BT.nil)) (BT.node (o59 P) (BT.node (o221 P) BT.nil BT.nil) (BT.node (o360 P) BT.nil BT.nil))) (BT.node (o59 P) (BT.node (o138 P) (BT.node (o205 P) BT.nil BT.nil) (BT.node (o44 P) BT.nil BT.nil)) (BT.node (o173 P) (BT.node (o312 P) BT.nil BT.nil) (BT.node (o43 P) BT.nil BT.nil)))))))
noncomputable def tree470 (P : Params) : BT := BT.node (boot_o_0 P) (BT.node (boot_o_1 P) (BT.node (o383 P) (BT.node (boot_o_7 P) (BT.node (o43 P) (BT.node (o67 P) (BT.node (o107 P) (BT.node (o43 P) (BT.node (o44 P) BT.nil BT.nil) BT.nil) (BT.node (o313 P) (BT.node (o43 P) BT.nil BT.nil) BT.nil)) (BT.node (o139 P) (BT.node (o43 P) (BT.node (o411 P) BT.nil BT.nil) BT.nil) (BT.node (o345 P) BT.nil BT.nil))) (BT.node (o86 P) (BT.node (o43 P) (BT.node (o190 P) (BT.node (o395 P) BT.nil BT.nil) BT.nil) (BT.node (o43 P) (BT.node (o459 P) BT.nil BT.nil) BT.nil)) (BT.node (o158 P) (BT.node (o222 P) (BT.node (o44 P) BT.nil BT.nil) BT.nil) (BT.node (o361 P) BT.nil BT.nil)))) (BT.node (o59 P) (BT.node (o43 P) (BT.node (o43 P) (BT.node (o182 P) (BT.node (o387 P) BT.nil BT.nil) BT.nil) (BT.node (o321 P) (BT.node (o451 P) BT.nil BT.nil) BT.nil)) (BT.node (o147 P) (BT.node (o214 P) (BT.node (o43 P) BT.nil BT.nil) BT.nil) (BT.node (o43 P) BT.nil BT.nil))) (BT.node (o97 P) (BT.node (o131 P) (BT.node (o198 P) (BT.node (o403 P) BT.nil BT.nil) BT.nil) (BT.node (o44 P) (BT.node (o43 P) BT.nil BT.nil) BT.nil)) (BT.node (o166 P) (BT.node (o230 P) (BT.node (o435 P) BT.nil BT.nil) BT.nil) (BT.node (o43 P) BT.nil BT.nil))))) (BT.node (o43 P) (BT.node (o55 P) (BT.node (o71 P) (BT.node (o111 P) (BT.node (o178 P) (BT.node (o381 P) BT.nil BT.nil) BT.nil) (BT.node (o317 P) (BT.node (o43 P) BT.nil BT.nil) BT.nil)) (BT.node (o143 P) (BT.node (o210 P) (BT.node (o43 P) BT.nil BT.nil) BT.nil) (BT.node (o349 P) BT.nil BT.nil))) (BT.node (o93 P) (BT.node (o43 P) (BT.node (o194 P) (BT.node (o399 P) BT.nil BT.nil) BT.nil) (BT.node (o333 P) (BT.node (o463 P) BT.nil BT.nil) BT.nil)) (BT.node (o162 P) (BT.node (o43 P) (BT.node (o431 P) BT.nil BT.nil) BT.nil) (BT.node (o43 P) BT.nil BT.nil)))) (BT.node (o63 P) (BT.node (o43 P) (BT.node (o119 P) (BT.node (o44 P) (BT.node (o391 P) BT.nil BT.nil) BT.nil) (BT.node (o43 P) (BT.node (o455 P) BT.nil BT.nil) BT.nil)) (BT.node (o151 P) (BT.node (o218 P) (BT.node (o423 P) BT.nil BT.nil) BT.nil) (BT.node (o43 P) BT.nil BT.nil))) (BT.node (o101 P) (BT.node (o44 P) (BT.node (o43 P) (BT.node (o407 P) BT.nil BT.nil) BT.nil) (BT.node (o341 P) BT.nil BT.nil)) (BT.node (o43 P) (BT.node (o44 P) (BT.node (o439 P) BT.nil BT.nil) BT.nil) (BT.node (o373 P) BT.nil BT.nil)))))) (BT.node (boot_o_5 P) (BT.node (boot_o_9 P) (BT.node (o53 P) (BT.node (o69 P) (BT.node (o109 P) (BT.node (o176 P) (BT.node (o379 P) BT.nil BT.nil) BT.nil) (BT.node (o43 P) (BT.node (o445 P) BT.nil BT.nil) BT.nil)) (BT.node (o141 P) (BT.node (o208 P) (BT.node (o44 P) BT.nil BT.nil) BT.nil) (BT.node (o347 P) BT.nil BT.nil))) (BT.node (o91 P) (BT.node (o125 P) (BT.node (o43 P) (BT.node (o397 P) BT.nil BT.nil) BT.nil) (BT.node (o331 P) (BT.node (o461 P) BT.nil BT.nil) BT.nil)) (BT.node (o43 P) (BT.node (o224 P) (BT.node (o43 P) BT.nil BT.nil) BT.nil) (BT.node (o44 P) BT.nil BT.nil)))) (BT.node (o43 P) (BT.node (o80 P) (BT.node (o117 P) (BT.node (o184 P) (BT.node (o389 P) BT.nil BT.nil) BT.nil) (BT.node (o44 P) (BT.node (o44 P) BT.nil BT.nil) BT.nil)) (BT.node (o149 P) (BT.node (o216 P) (BT.node (o43 P) BT.nil BT.nil) BT.nil) (BT.node (o355 P) BT.nil BT.nil))) (BT.node (o99 P) (BT.node (o133 P) (BT.node (o44 P) (BT.node (o405 P) BT.nil BT.nil) BT.nil) (BT.node (o43 P) (BT.node (o469 P) BT.nil BT.nil) BT.nil)) (BT.node (o44 P) (BT.node (o232 P) (BT.node (o437 P) BT.nil BT.nil) BT.nil) (BT.node (o371 P) BT.nil BT.nil))))) (BT.node (o45 P) (BT.node (o57 P) (BT.node (o59 P) (BT.node (o44 P) (BT.node (o180 P) (BT.node (o385 P) BT.nil BT.nil) BT.nil) (BT.node (o319 P) (BT.node (o449 P) BT.nil BT.nil) BT.nil)) (BT.node (o145 P) (BT.node (o212 P) (BT.node (o417 P) BT.nil BT.nil) BT.nil) (BT.node (o44 P) BT.nil BT.nil))) (BT.node (o44 P) (BT.node (o129 P) (BT.node (o196 P) (BT.node (o401 P) BT.nil BT.nil) BT.nil) (BT.node (o335 P) (BT.node (o44 P) BT.nil BT.nil) BT.nil)) (BT.node (o43 P) (BT.node (o228 P) (BT.node (o43 P) BT.nil BT.nil) BT.nil) (BT.node (o367 P) BT.nil BT.nil)))) (BT.node (o43 P) (BT.node (o90 P) (BT.node (o44 P) (BT.node (o43 P) (BT.node (o393 P) BT.nil BT.nil) BT.nil) (BT.node (o327 P) (BT.node (o43 P) BT.nil BT.nil) BT.nil)) (BT.node (o156 P) (BT.node (o220 P) (BT.node (o425 P) BT.nil BT.nil) BT.nil) (BT.node (o359 P) BT.nil BT.nil))) (BT.node (o43 P) (BT.node (o43 P) (BT.node (o204 P) (BT.node (o409 P) BT.nil BT.nil) BT.nil) (BT.node (o43 P) BT.nil BT.nil)) (BT.node (o172 P) (BT.node (o43 P) (BT.node (o44 P) BT.nil BT.nil) BT.nil) (BT.node (o375 P) BT.nil BT.nil))))))) (BT.node (o72 P) (BT.node (boot_o_4 P) (BT.node (boot_o_8 P) (BT.node (o44 P) (BT.node (o68 P) (BT.node (o43 P) (BT.node (o44 P) (BT.node (o378 P) BT.nil BT.nil) BT.nil) (BT.node (o314 P) (BT.node (o444 P) BT.nil BT.nil) BT.nil)) (BT.node (o140 P) (BT.node (o44 P) (BT.node (o43 P) BT.nil BT.nil) BT.nil) (BT.node (o43 P) BT.nil BT.nil))) (BT.node (o87 P) (BT.node (o124 P) (BT.node (o191 P) (BT.node (o396 P) BT.nil BT.nil) BT.nil) (BT.node (o44 P) (BT.node (o43 P) BT.nil BT.nil) BT.nil)) (BT.node (o159 P) (BT.node (o223 P) (BT.node (o428 P) BT.nil BT.nil) BT.nil) (BT.node (o43 P) BT.nil BT.nil)))) (BT.node (o60 P) (BT.node (o44 P) (BT.node (o116 P) (BT.node (o166 P) (BT.node (o388 P) BT.nil BT.nil) BT.nil) (BT.node (o43 P) (BT.node (o43 P) BT.nil BT.nil) BT.nil)) (BT.node (o148 P) (BT.node (o215 P) (BT.node (o44 P) BT.nil BT.nil) BT.nil) (BT.node (o354 P) BT.nil BT.nil))) (BT.node (o43 P) (BT.node (o132 P) (BT.node (o43 P) (BT.node (o404 P) BT.nil BT.nil) BT.nil) (BT.node (o338 P) (BT.node (o468 P) BT.nil BT.nil) BT.nil)) (BT.node (o43 P) (BT.node (o231 P) (BT.node (o43 P) BT.nil BT.nil) BT.nil) (BT.node (o44 P) BT.nil BT.nil))))) (BT.node (o384 P) (BT.node (o56 P) (BT.node (o75 P) (BT.node (o43 P) (BT.node (o179 P) (BT.node (o382 P) BT.nil BT.nil) BT.nil) (BT.node (o43 P) (BT.node (o44 P) BT.nil BT.nil) BT.nil)) (BT.node (o144 P) (BT.node (o211 P) (BT.node (o416 P) BT.nil BT.nil) BT.nil) (BT.node (o43 P) BT.nil BT.nil))) (BT.node (o43 P) (BT.node (o44 P) (BT.node (o43 P) (BT.node (o400 P) BT.nil BT.nil) BT.nil) (BT.node (o334 P) (BT.node (o43 P) BT.nil BT.nil) BT.nil)) (BT.node (o163 P) (BT.node (o227 P) (BT.node (o432 P) BT.nil BT.nil) BT.nil) (BT.node (o366 P) BT.nil BT.nil)))) (BT.node (o64 P) (BT.node (o83 P) (BT.node (o43 P) (BT.node (o187 P) (BT.node (o392 P) BT.nil BT.nil) BT.nil) (BT.node (o326 P) (BT.node (o456 P) BT.nil BT.nil) BT.nil)) (BT.node (o153 P) (BT.node (o219 P) (BT.node (o424 P) BT.nil BT.nil) BT.nil) (BT.node (o44 P) BT.nil BT.nil))) (BT.node (o102 P) (BT.node (o136 P) (BT.node (o203 P) (BT.node (o408 P) BT.nil BT.nil) BT.nil) (BT.node (o342 P) BT.nil BT.nil)) (BT.node (o171 P) (BT.node (o310 P) (BT.node (o43 P) BT.nil BT.nil) BT.nil) (BT.node (o374 P) BT.nil BT.nil)))))) (BT.node (boot_o_6 P) (BT.node (boot_o_10 P) (BT.node (o43 P) (BT.node (o70 P) (BT.node (o110 P) (BT.node (o43 P) (BT.node (o380 P) BT.nil BT.nil) BT.nil) (BT.node (o44 P) (BT.node (o446 P) BT.nil BT.nil) BT.nil)) (BT.node (o142 P) (BT.node (o43 P) (BT.node (o43 P) BT.nil BT.nil) BT.nil) (BT.node (o348 P) BT.nil BT.nil))) (BT.node (o59 P) (BT.node (o126 P) (BT.node (o44 P) (BT.node (o398 P) BT.nil BT.nil) BT.nil) (BT.node (o43 P) (BT.node (o462 P) BT.nil BT.nil) BT.nil)) (BT.node (o161 P) (BT.node (o225 P) (BT.node (o430 P) BT.nil BT.nil) BT.nil) (BT.node (o364 P) BT.nil BT.nil)))) (BT.node (o44 P) (BT.node (o81 P) (BT.node (o118 P) (BT.node (o185 P) (BT.node (o390 P) BT.nil BT.nil) BT.nil) (BT.node (o324 P) (BT.node (o454 P) BT.nil BT.nil) BT.nil)) (BT.node (o150 P) (BT.node (o217 P) (BT.node (o43 P) BT.nil BT.nil) BT.nil) (BT.node (o356 P) BT.nil BT.nil))) (BT.node (o100 P) (BT.node (o43 P) (BT.node (o201 P) (BT.node (o406 P) BT.nil BT.nil) BT.nil) (BT.node (o340 P) (BT.node (o470 P) BT.nil BT.nil) BT.nil)) (BT.node (o169 P) (BT.node (o43 P) (BT.node (o438 P) BT.nil BT.nil) BT.nil) (BT.node (o43 P) BT.nil BT.nil))))) (BT.node (o46 P) (BT.node (o43 P) (BT.node (o77 P) (BT.node (o114 P) (BT.node (o181 P) (BT.node (o386 P) BT.nil BT.nil) BT.nil) (BT.node (o320 P) (BT.node (o450 P) BT.nil BT.nil) BT.nil)) (BT.node (o146 P) (BT.node (o213 P) (BT.node (o418 P) BT.nil BT.nil) BT.nil) (BT.node (o352 P) BT.nil BT.nil))) (BT.node (o96 P) (BT.node (o43 P) (BT.node (o197 P) (BT.node (o402 P) BT.nil BT.nil) BT.nil) (BT.node (o43 P) (BT.node (o466 P) BT.nil BT.nil) BT.nil)) (BT.node (o165 P) (BT.node (o229 P) (BT.node (o44 P) BT.nil BT.nil) BT.nil) (BT.node (o368 P) BT.nil BT.nil)))) (BT.node (o66 P) (BT.node (o85 P) (BT.node (o122 P) (BT.node (o189 P) (BT.node (o394 P) BT.nil BT.nil) BT.nil) (BT.node (o328 P) (BT.node (o44 P) BT.nil BT.nil) BT.nil)) (BT.node (o59 P) (BT.node (o221 P) (BT.node (o43 P) BT.nil BT.nil) BT.nil) (BT.node (o360 P) BT.nil BT.nil))) (BT.node (o59 P) (BT.node (o138 P) (BT.node (o205 P) (BT.node (o410 P) BT.nil BT.nil) BT.nil) (BT.node (o44 P) BT.nil BT.nil)) (BT.node (o173 P) (BT.node (o312 P) (BT.node (o442 P) BT.nil BT.nil) BT.nil) (BT.node (o43 P) BT.nil BT.nil)))))))
noncomputable def heap471 (P : Params) : Heap := { objs := { toList := [boot_o_0 P, boot_o_1 P, o72 P, o383 P, boot_o_4 P, boot_o_5 P, boot_o_6 P, boot_o_7 P, boot_o_8 P, boot_o_9 P, boot_o_10 P, o43 P, o384 P, o45 P, o46 P, o43 P, o44 P, o53 P, o43 P, o55 P, o56 P, o57 P, o43 P, o59 P, o60 P, o43 P, o44 P, o63 P, o64 P, o43 P, o66 P, o67 P, o68 P, o69 P, o70 P, o71 P, o75 P, o59 P, o77 P, o43 P, o44 P, o80 P, o81 P, o43 P, o83 P, o90 P, o85 P, o86 P, o87 P, o91 P, o59 P, o93 P, o43 P, o44 P, o96 P, o97 P, o43 P, o99 P, o100 P, o101 P, o102 P, o43 P, o59 P, o107 P, o43 P, o109 P, o110 P, o111 P, o43 P, o44 P, o114 P, o43 P, o116 P, o117 P, o118 P, o119 P, o43 P, o44 P, o122 P, o43 P, o124 P, o125 P, o126 P, o43 P, o44 P, o129 P, o43 P, o131 P, o132 P, o133 P, o43 P, o44 P, o136 P, o43 P, o138 P, o139 P, o140 P, o141 P, o142 P, o143 P, o144 P, o145 P, o146 P, o147 P, o148 P, o149 P, o150 P, o151 P, o153 P, o156 P, o59 P, o158 P, o159 P, o43 P, o161 P, o162 P, o163 P, o43 P, o165 P, o166 P, o43 P, o44 P, o169 P, o43 P, o171 P, o172 P, o173 P, o43 P, o44 P, o176 P, o43 P, o178 P, o179 P, o180 P, o181 P, o182 P, o166 P, o184 P, o185 P, o44 P, o187 P, o43 P, o189 P, o190 P, o191 P, o43 P, o44 P, o194 P, o43 P, o196 P, o197 P, o198 P, o43 P, o44 P, o201 P, o43 P, o203 P, o204 P, o205 P, o43 P, o44 P, o208 P, o43 P, o210 P, o211 P, o212 P, o213 P, o214 P, o215 P, o216 P, o217 P, o218 P, o219 P, o220 P, o221 P, o222 P, o223 P, o224 P, o225 P, o43 P, o227 P, o228 P, o229 P, o230 P, o231 P, o232 P, o43 P, o44 P, o310 P, o43 P, o312 P, o313 P, o314 P, o43 P, o44 P, o317 P, o43 P, o319 P, o320 P, o321 P, o43 P, o44 P, o324 P, o43 P, o326 P, o327 P, o328 P, o43 P, o44 P, o331 P, o43 P, o333 P, o334 P, o335 P, o43 P, o44 P, o338 P, o43 P, o340 P, o341 P, o342 P, o43 P, o44 P, o345 P, o43 P, o347 P, o348 P, o349 P, o43 P, o44 P, o352 P, o43 P, o354 P, o355 P, o356 P, o43 P, o44 P, o359 P, o360 P, o361 P, o43 P, o44 P, o364 P, o43 P, o366 P, o367 P, o368 P, o43 P, o44 P, o371 P, o43 P, o373 P, o374 P, o375 P, o43 P, o44 P, o378 P, o379 P, o380 P, o381 P, o382 P, o385 P, o386 P, o387 P, o388 P, o389 P, o390 P, o391 P, o392 P, o393 P, o394 P, o395 P, o396 P, o397 P, o398 P, o399 P, o400 P, o401 P, o402 P, o403 P, o404 P, o405 P, o406 P, o407 P, o408 P, o409 P, o410 P, o411 P, o43 P, o44 P, o43 P, o43 P, o416 P, o417 P, o418 P, o43 P, o44 P, o43 P, o43 P, o423 P, o424 P, o425 P, o43 P, o44 P, o428 P, o43 P, o430 P, o431 P, o432 P, o43 P, o44 P, o435 P, o43 P, o437 P, o438 P, o439 P, o43 P, o44 P, o442 P, o43 P, o444 P, o445 P, o446 P, o43 P, o44 P, o449 P, o450 P, o451 P, o43 P, o44 P, o454 P, o455 P, o456 P, o43 P, o44 P, o459 P, o43 P, o461 P, o462 P, o463 P, o43 P, o44 P, o466 P, o43 P, o468 P, o469 P, o470 P] } }
noncomputable def KF (P : Params) : Frag := (nat_lit 2, o72 P) :: (nat_lit 3, o383 P) :: (nat_lit 15, o43 P) :: (nat_lit 17, o53 P) :: (nat_lit 18, o43 P) :: (nat_lit 20, o56 P) :: (nat_lit 21, o57 P) :: (nat_lit 36, o75 P) :: (nat_lit 43, o43 P) :: (nat_lit 44, o83 P) :: (nat_lit 45, o90 P) :: (nat_lit 46, o85 P) :: (nat_lit 49, o91 P) :: (nat_lit 56, o43 P) :: (nat_lit 57, o99 P) :: (nat_lit 58, o100 P) :: (nat_lit 68, o43 P) :: (nat_lit 70, o114 P) :: (nat_lit 71, o43 P) :: (nat_lit 73, o117 P) :: (nat_lit 74, o118 P) :: (nat_lit 75, o119 P) :: (nat_lit 76, o43 P) :: (nat_lit 78, o122 P) :: (nat_lit 79, o43 P) :: (nat_lit 81, o125 P) :: (nat_lit 82, o126 P) :: (nat_lit 83, o43 P) :: (nat_lit 85, o129 P) :: (nat_lit 86, o43 P) :: (nat_lit 88, o132 P) :: (nat_lit 89, o133 P) :: (nat_lit 90, o43 P) :: (nat_lit 92, o136 P) :: (nat_lit 93, o43 P) :: (nat_lit 95, o139 P) :: (nat_lit 96, o140 P) :: (nat_lit 97, o141 P) :: (nat_lit 98, o142 P) :: (nat_lit 99, o143 P) :: (nat_lit 100, o144 P) :: (nat_lit 101, o145 P) :: (nat_lit 104, o148 P) :: (nat_lit 105, o149 P) :: (nat_lit 106, o150 P) :: (nat_lit 107, o151 P) :: (nat_lit 108, o153 P) :: (nat_lit 109, o156 P) :: (nat_lit 112, o159 P) :: (nat_lit 117, o43 P) :: (nat_lit 118, o165 P) :: (nat_lit 119, o166 P) :: (nat_lit 120, o43 P) :: (nat_lit 122, o169 P) :: (nat_lit 123, o43 P) :: (nat_lit 125, o172 P) :: (nat_lit 126, o173 P) :: (nat_lit 127, o43 P) :: (nat_lit 129, o176 P) :: (nat_lit 130, o43 P) :: (nat_lit 132, o179 P) :: (nat_lit 133, o180 P) :: (nat_lit 134, o181 P) :: (nat_lit 135, o182 P) :: (nat_lit 136, o166 P) :: (nat_lit 137, o184 P) :: (nat_lit 138, o185 P) :: (nat_lit 140, o187 P) :: (nat_lit 141, o43 P) :: (nat_lit 143, o190 P) :: (nat_lit 144, o191 P) :: (nat_lit 145, o43 P) :: (nat_lit 147, o194 P) :: (nat_lit 148, o43 P) :: (nat_lit 150, o197 P) :: (nat_lit 151, o198 P) :: (nat_lit 152, o43 P) :: (nat_lit 154, o201 P) :: (nat_lit 155, o43 P) :: (nat_lit 157, o204 P) :: (nat_lit 158, o205 P) :: (nat_lit 159, o43 P) :: (nat_lit 161, o208 P) :: (nat_lit 162, o43 P) :: (nat_lit 164, o211 P) :: (nat_lit 165, o212 P) :: (nat_lit 166, o213 P) :: (nat_lit 167, o214 P) :: (nat_lit 168, o215 P) :: (nat_lit 170, o217 P) :: (nat_lit 171, o218 P) :: (nat_lit 173, o220 P) :: (nat_lit 174, o221 P) :: (nat_lit 176, o223 P) :: (nat_lit 177, o224 P) :: (nat_lit 179, o43 P) :: (nat_lit 181, o228 P) :: (nat_lit 182, o229 P) :: (nat_lit 183, o230 P) :: (nat_lit 186, o43 P) :: (nat_lit 188, o310 P) :: (nat_lit 189, o43 P) :: (nat_lit 191, o313 P) :: (nat_lit 192, o314 P) :: (nat_lit 193, o43 P) :: (nat_lit 195, o317 P) :: (nat_lit 196, o43 P) :: (nat_lit 198, o320 P) :: (nat_lit 199, o321 P) :: (nat_lit 200, o43 P) :: (nat_lit 202, o324 P) :: (nat_lit 203, o43 P) :: (nat_lit 205, o327 P) :: (nat_lit 206, o328 P) :: (nat_lit 207, o43 P) :: (nat_lit 209, o331 P) :: (nat_lit 210, o43 P) :: (nat_lit 212, o334 P) :: (nat_lit 213, o335 P) :: (nat_lit 214, o43 P) :: (nat_lit 216, o338 P) :: (nat_lit 217, o43 P) :: (nat_lit 219, o341 P) :: (nat_lit 220, o342 P) :: (nat_lit 221, o43 P) :: (nat_lit 223, o345 P) :: (nat_lit 224, o43 P) :: (nat_lit 226, o348 P) :: (nat_lit 227, o349 P) :: (nat_lit 228, o43 P) :: (nat_lit 230, o352 P) :: (nat_lit 231, o43 P) :: (nat_lit 233, o355 P) :: (nat_lit 234, o356 P) :: (nat_lit 235, o43 P) :: (nat_lit 238, o360 P) :: (nat_lit 239, o361 P) :: (nat_lit 240, o43 P) :: (nat_lit 242, o364 P) :: (nat_lit 243, o43 P) :: (nat_lit 245, o367 P) :: (nat_lit 246, o368 P) :: (nat_lit 247, o43 P) :: (nat_lit 249, o371 P) :: (nat_lit 250, o43 P) :: (nat_lit 252, o374 P) :: (nat_lit 253, o375 P) :: (nat_lit 254, o43 P) :: (nat_lit 256, o378 P) :: (nat_lit 257, o379 P) :: (nat_lit 259, o381 P) :: (nat_lit 260, o382 P) :: (nat_lit 261, o385 P) :: (nat_lit 262, o386 P) :: (nat_lit 263, o387 P) :: (nat_lit 264, o388 P) :: (nat_lit 265, o389 P) :: (nat_lit 266, o390 P) :: (nat_lit 267, o391 P) :: (nat_lit 268, o392 P) :: (nat_lit 269, o393 P) :: (nat_lit 270, o394 P) :: (nat_lit 271, o395 P) :: (nat_lit 272, o396 P) :: (nat_lit 273, o397 P) :: (nat_lit 274, o398 P) :: (nat_lit 275, o399 P) :: (nat_lit 276, o400 P) :: (nat_lit 277, o401 P) :: (nat_lit 278, o402 P) :: (nat_lit 279, o403 P) :: (nat_lit 280, o404 P) :: (nat_lit 281, o405 P) :: (nat_lit 282, o406 P) :: (nat_lit 283, o407 P) :: (nat_lit 284, o408 P) :: (nat_lit 285, o409 P) :: (nat_lit 286, o410 P) :: (nat_lit 287, o411 P) :: (nat_lit 288, o43 P) :: (nat_lit 290, o43 P) :: (nat_lit 291, o43 P) :: (nat_lit 293, o417 P) :: (nat_lit 294, o418 P) :: (nat_lit 295, o43 P) :: (nat_lit 297, o43 P) :: (nat_lit 298, o43 P) :: (nat_lit 300, o424 P) :: (nat_lit 301, o425 P) :: (nat_lit 302, o43 P) :: (nat_lit 304, o428 P) :: (nat_lit 305, o43 P) :: (nat_lit 307, o431 P) :: (nat_lit 308, o432 P) :: (nat_lit 309, o43 P) :: (nat_lit 311, o435 P) :: (nat_lit 312, o43 P) :: (nat_lit 314, o438 P) :: (nat_lit 315, o439 P) :: (nat_lit 316, o43 P) :: (nat_lit 318, o442 P) :: (nat_lit 319, o43 P) :: (nat_lit 321, o445 P) :: (nat_lit 322, o446 P) :: (nat_lit 323, o43 P) :: (nat_lit 326, o450 P) :: (nat_lit 327, o451 P) :: (nat_lit 328, o43 P) :: (nat_lit 331, o455 P) :: (nat_lit 332, o456 P) :: (nat_lit 333, o43 P) :: (nat_lit 335, o459 P) :: (nat_lit 336, o43 P) :: (nat_lit 338, o462 P) :: (nat_lit 339, o463 P) :: (nat_lit 340, o43 P) :: (nat_lit 342, o466 P) :: (nat_lit 343, o43 P) :: (nat_lit 345, o469 P) :: (nat_lit 346, o470 P) :: []
noncomputable abbrev addrs : List Addr := [2, 3, 15, 17, 18, 20, 21, 36, 43, 44, 45, 46, 49, 56, 57, 58, 68, 70, 71, 73, 74, 75, 76, 78, 79, 81, 82, 83, 85, 86, 88, 89, 90, 92, 93, 95, 96, 97, 98, 99, 100, 101, 104, 105, 106, 107, 108, 109, 112, 117, 118, 119, 120, 122, 123, 125, 126, 127, 129, 130, 132, 133, 134, 135, 136, 137, 138, 140, 141, 143, 144, 145, 147, 148, 150, 151, 152, 154, 155, 157, 158, 159, 161, 162, 164, 165, 166, 167, 168, 170, 171, 173, 174, 176, 177, 179, 181, 182, 183, 186, 188, 189, 191, 192, 193, 195, 196, 198, 199, 200, 202, 203, 205, 206, 207, 209, 210, 212, 213, 214, 216, 217, 219, 220, 221, 223, 224, 226, 227, 228, 230, 231, 233, 234, 235, 238, 239, 240, 242, 243, 245, 246, 247, 249, 250, 252, 253, 254, 256, 257, 259, 260, 261, 262, 263, 264, 265, 266, 267, 268, 269, 270, 271, 272, 273, 274, 275, 276, 277, 278, 279, 280, 281, 282, 283, 284, 285, 286, 287, 288, 290, 291, 293, 294, 295, 297, 298, 300, 301, 302, 304, 305, 307, 308, 309, 311, 312, 314, 315, 316, 318, 319, 321, 322, 323, 326, 327, 328, 331, 332, 333, 335, 336, 338, 339, 340, 342, 343, 345, 346]
noncomputable def envT : Env := { scope := prg.main.scope, locals := mainNs, globals := mainNs, cells := [], code := Value.ref 13, frame := some 14 }
noncomputable abbrev bd : List Stmt := behindTheImports prg
noncomputable abbrev cdT : Code := .body bd envT
noncomputable abbrev pz : Pos := ⟨0, 0, 0, 0⟩
noncomputable abbrev p1 : Pos := ⟨59, 0, 59, 29⟩
noncomputable abbrev p2 : Pos := ⟨60, 0, 103, 65⟩
noncomputable abbrev p3 : Pos := ⟨306, 0, 306, 8⟩
noncomputable abbrev p4 : Pos := ⟨380, 0, 392, 15⟩
noncomputable abbrev annT : Option Value := some (.ref 6)
noncomputable abbrev sT (t : BT) (n k : Nat) (os : OsState) : SharedT := ⟨t, n, {}, #[], {}, k, os⟩
theorem seg0 (w : World) (os : OsState) : topGo treeTable prg w 11 annT 12 ⟨boot_heap w.params, #[], boot_drawn, boot_toks, os⟩ (topStub prg) = some (⟨heap46 w.params, #[], {}, 187, os⟩, ⟨denote treeTable (.body bd envT), cdT, pz, [topFrame pz]⟩) := by
  rw [PySem.W.Fast.te15667345088766844465, PySem.W.Fast.te14364793385576792824, PySem.W.Fast.te11892475500146522536]
  kernel_rfl
theorem segB (w : World) (os : OsState) : segRun treeTable prg w 11 annT 1 1 ⟨heap46 w.params, #[], {}, 187, os⟩ (blockOf bd envT cdT pz [topFrame pz]) = some (.next, (sT (tree47 w.params) 15 187 os).abs, cdT, pz) := by
  rw [PySem.W.Fast.te14374325043358763698, PySem.W.Fast.te14364793385576792824]
  kernel_rfl
noncomputable abbrev b1 : List Stmt := bd.drop 4
noncomputable abbrev b2 : List Stmt := b1.drop 3
noncomputable abbrev b3 : List Stmt := b2.drop 7
noncomputable abbrev b4 : List Stmt := b3.drop 1
noncomputable abbrev pa : Pos := ⟨25, 0, 25, 8⟩
noncomputable abbrev pb : Pos := ⟨35, 0, 35, 8⟩
theorem seg1 (w : World) (os : OsState) : segRunT treeTable prg w 11 annT 1 381 (sT (tree47 w.params) 15 187 os) (piecesOf (bd.take 4) envT cdT pz [topFrame pz]) = some (.next, sT (tree71 w.params) 36 248 os, cdT, pa) := by
  rw [PySem.W.Fast.te10110043849684766642, PySem.W.Fast.te14364793385576792824]
  kernel_rfl
theorem seg1b (w : World) (os : OsState) : segRunT treeTable prg w 11 annT 1 451 (sT (tree71 w.params) 36 248 os) (piecesOf (b1.take 3) envT cdT pa [topFrame pz]) = some (.next, sT (tree102 w.params) 61 292 os, cdT, pb) := by
  rw [PySem.W.Fast.te10110043849684766642, PySem.W.Fast.te14364793385576792824]
  kernel_rfl
theorem seg1c (w : World) (os : OsState) : segRunT treeTable prg w 11 annT 1 411 (sT (tree102 w.params) 61 292 os) (piecesOf (b2.take 7) envT cdT pb [topFrame pz]) = some (.next, sT (tree153 w.params) 109 375 os, cdT, p1) := by
  rw [PySem.W.Fast.te10110043849684766642, PySem.W.Fast.te14364793385576792824]
  kernel_rfl
theorem seg2 (w : World) (os : OsState) : segRunT treeTable prg w 11 annT 1 1194 (sT (tree153 w.params) 109 375 os) (piecesOf (b3.take 1) envT cdT p1 [topFrame pz]) = some (.next, sT (tree232 w.params) 186 516 os, cdT, p2) := by
  rw [PySem.W.Fast.te10110043849684766642, PySem.W.Fast.te14364793385576792824]
  kernel_rfl
theorem seg3 (w : World) (os : OsState) : segRunT treeTable prg w 11 annT 1 372 (sT (tree232 w.params) 186 516 os) (piecesOf (b4.take 12) envT cdT p2 [topFrame pz]) = some (.next, sT (tree382 w.params) 261 640 os, cdT, p3) := by
  rw [PySem.W.Fast.te10110043849684766642, PySem.W.Fast.te14364793385576792824]
  kernel_rfl
theorem seg4 (w : World) (os : OsState) : segRunT treeTable prg w 11 annT 1 376 (sT (tree382 w.params) 261 640 os) (piecesOf (b4.drop 12) envT cdT p3 [topFrame pz]) = some (.next, sT (tree470 w.params) 347 760 os, cdT, p4) := by
  rw [PySem.W.Fast.te10110043849684766642, PySem.W.Fast.te14364793385576792824]
  kernel_rfl
theorem segE (w : World) (os : OsState) : topRun treeTable prg w 11 annT 2 (sT (tree470 w.params) 347 760 os).abs ⟨doneF .next, cdT, p4, [topFrame pz]⟩ = some ⟨heap471 w.params, #[], {}, 760, os⟩ := by
  rw [PySem.W.Fast.te14082659384304107361, PySem.W.Fast.te14364793385576792824]
  kernel_rfl
end Mine
namespace Mine
theorem take_rest {tb : String → Option Builtin} {p : Program} {w : World} {a : Option Value} {n m N : Nat} {s r : Shared} {l : List Stmt} {k : Nat} {e : Env} {c : Code} {q : Pos} {B : List Frame} (h : topRun tb p w m a N s (restOf (l.take k ++ l.drop k) e c q B) = some r) : topRun tb p w m a N s (restOf l e c q B) = some r := by
  rwa [List.take_append_drop] at h
theorem end_rest {tb : String → Option Builtin} {p : Program} {w : World} {a : Option Value} {m N : Nat} {s r : Shared} {l : List Stmt} {e : Env} {c : Code} {q : Pos} {B : List Frame} (h : topRun tb p w m a N s (restOf (l ++ []) e c q B) = some r) : topRun tb p w m a N s (restOf l e c q B) = some r := by
  rwa [List.append_nil] at h
theorem run_all (w : World) (os : OsState) : topRun treeTable prg w 11 annT (12 + (1 + (381 + (451 + (411 + (1194 + (372 + (376 + 2)))))))) ⟨boot_heap w.params, #[], boot_drawn, boot_toks, os⟩ (topStub prg) = some ⟨heap471 w.params, #[], {}, 760, os⟩ :=
  go_top (seg0 w os) (piece_block (segB w os) (take_rest (n := 0) (k := 4) (piece_app (segRun_of (seg1 w os)) (take_rest (n := 0) (k := 3) (piece_app (segRun_of (seg1b w os)) (take_rest (n := 0) (k := 7) (piece_app (segRun_of (seg1c w os)) (take_rest (n := 0) (k := 1) (piece_app (segRun_of (seg2 w os)) (take_rest (n := 0) (k := 12) (piece_app (segRun_of (seg3 w os)) (end_rest (piece_app (segRun_of (seg4 w os)) (piece_nil (segE w os)))))))))))))))
noncomputable def vq : Program := view prg [0, 2, 4, 5, 7, 8, 9, 10, 11, 12, 13, 14, 15, 16, 17, 18, 19, 20, 21, 22, 23, 24, 25, 27, 28, 29, 30, 31, 32, 33, 34, 35, 36]
noncomputable abbrev lo6 : List Str := ["ErrorCodes", "ProtocolError", "_tuplegetter", "SIGIL", "HeaderValidationFlags", "_law_blocks"]
noncomputable abbrev lv1 : List (Str × WData) := [("SIGIL", .int 58)]
noncomputable abbrev row0 : OpenRow := PySem.Challenge.rw_ix0032_01.row
noncomputable def hook : Hook := kmHook KF addrs (fun _ => rfl) [248, 255]
noncomputable abbrev Xt0 : Shared → Bool := fun s => xlAt vq lv1 s && recOk row0.toRowW.records s
theorem open0 : ∀ w : World, (fencedOpening treeTable prg w 20000).map (fun s => (s.heap, s.gens, s.drawn, s.toks)) = some (boot_heap w.params, Array.mk [], boot_drawn, boot_toks) :=
  boot_open (by kernel_rfl) (by rfl) (fun s => by kernel_rfl)
theorem size0 (w : World) : ((boot_heap w.params).isNs mainGlobals && (#[] : Array GenState).size == 0, (boot_heap w.params).objs.size, (boot_heap w.params).nsMap mainGlobals "__annotations__") = (true, 11, annT) := by
  rw [PySem.W.Fast.te8920871248978507458]
  kernel_rfl
noncomputable abbrev sE (w : World) (os : OsState) : Shared := ⟨heap471 w.params, #[], {}, 760, os⟩
theorem look1 (w : World) (os : OsState) : (staticsOk (importedModules prg.main.body) (boot_heap w.params) (heap471 w.params) && namesBound prg (heap471 w.params) && gensDone (sE w os) && laidKept (boot_heap w.params) (heap471 w.params)) = true := by
  rw [PySem.W.Fast.te5923862056798008813]
  kernel_rfl
theorem look_a (w : World) (os : OsState) : seen ((recsOf vq).map (·.name)) (ownsOf vq) [] { sE w os with gens := #[] } = expectedOf vq := by
  rw [PySem.W.Fast.te5160383126252970620]
  kernel_rfl
theorem look_b (w : World) (os : OsState) : (sE w os).heap.bltView = bltViewBooted := by kernel_rfl
theorem look_c (w : World) (os : OsState) : ((sE w os).heap.keysOk (looseW vq lo6) ((recsOf vq).map (·.name)) ((litsOf vq).map (·.1)) ((clssOf vq (looseW vq lo6)).map (·.name)) && (sE w os).heap.accountedOkI (importedModules prg.main.body) && (sE w os).heap.isNs mainGlobals && (sE w os).heap.isNs builtinsNs && tablesOk vq (sE w os).heap && Xt0 (sE w os) && (if true then (sE w os).gens.size == 0 else !leftWithCleanup (sE w os).gens)) = true := by
  rw [PySem.W.Fast.te10880121769531294198, PySem.W.Fast.te821141287760084731, PySem.W.Fast.te14722251495701143533, PySem.W.Fast.te10994771534591457954]
  kernel_rfl
theorem look_d (w : World) (os : OsState) : tabsOk vq (sE w os) = true := by
  rw [PySem.W.Fast.te479339242167458305]
  kernel_rfl
theorem look_e (w : World) (os : OsState) : pinSeenD vq (drecsOf vq) (sE w os) = pinGoodD (drecsOf vq) := by
  rw [PySem.W.Fast.te16090120013241838585, PySem.W.Fast.te3247288618530077131]
  kernel_rfl
theorem look_f (w : World) (os : OsState) : plainSeenE vq (looseW vq lo6) (sE w os) = plainGoodE vq (looseW vq lo6) := by
  rw [PySem.W.Fast.te2386780881361962483, PySem.W.Fast.te821141287760084731]
  kernel_rfl
theorem look_g (w : World) (os : OsState) : plainSeenD vq lo6 (sE w os) = plainGoodD vq lo6 := by
  rw [PySem.W.Fast.te11698064438423848299]
  kernel_rfl
theorem look_h (w : World) (os : OsState) : wideSeen vq (sE w os) = wideGood vq := by
  rw [PySem.W.Fast.te7317090234206586261]
  kernel_rfl
theorem look_i (w : World) (os : OsState) : clsSeenW vq lo6 (sE w os) = clsGoodW vq lo6 := by
  rw [PySem.W.Fast.te7369524293546568484]
  kernel_rfl
theorem look_k (w : World) (os : OsState) : hook.obs (sE w os) = hook.val w := by kernel_rfl
theorem left0 : LeftO prg vq lo6 Xt0 hook.obs hook.val 20000 true :=
  LeftO.of_pieces open0 size0 run_all (by decide) fun w => funext fun os => looks_pair (look1 w os) (looks_pair (looks_pair (look_a w os) (looks_pair (look_b w os) (looks_pair (look_c w os) (looks_pair (look_d w os) (looks_pair (look_e w os) (looks_pair (look_f w os) (looks_pair (look_g w os) (looks_pair (look_h w os) (look_i w os))))))))) (look_k w os))
end Mine
namespace Mine
-- Fa
open PySem PySem.W PyProof.Rows PySem.Calls
set_option Elab.async false
set_option maxRecDepth 4000

/- ---------- heaps ---------- -/
noncomputable def solid (o : Obj) : Prop :=
  o.cls = .type "list" ∨ o.cls = .type "tuple" ∨ o.cls = .type "cell" ∨ o.cls = .type "function" ∨ o.cls = .type "dict" ∨ o.cls = .type "set" ∨ ∃ a, o.cls = .ref a

noncomputable def Md (h h' : Heap) : Prop := ∀ b o, h.get? b = some o → solid o → h'.get? b = some o
theorem Md.refl (h : Heap) : Md h h := fun _ _ e _ => e
theorem Md.trans {h₁ h₂ h₃ : Heap} (x : Md h₁ h₂) (y : Md h₂ h₃) : Md h₁ h₃ := fun b o e q => y b o (x b o e q) q
theorem Md.of_stays {h h' : Heap} (x : h.StaysIn h') : Md h h' := fun b o e _ => x b o e

structure Pd where
  p : Heap → Value → Prop
  mono : ∀ {h h' : Heap} {v : Value}, Md h h' → p h v → p h' v

noncomputable def IsDct (o : Obj) : Prop := ∃ es n, o.data = .dict es n

structure Grow (W : Addr → Prop) (G : Nat → Prop) (s s' : Shared) : Prop where
  le : ∀ b o, s.heap.get? b = some o → ¬ W b → ∃ o', s'.heap.get? b = some o' ∧ (o' = o ∨ (o.cls = .type "frame" ∧ ∃ sl, o' = { o with slots := sl }))
  dom : ∀ b o, s.heap.get? b = some o → ∃ o', s'.heap.get? b = some o' ∧ o'.cls = o.cls ∧ (IsDct o → IsDct o')
  gens : ∀ i x, s.gens[i]? = some x → ¬ G i → s'.gens[i]? = some x
  gsz : s.gens.size ≤ s'.gens.size

noncomputable abbrev noW : Addr → Prop := fun _ => False
noncomputable abbrev noG : Nat → Prop := fun _ => False
noncomputable abbrev Grow0 (s s' : Shared) : Prop := Grow noW noG s s'

theorem Grow.refl (W : Addr → Prop) (G : Nat → Prop) (s : Shared) : Grow W G s s := ⟨fun _ o e _ => ⟨o, e, .inl rfl⟩, fun _ o e => ⟨o, e, rfl, fun x => x⟩, fun _ _ e _ => e, Nat.le_refl _⟩
theorem Grow.trans {W : Addr → Prop} {G : Nat → Prop} {s₁ s₂ s₃ : Shared} (x : Grow W G s₁ s₂) (y : Grow W G s₂ s₃) : Grow W G s₁ s₃ := by
  refine ⟨fun b o e hw => ?_, fun b o e => ?_, fun i g e hg => y.gens i g (x.gens i g e hg) hg, Nat.le_trans x.gsz y.gsz⟩
  · obtain ⟨o₁, e₁, r₁⟩ := x.le b o e hw
    obtain ⟨o₂, e₂, r₂⟩ := y.le b o₁ e₁ hw
    refine ⟨o₂, e₂, ?_⟩
    rcases r₁ with rfl | ⟨c₁, sl, rfl⟩
    · exact r₂
    · rcases r₂ with rfl | ⟨_, sl', rfl⟩
      · exact .inr ⟨c₁, sl, rfl⟩
      · exact .inr ⟨c₁, sl', rfl⟩
  · obtain ⟨o₁, e₁, c₁, d₁⟩ := x.dom b o e
    obtain ⟨o₂, e₂, c₂, d₂⟩ := y.dom b o₁ e₁
    exact ⟨o₂, e₂, c₂.trans c₁, fun q => d₂ (d₁ q)⟩
theorem Grow.weaken {W W' : Addr → Prop} {G G' : Nat → Prop} {s s' : Shared} (x : Grow W G s s') (hW : ∀ b, W b → W' b) (hG : ∀ i, G i → G' i) : Grow W' G' s s' :=
  ⟨fun b o e hw => x.le b o e fun q => hw (hW b q), x.dom, fun i g e hg => x.gens i g e fun q => hg (hG i q), x.gsz⟩
theorem Grow.of0 {W : Addr → Prop} {G : Nat → Prop} {s s' : Shared} (x : Grow0 s s') : Grow W G s s' := x.weaken (fun _ q => q.elim) (fun _ q => q.elim)
theorem Grow.md {W : Addr → Prop} {G : Nat → Prop} {s s' : Shared} (x : Grow W G s s') (hW : ∀ b o, W b → s.heap.get? b = some o → ¬ solid o) : Md s.heap s'.heap := fun b o e q => by
  obtain ⟨o', e', r⟩ := x.le b o e fun w => hW b o w e q
  rcases r with rfl | ⟨c, sl, rfl⟩
  · exact e'
  · exfalso
    unfold solid at q
    rw [c] at q
    rcases q with q | q | q | q | q | q | ⟨a, q⟩ <;> first | (exact absurd (Value.type.inj q) (by decide)) | cases q
theorem Grow.md0 {s s' : Shared} (x : Grow0 s s') : Md s.heap s'.heap := x.md fun _ _ w => w.elim
/-- only the heap, and it only grows -/
theorem Grow.of_stays {W : Addr → Prop} {G : Nat → Prop} {s s' : Shared} (x : s.heap.StaysIn s'.heap) (hg : s'.gens = s.gens) : Grow W G s s' :=
  ⟨fun b o e _ => ⟨o, x b o e, .inl rfl⟩, fun b o e => ⟨o, x b o e, rfl, fun q => q⟩, fun i g e _ => by rw [hg]; exact e, by rw [hg]; exact Nat.le_refl _⟩
theorem Grow.get {W : Addr → Prop} {G : Nat → Prop} {s s' : Shared} (x : Grow W G s s') {b : Addr} {o : Obj} (e : s.heap.get? b = some o) (hw : ¬ W b) (hc : o.cls ≠ .type "frame") : s'.heap.get? b = some o := by
  obtain ⟨o', e', r⟩ := x.le b o e hw
  rcases r with rfl | ⟨c, _⟩
  · exact e'
  · exact absurd c hc
theorem Grow.ns {W : Addr → Prop} {G : Nat → Prop} {s s' : Shared} (x : Grow W G s s') {L : Addr} {m : Str → Option Value} (n : s.heap.Ns L m) (hw : ¬ W L) : s'.heap.Ns L m := by
  obtain ⟨o, es, ep, e, hd, r⟩ := n
  obtain ⟨o', e', q⟩ := x.le L o e hw
  rcases q with rfl | ⟨_, sl, rfl⟩
  · exact ⟨_, es, ep, e', hd, r⟩
  · exact ⟨_, es, ep, e', hd, r⟩

/- ---------- the context of the run ---------- -/
structure Cx where
  prog : Program
  w : World
  hb : Heap
  os : OsState
  mg : Str → Option Value
  mb : Str → Option Value
  K : (KF w.params).In hb
  g : hb.Ns mainGlobals mg
  b : hb.Ns builtinsNs mb
  nolimit : hb.NoLimit
  free : ∀ x : Str, x ∈ (["len", "range", "sorted", "list", "set", "bytes", "chr", "type", "tuple", "issubclass"] : List Str) → mg x = none
  builtins : ∀ x : Str, x ≠ "__name__" → mb x = bootBuiltins x
  tabs : List (Addr × Addr)
  top : ∃ p loose, TopRead p loose mg mb hb
  bim : ∃ bm o, mg "__builtins__" = some (.ref bm) ∧ bm ≠ builtinsNs ∧ hb.get? bm = some o ∧ o.cls = .type "module" ∧ o.dict = some builtinsNs ∧ o.data = .plain
  tabN : ∀ q ∈ tabs, hb.get? q.2 = none
  tabU : ∀ q ∈ tabs, ∀ r ∈ tabs, q.2 = r.2 → q.1 = r.1

structure Inv (Γ : Cx) (s : Shared) : Prop where
  base : Γ.hb.StaysIn s.heap
  tabs : ∀ q ∈ Γ.tabs, ∃ ps, s.heap.IsCode q.1 q.2 ps ∧ s.heap.TableAt q.1 q.2 ps
  os : s.os = Γ.os
  bare : AllBare s.gens

noncomputable def Frs (hb h : Heap) (l : List Env) : Prop := h.FunFrames hb l ∧ ∀ env ∈ l, ∀ L, env.frame = some L → ∃ o, h.get? L = some o ∧ o.cls = .type "frame" ∧ IsDct o

structure Ok (Γ : Cx) (n : Nat) (A : Around) (h : Heap) : Prop where
  handled : A.handled = none
  depth : A.depth + 4 * n + 8 ≤ recursionLimit
  units : A.units + 40 * n + 80 ≤ cLine
  guards : A.guards = some []
  frames : ∃ outer, A.frames = some outer ∧ Frs Γ.hb h outer

theorem Frs.grow {hb : Heap} {l : List Env} {W : Addr → Prop} {G : Nat → Prop} {s s' : Shared} (x : Frs hb s.heap l) (g : Grow W G s s') : Frs hb s'.heap l := by
  obtain ⟨x₁, x₂⟩ := x
  constructor
  · induction l with
    | nil => trivial
    | cons env rest ih =>
      obtain ⟨hk, ⟨L, o, hf, hn, ho, hd⟩, hr⟩ := x₁
      obtain ⟨o₁, e₁, c₁, d₁⟩ := x₂ env (.head _) L hf
      obtain ⟨o', e', c', d'⟩ := g.dom L o₁ e₁
      obtain ⟨es, n, q⟩ := d' d₁
      exact ⟨hk, ⟨L, o', hf, hn, e', fun vs r => by rw [q] at r; cases r⟩, ih hr fun env' m => x₂ env' (.tail _ m)⟩
  · intro env m L hf
    obtain ⟨o, e, c, d⟩ := x₂ env m L hf
    obtain ⟨o', e', c', d'⟩ := g.dom L o e
    exact ⟨o', e', c'.trans c, d' d⟩
theorem Ok.grow {Γ : Cx} {n : Nat} {A : Around} {W : Addr → Prop} {G : Nat → Prop} {s s' : Shared} (x : Ok Γ n A s.heap) (g : Grow W G s s') : Ok Γ n A s'.heap :=
  ⟨x.handled, x.depth, x.units, x.guards, let ⟨o, e, f⟩ := x.frames; ⟨o, e, f.grow g⟩⟩
theorem Ok.le {Γ : Cx} {n m : Nat} {A : Around} {h : Heap} (x : Ok Γ n A h) (l : m ≤ n) : Ok Γ m A h :=
  ⟨x.handled, by have := x.depth; omega, by have := x.units; omega, x.guards, x.frames⟩
theorem Ok.room {Γ : Cx} {n : Nat} {A : Around} {h : Heap} (x : Ok Γ n A h) : A.depth < recursionLimit := by have := x.depth; omega
theorem Ok.un {Γ : Cx} {n : Nat} {A : Around} {h : Heap} (x : Ok Γ n A h) : A.units < cLine := by have := x.units; omega

/-- all the run keeps -/
theorem Inv.stays {Γ : Cx} {s s' : Shared} (x : Inv Γ s) (k : s.heap.StaysIn s'.heap) (ho : s'.os = s.os) (hg : s'.gens = s.gens) : Inv Γ s' :=
  ⟨fun b o e => k b o (x.base b o e), fun q m => let ⟨ps, a, b⟩ := x.tabs q m; ⟨ps, a.keeps k, b.keeps k⟩, ho.trans x.os, by rw [hg]; exact x.bare⟩

noncomputable abbrev Cx.M (Γ : Cx) : Model := model Γ.prog Γ.w
noncomputable abbrev Cx.Kf (Γ : Cx) : Frag := KF Γ.w.params
theorem Inv.K {Γ : Cx} {s : Shared} (x : Inv Γ s) : Γ.Kf.In s.heap := Γ.K.keeps x.base
theorem Inv.nolimit {Γ : Cx} {s : Shared} (x : Inv Γ s) : s.heap.NoLimit := Γ.nolimit.keeps x.base

/- ---------- predicates on values ---------- -/
namespace Pd
noncomputable def eq (x : Value) : Pd := ⟨fun _ v => v = x, fun _ q => q⟩
noncomputable def int (i : Int) : Pd := ⟨fun _ v => ∃ t, v = .int i t, fun _ q => q⟩
noncomputable def bytes (b : List UInt8) : Pd := ⟨fun _ v => ∃ t, v = .bytes b.toArray t, fun _ q => q⟩
noncomputable def text (n : Nat) : Pd := ⟨fun _ v => ∃ x t, v = .str x t ∧ x.length ≤ n, fun _ q => q⟩
noncomputable abbrev bool (b : Bool) : Pd := eq (.bool b)
noncomputable abbrev none : Pd := eq .none
noncomputable abbrev ref (a : Addr) : Pd := eq (.ref a)
end Pd

theorem solid_list {o : Obj} (h : o.cls = .type "list") : solid o := .inl h
theorem solid_tuple {o : Obj} (h : o.cls = .type "tuple") : solid o := .inr (.inl h)
theorem isList_md {h h' : Heap} {a : Addr} {xs : Array Value} (k : Md h h') (x : h.IsList a xs) : h'.IsList a xs := let ⟨o, e, c, r⟩ := x; ⟨o, k a o e (solid_list c), c, r⟩
theorem isTup_md {h h' : Heap} {a : Addr} {xs : Array Value} (k : Md h h') (x : IsTup h a xs) : IsTup h' a xs := let ⟨o, e, c, r⟩ := x; ⟨o, k a o e (solid_tuple c), c, r⟩

noncomputable def All2 (h : Heap) : List Pd → List Value → Prop
  | [], [] => True
  | P :: ps, v :: vs => P.p h v ∧ All2 h ps vs
  | _, _ => False
theorem All2.mono {h h' : Heap} (k : Md h h') : ∀ {ps : List Pd} {vs : List Value}, All2 h ps vs → All2 h' ps vs
  | [], [], _ => trivial
  | P :: _, _ :: _, ⟨x, y⟩ => ⟨P.mono k x, All2.mono k y⟩
theorem All2.length {h : Heap} : ∀ {ps : List Pd} {vs : List Value}, All2 h ps vs → vs.length = ps.length
  | [], [], _ => rfl
  | _ :: _, _ :: _, ⟨_, y⟩ => congrArg (· + 1) (All2.length y)
theorem All2.get {h : Heap} : ∀ {ps : List Pd} {vs : List Value} (_ : All2 h ps vs) {i : Nat} {P : Pd}, ps[i]? = some P → ∃ v, vs[i]? = some v ∧ P.p h v
  | _ :: _, v :: _, ⟨x, _⟩, 0, _, e => by cases e; exact ⟨v, rfl, x⟩
  | _ :: _, _ :: _, ⟨_, y⟩, i + 1, _, e => All2.get (i := i) y (by simpa using e)
theorem All2.append {h : Heap} : ∀ {ps qs : List Pd} {vs ws : List Value}, All2 h ps vs → All2 h qs ws → All2 h (ps ++ qs) (vs ++ ws)
  | [], _, [], _, _, y => y
  | _ :: _, _, _ :: _, _, ⟨a, b⟩, y => ⟨a, All2.append b y⟩
theorem All2.take {h : Heap} : ∀ {ps : List Pd} {vs : List Value} (_ : All2 h ps vs) (i : Nat), All2 h (ps.take i) (vs.take i)
  | [], [], _, i => by simp [All2]
  | _ :: _, _ :: _, _, 0 => trivial
  | _ :: _, _ :: _, ⟨a, b⟩, i + 1 => ⟨a, All2.take b i⟩
theorem All2.drop {h : Heap} : ∀ {ps : List Pd} {vs : List Value} (_ : All2 h ps vs) (i : Nat), All2 h (ps.drop i) (vs.drop i)
  | [], [], _, i => by simp [All2]
  | _ :: _, _ :: _, x, 0 => x
  | _ :: _, _ :: _, ⟨_, b⟩, i + 1 => All2.drop b i

namespace Pd
noncomputable def lst (ps : List Pd) : Pd := ⟨fun h v => ∃ a vs, v = .ref a ∧ h.IsList a vs.toArray ∧ All2 h ps vs, by intro h h' v k ⟨a, vs, e, l, r⟩; exact ⟨a, vs, e, isList_md k l, r.mono k⟩⟩
noncomputable def tup (ps : List Pd) : Pd := ⟨fun h v => ∃ a vs, v = .ref a ∧ IsTup h a vs.toArray ∧ All2 h ps vs, by intro h h' v k ⟨a, vs, e, l, r⟩; exact ⟨a, vs, e, isTup_md k l, r.mono k⟩⟩
/-- a list with these very items -/
noncomputable def lstV (vs : List Value) : Pd := ⟨fun h v => ∃ a, v = .ref a ∧ h.IsList a vs.toArray, by intro h h' v k ⟨a, e, l⟩; exact ⟨a, e, isList_md k l⟩⟩
noncomputable def any : Pd := ⟨fun _ _ => True, fun _ _ => trivial⟩
end Pd

/- ---------- stores ---------- -/
noncomputable abbrev Sto := List (Str × Pd)
noncomputable def CellAt (h : Heap) (c : Addr) (v : Value) : Prop := ∃ o, h.get? c = some o ∧ o.cls = .type "cell" ∧ o.data = .cell (some v)
theorem CellAt.md {h h' : Heap} {c : Addr} {v : Value} (k : Md h h') (x : CellAt h c v) : CellAt h' c v := let ⟨o, e, q, r⟩ := x; ⟨o, k c o e (.inr (.inr (.inl q))), q, r⟩
noncomputable def Loads (env : Env) (h : Heap) (x : Str) (v : Value) : Prop :=
  (env.kindOf x = some .local ∧ ∃ m, h.Ns env.locals m ∧ m x = some v) ∨
  ((env.kindOf x = some .cell ∨ (env.kindOf x = some .free ∧ (x == ("__classdict__" : Str)) = false)) ∧ ∃ c, env.cells.lookup x = some c ∧ CellAt h c v)
noncomputable def Sat (env : Env) (h : Heap) (σ : Sto) : Prop := ∀ x P, σ.lookup x = some P → ∃ v, Loads env h x v ∧ P.p h v
theorem Loads.grow {env : Env} {x : Str} {v : Value} {W : Addr → Prop} {G : Nat → Prop} {s s' : Shared} (g : Grow W G s s') (k : Md s.heap s'.heap) (hL : ¬ W env.locals) (l : Loads env s.heap x v) : Loads env s'.heap x v :=
  l.imp (fun ⟨a, m, n, e⟩ => ⟨a, m, g.ns n hL, e⟩) fun ⟨a, c, e, q⟩ => ⟨a, c, e, q.md k⟩
theorem Sat.grow0 {env : Env} {σ : Sto} {s s' : Shared} (x : Sat env s.heap σ) (g : Grow0 s s') : Sat env s'.heap σ := fun y P e =>
  let ⟨v, l, q⟩ := x y P e; ⟨v, l.grow g g.md0 (fun f => f), P.mono g.md0 q⟩

/- ---------- expressions ---------- -/
noncomputable def Post (Γ : Cx) (s : Shared) (P : Pd) (Q : Value → Shared → Prop) : Prop := ∀ v s', Inv Γ s' → Grow0 s s' → P.p s'.heap v → Q v s'
theorem Post.grow {Γ : Cx} {s s' : Shared} {P : Pd} {Q : Value → Shared → Prop} (x : Post Γ s P Q) (g : Grow0 s s') : Post Γ s' P Q := fun v s'' i g' q => x v s'' i (g.trans g') q
theorem Post.here {Γ : Cx} {s : Shared} {P : Pd} {Q : Value → Shared → Prop} (x : Post Γ s P Q) (i : Inv Γ s) {v : Value} {h' : Heap} {tk : Nat} (k : s.heap.StaysIn h') (q : P.p h' v) : Q v { s with heap := h', toks := tk } :=
  x v _ (i.stays (s' := { s with heap := h', toks := tk }) k rfl rfl) (.of_stays (s' := { s with heap := h', toks := tk }) k rfl) q
theorem Post.same {Γ : Cx} {s : Shared} {P : Pd} {Q : Value → Shared → Prop} (x : Post Γ s P Q) (i : Inv Γ s) {v : Value} {tk : Nat} (q : P.p s.heap v) : Q v { s with toks := tk } :=
  x.here (h' := s.heap) i (fun _ _ e => e) q

structure EnvOk (env : Env) : Prop where
  kind : env.scope.kind = .function
  glob : env.globals = mainGlobals
  blt : env.builtins = builtinsNs

noncomputable def EvD (Γ : Cx) (n : Nat) (env : Env) (σ : Sto) (e : Expr) (P : Pd) : Prop :=
  ∀ (A : Around) (s : Shared) (Q E : Value → Shared → Prop), Ok Γ n A s.heap → Inv Γ s → Sat env s.heap σ → Post Γ s P Q → wpAny Γ.M A (eval e env) Q E s

noncomputable def Op1 (Γ : Cx) (n : Nat) (f : Value → Sem Value) (P R : Pd) : Prop :=
  ∀ (A : Around) (s : Shared) (a : Value) (Q E : Value → Shared → Prop), Ok Γ n A s.heap → Inv Γ s → P.p s.heap a → Post Γ s R Q → wpAny Γ.M A (f a) Q E s
noncomputable def Op2 (Γ : Cx) (n : Nat) (f : Value → Value → Sem Value) (P₁ P₂ R : Pd) : Prop :=
  ∀ (A : Around) (s : Shared) (a b : Value) (Q E : Value → Shared → Prop), Ok Γ n A s.heap → Inv Γ s → P₁.p s.heap a → P₂.p s.heap b → Post Γ s R Q → wpAny Γ.M A (f a b) Q E s

section
variable {Γ : Cx} {n : Nat} {env : Env} {σ : Sto}

theorem EvD.le {m : Nat} {e : Expr} {P : Pd} (x : EvD Γ n env σ e P) (l : n ≤ m) : EvD Γ m env σ e P := fun A s Q E o i t p => x A s Q E (o.le l) i t p
theorem EvD.imp {e : Expr} {P R : Pd} (x : EvD Γ n env σ e P) (h : ∀ h v, P.p h v → R.p h v) : EvD Γ n env σ e R := fun A s Q E o i t p => x A s Q E o i t fun v s' i' g q => p v s' i' g (h _ _ q)

theorem EvD.name {x : Str} {pos : Pos} {P : Pd} (he : EnvOk env) (hx : σ.lookup x = some P) (hd : (x == ("__debug__" : Str)) = false := by decide) : EvD Γ n env σ (.Name x pos) P := fun A s Q E _ i t p => by
  obtain ⟨v, l, q⟩ := t x P hx
  refine wpAny_Name ?_ hd
  rcases l with ⟨a, m, nn, e⟩ | ⟨a, c, e, o, q1, _, q3⟩
  · exact wpAny_loadName_local he.kind a nn e (p.same i q)
  · rcases a with a | ⟨a, hn⟩
    · exact wpAny_loadName_cell he.kind a e ⟨o, q1, q3⟩ (p.same i q)
    · exact wpAny_loadName_free he.kind a e ⟨o, q1, q3⟩ (p.same i q) hn

theorem EvD.global {x : Str} {pos : Pos} {v : Value} (he : EnvOk env) (hx : env.kindOf x = some .globalImplicit) (hv : Γ.mg x = some v) (hd : (x == ("__debug__" : Str)) = false := by decide) : EvD Γ n env σ (.Name x pos) (.eq v) := fun A s Q E _ i _ p =>
  Name_function_global he.kind hx (loadGlobal_global (mg := Γ.mg) (by rw [he.glob]; exact Γ.g.keeps i.base) hv (p.same i rfl)) hd
theorem EvD.builtin {x : Str} {pos : Pos} {v : Value} (he : EnvOk env) (hx : env.kindOf x = some .globalImplicit) (hf : x ∈ (["len", "range", "sorted", "list", "set", "bytes", "chr", "type", "tuple", "issubclass"] : List Str)) (hv : bootBuiltins x = some v)
    (hn : x ≠ "__name__" := by decide) (hd : (x == ("__debug__" : Str)) = false := by decide) : EvD Γ n env σ (.Name x pos) (.eq v) := fun A s Q E _ i _ p =>
  Name_function_global he.kind hx (loadGlobal_builtin (mg := Γ.mg) (mb := Γ.mb) (by rw [he.glob]; exact Γ.g.keeps i.base) (Γ.free x hf) (by rw [he.blt]; exact Γ.b.keeps i.base) ((Γ.builtins x hn).trans hv) (p.same i rfl)) hd

theorem EvD.cint {i : Int} {k pos} : EvD Γ n env σ (.Constant (.int i) k pos) (.int i) := fun _ _ _ _ _ iv _ p => wpAny_Constant_int (p.same iv ⟨_, rfl⟩)
theorem EvD.cbytes {b : List UInt8} {k pos} : EvD Γ n env σ (.Constant (.bytes b) k pos) (.bytes b) := fun _ _ _ _ _ iv _ p => Constant_bytes (p.same iv ⟨_, rfl⟩)
theorem EvD.cbool {b : Bool} {k pos} : EvD Γ n env σ (.Constant (.bool b) k pos) (.bool b) := fun _ _ _ _ _ iv _ p => wpAny_Constant_bool (p.same iv rfl)
theorem EvD.cnone {k pos} : EvD Γ n env σ (.Constant .none k pos) .none := fun _ _ _ _ _ iv _ p => wpAny_Constant_none (p.same iv rfl)
theorem EvD.cstr {x : Str} {m : Nat} {k pos} (h : x.length ≤ m) : EvD Γ n env σ (.Constant (.str x) k pos) (.text m) := fun _ _ _ _ _ iv _ p => wpAny_Constant_str (p.same iv ⟨_, _, rfl, h⟩)

theorem EvD.binop {l r : Expr} {op pos} {P₁ P₂ R : Pd} (x : EvD Γ n env σ l P₁) (y : EvD Γ n env σ r P₂) (f : Op2 Γ n (binaryOp op) P₁ P₂ R) : EvD Γ n env σ (.BinOp l op r pos) R := fun A s Q E o i t p =>
  wpAny_BinOp (x A s _ _ o i t fun a s₁ i₁ g₁ q₁ => y A s₁ _ _ (o.grow g₁) i₁ (t.grow0 g₁) fun b s₂ i₂ g₂ q₂ =>
    f A s₂ a b Q E ((o.grow g₁).grow g₂) i₂ (P₁.mono g₂.md0 q₁) q₂ (p.grow (g₁.trans g₂)))
theorem EvD.compare {l r : Expr} {op pos} {P₁ P₂ R : Pd} (x : EvD Γ n env σ l P₁) (y : EvD Γ n env σ r P₂) (f : Op2 Γ n (compareOp op) P₁ P₂ R) (hm : behindInMarks op r = false := by rfl) : EvD Γ n env σ (.Compare l [op] [r] pos) R := fun A s Q E o i t p =>
  wpAny_Compare1 (x A s _ _ o i t fun a s₁ i₁ g₁ q₁ => y A s₁ _ _ (o.grow g₁) i₁ (t.grow0 g₁) fun b s₂ i₂ g₂ q₂ =>
    f A s₂ a b Q E ((o.grow g₁).grow g₂) i₂ (P₁.mono g₂.md0 q₁) q₂ (p.grow (g₁.trans g₂))) hm
end

-- Fb
open PySem PySem.W PyProof.Rows PySem.Calls
set_option Elab.async false
set_option maxRecDepth 4000
set_option linter.unusedVariables false
set_option linter.unusedSimpArgs false

/- ---------- storing a local ---------- -/
theorem putName_kind {o : Obj} {name : Str} {hs : Int} {key v : Value} (h : IsDct o) : (Obj.putName name hs key v o).cls = o.cls ∧ IsDct (Obj.putName name hs key v o) ∧ (Obj.putName name hs key v o).isFreed = false := by
  obtain ⟨c, d, dt, sl⟩ := o
  obtain ⟨es, n, hd⟩ := h
  simp only at hd; subst hd
  rw [Obj.putName_eq]
  cases hi : es.findIdx? (·.key.isStr name) with
  | some i => simp only [Obj.putNameByArray, hi]; exact ⟨trivial, ⟨_, _, rfl⟩, rfl⟩
  | none => simp only [Obj.putNameByArray, hi]; exact ⟨trivial, ⟨_, _, rfl⟩, rfl⟩

theorem nsSet_at {M : Model} {A : Around} {E : Value → Shared → Prop} {s : Shared} {a : Addr} {m : Str → Option Value} {name : Str} {v : Value} {Q : Unit → Shared → Prop} (hn : s.heap.Ns a m)
    (h : ∀ h', h'.Ns a (fun x => if x = name then some v else m x) → Heap.SameBut a s.heap h' → (∀ o, s.heap.get? a = some o → ∃ o', h'.get? a = some o' ∧ o'.cls = o.cls ∧ IsDct o') → Q () { s with heap := h', toks := s.toks + 1 }) :
    wpAny M A (nsSet a name v) Q E s := fun Γ p hΓ => by
  have key : ∀ Q' : Unit → Pos → Shared → Prop, Sem.wp M Γ (nsSet a name v) Q' (fun e _ s' => E e s') p s =
      Q' () p { s with heap := s.heap.update a (Obj.putName name (if name.cps.isEmpty then 0 else reduceHash (M.w.params.strHash name.cps)) (.str name s.toks) v), toks := s.toks + 1 } := by
    intro Q'
    obtain ⟨o, es, ep, ho, hd, hk, hm⟩ := hn
    simp only [nsSet, strHash, Sem.wp_bind', Sem.wp_cmd_ask, Sem.wp_pure', Sem.wp_cmd_mkText]
    rw [Sem.wp_loadPart_of M Γ (fun e _ s' => E e s') p { s with toks := s.toks + 1 } (o := o) _ ho]
    have hany : es.any (·.refKey) = false := by
      rw [Array.any_eq_false']; intro e he; obtain ⟨n, t, h⟩ := hk e he; simp [DictEntry.refKey, h]
    simp only [hd, aRefKeyMayBeTheName_eq, aRefKeyMayBeTheNameByArray, hany, Bool.and_false, Bool.false_eq_true, if_false, Sem.wp_cmd_updatePart]
    refine propext ⟨fun x => x.2, fun x => ⟨by rw [ho]; rfl, x⟩⟩
  have f2 := Sem.wp_nsSet M Γ (fun e _ s' => E e s') p s hn name v (fun _ _ s' => s'.heap.Ns a (fun x => if x = name then some v else m x) ∧ Heap.SameBut a s.heap s'.heap) fun h' a1 a2 => ⟨a1, a2⟩
  rw [key] at f2
  show Sem.wp M Γ (nsSet a name v) (fun u _ s' => Q u s') (fun e _ s' => E e s') p s
  rw [key]
  refine h _ f2.1 f2.2 fun o ho => ?_
  have hdct : IsDct o := by
    obtain ⟨o₁, es, ep, ho₁, hd, _⟩ := hn
    rw [ho₁] at ho; cases ho; exact ⟨es, ep, hd⟩
  obtain ⟨q1, q2, q3⟩ := putName_kind (name := name) (hs := if name.cps.isEmpty then 0 else reduceHash (M.w.params.strHash name.cps)) (key := .str name s.toks) (v := v) hdct
  exact ⟨_, Heap.get?_update_self _ ho q3, q1, q2⟩

structure Act (env : Env) (h : Heap) : Prop where
  ns : ∃ m, h.Ns env.locals m
  fr : ∃ o, h.get? env.locals = some o ∧ o.cls = .type "frame"
noncomputable abbrev here (env : Env) : Addr → Prop := fun b => b = env.locals
noncomputable abbrev GrowL (env : Env) (s s' : Shared) : Prop := Grow (here env) noG s s'
theorem Act.md {env : Env} {s s' : Shared} (a : Act env s.heap) {G : Nat → Prop} (g : Grow (here env) G s s') : Md s.heap s'.heap := g.md fun b o hb e q => by
  obtain ⟨o', e', c⟩ := a.fr
  rw [show b = env.locals from hb, e'] at e
  cases e
  unfold solid at q
  rw [c] at q
  rcases q with q | q | q | q | q | q | ⟨a, q⟩ <;> first | (exact absurd (Value.type.inj q) (by decide)) | cases q
theorem Act.grow {env : Env} {W : Addr → Prop} {G : Nat → Prop} {s s' : Shared} (a : Act env s.heap) (g : Grow W G s s') (hw : ¬ W env.locals) : Act env s'.heap := by
  obtain ⟨⟨m, n⟩, o, e, c⟩ := a
  refine ⟨⟨m, g.ns n hw⟩, ?_⟩
  obtain ⟨o', e', c', _⟩ := g.dom _ _ e
  exact ⟨o', e', c'.trans c⟩
theorem Act.grow0 {env : Env} {s s' : Shared} (a : Act env s.heap) (g : Grow0 s s') : Act env s'.heap := a.grow g fun f => f

theorem lookup_cons_ne {x y : Str} {P : Pd} {σ : Sto} (h : ¬ y = x) : List.lookup y ((x, P) :: σ) = σ.lookup y := by
  have : (y == x) = false := by simpa using h
  simp [List.lookup_cons, this]
theorem lookup_cons_eq {x : Str} {P : Pd} {σ : Sto} : List.lookup x ((x, P) :: σ) = some P := by simp [List.lookup_cons]

/-- what one store leaves -/
theorem store_at {Γ : Cx} {A : Around} {E : Value → Shared → Prop} {s : Shared} {env : Env} {σ : Sto} {x : Str} {v : Value} {P : Pd} {Q : Unit → Shared → Prop} (he : EnvOk env) (hb : Γ.hb.get? env.locals = none) (hx : env.kindOf x = some .local)
    (a : Act env s.heap) (i : Inv Γ s) (ts : ∀ q ∈ Γ.tabs, q.1 ≠ env.locals ∧ q.2 ≠ env.locals) (t : Sat env s.heap σ) (hp : P.p s.heap v) (h : ∀ s', Inv Γ s' → GrowL env s s' → Act env s'.heap → Sat env s'.heap ((x, P) :: σ) → Q () s') : wpAny Γ.M A (storeName env x v) Q E s := by
  obtain ⟨m, n⟩ := a.ns
  have hpq : (env.scope.kind == .class || (env.scope.kind == .module && env.locals != env.globals)) = false := by rw [he.kind]; rfl
  rw [storeName_local hx hpq]
  refine nsSet_at n fun h' n' sb hc => ?_
  obtain ⟨oL, eL, cL⟩ := a.fr
  obtain ⟨oL', eL', cL', dL'⟩ := hc oL eL
  have g : GrowL env s { s with heap := h', toks := s.toks + 1 } := by
    refine ⟨fun b o e hw => ⟨o, (sb.2 b hw).trans e, .inl rfl⟩, fun b o e => ?_, fun _ _ e _ => e, Nat.le_refl _⟩
    by_cases hbL : b = env.locals
    · subst hbL
      rw [eL] at e; cases e
      exact ⟨oL', eL', cL', fun _ => dL'⟩
    · exact ⟨o, (sb.2 b hbL).trans e, rfl, fun q => q⟩
  have md : Md s.heap h' := a.md g
  refine h _ ⟨fun b o e => ?_, fun q mq => ?_, i.os, i.bare⟩ g ⟨⟨_, n'⟩, oL', eL', cL'.trans cL⟩ fun y R hy => ?_
  · exact (sb.2 b fun q => by rw [q, hb] at e; cases e).trans (i.base b o e)
  · obtain ⟨ps, c1, c2⟩ := i.tabs q mq
    obtain ⟨n1, n2⟩ := ts q mq
    exact ⟨ps, by
      obtain ⟨o, vs, file, tf, flags, tg, inF, text, tt, op, ho, r1, r2, r3, r4, r5, r6, hop, r7⟩ := c1
      exact ⟨o, vs, file, tf, flags, tg, inF, text, tt, op, (sb.2 _ n1).trans ho, r1, r2, r3, r4, r5, r6, (sb.2 _ n2).trans hop, r7⟩, by
      obtain ⟨⟨o, vs, e1, r⟩, e2⟩ := c2
      exact ⟨⟨o, vs, (sb.2 _ n1).trans e1, r⟩, (sb.2 _ n2).trans e2⟩⟩
  · by_cases hyx : y = x
    · subst hyx
      rw [lookup_cons_eq] at hy; cases hy
      exact ⟨v, .inl ⟨hx, _, n', by simp⟩, P.mono md hp⟩
    · rw [lookup_cons_ne hyx] at hy
      obtain ⟨u, l, q⟩ := t y R hy
      refine ⟨u, ?_, R.mono md q⟩
      rcases l with ⟨k, m₁, n₁, e⟩ | ⟨k, c, e, q2⟩
      · left
        refine ⟨k, _, n', ?_⟩
        simp only [hyx, if_false]
        obtain ⟨o1, es1, ep1, a1, a2, a3, a4⟩ := n
        obtain ⟨o2, es2, ep2, b1, b2, b3, b4⟩ := n₁
        rw [a1] at b1; cases b1
        rw [a2] at b2; cases b2
        rw [← a4, b4]; exact e
      · exact .inr ⟨k, c, e, q2.md md⟩

/-- side facts on a frame of the run -/
structure Own (Γ : Cx) (env : Env) : Prop where
  ok : EnvOk env
  new : Γ.hb.get? env.locals = none
  tab : ∀ q ∈ Γ.tabs, q.1 ≠ env.locals ∧ q.2 ≠ env.locals

/- ---------- statements ---------- -/
noncomputable def StD (Γ : Cx) (n : Nat) (env : Env) (σ : Sto) (st : Stmt) (σ' : Sto) : Prop :=
  ∀ (A : Around) (s : Shared) (Q : Flow → Shared → Prop) (E : Value → Shared → Prop), Ok Γ n A s.heap → Inv Γ s → Own Γ env → Act env s.heap → Sat env s.heap σ →
    (∀ s', Inv Γ s' → GrowL env s s' → Act env s'.heap → Sat env s'.heap σ' → Q .next s') → wpAny Γ.M A (exec st env) Q E s
noncomputable def StsD (Γ : Cx) (n : Nat) (env : Env) (σ : Sto) (ss : List Stmt) (σ' : Sto) : Prop :=
  ∀ (A : Around) (s : Shared) (Q : Flow → Shared → Prop) (E : Value → Shared → Prop), Ok Γ n A s.heap → Inv Γ s → Own Γ env → Act env s.heap → Sat env s.heap σ →
    (∀ s', Inv Γ s' → GrowL env s s' → Act env s'.heap → Sat env s'.heap σ' → Q .next s') → wpAny Γ.M A (execs ss env) Q E s
noncomputable def BdD (Γ : Cx) (n : Nat) (env : Env) (σ : Sto) (ss : List Stmt) (R : Pd) : Prop :=
  ∀ (A : Around) (s : Shared) (Q : Flow → Shared → Prop) (E : Value → Shared → Prop), Ok Γ n A s.heap → Inv Γ s → Own Γ env → Act env s.heap → Sat env s.heap σ →
    (∀ v s', Inv Γ s' → GrowL env s s' → Act env s'.heap → R.p s'.heap v → Q (.ret v) s') → wpAny Γ.M A (execs ss env) Q E s
noncomputable def TsD (Γ : Cx) (n : Nat) (env : Env) (σ : Sto) (e : Expr) (b : Bool) : Prop :=
  ∀ (A : Around) (s : Shared) (Q : Bool → Shared → Prop) (E : Value → Shared → Prop), Ok Γ n A s.heap → Inv Γ s → Sat env s.heap σ → (∀ s', Inv Γ s' → Grow0 s s' → Q b s') → wpAny Γ.M A (isTrue e env (eval e env)) Q E s

section
variable {Γ : Cx} {n : Nat} {env : Env} {σ σ' σ'' : Sto} {R : Pd}

theorem StsD.nil : StsD Γ n env σ [] σ := fun _ s _ _ _ i _ a t h => wpAny_execs_nil (h s i (.refl _ _ _) a t)
theorem StsD.cons {st : Stmt} {ss : List Stmt} (x : StD Γ n env σ st σ') (y : StsD Γ n env σ' ss σ'') : StsD Γ n env σ (st :: ss) σ'' := fun A s Q E o i w a t h =>
  wpAny_execs_cons (x A s _ E o i w a t fun s₁ i₁ g₁ a₁ t₁ => y A s₁ Q E (o.grow g₁) i₁ w a₁ t₁ fun s₂ i₂ g₂ a₂ t₂ => h s₂ i₂ (g₁.trans g₂) a₂ t₂)
theorem StsD.sub {ss : List Stmt} (x : StsD Γ n env σ ss σ') (h : ∀ h, Sat env h σ' → Sat env h σ'') : StsD Γ n env σ ss σ'' := fun A s Q E o i w a t k => x A s Q E o i w a t fun s₁ i₁ g₁ a₁ t₁ => k s₁ i₁ g₁ a₁ (h _ t₁)
theorem BdD.cons {st : Stmt} {ss : List Stmt} (x : StD Γ n env σ st σ') (y : BdD Γ n env σ' ss R) : BdD Γ n env σ (st :: ss) R := fun A s Q E o i w a t h =>
  wpAny_execs_cons (x A s _ E o i w a t fun s₁ i₁ g₁ a₁ t₁ => y A s₁ Q E (o.grow g₁) i₁ w a₁ t₁ fun v s₂ i₂ g₂ a₂ q => h v s₂ i₂ (g₁.trans g₂) a₂ q)
theorem BdD.ret {e : Expr} {pos : Pos} {ss : List Stmt} (x : EvD Γ n env σ e R) : BdD Γ n env σ (.Return (some e) pos :: ss) R := fun A s Q E o i _ a t h =>
  wpAny_execs_cons (wpAny_Return_some (x A s _ E o i t fun v s' i' g q => h v s' i' g.of0 (a.grow0 g) q))
theorem BdD.ite {t : Expr} {b : Bool} {body rest : List Stmt} {pos : Pos} (x : TsD Γ n env σ t b) (y : b = true → BdD Γ n env σ body R) (z : b = false → BdD Γ n env σ rest R) : BdD Γ n env σ (.If t body [] pos :: rest) R := fun A s Q E o i w a t h => by
  refine wpAny_execs_cons (wpAny_If (x A s _ E o i t fun s' i' g => ?_))
  cases b with
  | true => exact y rfl A s' _ E (o.grow g) i' w (a.grow0 g) (t.grow0 g) fun v s₂ i₂ g₂ a₂ q => h v s₂ i₂ (g.of0.trans g₂) a₂ q
  | false => exact wpAny_execs_nil (z rfl A s' _ E (o.grow g) i' w (a.grow0 g) (t.grow0 g) fun v s₂ i₂ g₂ a₂ q => h v s₂ i₂ (g.of0.trans g₂) a₂ q)
theorem StD.ite {t : Expr} {b : Bool} {body orelse : List Stmt} {pos : Pos} (x : TsD Γ n env σ t b) (y : b = true → StsD Γ n env σ body σ') (z : b = false → StsD Γ n env σ orelse σ') : StD Γ n env σ (.If t body orelse pos) σ' := fun A s Q E o i w a t h => by
  refine wpAny_If (x A s _ E o i t fun s' i' g => ?_)
  cases b with
  | true => exact y rfl A s' _ E (o.grow g) i' w (a.grow0 g) (t.grow0 g) fun s₂ i₂ g₂ a₂ q => h s₂ i₂ (g.of0.trans g₂) a₂ q
  | false => exact z rfl A s' _ E (o.grow g) i' w (a.grow0 g) (t.grow0 g) fun s₂ i₂ g₂ a₂ q => h s₂ i₂ (g.of0.trans g₂) a₂ q
theorem StD.assign {x : Str} {p1 pos : Pos} {e : Expr} {P : Pd} (y : EvD Γ n env σ e P) (hx : env.kindOf x = some .local) (hs : swapsWith e (some (.Name x p1)) pos.line env = pure false := by rfl) : StD Γ n env σ (.Assign [.Name x p1] e pos) ((x, P) :: σ) := fun A s Q E o i w a t h =>
  wpAny_Assign_Name (y A s _ E o i t fun v s' i' g q => store_at w.ok w.new hx (a.grow0 g) i' w.tab (t.grow0 g) q fun s₂ i₂ g₂ a₂ t₂ => h s₂ i₂ (g.of0.trans g₂) a₂ t₂) hs

/- tests -/
noncomputable def Tru (Γ : Cx) (n : Nat) (P : Pd) (b : Bool) : Prop := ∀ (A : Around) (s : Shared) (v : Value) (Q : Bool → Shared → Prop) (E : Value → Shared → Prop), Ok Γ n A s.heap → Inv Γ s → P.p s.heap v → (∀ s', Inv Γ s' → Grow0 s s' → Q b s') → wpAny Γ.M A (truthy v) Q E s
theorem Tru.bool {b : Bool} : Tru Γ n (.bool b) b := fun A s v Q E _ i hv h => by cases (show v = .bool b from hv); exact wpAny_truthy_bool (h s i (.refl _ _ _))
theorem TsD.val {e : Expr} {P : Pd} {b : Bool} (x : EvD Γ n env σ e P) (y : Tru Γ n P b) (he : isTrue e env (eval e env) = (do let v ← eval e env; standAt e.pos; holding [v] (truthy v)) := by rfl) : TsD Γ n env σ e b := fun A s Q E o i t h => by
  rw [he]
  exact wpAny_bind (x A s _ E o i t fun v s' i' g q => wpAny_bind (wpAny_standAt (wpAny_holding (y A s' v Q E (o.grow g) i' q fun s₂ i₂ g₂ => h s₂ i₂ (g.trans g₂)))))
theorem TsD.cmp {l r : Expr} {op pos} {P₁ P₂ : Pd} {b : Bool} (x : EvD Γ n env σ l P₁) (y : EvD Γ n env σ r P₂) (f : Op2 Γ n (compareOp op) P₁ P₂ (.bool b)) (hm : behindInMarks op r = false := by rfl) : TsD Γ n env σ (.Compare l [op] [r] pos) b := fun A s Q E o i t p =>
  wpAny_isTrue_Compare1 (x A s _ _ o i t fun a s₁ i₁ g₁ q₁ => y A s₁ _ _ (o.grow g₁) i₁ (t.grow0 g₁) fun b s₂ i₂ g₂ q₂ =>
    f A s₂ a b _ E ((o.grow g₁).grow g₂) i₂ (P₁.mono g₂.md0 q₁) q₂ fun v s₃ i₃ g₃ q₃ => Tru.bool (n := n) A s₃ v Q E (((o.grow g₁).grow g₂).grow g₃) i₃ q₃ fun s₄ i₄ g₄ => p s₄ i₄ ((g₁.trans g₂).trans (g₃.trans g₄))) hm
theorem TsD.not {e : Expr} {pos : Pos} {b : Bool} (x : TsD Γ n env σ e b) : TsD Γ n env σ (.UnaryOp .Not e pos) (!b) := fun A s _ E o i t p => wpAny_isTrue_Not (x A s _ E o i t p)
noncomputable def AllD (Γ : Cx) (n : Nat) (env : Env) (σ : Sto) (op : BoolOp) (es : List Expr) (b : Bool) : Prop :=
  ∀ (A : Around) (s : Shared) (Q : Bool → Shared → Prop) (E : Value → Shared → Prop), Ok Γ n A s.heap → Inv Γ s → Sat env s.heap σ → (∀ s', Inv Γ s' → Grow0 s s' → Q b s') → wpAny Γ.M A (allTrue op es env) Q E s
theorem AllD.and_nil : AllD Γ n env σ .And [] true := fun _ s _ _ _ i _ p => wpAny_allTrue_And_nil (p s i (.refl _ _ _))
theorem AllD.or_nil : AllD Γ n env σ .Or [] false := fun _ s _ _ _ i _ p => wpAny_allTrue_Or_nil (p s i (.refl _ _ _))
theorem AllD.and {e : Expr} {es : List Expr} {a b : Bool} (x : TsD Γ n env σ e a) (y : a = true → AllD Γ n env σ .And es b) : AllD Γ n env σ .And (e :: es) (a && b) := fun A s Q E o i t p => by
  refine wpAny_allTrue_And_cons (x A s _ E o i t fun s₁ i₁ g₁ => ?_)
  cases a with
  | true => exact y rfl A s₁ Q E (o.grow g₁) i₁ (t.grow0 g₁) fun s₂ i₂ g₂ => p s₂ i₂ (g₁.trans g₂)
  | false => exact p s₁ i₁ g₁
theorem AllD.or {e : Expr} {es : List Expr} {a b : Bool} (x : TsD Γ n env σ e a) (y : a = false → AllD Γ n env σ .Or es b) : AllD Γ n env σ .Or (e :: es) (a || b) := fun A s Q E o i t p => by
  refine wpAny_allTrue_Or_cons (x A s _ E o i t fun s₁ i₁ g₁ => ?_)
  cases a with
  | false => exact y rfl A s₁ Q E (o.grow g₁) i₁ (t.grow0 g₁) fun s₂ i₂ g₂ => p s₂ i₂ (g₁.trans g₂)
  | true => exact p s₁ i₁ g₁
theorem TsD.bool {op : BoolOp} {es : List Expr} {pos : Pos} {b : Bool} (x : AllD Γ n env σ op es b) : TsD Γ n env σ (.BoolOp op es pos) b := fun A s _ E o i t p => wpAny_isTrue_BoolOp (x A s _ E o i t p)
end

-- Fc
open PySem PySem.W PyProof.Rows PySem.Calls PySem.SeqAt
set_option Elab.async false
set_option maxRecDepth 4000
set_option linter.unusedVariables false
set_option linter.unusedSimpArgs false

theorem stays_push (h : Heap) (o : Obj) : h.StaysIn (h.push o) := fun _ _ e => Heap.get?_push_of_some o e
theorem stays_extBut {h h' : Heap} (x : Heap.ExtBut h.objs.size h h') : h.StaysIn h' := fun b o e => x b o (Nat.ne_of_lt (Heap.lt_size e)) e
theorem isList_push (h : Heap) (xs : Array Value) : (h.push { cls := .type "list", data := .seq xs }).IsList h.objs.size xs := ⟨_, Heap.get?_push_size _ rfl, rfl, _, rfl⟩
theorem isTup_push (h : Heap) (xs : Array Value) : IsTup (h.push { cls := .type "tuple", data := .seq xs }) h.objs.size xs := ⟨_, Heap.get?_push_size _ rfl, rfl, _, rfl⟩

section
variable {Γ : Cx} {n : Nat}

/- ints -/
theorem op_mod {a b : Int} (hb : b ≠ 0) : Op2 Γ n (binaryOp .Mod) (.int a) (.int b) (.int (a.fmod b)) := fun A s x y Q E o i ⟨t, hx⟩ ⟨u, hy⟩ p => by subst hx hy; exact mod_int' hb (p.same i ⟨_, rfl⟩)
theorem op_fdiv {a b : Int} (hb : b ≠ 0) (hs : b.natAbs < 1073741824) : Op2 Γ n (binaryOp .FloorDiv) (.int a) (.int b) (.int (a.fdiv b)) := fun A s x y Q E o i ⟨t, hx⟩ ⟨u, hy⟩ p => by subst hx hy; exact floordiv_int hb (p.same i ⟨_, rfl⟩) (.inl (PyProof.noPylong_small hs))
theorem op_add {a b : Int} : Op2 Γ n (binaryOp .Add) (.int a) (.int b) (.int (a + b)) := fun A s x y Q E o i ⟨t, hx⟩ ⟨u, hy⟩ p => by subst hx hy; exact add_int (p.same i ⟨_, rfl⟩)
theorem op_sub {a b : Int} : Op2 Γ n (binaryOp .Sub) (.int a) (.int b) (.int (a - b)) := fun A s x y Q E o i ⟨t, hx⟩ ⟨u, hy⟩ p => by subst hx hy; exact sub_int (p.same i ⟨_, rfl⟩)
theorem op_eq_int {a b : Int} : Op2 Γ n (compareOp .Eq) (.int a) (.int b) (.bool (a == b)) := fun A s x y Q E o i ⟨t, hx⟩ ⟨u, hy⟩ p => by subst hx hy; exact eq_int (p.same i (tk := s.toks) rfl)
theorem op_le_int {a b : Int} : Op2 Γ n (compareOp .LtE) (.int a) (.int b) (.bool (decide (a ≤ b))) := fun A s x y Q E o i ⟨t, hx⟩ ⟨u, hy⟩ p => by subst hx hy; exact le_int (p.same i (tk := s.toks) rfl)
theorem op_ge_int {a b : Int} : Op2 Γ n (compareOp .GtE) (.int a) (.int b) (.bool (decide (b ≤ a))) := fun A s x y Q E o i ⟨t, hx⟩ ⟨u, hy⟩ p => by subst hx hy; exact ge_int (p.same i (tk := s.toks) rfl)
theorem op_ne_int {a b : Int} : Op2 Γ n (compareOp .NotEq) (.int a) (.int b) (.bool (a != b)) := fun A s x y Q E o i ⟨t, hx⟩ ⟨u, hy⟩ p => by subst hx hy; exact ne_int (p.same i (tk := s.toks) rfl)

/- bytes -/
theorem op_add_bytes {a b : List UInt8} (hs : a.length + b.length ≤ 16777216) : Op2 Γ n (binaryOp .Add) (.bytes a) (.bytes b) (.bytes (a ++ b)) := fun A s x y Q E o i ⟨t, hx⟩ ⟨u, hy⟩ p => by
  subst hx hy; exact KBy.add_bytes (by simpa using hs) fun t' k => p.same i ⟨t', by simp⟩
theorem op_eq_bytes {a b : List UInt8} : Op2 Γ n (compareOp .Eq) (.bytes a) (.bytes b) (.bool (a == b)) := fun A s x y Q E o i ⟨t, hx⟩ ⟨u, hy⟩ p => by subst hx hy; exact eq_bytes (p.same i (tk := s.toks) rfl)
theorem op_ne_bytes {a b : List UInt8} : Op2 Γ n (compareOp .NotEq) (.bytes a) (.bytes b) (.bool (a != b)) := fun A s x y Q E o i ⟨t, hx⟩ ⟨u, hy⟩ p => by subst hx hy; exact ne_bytes (p.same i (tk := s.toks) rfl)

/- lists -/
theorem op_add_list {ps qs : List Pd} (hs : ps.length + qs.length ≤ 100000) : Op2 Γ n (binaryOp .Add) (.lst ps) (.lst qs) (.lst (ps ++ qs)) := fun A s x y Q E o i ⟨a, vs, hx, la, ra⟩ ⟨b, ws, hy, lb, rb⟩ p => by
  subst hx hy
  have hsz : vs.length + ws.length ≤ sizeLine := by rw [ra.length, rb.length, sizeLine_eq]; omega
  obtain ⟨⟨cls, dd, data, sl⟩, ho, hc, n1, hd⟩ := id la
  obtain ⟨⟨cls2, dd2, data2, sl2⟩, ho2, hc2, n2, hd2⟩ := id lb
  simp only at hc hd hc2 hd2
  subst hc hd hc2 hd2
  have e : vs.toArray ++ ws.toArray = (vs ++ ws).toArray := by simp
  refine concat_meets ⟨_, ho, rfl⟩ ⟨_, ho2, rfl⟩ noFill_list_add seq_list_add PySem.F.slot_list_add PySem.F.entry_list_add (PySem.F.args_list_add_2 _ _) (list_addW a b vs.toArray ws.toArray n1 n2 dd dd2 sl sl2 (by simpa using hsz)) ⟨ho, ho2, ?_⟩
  rw [e]
  exact p.here (tk := s.toks) i (stays_push _ _) ⟨_, _, rfl, isList_push _ _, (ra.mono (.of_stays (stays_push _ _))).append (rb.mono (.of_stays (stays_push _ _)))⟩

/-- elementwise equality of two kinds -/
noncomputable def EqPd (n : Nat) (P R : Pd) (b : Bool) : Prop := ∀ (A : Around) (s : Shared) (x y : Value), A.units + 30 ≤ cLine → P.p s.heap x → R.p s.heap y → EqAt A s x y b
theorem eqPd_int {a b : Int} : EqPd n (.int a) (.int b) (a == b) := fun A s x y _ ⟨t, hx⟩ ⟨u, hy⟩ => by subst hx hy; exact EqAt.int_int _ _ _ _
theorem eqPd_bytes {a b : List UInt8} : EqPd n (.bytes a) (.bytes b) (a == b) := fun A s x y _ ⟨t, hx⟩ ⟨u, hy⟩ => by
  subst hx hy
  intro prog w E Q h
  refine eqBool_bytes ?_
  rw [show decide (a.toArray.toList = b.toArray.toList) = (a == b) by rw [Bool.eq_iff_iff]; simp]
  exact h
theorem eqPd_ref {a : Addr} : EqPd n (.ref a) (.ref a) true := fun A s x y _ hx hy => by
  cases (show x = .ref a from hx); cases (show y = .ref a from hy)
  intro prog w E Q h
  unfold eqBool
  refine wpAny_holding ?_
  rw [if_pos (by simp)]
  exact wpAny_bind (wpAny_rule (wpAny_pure h))

/-- two lists, the same answer whichever way they are asked -/
theorem range_all_zip {e : Nat → Bool} {ps qs : List Pd} {r : Bool} (he : ((List.range ps.length).all e) = r) : True := trivial
theorem op_eq_list {ps qs : List Pd} {e : Nat → Bool} (he : ∀ j P R, ps[j]? = some P → qs[j]? = some R → EqPd n P R (e j)) {r : Bool} (hr : r = (ps.length == qs.length && (List.range ps.length).all e)) : Op2 Γ n (compareOp .Eq) (.lst ps) (.lst qs) (.bool r) := fun A s x y Q E o i ⟨a, vs, hx, la, ra⟩ ⟨b, ws, hy, lb, rb⟩ p => by
  subst hx hy hr
  show wpAny Γ.M A (richCompare .Eq _ _) Q E s
  by_cases hl : ps.length = qs.length
  · have e1 : (ps.length == qs.length) = true := by simp [hl]
    have hsz : vs.toArray.size = ws.toArray.size := by simp [ra.length, rb.length, hl]
    refine RcAt.lists (e := e) la lb hsz o.un (fun j h1 h2 => ?_) Γ.prog Γ.w E Q ?_
    · have h1' : j < vs.length := by simpa using h1
      have h2' : j < ws.length := by simpa using h2
      obtain ⟨v, ev, pv⟩ := ra.get (List.getElem?_eq_getElem (show j < ps.length by rw [← ra.length]; exact h1'))
      obtain ⟨w, ew, pw⟩ := rb.get (List.getElem?_eq_getElem (show j < qs.length by rw [← rb.length]; exact h2'))
      have a1 : vs.toArray[j] = v := by
        have : vs[j]? = some vs[j] := List.getElem?_eq_getElem h1'
        rw [this] at ev; simpa using ev
      have a2 : ws.toArray[j] = w := by
        have : ws[j]? = some ws[j] := List.getElem?_eq_getElem h2'
        rw [this] at ew; simpa using ew
      rw [a1, a2]
      exact he j _ _ (List.getElem?_eq_getElem _) (List.getElem?_eq_getElem _) A.in1 s v w (by have := o.units; simp only [Around.in1_units]; omega) pv pw
    · rw [show vs.toArray.size = ps.length by simp [ra.length]]
      exact p.same (tk := s.toks) i (by simp only [e1, Bool.true_and]; rfl)
  · have e1 : (ps.length == qs.length) = false := by simp [hl]
    refine RcAt.lists_lengths la lb (by simp [ra.length, rb.length, hl]) o.un Γ.prog Γ.w E Q ?_
    exact p.same (tk := s.toks) i (by simp only [e1, Bool.false_and]; rfl)
theorem op_ne_list {ps qs : List Pd} {e : Nat → Bool} (he : ∀ j P R, ps[j]? = some P → qs[j]? = some R → EqPd n P R (e j)) {r : Bool} (hr : r = !(ps.length == qs.length && (List.range ps.length).all e)) : Op2 Γ n (compareOp .NotEq) (.lst ps) (.lst qs) (.bool r) := fun A s x y Q E o i ⟨a, vs, hx, la, ra⟩ ⟨b, ws, hy, lb, rb⟩ p => by
  subst hx hy hr
  show wpAny Γ.M A (richCompare .NotEq _ _) Q E s
  by_cases hl : ps.length = qs.length
  · have e1 : (ps.length == qs.length) = true := by simp [hl]
    have hsz : vs.toArray.size = ws.toArray.size := by simp [ra.length, rb.length, hl]
    refine RcNeAt.lists (e := e) la lb hsz o.un (fun j h1 h2 => ?_) Γ.prog Γ.w E Q ?_
    · have h1' : j < vs.length := by simpa using h1
      have h2' : j < ws.length := by simpa using h2
      obtain ⟨v, ev, pv⟩ := ra.get (List.getElem?_eq_getElem (show j < ps.length by rw [← ra.length]; exact h1'))
      obtain ⟨w, ew, pw⟩ := rb.get (List.getElem?_eq_getElem (show j < qs.length by rw [← rb.length]; exact h2'))
      have a1 : vs.toArray[j] = v := by
        have : vs[j]? = some vs[j] := List.getElem?_eq_getElem h1'
        rw [this] at ev; simpa using ev
      have a2 : ws.toArray[j] = w := by
        have : ws[j]? = some ws[j] := List.getElem?_eq_getElem h2'
        rw [this] at ew; simpa using ew
      rw [a1, a2]
      exact he j _ _ (List.getElem?_eq_getElem _) (List.getElem?_eq_getElem _) A.in1 s v w (by have := o.units; simp only [Around.in1_units]; omega) pv pw
    · rw [show vs.toArray.size = ps.length by simp [ra.length]]
      exact p.same (tk := s.toks) i (by simp only [e1, Bool.true_and]; rfl)
  · have e1 : (ps.length == qs.length) = false := by simp [hl]
    refine RcNeAt.lists_lengths la lb (by simp [ra.length, rb.length, hl]) o.un Γ.prog Γ.w E Q ?_
    exact p.same (tk := s.toks) i (by simp only [e1, Bool.false_and]; rfl)

/- is None -/
theorem op_is_none {v : Value} {r : Bool} (h : (v == .none) = r) : Op2 Γ n (compareOp .Is) (.eq v) .none (.bool r) := fun A s x y Q E o i hx hy p => by
  cases (show x = v from hx); cases (show y = .none from hy); subst h; exact is_none (p.same (tk := s.toks) i rfl)
theorem op_isnot {P : Pd} {r : Bool} (h : ∀ h v, P.p h v → (!(v == .none)) = r) : Op2 Γ n (compareOp .IsNot) P .none (.bool r) := fun A s x y Q E o i hx hy p => by
  cases (show y = .none from hy); exact isNot_none (p.same (tk := s.toks) i (by show Value.bool _ = Value.bool _; rw [h _ _ hx]))
end

/- displays -/
noncomputable def plainE : Expr → Bool
  | .Starred .. => false
  | _ => true
theorem starEach_cons (e : Expr) (es : List Expr) (env : Env) (h : plainE e = true) : starEach (e :: es) env = (false, eval e env) :: starEach es env := by
  cases e <;> first | rfl | cases h
theorem star_plain (pos : Pos) (env : Env) : ∀ es : List Expr, es.all plainE = true → (backTo pos (starEach es env)).any (·.1) = false
  | [], _ => rfl
  | e :: es, h => by
    simp only [List.all_cons, Bool.and_eq_true] at h
    rw [starEach_cons e es env h.1]
    show (false || (backTo pos (starEach es env)).any (·.1)) = false
    rw [star_plain pos env es h.2]; rfl
noncomputable def ArgsD (Γ : Cx) (n : Nat) (env : Env) (σ : Sto) (es : List Expr) (Ps : List Pd) : Prop :=
  ∀ (A : Around) (s : Shared) (pos : Pos) (Q : List Value → Shared → Prop) (E : Value → Shared → Prop), Ok Γ n A s.heap → Inv Γ s → Sat env s.heap σ → (∀ vs s', Inv Γ s' → Grow0 s s' → All2 s'.heap Ps vs → Q vs s') → wpAny Γ.M A (spliced (backTo pos (starEach es env))) Q E s
section
variable {Γ : Cx} {n : Nat} {env : Env} {σ : Sto}
theorem ArgsD.nil : ArgsD Γ n env σ [] [] := fun A s pos Q E _ i _ p => args_nil (p [] s i (.refl _ _ _) trivial)
theorem ArgsD.cons {e : Expr} {es : List Expr} {P : Pd} {Ps : List Pd} (x : EvD Γ n env σ e P) (y : ArgsD Γ n env σ es Ps) (hpl : plainE e = true := by rfl) : ArgsD Γ n env σ (e :: es) (P :: Ps) := fun A s pos Q E o i t p =>
  args_cons (x A s _ E o i t fun v s₁ i₁ g₁ q₁ => y A s₁ pos _ E (o.grow g₁) i₁ (t.grow0 g₁) fun vs s₂ i₂ g₂ q₂ => p (v :: vs) s₂ i₂ (g₁.trans g₂) ⟨P.mono g₂.md0 q₁, q₂⟩) (starEach_cons e es env hpl)
theorem newTuple_at {M : Model} {A : Around} {E : Value → Shared → Prop} {s : Shared} {vs : List Value} {Q : Value → Shared → Prop} (hs : vs.length ≤ sizeLine) (h : Q (.ref s.heap.objs.size) { s with heap := s.heap.push { cls := .type "tuple", data := .seq vs.toArray } }) : wpAny M A (newTuple vs) Q E s := by
  unfold newTuple; exact wpAny_newObj_type h (by simpa [sizeOk] using hs)
theorem newList_at {M : Model} {A : Around} {E : Value → Shared → Prop} {s : Shared} {vs : List Value} {Q : Value → Shared → Prop} (hs : vs.length ≤ sizeLine) (h : Q (.ref s.heap.objs.size) { s with heap := s.heap.push { cls := .type "list", data := .seq vs.toArray } }) : wpAny M A (newList vs) Q E s := by
  unfold newList; exact wpAny_newObj_type h (by simpa [sizeOk] using hs)
theorem EvD.tuple {es : List Expr} {k : Nat} {pos : Pos} {Ps : List Pd} (x : ArgsD Γ n env σ es Ps) (hs : Ps.length ≤ 100000 := by first | decide | (simp; done)) : EvD Γ n env σ (.Tuple es k pos) (.tup Ps) := fun A s Q E o i t p =>
  Tuple_ (x A s pos _ E o i t fun vs s₁ i₁ g₁ q₁ => newTuple_at (by rw [q₁.length, sizeLine_eq]; omega) ((p.grow g₁).here (tk := s₁.toks) i₁ (stays_push _ _) ⟨_, vs, rfl, isTup_push _ _, q₁.mono (.of_stays (stays_push _ _))⟩))
theorem EvD.list {es : List Expr} {pos : Pos} {Ps : List Pd} (x : ArgsD Γ n env σ es Ps) (hs : Ps.length ≤ 100000 := by first | decide | (simp; done)) : EvD Γ n env σ (.List es pos) (.lst Ps) := fun A s Q E o i t p =>
  List_ (x A s pos _ E o i t fun vs s₁ i₁ g₁ q₁ => newList_at (by rw [q₁.length, sizeLine_eq]; omega) ((p.grow g₁).here (tk := s₁.toks) i₁ (stays_push _ _) ⟨_, vs, rfl, isList_push _ _, q₁.mono (.of_stays (stays_push _ _))⟩))
end

-- Fd
open PySem PySem.W PyProof.Rows PySem.Calls PySem.SeqAt
set_option Elab.async false
set_option maxRecDepth 4000
set_option linter.unusedVariables false
set_option linter.unusedSimpArgs false

/- ---------- making a frame ---------- -/
theorem bindLocals {M : Model} {A : Around} {E : Value → Shared → Prop} {env : Env} (hp : (env.scope.kind == .class || (env.scope.kind == .module && env.locals != env.globals)) = false)
    (f : Str × Value → PUnit → Sem (ForInStep PUnit)) (hf : ∀ x u, f x u = (do storeName env x.1 x.2; pure (.yield ⟨⟩))) :
    ∀ (rest : List (Str × Value)) (s : Shared) (m : Str → Option Value) (Q : PUnit → Shared → Prop), s.heap.Ns env.locals m → (∀ x ∈ rest, env.kindOf x.1 = some .local) →
      (∀ h' tk, h'.Ns env.locals (fun y => (rest.reverse.lookup y).or (m y)) → Heap.SameBut env.locals s.heap h' → (∀ o, s.heap.get? env.locals = some o → ∃ o', h'.get? env.locals = some o' ∧ o'.cls = o.cls) → Q ⟨⟩ { s with heap := h', toks := tk }) →
      wpAny M A (forIn rest ⟨⟩ f) Q E s
  | [], s, m, Q, hn, _, h => by
    rw [List.forIn_nil]
    exact wpAny_pure (h s.heap s.toks (by simpa using hn) (.refl _ _) fun o e => ⟨o, e, rfl⟩)
  | (x, v) :: r, s, m, Q, hn, hk, h => by
    rw [List.forIn_cons, hf, storeName_local (hk _ (.head _)) hp]
    refine wpAny_bind (wpAny_bind (nsSet_at hn fun h₁ n₁ sb₁ c₁ => wpAny_pure ?_))
    refine bindLocals hp f hf r _ _ Q n₁ (fun y hy => hk y (.tail _ hy)) fun h₂ tk n₂ sb₂ c₂ => ?_
    refine h h₂ tk ?_ (sb₁.trans sb₂) fun o e => ?_
    · have e : (fun y => (((x, v) :: r).reverse.lookup y).or (m y)) = fun y => (r.reverse.lookup y).or (if y = x then some v else m y) := by
        funext y
        simp only [List.reverse_cons, List.lookup_append, Option.or_assoc]
        by_cases hx : y = x
        · subst hx; simp [List.lookup_cons]
        · have hb : (y == x) = false := beq_eq_false_iff_ne.mpr hx
          simp [List.lookup_cons, hb, hx]
      rw [e]; exact n₂
    · obtain ⟨o₁, e₁, q₁, _⟩ := c₁ o e
      obtain ⟨o₂, e₂, q₂⟩ := c₂ o₁ e₁
      exact ⟨o₂, e₂, q₂.trans q₁⟩

/-- a new frame, no cells of its own -/
theorem newEnv_at {M : Model} {A : Around} {E : Value → Shared → Prop} {s : Shared} {scope : Scope} {globals : Addr} {closure : List (Str × Addr)} {binds : List (Str × Value)} {qual : Str}
    {func : Option Addr} {code : Value} {builtins : Addr} {Q : Env → Shared → Prop} (hk : scope.kind = .function) (hc : ∀ x ∈ scope.names, x.2 ≠ .cell) (hl : ∀ x ∈ binds, scope.names.lookup x.1 = some .local)
    (h : ∀ h' tk, h'.Ns s.heap.objs.size (fun y => binds.reverse.lookup y) → (∃ o, h'.get? s.heap.objs.size = some o ∧ o.cls = .type "frame") → s.heap.StaysIn h' →
      Heap.SameBut s.heap.objs.size (s.heap.push { cls := .type "frame", data := .dict #[] }) h' → Q (newEnv scope s.heap.objs.size globals closure qual func code none builtins) { s with heap := h', toks := tk }) :
    wpAny M A (newFunctionEnv scope globals closure binds qual func code none builtins) Q E s := by
  simp only [newFunctionEnv, Option.isSome_none, Bool.false_eq_true, if_false]
  refine wpAny_bind (wpAny_alloc ?_)
  rw [forIn_yield_id closure (fun x hx c => by
    obtain ⟨name, kind⟩ := x
    have : (kind == NameKind.cell) = false := by simpa using hc _ hx
    simp only [this, Bool.false_eq_true, if_false])]
  refine wpAny_bind (wpAny_pure (wpAny_bind ?_))
  refine bindLocals (env := newEnv scope s.heap.objs.size globals closure qual func code none builtins) (by show (scope.kind == .class || (scope.kind == .module && _)) = false; rw [hk]; rfl) _ (fun x u => rfl) binds _ (fun _ => none) _ (Heap.Ns.new s.heap (.type "frame")) (fun x hx => hl x hx) fun h' tk n' sb cc => wpAny_pure ?_
  have n2 : h'.Ns s.heap.objs.size (fun y => (binds.reverse.lookup y).or none) := n'
  obtain ⟨o', e', c'⟩ := cc _ (Heap.get?_push_size s.heap (o := { cls := .type "frame", data := .dict #[] }) rfl)
  refine h h' tk (by simpa using n2) ⟨o', e', c'⟩ (fun b o e => sb.extBut b o (Nat.ne_of_lt (Heap.lt_size e)) (Heap.get?_push_of_some _ e)) sb

theorem storeCell_at {M : Model} {A : Around} {E : Value → Shared → Prop} {s : Shared} {env : Env} {x : Str} {c : Addr} {v : Value} {o : Obj} {w : Option Value} {Q : Unit → Shared → Prop} (hk : env.scope.kind = .function) (hl : env.kindOf x = some .cell) (hc : env.cells.lookup x = some c)
    (ho : s.heap.get? c = some o) (hd : o.data = .cell w) (h : Q () { s with heap := s.heap.update c fun o => { o with data := .cell (some v) } }) : wpAny M A (storeName env x v) Q E s := by
  unfold storeName
  simp only [hl, hk]
  refine wpAny_bind (wpAny_cellOf hc ?_)
  unfold cellSet
  refine wpAny_bind (wpAny_load ho ?_)
  rw [hd]
  exact wpAny_update ho h

/-- a new frame whose first argument lies in a cell -/
theorem newEnv_cell {M : Model} {A : Around} {E : Value → Shared → Prop} {s : Shared} {scope : Scope} {globals : Addr} {x : Str} {v : Value} {rest : List (Str × Value)} {qual : Str}
    {func : Option Addr} {code : Value} {builtins : Addr} {Q : Env → Shared → Prop} (hk : scope.kind = .function) (hcs : ∀ n, cellsFrom n scope.names [] = [(x, n)]) (hps : ∀ h : Heap, pushCells h scope.names = h.push { cls := .type "cell", data := .cell none })
    (hx : scope.names.lookup x = some .cell) (hl : ∀ y ∈ rest, scope.names.lookup y.1 = some .local)
    (h : ∀ h' tk, h'.Ns s.heap.objs.size (fun y => rest.reverse.lookup y) → (∃ o, h'.get? s.heap.objs.size = some o ∧ o.cls = .type "frame") → CellAt h' (s.heap.objs.size + 1) v → s.heap.StaysIn h' →
      Q (newEnv scope s.heap.objs.size globals [(x, s.heap.objs.size + 1)] qual func code none builtins) { s with heap := h', toks := tk }) :
    wpAny M A (newFunctionEnv scope globals [] ((x, v) :: rest) qual func code none builtins) Q E s := by
  simp only [newFunctionEnv, Option.isSome_none, Bool.false_eq_true, if_false]
  refine wpAny_bind (wpAny_alloc ?_)
  refine wpAny_bind (wpAny_layCells _ (fun name kind cells => by cases hkc : kind == NameKind.cell <;> simp [hkc]) _ _ _ _ ?_)
  rw [hcs, hps, show ({ s with heap := s.heap.push { cls := .type "frame", data := .dict #[] } } : Shared).heap.objs.size = s.heap.objs.size + 1 from Heap.size_push ..]
  have hp : (({ scope, locals := s.heap.objs.size, globals, cells := [(x, s.heap.objs.size + 1)], qual, func, code, frame := some s.heap.objs.size, builtins } : Env).scope.kind == .class || (({ scope, locals := s.heap.objs.size, globals, cells := [(x, s.heap.objs.size + 1)], qual, func, code, frame := some s.heap.objs.size, builtins } : Env).scope.kind == .module &&
      ({ scope, locals := s.heap.objs.size, globals, cells := [(x, s.heap.objs.size + 1)], qual, func, code, frame := some s.heap.objs.size, builtins } : Env).locals != ({ scope, locals := s.heap.objs.size, globals, cells := [(x, s.heap.objs.size + 1)], qual, func, code, frame := some s.heap.objs.size, builtins } : Env).globals)) = false := by
    show (scope.kind == .class || _) = false; rw [hk]; rfl
  have hcell : ((s.heap.push { cls := .type "frame", data := .dict #[] }).push { cls := .type "cell", data := .cell none }).get? (s.heap.objs.size + 1) = some { cls := .type "cell", data := .cell none } := by
    have := Heap.get?_push_size (s.heap.push { cls := .type "frame", data := .dict #[] }) (o := { cls := .type "cell", data := .cell none }) rfl
    rwa [Heap.size_push] at this
  refine wpAny_bind ?_
  rw [List.forIn_cons]
  refine wpAny_bind (wpAny_bind (storeCell_at (c := s.heap.objs.size + 1) hk hx (by simp [List.lookup_cons]) hcell rfl (wpAny_pure ?_)))
  have hcell₁ := Heap.get?_update_self (h := (s.heap.push { cls := .type "frame", data := .dict #[] }).push { cls := .type "cell", data := .cell none }) (fun o => { o with data := .cell (some v) }) hcell rfl
  have keep₁ : ∀ b o, b ≠ s.heap.objs.size + 1 → (s.heap.push { cls := .type "frame", data := .dict #[] }).get? b = some o → (((s.heap.push { cls := .type "frame", data := .dict #[] }).push { cls := .type "cell", data := .cell none }).update (s.heap.objs.size + 1) (fun o => { o with data := .cell (some v) })).get? b = some o := fun b o hb e => by
    rw [Heap.get?_update_other _ _ (Ne.symm hb)]; exact Heap.get?_push_of_some _ e
  have hL := keep₁ _ _ (Nat.ne_of_lt (Nat.lt_succ_self _)) (Heap.get?_push_size s.heap (o := { cls := .type "frame", data := .dict #[] }) rfl)
  refine bindLocals (env := newEnv scope s.heap.objs.size globals [(x, s.heap.objs.size + 1)] qual func code none builtins) hp _ (fun x u => rfl) rest _ (fun _ => none) _ ?_ (fun x hx => hl x hx) ?_
  · obtain ⟨o, es, ep, e1, r⟩ := Heap.Ns.new s.heap (.type "frame")
    rw [Heap.get?_push_size s.heap (o := { cls := .type "frame", data := .dict #[] }) rfl] at e1; cases e1
    exact ⟨_, es, ep, hL, r⟩
  · intro h' tk n' sb cc
    refine wpAny_pure ?_
    obtain ⟨o', e', c'⟩ := cc _ hL
    have n2 : h'.Ns s.heap.objs.size (fun y => (rest.reverse.lookup y).or none) := n'
    refine h h' tk (by simpa using n2) ⟨o', e', c'⟩ ⟨_, (sb.2 _ (Nat.ne_of_gt (Nat.lt_succ_self _))).trans hcell₁, rfl, rfl⟩ fun b o e => ?_
    have hlt := Heap.lt_size e
    exact (sb.2 b (Nat.ne_of_lt hlt)).trans (keep₁ b o (Nat.ne_of_lt (Nat.lt_succ_of_lt hlt)) (Heap.get?_push_of_some _ e))

/- ---------- contracts of defs ---------- -/
noncomputable def FnD (Γ : Cx) (n : Nat) (f : Addr) (Ps : List Pd) (R : Pd) : Prop :=
  ∀ (A : Around) (s : Shared) (vs : List Value) (Rr : Result → Shared → Prop), Ok Γ n A s.heap → Inv Γ s → All2 s.heap Ps vs → Post Γ s R (fun v s' => Rr (.ok (.ret v)) s') → codeAny Γ.M A (.call (.ref f) ⟨vs, []⟩) Rr s

theorem fresh_of {Γ : Cx} {s : Shared} (i : Inv Γ s) {b : Addr} (hb : s.heap.objs.size ≤ b) : Γ.hb.get? b = none := by
  cases e : Γ.hb.get? b with
  | none => rfl
  | some o => exact absurd (Heap.lt_size (i.base b o e)) (Nat.not_lt.mpr hb)
theorem tab_lt {Γ : Cx} {s : Shared} (i : Inv Γ s) : ∀ q ∈ Γ.tabs, q.1 < s.heap.objs.size ∧ q.2 < s.heap.objs.size := fun q m => by
  obtain ⟨ps, c, t⟩ := i.tabs q m
  obtain ⟨⟨o, vs, e, _⟩, e2⟩ := t
  exact ⟨Heap.lt_size e, Heap.lt_size e2⟩
theorem own_of {Γ : Cx} {s : Shared} (i : Inv Γ s) {env : Env} (he : EnvOk env) (hL : env.locals = s.heap.objs.size) : Own Γ env :=
  ⟨he, fresh_of i (Nat.le_of_eq hL.symm), fun q m => ⟨fun e => Nat.lt_irrefl _ (by have := (tab_lt i q m).1; rw [e, hL] at this; exact this), fun e => Nat.lt_irrefl _ (by have := (tab_lt i q m).2; rw [e, hL] at this; exact this)⟩⟩
theorem grow_call {s s₁ s' : Shared} {env : Env} (k : s.heap.StaysIn s₁.heap) (hg : s₁.gens = s.gens) (hL : s.heap.objs.size ≤ env.locals) {G : Nat → Prop} (g : Grow (here env) G s₁ s') : Grow noW G s s' := by
  refine ⟨fun b o e _ => g.le b o (k b o e) (fun q => ?_), fun b o e => g.dom b o (k b o e), fun j x e hj => g.gens j x (by rw [hg]; exact e) hj, by rw [← hg]; exact g.gsz⟩
  have h1 := Heap.lt_size e
  have q' : b = env.locals := q
  exact Nat.lt_irrefl _ (Nat.lt_of_lt_of_le (q' ▸ h1) hL)
theorem Ok.call {Γ : Cx} {n : Nat} {A : Around} {s s₁ : Shared} {env : Env} (o : Ok Γ (n + 1) A s.heap) (i : Inv Γ s) (k : s.heap.StaysIn s₁.heap) (hg : s₁.gens = s.gens) (hk : env.scope.kind = .function) (hf : env.frame = some env.locals) (hL : env.locals = s.heap.objs.size)
    (hn : ∃ m, s₁.heap.Ns env.locals m) (hc : ∃ o, s₁.heap.get? env.locals = some o ∧ o.cls = .type "frame") : Ok Γ n (A.deeper env) s₁.heap := by
  refine ⟨o.handled, by have := o.depth; simp only [Around.deeper]; omega, by have := o.units; simp only [Around.deeper]; omega, o.guards, ?_⟩
  obtain ⟨outer, hA, f1, f2⟩ := o.frames
  obtain ⟨m, oL, es, ep, eL, hd, _⟩ := hn
  obtain ⟨oL', eL', cL⟩ := hc
  rw [eL] at eL'; cases eL'
  have F := (show Frs Γ.hb s.heap outer from ⟨f1, f2⟩).grow (Grow.of_stays (W := noW) (G := noG) k hg)
  refine ⟨env :: outer, Around.frames_deeper hA, ⟨by rw [hk]; decide, ⟨env.locals, oL, hf, fresh_of i (Nat.le_of_eq hL.symm), eL, fun vs q => by rw [hd] at q; cases q⟩, F.1⟩, fun e m L hL' => ?_⟩
  cases m with
  | head => rw [hf] at hL'; cases hL'; exact ⟨oL, eL, cL, es, ep, hd⟩
  | tail _ m => exact F.2 e m L hL'

theorem lookup_rev {α : Type} : ∀ {l : List (Str × α)}, (l.map (·.1)).Nodup → ∀ x, l.reverse.lookup x = l.lookup x
  | [], _, _ => rfl
  | (y, v) :: r, hn, x => by
    obtain ⟨h1, h2⟩ := List.nodup_cons.mp hn
    simp only [List.reverse_cons, List.lookup_append, lookup_rev h2 x]
    by_cases hx : x = y
    · subst hx
      have : r.lookup x = none := by
        rw [List.lookup_eq_none_iff]
        intro p hp
        simp only [beq_eq_false_iff_ne, bne_iff_ne, ne_eq]
        intro e
        apply h1
        simp only [List.mem_map]
        exact ⟨p, hp, by simpa using e.symm⟩
      simp [this, List.lookup_cons]
    · have hb : (x == y) = false := by simpa using hx
      simp [List.lookup_cons, hb]
theorem All2.zip_lookup {h : Heap} : ∀ {names : List Str} {Ps : List Pd} {vs : List Value} (_ : All2 h Ps vs) {x : Str} {P : Pd}, (names.zip Ps).lookup x = some P → ∃ v, (names.zip vs).lookup x = some v ∧ P.p h v
  | [], _, _, _, _, _, e => by simp at e
  | y :: names, [], _, _, _, _, e => by simp at e
  | y :: names, P :: Ps, v :: vs, ⟨a, b⟩, x, R, e => by
    simp only [List.zip_cons_cons, List.lookup_cons] at e ⊢
    cases hxy : x == y with
    | true => rw [hxy] at e; cases e; exact ⟨v, by simp, a⟩
    | false => rw [hxy] at e; exact All2.zip_lookup b e

theorem FnD.body {Γ : Cx} {n : Nat} {f : Addr} {oc : Value} {od : Option Addr} {sl : Array (Option Value)} {fd : FuncData} {body : List Stmt} {names : List Str} {Ps : List Pd} {R : Pd}
    (hK : Γ.Kf.lookup f = some ⟨oc, od, .func fd, sl⟩) (hb : fd.body = .stmts body) (hcode : codeIn Γ.Kf fd.code fd.qualname = true)
    (hbind : ∀ vs : List Value, vs.length = Ps.length → bindArgs fd ⟨vs, []⟩ = pure (names.zip vs)) (hnd : names.Nodup) (hlen : names.length = Ps.length) (hloc : ∀ x ∈ names, fd.scope.names.lookup x = some .local) (hcell : ∀ x ∈ fd.scope.names, x.2 ≠ .cell)
    (hcl : fd.closure = []) (hgl : fd.globals = mainGlobals) (hbl : fd.builtins = builtinsNs) (hco : fd.scope.isCoroutine = false) (hgen : fd.scope.isGenerator = false) (hk : fd.scope.kind = .function)
    (h : ∀ L, BdD Γ n (callEnv fd L f) (names.zip Ps) body R) : FnD Γ (n + 1) f Ps R := fun A s vs Rr o i q p => by
  have hlv : vs.length = Ps.length := q.length
  refine codeAny_call_function o.room (i.K _ _ hK) rfl hco hgen hb (codeRec_of i.K hcode) ?_
  rw [hbind vs hlv]
  refine wpAny_pure ?_
  refine newEnv_at hk hcell (fun x hx => hloc x.1 (List.of_mem_zip (show (x.1, x.2) ∈ names.zip vs from hx)).1) fun h' tk n' c' k sb => ?_
  rw [hcl]
  have i' : Inv Γ { s with heap := h', toks := tk } := i.stays k rfl rfl
  refine ⟨i'.nolimit, codeAny_func ?_⟩
  have hkeys : ((names.zip vs).map (·.1)).Nodup := by rw [List.map_fst_zip (by omega)]; exact hnd
  have st : Sat (callEnv fd s.heap.objs.size f) h' (names.zip Ps) := fun x P e => by
    obtain ⟨v, ev, pv⟩ := (q.mono (.of_stays k)).zip_lookup e
    refine ⟨v, .inl ⟨?_, _, n', by rw [lookup_rev hkeys]; exact ev⟩, pv⟩
    have hx : x ∈ names := by
      have : ∃ p ∈ names.zip Ps, p.1 = x := by
        cases hf : (names.zip Ps).lookup x with
        | none => rw [hf] at e; cases e
        | some P' =>
          have m := mem_of_lookup hf
          exact ⟨_, m, rfl⟩
      obtain ⟨p', hp', rfl⟩ := this
      exact (List.of_mem_zip (show (p'.1, p'.2) ∈ names.zip Ps from hp')).1
    exact hloc x hx
  have he : EnvOk (callEnv fd s.heap.objs.size f) := ⟨hk, hgl, hbl⟩
  have ee : newEnv fd.scope s.heap.objs.size fd.globals [] (fd.qualname ++ ".<locals>.") (some f) fd.code none fd.builtins = callEnv fd s.heap.objs.size f := by unfold callEnv; rw [hcl]
  rw [ee]
  refine h s.heap.objs.size (A.deeper (callEnv fd s.heap.objs.size f)) { s with heap := h', toks := tk } _ _ (o.call i (s₁ := { s with heap := h', toks := tk }) (env := callEnv fd s.heap.objs.size f) k rfl hk rfl rfl ⟨_, n'⟩ c') i' (own_of i he rfl) ⟨⟨_, n'⟩, c'⟩ st fun v s' i₂ g₂ a₂ r₂ => ?_
  exact p v s' i₂ (grow_call (s₁ := { s with heap := h', toks := tk }) k rfl (Nat.le_refl _) g₂) r₂

/- calling by name -/
section
variable {Γ : Cx} {n : Nat} {env : Env} {σ : Sto}
theorem keepGlob {Γ : Cx} {x : Str} {v : Value} (h : nsIn Γ.Kf mainGlobals x = some (some v)) : Γ.mg x = some v := mg_of Γ.K Γ.g h

theorem call_ofFn {A : Around} {s : Shared} {f : Addr} {vs : List Value} {Ps : List Pd} {R : Pd} {Q E : Value → Shared → Prop} (h : FnD Γ n f Ps R) (o : Ok Γ n A s.heap) (i : Inv Γ s) (q : All2 s.heap Ps vs) (p : Post Γ s R Q) : wpAny Γ.M A (call (.ref f) vs) Q E s :=
  wpAny_call (h A s vs _ o i q fun v s' i' g' q' => p v s' i' g' q')

theorem EvD.call {x : Str} {np pos : Pos} {f : Addr} {e : Expr} {es : List Expr} {Ps : List Pd} {R : Pd} (he : EnvOk env) (hx : env.kindOf x = some .globalImplicit) (hf : nsIn Γ.Kf mainGlobals x = some (some (.ref f))) (hk : keepIn Γ.Kf (.ref f) = true)
    (a : ArgsD Γ n env σ (e :: es) Ps) (h : FnD Γ n f Ps R) (hd : (x == ("__debug__" : Str)) = false := by decide) (hse : plainE e = true := by rfl) (hplain : es.all plainE = true := by rfl) : EvD Γ n env σ (.Call (.Name x np) (e :: es) [] pos) R := fun A s Q E o i t p => by
  show wpAny Γ.M A (do callWith pos (← eval (.Name x np) env) [] (backTo pos (starEach (e :: es) env)) []) Q E s
  refine wpAny_bind (EvD.global (Γ := Γ) (n := n) (σ := σ) he hx (keepGlob hf) hd A s _ E o i t fun v s₁ i₁ g₁ q₁ => ?_)
  cases (show v = .ref f from q₁)
  refine callWith_K i₁.K hk ?_ (starEach_cons e es env hse) (star_plain pos env es hplain)
  refine a A s₁ pos _ E (o.grow g₁) i₁ (t.grow0 g₁) fun vs s₂ i₂ g₂ q₂ => ⟨i₂.K, ?_⟩
  exact call_ofFn h ((o.grow g₁).grow g₂) i₂ q₂ (p.grow (g₁.trans g₂))
theorem EvD.call0 {x : Str} {np pos : Pos} {f : Addr} {R : Pd} (he : EnvOk env) (hx : env.kindOf x = some .globalImplicit) (hf : nsIn Γ.Kf mainGlobals x = some (some (.ref f))) (hk : keepIn Γ.Kf (.ref f) = true)
    (h : FnD Γ n f [] R) (hd : (x == ("__debug__" : Str)) = false := by decide) : EvD Γ n env σ (.Call (.Name x np) [] [] pos) R := fun A s Q E o i t p => by
  show wpAny Γ.M A (do callWith pos (← eval (.Name x np) env) [] (backTo pos (starEach [] env)) []) Q E s
  refine wpAny_bind (EvD.global (Γ := Γ) (n := n) (σ := σ) he hx (keepGlob hf) hd A s _ E o i t fun v s₁ i₁ g₁ q₁ => ?_)
  cases (show v = .ref f from q₁)
  refine callWith_K0 i₁.K hk ?_
  exact call_ofFn h (o.grow g₁) i₁ trivial (p.grow g₁)

/-- a built-in of the top, one or more plain arguments -/
noncomputable def CaD (Γ : Cx) (n : Nat) (f : Value) (Ps : List Pd) (R : Pd) : Prop :=
  ∀ (A : Around) (s : Shared) (vs : List Value) (Q E : Value → Shared → Prop), Ok Γ n A s.heap → Inv Γ s → All2 s.heap Ps vs → Post Γ s R Q → wpAny Γ.M A (PySem.call f vs) Q E s
theorem EvD.callB {x : Str} {np pos : Pos} {id : String} {e : Expr} {es : List Expr} {Ps : List Pd} {R : Pd} (he : EnvOk env) (hx : env.kindOf x = some .globalImplicit) (hf : x ∈ (["len", "range", "sorted", "list", "set", "bytes", "chr", "type", "tuple", "issubclass"] : List Str)) (hv : bootBuiltins x = some (.builtin id))
    (a : ArgsD Γ n env σ (e :: es) Ps) (h : CaD Γ n (.builtin id) Ps R) (hn : x ≠ "__name__" := by decide) (hd : (x == ("__debug__" : Str)) = false := by decide) (hse : plainE e = true := by rfl) (hplain : es.all plainE = true := by rfl) : EvD Γ n env σ (.Call (.Name x np) (e :: es) [] pos) R := fun A s Q E o i t p => by
  show wpAny Γ.M A (do callWith pos (← eval (.Name x np) env) [] (backTo pos (starEach (e :: es) env)) []) Q E s
  refine wpAny_bind (EvD.builtin (Γ := Γ) (n := n) (σ := σ) he hx hf hv hn hd A s _ E o i t fun v s₁ i₁ g₁ q₁ => ?_)
  cases (show v = .builtin id from q₁)
  refine callWith_builtin1 ?_ (starEach_cons e es env hse) (star_plain pos env es hplain)
  exact a A s₁ pos _ E (o.grow g₁) i₁ (t.grow0 g₁) fun vs s₂ i₂ g₂ q₂ => h A s₂ vs Q E ((o.grow g₁).grow g₂) i₂ q₂ (p.grow (g₁.trans g₂))
theorem EvD.callT {x : Str} {np pos : Pos} {T : String} {e : Expr} {es : List Expr} {Ps : List Pd} {R : Pd} (he : EnvOk env) (hx : env.kindOf x = some .globalImplicit) (hf : x ∈ (["len", "range", "sorted", "list", "set", "bytes", "chr", "type", "tuple", "issubclass"] : List Str)) (hv : bootBuiltins x = some (.type T))
    (a : ArgsD Γ n env σ (e :: es) Ps) (h : CaD Γ n (.type T) Ps R) (hn : x ≠ "__name__" := by decide) (hd : (x == ("__debug__" : Str)) = false := by decide) (hse : plainE e = true := by rfl) (hplain : es.all plainE = true := by rfl) : EvD Γ n env σ (.Call (.Name x np) (e :: es) [] pos) R := fun A s Q E o i t p => by
  show wpAny Γ.M A (do callWith pos (← eval (.Name x np) env) [] (backTo pos (starEach (e :: es) env)) []) Q E s
  refine wpAny_bind (EvD.builtin (Γ := Γ) (n := n) (σ := σ) he hx hf hv hn hd A s _ E o i t fun v s₁ i₁ g₁ q₁ => ?_)
  cases (show v = .type T from q₁)
  refine callWith_type1 ?_ (starEach_cons e es env hse) (star_plain pos env es hplain)
  exact a A s₁ pos _ E (o.grow g₁) i₁ (t.grow0 g₁) fun vs s₂ i₂ g₂ q₂ => h A s₂ vs Q E ((o.grow g₁).grow g₂) i₂ q₂ (p.grow (g₁.trans g₂))

theorem All2.one {h : Heap} {P : Pd} : ∀ {vs : List Value}, All2 h [P] vs → ∃ v, vs = [v] ∧ P.p h v
  | [v], ⟨a, _⟩ => ⟨v, rfl, a⟩
theorem All2.two {h : Heap} {P R : Pd} : ∀ {vs : List Value}, All2 h [P, R] vs → ∃ v w, vs = [v, w] ∧ P.p h v ∧ R.p h w
  | [v, w], ⟨a, b, _⟩ => ⟨v, w, rfl, a, b⟩
theorem len_list_d {ps : List Pd} (hs : ps.length ≤ 100000) : CaD Γ n (.builtin "len") [.lst ps] (.int ps.length) := fun A s vs Q E o i q p => by
  obtain ⟨v, rfl, a, ws, hv, hl, hr⟩ := q.one
  subst hv
  have e : (ws.toArray.size : Int) = ps.length := by simp [hr.length]
  refine len_list hl (by rw [e]; omega) ?_
  exact p.same i ⟨_, by rw [e]⟩
theorem len_bytes_d {b : List UInt8} (hs : b.length ≤ 100000) : CaD Γ n (.builtin "len") [.bytes b] (.int b.length) := fun A s vs Q E o i q p => by
  obtain ⟨v, rfl, t, hv⟩ := q.one
  subst hv
  exact len_bytes (by simp; omega) (p.same i ⟨_, rfl⟩)
end

-- Fe
open PySem PySem.W PyProof.Rows PySem.Calls PySem.SeqAt
set_option Elab.async false
set_option maxRecDepth 4000
set_option linter.unusedVariables false
set_option linter.unusedSimpArgs false

/- ---------- subscripts ---------- -/
section
variable {Γ : Cx} {n : Nat} {env : Env} {σ : Sto}
theorem EvD.item {v i : Expr} {pos : Pos} {P₁ P₂ R : Pd} (x : EvD Γ n env σ v P₁) (y : EvD Γ n env σ i P₂) (f : Op2 Γ n (subscriptTail v i) P₁ P₂ R) : EvD Γ n env σ (.Subscript v i pos) R := fun A s Q E o iv t p =>
  Subscript_ (x A s _ E o iv t fun a s₁ i₁ g₁ q₁ => y A s₁ _ E (o.grow g₁) i₁ (t.grow0 g₁) fun b s₂ i₂ g₂ q₂ => f A s₂ a b Q E ((o.grow g₁).grow g₂) i₂ (P₁.mono g₂.md0 q₁) q₂ (p.grow (g₁.trans g₂)))

theorem sub_list {v ie : Expr} {ps : List Pd} {k : Int} {P : Pd} (h0 : 0 ≤ k) (hs : ps.length ≤ 100000) (hp : ps[k.toNat]? = some P) (hsub : ∀ a t, subscripted ie false (.ref a) (.int k t) = operate [.ref a, .int k t] (getItem (.ref a) (.int k t)) := by intro _ _; with_unfolding_all rfl) : Op2 Γ n (subscriptTail v ie) (.lst ps) (.int k) P := fun A s x y Q E o i ⟨a, vs, hx, hl, hr⟩ ⟨t, hy⟩ p => by
  subst hx hy
  obtain ⟨w, ew, pw⟩ := hr.get hp
  have hk : k.toNat < ps.length := (List.getElem?_eq_some_iff.mp hp).1
  exact tail_any hl.typeIs slot_list_getitem.lookup (wpAny_getItem_list hl h0 (by omega) (by simpa using ew) (p.same (tk := s.toks) i pw)) (hsub a t)
theorem sub_tup {v ie : Expr} {ps : List Pd} {k : Int} {P : Pd} (h0 : 0 ≤ k) (hs : ps.length ≤ 100000) (hp : ps[k.toNat]? = some P) (hsub : ∀ a t, subscripted ie false (.ref a) (.int k t) = operate [.ref a, .int k t] (getItem (.ref a) (.int k t)) := by intro _ _; with_unfolding_all rfl) : Op2 Γ n (subscriptTail v ie) (.tup ps) (.int k) P := fun A s x y Q E o i ⟨a, vs, hx, hl, hr⟩ ⟨t, hy⟩ p => by
  subst hx hy
  obtain ⟨w, ew, pw⟩ := hr.get hp
  have hk : k.toNat < ps.length := (List.getElem?_eq_some_iff.mp hp).1
  have hlen := hr.length
  refine item_tupleT (j := k.toNat) hl (by omega) (by omega) ?_ ew (p.same (tk := s.toks) i pw) (hsub a t)
  have h1 : ¬ k < 0 := by omega
  have h2 : k < (vs.length : Int) := by rw [hlen]; omega
  simp [seqIndex?, h1, h0, h2]
theorem sub_bytes {v ie : Expr} {b : List UInt8} {k : Int} {c : UInt8} (hs : b.length ≤ 100000) (h0 : 0 ≤ k) (hp : b[k.toNat]? = some c) (hsub : ∀ t u, subscripted ie false (.bytes b.toArray t) (.int k u) = operate [.bytes b.toArray t, .int k u] (getItem (.bytes b.toArray t) (.int k u)) := by intro _ _; with_unfolding_all rfl) (ht : ∀ t r, letTemporaryGo v (.bytes b.toArray t) r = pure () := by intro _ _; with_unfolding_all rfl) :
    Op2 Γ n (subscriptTail v ie) (.bytes b) (.int k) (.int c.toNat) := fun A s x y Q E o i ⟨t, hx⟩ ⟨u, hy⟩ p => by
  subst hx hy
  have hk : k.toNat < b.length := (List.getElem?_eq_some_iff.mp hp).1
  refine KBy.item_N (by omega) h0 (by omega) ?_ (hsub t u) (ht t)
  exact p.same i ⟨_, by rw [List.getD_eq_getElem?_getD, hp]; rfl⟩

/- slices -/
noncomputable def PartD (Γ : Cx) (n : Nat) (env : Env) (σ : Sto) (oe : Option Expr) (lo : Option Int) : Prop :=
  match oe, lo with
  | none, none => True
  | some e, some i => EvD Γ n env σ e (.int i)
  | _, _ => False
theorem part_at {A : Around} {s : Shared} {oe : Option Expr} {lo : Option Int} {Q : Value → Shared → Prop} {E : Value → Shared → Prop} (h : PartD Γ n env σ oe lo) (o : Ok Γ n A s.heap) (i : Inv Γ s) (t : Sat env s.heap σ) (p : ∀ v s', Inv Γ s' → Grow0 s s' → IsPart v lo → Q v s') : wpAny Γ.M A (valueOrNone (evalOpt oe env)) Q E s := by
  match oe, lo, h with
  | none, none, _ => exact wpAny_pure (p _ s i (.refl _ _ _) .none)
  | some e, some k, h =>
    show wpAny Γ.M A (eval e env) Q E s
    exact h A s Q E o i t fun v s' i' g ⟨u, hv⟩ => p v s' i' g (hv ▸ .int k u)
noncomputable def SlD (Γ : Cx) (n : Nat) (v : Expr) (sl : Expr) (P : Pd) (lo hi : Option Int) (R : Pd) : Prop :=
  ∀ (A : Around) (s : Shared) (a : Value) (c : Addr) (l u : Value) (Q E : Value → Shared → Prop), Ok Γ n A s.heap → Inv Γ s → P.p s.heap a → s.heap.IsSliceOf c l u .none → IsPart l lo → IsPart u hi → Post Γ s R Q → wpAny Γ.M A (subscriptTail v sl a (.ref c)) Q E s
theorem EvD.slice {v : Expr} {l u : Option Expr} {sp pos : Pos} {lo hi : Option Int} {P R : Pd} (x : EvD Γ n env σ v P) (y : PartD Γ n env σ l lo) (z : PartD Γ n env σ u hi) (f : SlD Γ n v (.Slice l u none sp) P lo hi R) : EvD Γ n env σ (.Subscript v (.Slice l u none sp) pos) R := fun A s Q E o i t p => by
  refine Subscript_ (x A s _ E o i t fun a s₁ i₁ g₁ q₁ => ?_)
  show wpAny Γ.M A (do
    let l ← valueOrNone (evalOpt l env)
    let u ← holding [l] (valueOrNone (evalOpt u env))
    let s ← holding [l, u] (valueOrNone (evalOpt none env))
    newFields "slice" [l, u, s]) _ E s₁
  refine wpAny_bind (part_at y (o.grow g₁) i₁ (t.grow0 g₁) fun lv s₂ i₂ g₂ q₂ => ?_)
  refine wpAny_bind (wpAny_holding (part_at z ((o.grow g₁).grow g₂) i₂ ((t.grow0 g₁).grow0 g₂) fun uv s₃ i₃ g₃ q₃ => ?_))
  refine wpAny_bind (wpAny_holding (wpAny_pure ?_))
  unfold newFields
  refine wpAny_newObj_type ?_ (by simp [sizeOk]; decide)
  have k := stays_push s₃.heap { cls := .type "slice", data := .fields #[lv, uv, .none] }
  have i₄ : Inv Γ { s₃ with heap := s₃.heap.push { cls := .type "slice", data := .fields #[lv, uv, .none] } } := i₃.stays k rfl rfl
  have g₄ : Grow0 s₃ { s₃ with heap := s₃.heap.push { cls := .type "slice", data := .fields #[lv, uv, .none] } } := .of_stays k rfl
  exact f A _ a _ lv uv Q E ((((o.grow g₁).grow g₂).grow g₃).grow g₄) i₄ (P.mono ((g₂.trans g₃).trans g₄).md0 q₁) (Heap.IsSliceOf.new _ _ _ _) q₂ q₃ (p.grow (g₁.trans ((g₂.trans g₃).trans g₄)))

theorem slice_list {v sl : Expr} {ps : List Pd} {lo hi : Option Int} {rs : List Pd} (hs : ps.length ≤ 100000) (hr : rs = ((ps.drop (lo.elim 0 (clipAt ps.length))).take (hi.elim ps.length (clipAt ps.length) - lo.elim 0 (clipAt ps.length))))
    (hsub : ∀ a c, subscripted sl false (.ref a) (.ref c) = operate [.ref c, .ref a] (getItem (.ref a) (.ref c)) := by intro _ _; with_unfolding_all rfl) : SlD Γ n v sl (.lst ps) lo hi (.lst rs) := fun A s a c l u Q E o i ⟨b, vs, hx, hl, hq⟩ hc hlo hhi p => by
  subst hx
  refine tail_any hl.typeIs slot_list_getitem.lookup ?_ (hsub b c)
  refine wpAny_getItem_list_slice hl hc hlo hhi .none (by simp) ?_ (by simp [hq.length, sizeLine_eq]; omega)
  rw [slicePick_plain]
  refine p.here (tk := s.toks) i (stays_push _ _) ⟨_, _, rfl, isList_push _ _, ?_⟩
  subst hr
  have e : vs.toArray.size = ps.length := by simp [hq.length]
  rw [e]
  exact ((hq.mono (.of_stays (stays_push _ _))).drop _).take _
theorem slice_bytes {v sl : Expr} {b r : List UInt8} {lo hi : Option Int} (hs : b.length ≤ 100000) (hr : r = ((b.drop (lo.elim 0 (clipAt b.length))).take (hi.elim b.length (clipAt b.length) - lo.elim 0 (clipAt b.length))))
    (hsub : ∀ t c, subscripted sl false (.bytes b.toArray t) (.ref c) = operate [.ref c, .bytes b.toArray t] (getItem (.bytes b.toArray t) (.ref c)) := by intro _ _; with_unfolding_all rfl) : SlD Γ n v sl (.bytes b) lo hi (.bytes r) := fun A s a c l u Q E o i ⟨t, hx⟩ hc hlo hhi p => by
  subst hx
  refine tail_any (typeIs_bytes s _ t) FB.slot_bytes_getitem.lookup ?_ (hsub t c)
  have e := KBc.picked_eq b.toArray lo hi
  refine getItem_meets (typeIs_bytes _ _ _) (by decide) FB.slot_bytes_getitem FB.entry_bytes_getitem (FB.args_bytes_getitem_2 _ _) (KBc.meets_slice2 b.toArray t c hlo hhi) ⟨hc, Nat.le_trans (KBc.size_picked_le _ lo hi) (by simp [sizeLine_eq]; omega), fun t' k => ?_⟩
  subst hr
  exact p.same i ⟨t', by rw [e]; simp⟩
end
section
variable {Γ : Cx} {n : Nat} {env : Env} {σ : Sto}
theorem PartD.none : PartD Γ n env σ none none := trivial
theorem PartD.some {e : Expr} {i : Int} (h : EvD Γ n env σ e (.int i)) : PartD Γ n env σ (some e) (some i) := h
theorem cut_upto {α : Type} {l : List α} {k : Nat} (hk : k ≤ l.length) : l.take k = (l.drop ((none : Option Int).elim 0 (clipAt l.length))).take ((some (k : Int)).elim l.length (clipAt l.length) - (none : Option Int).elim 0 (clipAt l.length)) := by
  simp [clipAt_nat, Nat.min_eq_left hk]
theorem cut_from {α : Type} {l : List α} {k : Nat} (hk : k ≤ l.length) : l.drop k = (l.drop ((some (k : Int)).elim 0 (clipAt l.length))).take ((none : Option Int).elim l.length (clipAt l.length) - (some (k : Int)).elim 0 (clipAt l.length)) := by
  simp only [Option.elim, clipAt_nat, Nat.min_eq_left hk]
  exact (List.take_of_length_le (by simp)).symm
theorem len0 {α : Type} {p : List α → Prop} (h : p []) : ∀ vs : List α, vs.length = 0 → p vs
  | [], _ => h
theorem len1 {α : Type} {p : List α → Prop} (h : ∀ a, p [a]) : ∀ vs : List α, vs.length = 1 → p vs
  | [a], _ => h a
theorem len2 {α : Type} {p : List α → Prop} (h : ∀ a b, p [a, b]) : ∀ vs : List α, vs.length = 2 → p vs
  | [a, b], _ => h a b
theorem len3 {α : Type} {p : List α → Prop} (h : ∀ a b c, p [a, b, c]) : ∀ vs : List α, vs.length = 3 → p vs
  | [a, b, c], _ => h a b c
theorem len5 {α : Type} {p : List α → Prop} (h : ∀ a b c d e, p [a, b, c, d, e]) : ∀ vs : List α, vs.length = 5 → p vs
  | [a, b, c, d, e], _ => h a b c d e
end
noncomputable abbrev Bs := List UInt8
noncomputable abbrev Fld := Bs × Bs
noncomputable abbrev fld (f : Fld) : Pd := .tup [.bytes f.1, .bytes f.2]
noncomputable abbrev lstB (bs : List Bs) : Pd := .lst (bs.map Pd.bytes)
noncomputable abbrev tupB (bs : List Bs) : Pd := .tup (bs.map Pd.bytes)
noncomputable def constsB : List Expr → Option (List Bs)
  | [] => some []
  | .Constant (.bytes b) _ _ :: r => match constsB r with
    | some bs => some (b :: bs)
    | none => none
  | _ :: _ => none
theorem ArgsD.bytes {Γ : Cx} {n : Nat} {env : Env} {σ : Sto} : ∀ {es : List Expr} {bs : List Bs}, constsB es = some bs → ArgsD Γ n env σ es (bs.map Pd.bytes)
  | [], _, h => by cases h; exact ArgsD.nil
  | .Constant (.bytes b) _ _ :: r, _, h => by
    unfold constsB at h
    split at h
    · rename_i bs hb
      cases h
      exact ArgsD.cons EvD.cbytes (ArgsD.bytes hb)
    · cases h
  | .Constant (.str _) _ _ :: _, _, h | .Constant (.int _) _ _ :: _, _, h | .Constant (.float _) _ _ :: _, _, h | .Constant (.bool _) _ _ :: _, _, h | .Constant .none _ _ :: _, _, h | .Constant .ellipsis _ _ :: _, _, h | .Constant (.complex _ _) _ _ :: _, _, h => by cases h
  | .Name .. :: _, _, h | .BoolOp .. :: _, _, h | .NamedExpr .. :: _, _, h | .BinOp .. :: _, _, h | .UnaryOp .. :: _, _, h | .Lambda .. :: _, _, h | .IfExp .. :: _, _, h | .Dict .. :: _, _, h | .Set .. :: _, _, h
  | .ListComp .. :: _, _, h | .SetComp .. :: _, _, h | .DictComp .. :: _, _, h | .GeneratorExp .. :: _, _, h | .Await .. :: _, _, h | .Yield .. :: _, _, h | .YieldFrom .. :: _, _, h | .Compare .. :: _, _, h | .Call .. :: _, _, h
  | .FormattedValue .. :: _, _, h | .JoinedStr .. :: _, _, h | .Attribute .. :: _, _, h | .Subscript .. :: _, _, h | .Starred .. :: _, _, h | .List .. :: _, _, h | .Tuple .. :: _, _, h | .Slice .. :: _, _, h => by cases h

-- Fg
open PySem PySem.W PyProof.Rows PySem.Calls PySem.SeqAt
set_option Elab.async false
set_option maxRecDepth 100000
set_option linter.unusedVariables false
set_option linter.unusedSimpArgs false
set_option maxHeartbeats 400000

theorem fill_k : PySem.Challenge.rw_ix0032_01 = PySem.Challenge.rw_ix0032_01 ∧ KF = KF := by
  k_fill
  exact ⟨rfl, rfl⟩

local macro_rules | `(tactic| walk_at "m fn") => `(tactic| (
  (case hK => (show (KF (Cx.w _).params).lookup _ = _; k_is))
  (case hb => exact rfl)
  (case hcode => (show codeIn (KF (Cx.w _).params) _ _ = true; k_is))
  (case hcl => exact rfl)
  (case hgl => exact rfl)
  (case hbl => exact rfl)
  (case hco => exact rfl)
  (case hgen => exact rfl)
  (case hk => exact rfl)
  (case hnd => decide)
  (case hlen => exact rfl)
  (case hloc => decide)
  (case hcell => decide)
  (case hbind => first | exact len0 rfl | exact len1 (fun _ => rfl) | exact len2 (fun _ _ => rfl) | exact len3 (fun _ _ _ => rfl))
  (case' h => (intro _; dsimp only [List.zip, List.zipWith]))))
local macro_rules | `(tactic| walk_at "m nm") => `(tactic| exact EvD.name ⟨rfl, rfl, rfl⟩ rfl)
local macro_rules | `(tactic| walk_at "m ev") => `(tactic| first | with_reducible exact EvD.cint | with_reducible exact EvD.cbytes | with_reducible exact EvD.cbool | with_reducible exact EvD.cnone | exact EvD.name ⟨rfl, rfl, rfl⟩ rfl)
local macro_rules | `(tactic| walk_at "m args") => `(tactic| first | with_reducible exact ArgsD.nil | (refine ArgsD.cons ?_ ?_; (walk_at "m ev"); (walk_at "m args")))
local macro_rules | `(tactic| walk_at "m glob") => `(tactic| (show nsIn (KF (Cx.w _).params) _ _ = _; k_is))
local macro_rules | `(tactic| walk_at "m keep") => `(tactic| (show keepIn (KF (Cx.w _).params) _ = _; k_is))

noncomputable def namesL : List Bs := [[120], [58, 109, 101, 116, 104, 111, 100], [58, 115, 99, 104, 101, 109, 101], [58, 112, 97, 116, 104], [58, 97, 117, 116, 104, 111, 114, 105, 116, 121], [58, 112, 114, 111, 116, 111, 99, 111, 108], [58, 115, 116, 97, 116, 117, 115], [104, 111, 115, 116], [116, 101], [99, 111, 111, 107, 105, 101], [58, 120],
  [99, 111, 110, 110, 101, 99, 116, 105, 111, 110], [112, 114, 111, 120, 121, 45, 99, 111, 110, 110, 101, 99, 116, 105, 111, 110], [107, 101, 101, 112, 45, 97, 108, 105, 118, 101], [116, 114, 97, 110, 115, 102, 101, 114, 45, 101, 110, 99, 111, 100, 105, 110, 103], [117, 112, 103, 114, 97, 100, 101], [85, 112], [97, 58, 98], [], [126]]
noncomputable def valuesL : List Bs := [[97, 46, 98], [67, 79, 78, 78, 69, 67, 84], [71, 69, 84], [116, 114, 97, 105, 108, 101, 114, 115], [84, 82, 65, 73, 76, 69, 82, 83], [], [47], [50, 48, 48], [99, 46, 100], [97, 32, 99], [99, 111, 110, 110, 101, 99, 116], [97, 9, 99]]

section
variable {Γ : Cx}
theorem put_t {ps : List Pd} {P : Pd} {k : Nat} (hk : k ≤ ps.length) (hs : ps.length ≤ 1000) : FnD Γ 1 308 [.lst ps, .int k, P] (.lst (ps.take k ++ [P] ++ ps.drop k)) := by
  refine' FnD.body (names := ["block", "place", "field"]) ?hK ?hb ?hcode ?hbind ?hnd ?hlen ?hloc ?hcell ?hcl ?hgl ?hbl ?hco ?hgen ?hk ?h
  walk_at "m fn"
  refine BdD.ret (EvD.binop (EvD.binop (EvD.slice (P := .lst ps) (by walk_at "m nm") .none (.some (i := k) (by walk_at "m nm")) (slice_list (rs := ps.take k) (by omega) ?_)) (EvD.list (by walk_at "m args")) (op_add_list ?_)) (EvD.slice (P := .lst ps) (by walk_at "m nm") (.some (i := k) (by walk_at "m nm")) .none (slice_list (rs := ps.drop k) (by omega) ?_)) (op_add_list ?_))
  · exact cut_upto hk
  · simp; omega
  · exact cut_from hk
  · simp; omega

theorem names_t : FnD Γ 1 294 [] (lstB namesL) := by
  refine' FnD.body (names := []) ?hK ?hb ?hcode ?hbind ?hnd ?hlen ?hloc ?hcell ?hcl ?hgl ?hbl ?hco ?hgen ?hk ?h
  walk_at "m fn"
  refine BdD.ret ?_
  refine EvD.list (Ps := namesL.map Pd.bytes) ?_ ?_
  · refine ArgsD.bytes ?_
    kernel_rfl
  · exact Nat.le_of_ble_eq_true rfl
theorem values_t : FnD Γ 1 301 [] (lstB valuesL) := by
  refine' FnD.body (names := []) ?hK ?hb ?hcode ?hbind ?hnd ?hlen ?hloc ?hcell ?hcl ?hgl ?hbl ?hco ?hgen ?hk ?h
  walk_at "m fn"
  refine BdD.ret ?_
  refine EvD.list (Ps := valuesL.map Pd.bytes) ?_ ?_
  · refine ArgsD.bytes ?_
    kernel_rfl
  · exact Nat.le_of_ble_eq_true rfl

theorem bytes_d {k : Int} (h0 : 0 ≤ k) (h1 : k < 256) {n : Nat} : CaD Γ n (.type "bytes") [.lst [.int k]] (.bytes [k.toNat.toUInt8]) := fun A s vs Q E o i q p => by
  obtain ⟨v, rfl, a, ws, hv, hl, hr⟩ := q.one
  subst hv
  obtain ⟨u, rfl, t, hu⟩ := hr.one
  subst hu
  refine call_bytes_ints hl (.cons k t .nil) (by simp; omega) (by simp [sizeLine_eq]) o.handled fun h' t k hk => ?_
  exact p.here i hk ⟨_, rfl⟩

/-- mixed -/
noncomputable def mixAt (b : Bs) (n : Int) : Nat := ((n.fdiv 256).fmod ((b.length : Int) + 1)).toNat
noncomputable def mixed (b : Bs) (n : Int) : Bs := b.take (mixAt b n) ++ [(n.fmod 256).toNat.toUInt8] ++ b.drop (mixAt b n)
theorem mixed_t {b : Bs} {k : Int} (hs : b.length ≤ 10000) : FnD Γ 1 315 [.bytes b, .int k] (.bytes (mixed b k)) := by
  refine' FnD.body (names := ["text", "number"]) ?hK ?hb ?hcode ?hbind ?hnd ?hlen ?hloc ?hcell ?hcl ?hgl ?hbl ?hco ?hgen ?hk ?h
  walk_at "m fn"
  have f1 : 0 ≤ (k.fdiv 256).fmod ((b.length : Int) + 1) := Int.fmod_nonneg_of_pos _ (by omega)
  have f2 : (k.fdiv 256).fmod ((b.length : Int) + 1) < (b.length : Int) + 1 := Int.fmod_lt_of_pos _ (by omega)
  have f3 : mixAt b k ≤ b.length := by unfold mixAt; omega
  have f4 : ((mixAt b k : Nat) : Int) = (k.fdiv 256).fmod ((b.length : Int) + 1) := by unfold mixAt; omega
  refine BdD.cons (StD.assign (P := .int (mixAt b k)) ?_ rfl) ?_
  · rw [f4]
    refine EvD.binop (EvD.binop (by walk_at "m nm") (by walk_at "m ev") (op_fdiv (by decide) (by decide))) (EvD.binop (EvD.callB ⟨rfl, rfl, rfl⟩ rfl (by decide) rfl (by walk_at "m args") (len_bytes_d (b := b) (by omega))) (by walk_at "m ev") op_add) (op_mod (by omega))
  · refine BdD.ret (EvD.binop (EvD.binop (EvD.slice (P := .bytes b) (by walk_at "m nm") .none (.some (i := mixAt b k) (by walk_at "m nm")) (slice_bytes (r := b.take (mixAt b k)) (by omega) ?_)) ?_ (op_add_bytes (b := [(k.fmod 256).toNat.toUInt8]) ?_)) (EvD.slice (P := .bytes b) (by walk_at "m nm") (.some (i := mixAt b k) (by walk_at "m nm")) .none (slice_bytes (r := b.drop (mixAt b k)) (by omega) ?_)) (op_add_bytes ?_))
    · exact cut_upto f3
    · refine EvD.callT ⟨rfl, rfl, rfl⟩ rfl (by decide) rfl (ArgsD.cons (EvD.list (ArgsD.cons (EvD.binop (by walk_at "m nm") (by walk_at "m ev") (op_mod (by decide))) ArgsD.nil)) ArgsD.nil) (bytes_d ?_ ?_)
      · exact Int.fmod_nonneg_of_pos _ (by decide)
      · exact Int.fmod_lt_of_pos _ (by decide)
    · simp; omega
    · exact cut_from f3
    · simp; omega
end

-- Fh
open PySem PySem.W PyProof.Rows PySem.Calls PySem.SeqAt
set_option Elab.async false
set_option maxRecDepth 4000
set_option linter.unusedVariables false
set_option linter.unusedSimpArgs false

/- ---------- a pair unpacked ---------- -/
theorem assign_pair {prog : Program} {w : World} {A : Around} {E : Value → Shared → Prop} {s : Shared} {env : Env} {x y : Str} {p q pos : Pos} {k : Nat} {t : Addr} {a b : Value} {m : Str → Option Value} {Q : Unit → Shared → Prop} (hh : A.handled = none)
    (ht : IsTup s.heap t #[a, b]) (hk : env.scope.kind = .function) (hx : env.kindOf x = some .local) (hy : env.kindOf y = some .local) (n : s.heap.Ns env.locals m)
    (h : ∀ h' tk, h'.Ns env.locals (fun z => if z = y then some b else if z = x then some a else m z) → Heap.ExtBut env.locals s.heap h' → (∀ o, s.heap.get? env.locals = some o → ∃ o', h'.get? env.locals = some o' ∧ o'.cls = o.cls ∧ IsDct o') → Q () { s with heap := h', toks := tk }) :
    wpAny (model prog w) A (assign (.Tuple [.Name x p, .Name y q] k pos) env (.ref t)) Q E s := by
  have hpq : (env.scope.kind == .class || (env.scope.kind == .module && env.locals != env.globals)) = false := by rw [hk]; rfl
  refine assign_Tuple_tuple hh ht rfl rfl fun h₁ he => ?_
  have k₁ := stays_extBut he
  show wpAny _ A (assignInOrder [assign (.Name x p) env, assign (.Name y q) env] [a, b]) Q E _
  refine assignInOrder_cons (wpAny_assign_Name ?_)
  rw [storeName_local hx hpq]
  refine nsSet_at (s := { s with heap := h₁ }) (n.keeps k₁) fun h₂ n₂ sb₂ c₂ => ?_
  refine assignInOrder_cons (wpAny_assign_Name ?_)
  rw [storeName_local hy hpq]
  refine nsSet_at (s := { s with heap := h₂, toks := s.toks + 1 }) n₂ fun h₃ n₃ sb₃ c₃ => ?_
  refine assignInOrder_nil (h h₃ _ n₃ (fun b' o hb e => sb₃.extBut b' o hb (sb₂.extBut b' o hb (k₁ b' o e))) fun o e => ?_)
  obtain ⟨o₂, e₂, q₂, _⟩ := c₂ o (k₁ _ _ e)
  obtain ⟨o₃, e₃, q₃, d₃⟩ := c₃ o₂ e₂
  exact ⟨o₃, e₃, q₃.trans q₂, d₃⟩

theorem afterL {Γ : Cx} {env : Env} {s : Shared} {h' : Heap} {tk : Nat} {m' : Str → Option Value} (a : Act env s.heap) (i : Inv Γ s) (w : Own Γ env) (n' : h'.Ns env.locals m') (ext : Heap.ExtBut env.locals s.heap h')
    (hc : ∀ o, s.heap.get? env.locals = some o → ∃ o', h'.get? env.locals = some o' ∧ o'.cls = o.cls ∧ IsDct o') : Inv Γ { s with heap := h', toks := tk } ∧ GrowL env s { s with heap := h', toks := tk } ∧ Act env h' := by
  obtain ⟨oL, eL, cL⟩ := a.fr
  obtain ⟨oL', eL', cL', dL'⟩ := hc oL eL
  refine ⟨⟨fun b o e => ext b o (fun q => by rw [q, w.new] at e; cases e) (i.base b o e), fun q mq => ?_, i.os, i.bare⟩, ⟨fun b o e hw => ⟨o, ext b o hw e, .inl rfl⟩, fun b o e => ?_, fun _ _ e _ => e, Nat.le_refl _⟩, ⟨_, n'⟩, oL', eL', cL'.trans cL⟩
  · obtain ⟨ps, c1, c2⟩ := i.tabs q mq
    obtain ⟨n1, n2⟩ := w.tab q mq
    exact ⟨ps, by
      obtain ⟨o, vs, file, tf, flags, tg, inF, text, tt, op, ho, r1, r2, r3, r4, r5, r6, hop, r7⟩ := c1
      exact ⟨o, vs, file, tf, flags, tg, inF, text, tt, op, ext _ _ n1 ho, r1, r2, r3, r4, r5, r6, ext _ _ n2 hop, r7⟩, by
      obtain ⟨⟨o, vs, e1, r⟩, e2⟩ := c2
      exact ⟨⟨o, vs, ext _ _ n1 e1, r⟩, ext _ _ n2 e2⟩⟩
  · by_cases hbL : b = env.locals
    · subst hbL
      rw [eL] at e; cases e
      exact ⟨oL', eL', cL', fun _ => dL'⟩
    · exact ⟨o, ext b o hbL e, rfl, fun q => q⟩

theorem ns_same {h : Heap} {L : Addr} {m m₁ : Str → Option Value} (n : h.Ns L m) (n₁ : h.Ns L m₁) : m₁ = m := by
  obtain ⟨o1, es1, ep1, a1, a2, a3, a4⟩ := n
  obtain ⟨o2, es2, ep2, b1, b2, b3, b4⟩ := n₁
  rw [a1] at b1; cases b1
  rw [a2] at b2; cases b2
  funext z
  rw [← a4, b4]

section
variable {Γ : Cx} {n : Nat} {env : Env} {σ : Sto}
theorem StD.unpack {x y : Str} {p q tp pos : Pos} {k : Nat} {e : Expr} {P R : Pd} (v : EvD Γ n env σ e (.tup [P, R])) (hx : env.kindOf x = some .local) (hy : env.kindOf y = some .local)
    (hs : swapsWithSole [.Tuple [.Name x p, .Name y q] k tp] e pos.line env = pure false := by rfl) (hw : swappedStores [.Tuple [.Name x p, .Name y q] k tp] e env = pure none := by rfl) :
    StD Γ n env σ (.Assign [.Tuple [.Name x p, .Name y q] k tp] e pos) ((y, R) :: (x, P) :: σ) := fun A s Q E o i w a t h => by
  refine Assign_Tuple (v A s _ E o i t fun u s₁ i₁ g₁ ⟨c, vs, hu, hl, hr⟩ => ?_) hs hw
  obtain ⟨b₁, b₂, rfl, p₁, p₂⟩ := hr.two
  subst hu
  have a₁ := a.grow0 g₁
  have t₁ := t.grow0 g₁
  obtain ⟨m, nm⟩ := a₁.ns
  refine assign_pair o.handled hl w.ok.kind hx hy nm fun h' tk n' ext hc => ?_
  obtain ⟨i₂, g₂, a₂⟩ := afterL (tk := tk) a₁ i₁ w n' ext hc
  have md : Md s₁.heap h' := a₁.md g₂
  refine h _ i₂ (g₁.of0.trans g₂) a₂ fun z S hz => ?_
  by_cases hzy : z = y
  · subst hzy
    rw [lookup_cons_eq] at hz; cases hz
    exact ⟨b₂, .inl ⟨hy, _, n', by simp⟩, R.mono md p₂⟩
  · rw [lookup_cons_ne hzy] at hz
    by_cases hzx : z = x
    · subst hzx
      rw [lookup_cons_eq] at hz; cases hz
      exact ⟨b₁, .inl ⟨hx, _, n', by simp [hzy]⟩, P.mono md p₁⟩
    · rw [lookup_cons_ne hzx] at hz
      obtain ⟨u, l, qq⟩ := t₁ z S hz
      refine ⟨u, ?_, S.mono md qq⟩
      rcases l with ⟨k, m₁, n₁, e⟩ | ⟨k, c, e, q2⟩
      · left
        refine ⟨k, _, n', ?_⟩
        simp only [hzy, hzx, if_false]
        rw [← ns_same nm n₁]; exact e
      · exact .inr ⟨k, c, e, q2.md md⟩

theorem EvD.ite {t b c : Expr} {pos : Pos} {r : Bool} {R : Pd} (x : TsD Γ n env σ t r) (y : r = true → EvD Γ n env σ b R) (z : r = false → EvD Γ n env σ c R) : EvD Γ n env σ (.IfExp t b c pos) R := fun A s Q E o i tt p => by
  refine wpAny_IfExp (x A s _ E o i tt fun s₁ i₁ g₁ => ?_)
  cases r with
  | true => exact y rfl A s₁ Q E (o.grow g₁) i₁ (tt.grow0 g₁) (p.grow g₁)
  | false => exact z rfl A s₁ Q E (o.grow g₁) i₁ (tt.grow0 g₁) (p.grow g₁)
end

/- ---------- what is only known to be ---------- -/
noncomputable def Pd.ex {α : Type} (P : α → Pd) : Pd := ⟨fun h v => ∃ x, (P x).p h v, by intro h h' v k ⟨x, r⟩; exact ⟨x, (P x).mono k r⟩⟩
section
variable {Γ : Cx} {n : Nat} {env : Env} {σ : Sto}
theorem EvD.ex {α : Type} {e : Expr} {P : α → Pd} (x : α) (h : EvD Γ n env σ e (P x)) : EvD Γ n env σ e (.ex P) := h.imp fun _ _ q => ⟨x, q⟩
theorem BdD.ex {α : Type} {ss : List Stmt} {P : α → Pd} (x : α) (h : BdD Γ n env σ ss (P x)) : BdD Γ n env σ ss (.ex P) := fun A s Q E o i w a t k => h A s Q E o i w a t fun v s' i' g a' q => k v s' i' g a' ⟨x, q⟩
theorem sat_open {α : Type} {h : Heap} {y : Str} {P : α → Pd} (t : Sat env h ((y, .ex P) :: σ)) : ∃ x, Sat env h ((y, P x) :: σ) := by
  obtain ⟨v, l, x, q⟩ := t y (.ex P) lookup_cons_eq
  refine ⟨x, fun z R hz => ?_⟩
  by_cases hzy : z = y
  · subst hzy; rw [lookup_cons_eq] at hz; cases hz; exact ⟨v, l, q⟩
  · rw [lookup_cons_ne hzy] at hz
    exact t z R (by rw [lookup_cons_ne hzy]; exact hz)
theorem BdD.open {α : Type} {ss : List Stmt} {y : Str} {P : α → Pd} {R : Pd} (h : ∀ x, BdD Γ n env ((y, P x) :: σ) ss R) : BdD Γ n env ((y, .ex P) :: σ) ss R := fun A s Q E o i w a t k => by
  obtain ⟨x, t'⟩ := sat_open t
  exact h x A s Q E o i w a t' k
theorem BdD.le {m : Nat} {ss : List Stmt} {R : Pd} (x : BdD Γ n env σ ss R) (l : n ≤ m) : BdD Γ m env σ ss R := fun A s Q E o i w a t k => x A s Q E (o.le l) i w a t k
theorem FnD.le {m : Nat} {f : Addr} {Ps : List Pd} {R : Pd} (x : FnD Γ n f Ps R) (l : n ≤ m) : FnD Γ m f Ps R := fun A s vs Rr o i q p => x A s vs Rr (o.le l) i q p
theorem FnD.imp {f : Addr} {Ps : List Pd} {P R : Pd} (x : FnD Γ n f Ps P) (h : ∀ h v, P.p h v → R.p h v) : FnD Γ n f Ps R := fun A s vs Rr o i q p => x A s vs Rr o i q fun v s' i' g r => p v s' i' g (h _ _ r)
end

-- Fi
open PySem PySem.W PyProof.Rows PySem.Calls PySem.SeqAt
set_option Elab.async false
set_option maxRecDepth 100000
set_option linter.unusedVariables false
set_option linter.unusedSimpArgs false
set_option maxHeartbeats 400000



noncomputable def Sz (B : Nat) (fs : List Fld) : Prop := fs.length ≤ 9 ∧ ∀ f ∈ fs, f.1.length ≤ B ∧ f.2.length ≤ B
noncomputable abbrev blk (fs : List Fld) : Pd := .lst (fs.map fld)
noncomputable abbrev blkS (B : Nat) : Pd := .ex fun x : { fs // Sz B fs } => blk x.1

theorem Sz.put {B : Nat} {fs : List Fld} {f : Fld} (h : fs.length ≤ 8) (hs : ∀ f ∈ fs, f.1.length ≤ B ∧ f.2.length ≤ B) (hf : f.1.length ≤ B ∧ f.2.length ≤ B) (k : Nat) : Sz B (fs.take k ++ [f] ++ fs.drop k) := by
  refine ⟨by simp; omega, fun g hg => ?_⟩
  simp only [List.append_assoc, List.mem_append, List.mem_singleton] at hg
  rcases hg with hg | rfl | hg
  · exact hs g (List.mem_of_mem_take hg)
  · exact hf
  · exact hs g (List.mem_of_mem_drop hg)
theorem mixed_len (b : Bs) (n : Int) : (mixed b n).length = b.length + 1 := by
  unfold mixed
  have : mixAt b n ≤ b.length := by
    unfold mixAt
    have f2 : (n.fdiv 256).fmod ((b.length : Int) + 1) < (b.length : Int) + 1 := Int.fmod_lt_of_pos _ (by omega)
    omega
  simp; omega

section
variable {Γ : Cx} {n : Nat} {env : Env} {σ : Sto}
theorem op_eq_nil {ps : List Pd} : Op2 Γ n (compareOp .Eq) (.lst ps) (.lst []) (.bool ps.isEmpty) :=
  op_eq_list (e := fun _ => true) (fun j P R h1 h2 => by simp at h2) (by cases ps <;> simp)
theorem op_ne_nil {ps : List Pd} : Op2 Γ n (compareOp .NotEq) (.lst ps) (.lst []) (.bool (!ps.isEmpty)) :=
  op_ne_list (e := fun _ => true) (fun j P R h1 h2 => by simp at h2) (by cases ps <;> simp)

/-- what _law_put leaves of a block -/
theorem put_blk {B : Nat} {fs : List Fld} {f : Fld} {k : Nat} (h : fs.length ≤ 8) (hs : ∀ f ∈ fs, f.1.length ≤ B ∧ f.2.length ≤ B) (hf : f.1.length ≤ B ∧ f.2.length ≤ B) (hk : k ≤ fs.length) : FnD Γ 1 308 [blk fs, .int k, fld f] (blkS B) := by
  refine (put_t (ps := fs.map fld) (P := fld f) (k := k) (by simpa using hk) (by simp; omega)).imp fun h' v q => ⟨⟨_, Sz.put h hs hf k⟩, ?_⟩
  have e : (fs.take k ++ [f] ++ fs.drop k).map fld = (fs.map fld).take k ++ [fld f] ++ (fs.map fld).drop k := by simp
  show (Pd.lst _).p h' v
  rw [e]; exact q
end

theorem EvD.nat {Γ : Cx} {n : Nat} {env : Env} {σ : Sto} {e : Expr} {i : Int} (h : 0 ≤ i) (x : EvD Γ n env σ e (.int i)) : EvD Γ n env σ e (.int ((i.toNat : Nat) : Int)) := by rw [Int.toNat_of_nonneg h]; exact x
theorem EvD.int_eq {Γ : Cx} {n : Nat} {env : Env} {σ : Sto} {e : Expr} {i j : Int} (h : i = j) (x : EvD Γ n env σ e (.int i)) : EvD Γ n env σ e (.int j) := h ▸ x
theorem Sz.mono {B C : Nat} {fs : List Fld} (h : Sz B fs) (hb : B ≤ C) : Sz C fs := ⟨h.1, fun f hf => ⟨Nat.le_trans (h.2 f hf).1 hb, Nat.le_trans (h.2 f hf).2 hb⟩⟩
theorem menu_name {k : Int} (h0 : 0 ≤ k) (h1 : k < 20) : ∃ b, (namesL.map Pd.bytes)[k.toNat]? = some (.bytes b) ∧ b.length ≤ 20 := by
  have hl : k.toNat < namesL.length := by have : namesL.length = 20 := rfl; omega
  refine ⟨namesL[k.toNat], by rw [List.getElem?_map, List.getElem?_eq_getElem hl]; rfl, ?_⟩
  have : ∀ b ∈ namesL, b.length ≤ 20 := by decide
  exact this _ (List.getElem_mem hl)
theorem menu_value {k : Int} (h0 : 0 ≤ k) (h1 : k < 12) : ∃ b, (valuesL.map Pd.bytes)[k.toNat]? = some (.bytes b) ∧ b.length ≤ 20 := by
  have hl : k.toNat < valuesL.length := by have : valuesL.length = 12 := rfl; omega
  refine ⟨valuesL[k.toNat], by rw [List.getElem?_map, List.getElem?_eq_getElem hl]; rfl, ?_⟩
  have : ∀ b ∈ valuesL, b.length ≤ 20 := by decide
  exact this _ (List.getElem_mem hl)

theorem changed_t {Γ : Cx} {B : Nat} {fs : List Fld} {d : Int} (hz : Sz B fs) (hB : 20 ≤ B) (hB2 : B ≤ 1000) : FnD Γ 3 322 [blk fs, .int d] (blkS (B + 1)) := by
  refine' FnD.body (names := ["block", "drawn"]) ?hK ?hb ?hcode ?hbind ?hnd ?hlen ?hloc ?hcell ?hcl ?hgl ?hbl ?hco ?hgen ?hk ?h
  walk_at "m fn"
  have hlm : (fs.map fld).length = fs.length := by simp
  have hl9 := hz.1
  refine BdD.cons (StD.assign (P := .int (d.fmod 8)) (EvD.binop (by walk_at "m nm") (by walk_at "m ev") (op_mod (by decide))) rfl) ?_
  refine BdD.cons (StD.assign (P := .int (d.fdiv 8)) (EvD.binop (by walk_at "m nm") (by walk_at "m ev") (op_fdiv (by decide) (by decide))) rfl) ?_
  generalize d.fmod 8 = de
  generalize d.fdiv 8 = re
  refine BdD.ite (b := (de == 0 || ((fs.map fld).isEmpty || false))) (TsD.bool (AllD.or (TsD.cmp (by walk_at "m nm") (by walk_at "m ev") op_eq_int) fun _ => AllD.or (TsD.cmp (by walk_at "m nm") (EvD.list ArgsD.nil) op_eq_nil) fun _ => AllD.or_nil)) ?_ ?_
  · intro _
    refine BdD.ite (b := (((fs.map fld).length : Int) == 9)) (TsD.cmp (EvD.callB ⟨rfl, rfl, rfl⟩ rfl (by decide) rfl (by walk_at "m args") (len_list_d (ps := fs.map fld) (by omega))) (by walk_at "m ev") op_eq_int) ?_ ?_
    · intro _
      exact BdD.ret (EvD.ex ⟨fs, hz.mono (by omega)⟩ (by walk_at "m nm"))
    · intro h9
      have hl8 : fs.length ≤ 8 := by
        have : ¬ ((fs.map fld).length : Int) = 9 := by simpa using h9
        rw [hlm] at this; omega
      obtain ⟨nm, hn, hnl⟩ := menu_name (k := re.fmod 20) (Int.fmod_nonneg_of_pos _ (by decide)) (Int.fmod_lt_of_pos _ (by decide))
      obtain ⟨vl, hv, hvl⟩ := menu_value (k := (re.fdiv 20).fmod 12) (Int.fmod_nonneg_of_pos _ (by decide)) (Int.fmod_lt_of_pos _ (by decide))
      refine BdD.cons (StD.assign (P := fld (nm, vl)) (EvD.tuple (ArgsD.cons (EvD.item (EvD.call0 ⟨rfl, rfl, rfl⟩ rfl (by walk_at "m glob") (by walk_at "m keep") (names_t.le (by decide))) (EvD.binop (by walk_at "m nm") (by walk_at "m ev") (op_mod (by decide))) (sub_list (Int.fmod_nonneg_of_pos _ (by decide)) (by decide) hn)) (ArgsD.cons (EvD.item (EvD.call0 ⟨rfl, rfl, rfl⟩ rfl (by walk_at "m glob") (by walk_at "m keep") (values_t.le (by decide))) (EvD.binop (EvD.binop (by walk_at "m nm") (by walk_at "m ev") (op_fdiv (by decide) (by decide))) (by walk_at "m ev") (op_mod (by decide))) (sub_list (Int.fmod_nonneg_of_pos _ (by decide)) (by decide) hv)) ArgsD.nil)) (Nat.le_of_ble_eq_true rfl)) rfl) ?_
      have f1 : 0 ≤ (re.fdiv 240).fmod (((fs.map fld).length : Int) + 1) := Int.fmod_nonneg_of_pos _ (by omega)
      have f2 : (re.fdiv 240).fmod (((fs.map fld).length : Int) + 1) < ((fs.map fld).length : Int) + 1 := Int.fmod_lt_of_pos _ (by omega)
      refine BdD.ret (EvD.call ⟨rfl, rfl, rfl⟩ rfl (by walk_at "m glob") (by walk_at "m keep") (ArgsD.cons (by walk_at "m nm") (ArgsD.cons (EvD.nat f1 (EvD.binop (EvD.binop (by walk_at "m nm") (by walk_at "m ev") (op_fdiv (by decide) (by decide))) (EvD.binop (EvD.callB ⟨rfl, rfl, rfl⟩ rfl (by decide) rfl (by walk_at "m args") (len_list_d (ps := fs.map fld) (by omega))) (by walk_at "m ev") op_add) (op_mod (by omega)))) (ArgsD.cons (by walk_at "m nm") ArgsD.nil))) (FnD.le (put_blk hl8 (hz.mono (by omega)).2 ⟨?_, ?_⟩ ?_) (by decide)))
      · show nm.length ≤ _; omega
      · show vl.length ≤ _; omega
      · rw [hlm] at f1 f2; rw [hlm]; omega
  · intro hne
    have hlen : 0 < fs.length := by
      cases fs with
      | nil => simp at hne
      | cons _ _ => simp
    have f1 : 0 ≤ re.fmod ((fs.map fld).length : Int) := Int.fmod_nonneg_of_pos _ (by omega)
    have f2 : re.fmod ((fs.map fld).length : Int) < ((fs.map fld).length : Int) := Int.fmod_lt_of_pos _ (by omega)
    refine BdD.cons (StD.assign (P := .int (((re.fmod ((fs.map fld).length : Int)).toNat : Nat) : Int)) (EvD.nat f1 (EvD.binop (by walk_at "m nm") (EvD.callB ⟨rfl, rfl, rfl⟩ rfl (by decide) rfl (by walk_at "m args") (len_list_d (ps := fs.map fld) (by omega))) (op_mod (by omega)))) rfl) ?_
    have hk : (re.fmod ((fs.map fld).length : Int)).toNat < fs.length := by rw [hlm] at f1 f2; rw [hlm]; omega
    generalize (re.fmod ((fs.map fld).length : Int)).toNat = k at hk
    have hfk : (fs.map fld)[((k : Nat) : Int).toNat]? = some (fld fs[k]) := by rw [Int.toNat_natCast, List.getElem?_map, List.getElem?_eq_getElem hk]; rfl
    have hsz := hz.2 fs[k] (List.getElem_mem hk)
    refine BdD.cons (StD.unpack (P := .bytes fs[k].1) (R := .bytes fs[k].2) (EvD.item (by walk_at "m nm") (by walk_at "m nm") (sub_list (by omega) (by omega) hfk)) rfl rfl) ?_
    generalize fs[k] = f at hsz
    obtain ⟨nm, vl⟩ := f
    dsimp only at hsz ⊢
    have ho : (fs.take k ++ fs.drop (k + 1)).map fld = (fs.map fld).take k ++ (fs.map fld).drop (k + 1) := by simp
    have hol : (fs.take k ++ fs.drop (k + 1)).length = fs.length - 1 := by simp; omega
    have hos : ∀ C, B ≤ C → ∀ f ∈ fs.take k ++ fs.drop (k + 1), f.1.length ≤ C ∧ f.2.length ≤ C := fun C hC g hg => by
      rcases List.mem_append.mp hg with hg | hg
      · exact (hz.mono hC).2 g (List.mem_of_mem_take hg)
      · exact (hz.mono hC).2 g (List.mem_of_mem_drop hg)
    refine BdD.cons (StD.assign (P := blk (fs.take k ++ fs.drop (k + 1))) ?_ rfl) ?_
    · show EvD _ _ _ _ _ (Pd.lst ((fs.take k ++ fs.drop (k + 1)).map fld))
      rw [ho]
      refine EvD.binop (EvD.slice (P := .lst (fs.map fld)) (by walk_at "m nm") .none (.some (i := k) (by walk_at "m nm")) (slice_list (rs := (fs.map fld).take k) (by omega) (cut_upto (by omega)))) (EvD.slice (P := .lst (fs.map fld)) (by walk_at "m nm") (.some (i := ((k + 1 : Nat) : Int)) (EvD.int_eq (i := (k : Int) + 1) rfl (EvD.binop (by walk_at "m nm") (by walk_at "m ev") op_add))) .none (slice_list (rs := (fs.map fld).drop (k + 1)) (by omega) (cut_from (by omega)))) (op_add_list ?_)
      simp; omega
    generalize fs.take k ++ fs.drop (k + 1) = os at ho hol hos
    have hom : (os.map fld).length = os.length := by simp
    refine BdD.ite (TsD.cmp (by walk_at "m nm") (by walk_at "m ev") op_eq_int) ?_ ?_
    · intro _
      exact BdD.ret (EvD.ex ⟨os, by omega, hos _ (by omega)⟩ (by walk_at "m nm"))
    intro _
    refine BdD.ite (b := (de == 2 || (de == 3 || false))) (TsD.bool (AllD.or (TsD.cmp (by walk_at "m nm") (by walk_at "m ev") op_eq_int) fun _ => AllD.or (TsD.cmp (by walk_at "m nm") (by walk_at "m ev") op_eq_int) fun _ => AllD.or_nil)) ?_ ?_
    · intro _
      refine BdD.ret (EvD.call ⟨rfl, rfl, rfl⟩ rfl (by walk_at "m glob") (by walk_at "m keep") (ArgsD.cons (by walk_at "m nm") (ArgsD.cons (P := .int (((if de == 2 then 0 else os.length : Nat) : Nat) : Int)) (EvD.ite (TsD.cmp (by walk_at "m nm") (by walk_at "m ev") op_eq_int) (fun h => ?_) (fun h => ?_)) (ArgsD.cons (EvD.tuple (by walk_at "m args") (Nat.le_of_ble_eq_true rfl)) ArgsD.nil))) (FnD.le (put_blk (f := (nm, vl)) (by omega) (hos (B + 1) (by omega)) ⟨?_, ?_⟩ ?_) (by decide)))
      · rw [if_pos h]; exact EvD.cint
      · rw [if_neg (by simp [h])]
        exact EvD.int_eq (by rw [hom]) (EvD.callB ⟨rfl, rfl, rfl⟩ rfl (by decide) rfl (by walk_at "m args") (len_list_d (ps := os.map fld) (by omega)))
      · show nm.length ≤ _; omega
      · show vl.length ≤ _; omega
      · split <;> omega
    intro _
    refine BdD.ite (TsD.cmp (by walk_at "m nm") (by walk_at "m ev") op_eq_int) ?_ ?_
    · intro _
      refine BdD.ret (EvD.ite (TsD.cmp (EvD.callB ⟨rfl, rfl, rfl⟩ rfl (by decide) rfl (by walk_at "m args") (len_list_d (ps := fs.map fld) (by omega))) (by walk_at "m ev") op_eq_int) (fun _ => EvD.ex ⟨fs, hz.mono (by omega)⟩ (by walk_at "m nm")) fun h9 => ?_)
      have hl8 : fs.length ≤ 8 := by
        have : ¬ ((fs.map fld).length : Int) = 9 := by simpa using h9
        rw [hlm] at this; omega
      refine EvD.call ⟨rfl, rfl, rfl⟩ rfl (by walk_at "m glob") (by walk_at "m keep") (ArgsD.cons (by walk_at "m nm") (ArgsD.cons (by walk_at "m nm") (ArgsD.cons (EvD.tuple (by walk_at "m args") (Nat.le_of_ble_eq_true rfl)) ArgsD.nil))) (FnD.le (put_blk (f := (nm, vl)) (k := k) hl8 (hz.mono (by omega)).2 ⟨?_, ?_⟩ ?_) (by decide))
      · show nm.length ≤ _; omega
      · show vl.length ≤ _; omega
      · omega
    intro _
    refine BdD.cons (StD.assign (P := .int (re.fdiv ((fs.map fld).length : Int))) (EvD.binop (by walk_at "m nm") (EvD.callB ⟨rfl, rfl, rfl⟩ rfl (by decide) rfl (by walk_at "m args") (len_list_d (ps := fs.map fld) (by omega))) (op_fdiv (by omega) (by omega))) rfl) ?_
    generalize re.fdiv ((fs.map fld).length : Int) = mo
    refine BdD.ite (TsD.cmp (by walk_at "m nm") (by walk_at "m ev") op_eq_int) ?_ ?_
    · intro _
      obtain ⟨v2, hv, hvl⟩ := menu_value (k := mo.fmod 12) (Int.fmod_nonneg_of_pos _ (by decide)) (Int.fmod_lt_of_pos _ (by decide))
      refine BdD.ret (EvD.call ⟨rfl, rfl, rfl⟩ rfl (by walk_at "m glob") (by walk_at "m keep") (ArgsD.cons (by walk_at "m nm") (ArgsD.cons (by walk_at "m nm") (ArgsD.cons (EvD.tuple (ArgsD.cons (by walk_at "m nm") (ArgsD.cons (EvD.item (EvD.call0 ⟨rfl, rfl, rfl⟩ rfl (by walk_at "m glob") (by walk_at "m keep") (values_t.le (by decide))) (EvD.binop (by walk_at "m nm") (by walk_at "m ev") (op_mod (by decide))) (sub_list (Int.fmod_nonneg_of_pos _ (by decide)) (by decide) hv)) ArgsD.nil)) (Nat.le_of_ble_eq_true rfl)) ArgsD.nil))) (FnD.le (put_blk (f := (nm, v2)) (k := k) (by omega) (hos (B + 1) (by omega)) ⟨?_, ?_⟩ ?_) (by decide)))
      · show nm.length ≤ _; omega
      · show v2.length ≤ _; omega
      · omega
    intro _
    refine BdD.ite (TsD.cmp (by walk_at "m nm") (by walk_at "m ev") op_eq_int) ?_ ?_
    · intro _
      refine BdD.ret (EvD.call ⟨rfl, rfl, rfl⟩ rfl (by walk_at "m glob") (by walk_at "m keep") (ArgsD.cons (by walk_at "m nm") (ArgsD.cons (by walk_at "m nm") (ArgsD.cons (EvD.tuple (ArgsD.cons (EvD.call ⟨rfl, rfl, rfl⟩ rfl (by walk_at "m glob") (by walk_at "m keep") (by walk_at "m args") ((mixed_t (b := nm) (k := mo) (by omega)).le (by decide))) (ArgsD.cons (by walk_at "m nm") ArgsD.nil)) (Nat.le_of_ble_eq_true rfl)) ArgsD.nil))) (FnD.le (put_blk (f := (mixed nm mo, vl)) (k := k) (by omega) (hos (B + 1) (by omega)) ⟨?_, ?_⟩ ?_) (by decide)))
      · show (mixed nm mo).length ≤ _; rw [mixed_len]; omega
      · show vl.length ≤ _; omega
      · omega
    intro _
    refine BdD.ret (EvD.call ⟨rfl, rfl, rfl⟩ rfl (by walk_at "m glob") (by walk_at "m keep") (ArgsD.cons (by walk_at "m nm") (ArgsD.cons (by walk_at "m nm") (ArgsD.cons (EvD.tuple (ArgsD.cons (by walk_at "m nm") (ArgsD.cons (EvD.call ⟨rfl, rfl, rfl⟩ rfl (by walk_at "m glob") (by walk_at "m keep") (by walk_at "m args") ((mixed_t (b := vl) (k := mo) (by omega)).le (by decide))) ArgsD.nil)) (Nat.le_of_ble_eq_true rfl)) ArgsD.nil))) (FnD.le (put_blk (f := (nm, mixed vl mo)) (k := k) (by omega) (hos (B + 1) (by omega)) ⟨?_, ?_⟩ ?_) (by decide)))
    · show nm.length ≤ _; omega
    · show (mixed vl mo).length ≤ _; rw [mixed_len]; omega
    · omega

-- Fj
open PySem PySem.W PyProof.Rows PySem.Calls PySem.SeqAt
set_option Elab.async false
set_option maxRecDepth 4000
set_option linter.unusedVariables false
set_option linter.unusedSimpArgs false

/- ---------- writing to fresh places ---------- -/
theorem Inv.but {Γ : Cx} {s : Shared} {h' : Heap} {tk : Nat} {W : Addr → Prop} (i : Inv Γ s) (hb : ∀ b, W b → Γ.hb.get? b = none) (ht : ∀ q ∈ Γ.tabs, ¬ W q.1 ∧ ¬ W q.2)
    (ext : ∀ b o, ¬ W b → s.heap.get? b = some o → h'.get? b = some o) : Inv Γ { s with heap := h', toks := tk } := by
  refine ⟨fun b o e => ext b o (fun q => by rw [hb b q] at e; cases e) (i.base b o e), fun q mq => ?_, i.os, i.bare⟩
  obtain ⟨ps, c1, c2⟩ := i.tabs q mq
  obtain ⟨n1, n2⟩ := ht q mq
  exact ⟨ps, by
    obtain ⟨o, vs, file, tf, flags, tg, inF, text, tt, op, ho, r1, r2, r3, r4, r5, r6, hop, r7⟩ := c1
    exact ⟨o, vs, file, tf, flags, tg, inF, text, tt, op, ext _ _ n1 ho, r1, r2, r3, r4, r5, r6, ext _ _ n2 hop, r7⟩, by
    obtain ⟨⟨o, vs, e1, r⟩, e2⟩ := c2
    exact ⟨⟨o, vs, ext _ _ n1 e1, r⟩, ext _ _ n2 e2⟩⟩
theorem fresh_hb {Γ : Cx} {s : Shared} {W : Addr → Prop} (i : Inv Γ s) (hW : ∀ b, W b → s.heap.get? b = none) : (∀ b, W b → Γ.hb.get? b = none) ∧ (∀ q ∈ Γ.tabs, ¬ W q.1 ∧ ¬ W q.2) := by
  refine ⟨fun b q => ?_, fun q mq => ?_⟩
  · cases e : Γ.hb.get? b with
    | none => rfl
    | some o => have := i.base b o e; rw [hW b q] at this; cases this
  · obtain ⟨ps, c, ⟨o, vs, e1, _⟩, e2⟩ := i.tabs q mq
    refine ⟨fun w => ?_, fun w => ?_⟩
    · rw [hW _ w] at e1; cases e1
    · rw [hW _ w] at e2; cases e2
theorem Grow.but {s₁ s : Shared} {h' : Heap} {tk : Nat} {W W₀ : Addr → Prop} {G : Nat → Prop} (g : Grow W₀ G s₁ s) (hW : ∀ b, W b → s₁.heap.get? b = none) (ext : ∀ b o, ¬ W b → s.heap.get? b = some o → h'.get? b = some o) : Grow W₀ G s₁ { s with heap := h', toks := tk } := by
  have q : ∀ {b o}, s₁.heap.get? b = some o → ¬ W b := fun e w => by rw [hW _ w] at e; cases e
  refine ⟨fun b o e w => ?_, fun b o e => ?_, g.gens, g.gsz⟩
  · obtain ⟨o', e', r⟩ := g.le b o e w
    exact ⟨o', ext b o' (q e) e', r⟩
  · obtain ⟨o', e', r⟩ := g.dom b o e
    exact ⟨o', ext b o' (q e) e', r⟩

/-- what held of a value in an earlier heap -/
noncomputable def Pd.was (h : Heap) (P : Pd) : Pd := ⟨fun _ v => P.p h v, fun _ q => q⟩
noncomputable def Sto.was (h : Heap) (σ : Sto) : Sto := σ.map fun x => (x.1, .was h x.2)
theorem was_lookup (h : Heap) : ∀ (σ : Sto) (x : Str), (Sto.was h σ).lookup x = (σ.lookup x).map (Pd.was h)
  | [], _ => rfl
  | (y, P) :: σ, x => by
    show List.lookup x ((y, Pd.was h P) :: Sto.was h σ) = _
    by_cases hxy : x = y
    · subst hxy; rw [lookup_cons_eq, lookup_cons_eq]; rfl
    · rw [lookup_cons_ne hxy, lookup_cons_ne hxy]; exact was_lookup h σ x
theorem Sat.was {env : Env} {h : Heap} {σ : Sto} (t : Sat env h σ) : Sat env h (Sto.was h σ) := fun x P hx => by
  rw [was_lookup] at hx
  cases hσ : σ.lookup x with
  | none => rw [hσ] at hx; cases hx
  | some R =>
    rw [hσ] at hx; cases hx
    obtain ⟨v, l, q⟩ := t x R hσ
    exact ⟨v, l, q⟩

/- ---------- the tests of a comprehension ---------- -/
noncomputable def TstsD (Γ : Cx) (n : Nat) (env : Env) (σ : Sto) (ifs : List Expr) (b : Bool) : Prop :=
  ∀ (A : Around) (s : Shared) (Q : Bool → Shared → Prop) (E : Value → Shared → Prop), Ok Γ n A s.heap → Inv Γ s → Sat env s.heap σ → (∀ s', Inv Γ s' → Grow0 s s' → Q b s') →
    wpAny Γ.M A (forIn ifs true fun c r => if r = true then do let ok ← isTrue c env (eval c env); pure (ForInStep.yield ok) else pure (ForInStep.yield r)) Q E s
theorem TstsD.nil {Γ : Cx} {n : Nat} {env : Env} {σ : Sto} : TstsD Γ n env σ [] true := fun _ s _ _ _ i _ p => wpAny_tests_nil (p s i (.refl _ _ _))
theorem TstsD.one {Γ : Cx} {n : Nat} {env : Env} {σ : Sto} {e : Expr} {b : Bool} (x : TsD Γ n env σ e b) : TstsD Γ n env σ [e] b := fun A s _ E o i t p => wpAny_tests_one (x A s _ E o i t p)

/- ---------- the target of a comprehension ---------- -/
noncomputable def LocAt (env : Env) (h : Heap) (m : Str → Option Value) (τ : Sto) : Prop := ∀ x R, τ.lookup x = some R → env.kindOf x = some .local ∧ ∃ u, m x = some u ∧ R.p h u
noncomputable def TgC (Γ : Cx) (env : Env) (t : Expr) (P : Pd) (τ : Sto) : Prop :=
  ∀ (A : Around) (s₁ s : Shared) (v : Value) (m : Str → Option Value) (Q : Unit → Shared → Prop) (E : Value → Shared → Prop), A.handled = none → Grow0 s₁ s → P.p s₁.heap v → s.heap.Ns env.locals m →
    (∀ h' tk m', h'.Ns env.locals m' → Heap.ExtBut env.locals s.heap h' → LocAt env s₁.heap m' τ → Q () { s with heap := h', toks := tk }) → wpAny Γ.M A (assign t env v) Q E s
theorem TgC.name {Γ : Cx} {env : Env} {x : Str} {p : Pos} {P : Pd} (hx : env.kindOf x = some .local) (hk : env.scope.kind = .function) : TgC Γ env (.Name x p) P [(x, P)] := fun A s₁ s v m Q E _ g hv n h => by
  have hpq : (env.scope.kind == .class || (env.scope.kind == .module && env.locals != env.globals)) = false := by rw [hk]; rfl
  refine wpAny_assign_Name ?_
  rw [storeName_local hx hpq]
  refine nsSet_at n fun h' n' sb _ => h h' _ _ n' sb.extBut fun y R hy => ?_
  by_cases hyx : y = x
  · subst hyx
    rw [lookup_cons_eq] at hy; cases hy
    exact ⟨hx, v, by simp, hv⟩
  · rw [lookup_cons_ne hyx] at hy; simp at hy
theorem TgC.pair {Γ : Cx} {env : Env} {x y : Str} {p q pos : Pos} {k : Nat} {P R : Pd} (hx : env.kindOf x = some .local) (hy : env.kindOf y = some .local) (hk : env.scope.kind = .function) (hxy : x ≠ y) :
    TgC Γ env (.Tuple [.Name x p, .Name y q] k pos) (.tup [P, R]) [(x, P), (y, R)] := fun A s₁ s v m Q E hh g ⟨c, vs, hu, hl, hr⟩ n h => by
  obtain ⟨b₁, b₂, rfl, p₁, p₂⟩ := hr.two
  subst hu
  refine assign_pair' hh (isTup_md g.md0 hl) hk hx hy n fun h' tk n' ext => h h' tk _ n' ext fun z S hz => ?_
  by_cases hzx : z = x
  · subst hzx
    rw [lookup_cons_eq] at hz; cases hz
    exact ⟨hx, b₁, by simp [hxy], p₁⟩
  · rw [lookup_cons_ne hzx] at hz
    by_cases hzy : z = y
    · subst hzy
      rw [lookup_cons_eq] at hz; cases hz
      exact ⟨hy, b₂, by simp, p₂⟩
    · rw [lookup_cons_ne hzy] at hz; simp at hz
where assign_pair' {prog : Program} {w : World} {A : Around} {E : Value → Shared → Prop} {s : Shared} {env : Env} {x y : Str} {p q pos : Pos} {k : Nat} {t : Addr} {a b : Value} {m : Str → Option Value} {Q : Unit → Shared → Prop} (hh : A.handled = none)
    (ht : IsTup s.heap t #[a, b]) (hk : env.scope.kind = .function) (hx : env.kindOf x = some .local) (hy : env.kindOf y = some .local) (n : s.heap.Ns env.locals m)
    (h : ∀ h' tk, h'.Ns env.locals (fun z => if z = y then some b else if z = x then some a else m z) → Heap.ExtBut env.locals s.heap h' → Q () { s with heap := h', toks := tk }) :
    wpAny (model prog w) A (assign (.Tuple [.Name x p, .Name y q] k pos) env (.ref t)) Q E s := assign_pair hh ht hk hx hy n fun h' tk n' ext _ => h h' tk n' ext

/- ---------- an iterator ---------- -/
theorem not_solid {o : Obj} {T : String} (h : o.cls = .type T) (hT : (["list", "tuple", "cell", "function", "dict", "set"].contains T) = false) : ¬ solid o := fun q => by
  unfold solid at q
  rw [h] at q
  rcases q with q | q | q | q | q | q | ⟨a, q⟩
  all_goals first | (cases Value.type.inj q; revert hT; decide) | cases q
noncomputable def plainIt (T : String) : Bool := !(["enumerate", "zip", "dict_itemiterator", "dict_reverseitemiterator", "odict_iterator", "itertools.zip_longest", "itertools.pairwise"].contains T)
structure It (Γ : Cx) (A : Around) (I : Addr) (fp wr : List Addr) (n : Nat) (P : Nat → Value → Prop) (St : Nat → Heap → Prop) : Prop where
  walks : Walks Γ.prog Γ.w A I fp wr n P St
  cls : ∀ i h, St i h → ∃ o T, h.get? I = some o ∧ o.cls = .type T ∧ plainIt T = true
  nofr : ∀ i h, St i h → ∀ b ∈ fp, ∀ o, h.get? b = some o → o.cls ≠ .type "frame"
  nosol : ∀ i h, St i h → ∀ b ∈ wr, ∀ o, h.get? b = some o → ¬ solid o
theorem It.st {Γ : Cx} {A : Around} {I : Addr} {fp wr : List Addr} {n : Nat} {P : Nat → Value → Prop} {St : Nat → Heap → Prop} (x : It Γ A I fp wr n P St) {i : Nat} {s s' : Shared} (hs : St i s.heap) (g : Grow0 s s') : St i s'.heap :=
  x.walks.frame _ _ _ hs fun b hb o e => g.get e (fun f => f) (x.nofr i _ hs b hb o e)
theorem It.go {Γ : Cx} {A : Around} {I : Addr} {fp wr : List Addr} {n : Nat} {P : Nat → Value → Prop} {St : Nat → Heap → Prop} (x : It Γ A I fp wr n P St) {i : Nat} {s : Shared} (hs : St i s.heap) (target : Expr) (v : Value) {Q : Unit → Shared → Prop} {E : Value → Shared → Prop} (h : Q () s) :
    wpAny Γ.M A (letOwnedTupleGo target (.ref I) v) Q E s := by
  obtain ⟨o, T, ho, hc, hp⟩ := x.cls i _ hs
  have key : ∀ es k pos, (target = .Tuple es k pos ∨ target = .List es pos) → wpAny Γ.M A (letOwnedTupleGo target (.ref I) v) Q E s := fun es k pos ht => by
    rcases ht with rfl | rfl <;> (
      unfold letOwnedTupleGo
      cases v <;> first | exact wpAny_pure h | skip
      refine wpAny_bind (wpAny_load ho ?_)
      rw [hc]
      cases hd : o.data <;> first | exact wpAny_pure h | skip
      unfold plainIt at hp
      simp only [Bool.not_eq_true'] at hp
      simp only [hp, Bool.false_and, Bool.false_eq_true, if_false]
      exact wpAny_pure h)
  cases target <;> first | exact wpAny_pure h | exact key _ _ _ (.inl rfl) | exact key _ 0 _ (.inr rfl)

noncomputable def ItD (Γ : Cx) (n : Nat) (env : Env) (σ : Sto) (iter : Expr) (Ps : List Pd) : Prop :=
  ∀ (A : Around) (s : Shared) (Q : Value → Shared → Prop) (E : Value → Shared → Prop), Ok Γ n A s.heap → Inv Γ s → Sat env s.heap σ →
    (∀ (s₁ s₂ : Shared) (I : Addr) (fp wr : List Addr) (P : Nat → Value → Prop) (St : Nat → Heap → Prop), Inv Γ s₁ → Grow0 s s₁ → Inv Γ s₂ → Grow0 s₁ s₂ → It Γ A I fp wr Ps.length P St → St 0 s₂.heap → (∀ b ∈ fp, b < s₂.heap.objs.size) →
      (∀ b ∈ wr, s₁.heap.get? b = none) → (∀ i v, P i v → ∃ R, Ps[i]? = some R ∧ R.p s₁.heap v) → Q (.ref I) s₂) → wpAny Γ.M A (eval iter env) (fun x s₁ => wpAny Γ.M A (pyIter x) Q E s₁) E s

theorem get_size (h : Heap) : h.get? h.objs.size = none := by
  cases e : h.get? h.objs.size with
  | none => rfl
  | some o => exact absurd (Heap.lt_size e) (Nat.lt_irrefl _)
theorem lt_push {h : Heap} {o : Obj} {b : Addr} (hb : b < h.objs.size) : b < (h.push o).objs.size := by rw [Heap.size_push]; exact Nat.lt_succ_of_lt hb
theorem size_lt_push {h : Heap} {o : Obj} : h.objs.size < (h.push o).objs.size := by rw [Heap.size_push]; exact Nat.lt_succ_self _

section
variable {Γ : Cx} {n : Nat} {env : Env} {σ : Sto}
theorem ItD.list {e : Expr} {Ps : List Pd} (x : EvD Γ n env σ e (.lst Ps)) : ItD Γ n env σ e Ps := fun A s Q E o i t p =>
  x A s _ E o i t fun v s₁ i₁ g₁ ⟨a, vs, hv, hl, hr⟩ => by
    subst hv
    refine wpAny_pyIter_list hl ?_
    have k := stays_push s₁.heap { cls := .type "list_iterator", data := .fields #[.ref a, .int 0 0] }
    have ha : a < s₁.heap.objs.size := by obtain ⟨o', e', _⟩ := hl; exact Heap.lt_size e'
    have W := Walks.list (prog := Γ.prog) (w := Γ.w) o.handled s₁.heap.objs.size a (Nat.ne_of_lt ha) vs.toArray
    have hn : vs.toArray.size = Ps.length := by simp [hr.length]
    rw [hn] at W
    refine p s₁ _ _ _ _ _ _ i₁ g₁ (i₁.stays k rfl rfl) (.of_stays k rfl) ⟨W, fun j h st => ?_, fun j h st b hb o' e' => ?_, fun j h st b hb o' e' => ?_⟩ ⟨⟨_, Heap.get?_push_size _ rfl, rfl, rfl⟩, ?_⟩ ?_ ?_ ?_
    · obtain ⟨⟨o', e', c', _⟩, _⟩ := st
      exact ⟨o', _, e', c', by decide⟩
    · obtain ⟨⟨o₁, e₁, c₁, _⟩, o₂, e₂, c₂, _⟩ := st
      simp only [List.mem_cons, List.not_mem_nil, or_false] at hb
      rcases hb with rfl | rfl
      · rw [e₁] at e'; cases e'; rw [c₁]; decide
      · rw [e₂] at e'; cases e'; rw [c₂]; decide
    · obtain ⟨⟨o₁, e₁, c₁, _⟩, _⟩ := st
      simp only [List.mem_cons, List.not_mem_nil, or_false] at hb
      subst hb
      rw [e₁] at e'; cases e'; exact not_solid c₁ (by decide)
    · obtain ⟨o', e', r⟩ := hl; exact ⟨o', k _ _ e', r⟩
    · intro b hb
      simp only [List.mem_cons, List.not_mem_nil, or_false] at hb
      rcases hb with rfl | rfl
      · exact size_lt_push
      · exact lt_push ha
    · intro b hb
      simp only [List.mem_cons, List.not_mem_nil, or_false] at hb
      subst hb; exact get_size _
    · intro j v hj
      have hj' : vs[j]? = some v := by simpa using hj
      have hlt : j < vs.length := (List.getElem?_eq_some_iff.mp hj').1
      obtain ⟨u, eu, pu⟩ := hr.get (List.getElem?_eq_getElem (show j < Ps.length by rw [← hr.length]; exact hlt))
      rw [hj'] at eu; cases eu
      exact ⟨_, List.getElem?_eq_getElem _, pu⟩
theorem ItD.tuple {e : Expr} {Ps : List Pd} (x : EvD Γ n env σ e (.tup Ps)) : ItD Γ n env σ e Ps := fun A s Q E o i t p =>
  x A s _ E o i t fun v s₁ i₁ g₁ ⟨a, vs, hv, hl, hr⟩ => by
    subst hv
    refine iter_tuple hl ?_
    have k := stays_push s₁.heap { cls := .type "tuple_iterator", data := .fields #[.ref a, .int 0 0] }
    have ha : a < s₁.heap.objs.size := by obtain ⟨o', e', _⟩ := hl; exact Heap.lt_size e'
    have hne : a ≠ s₁.heap.objs.size := Nat.ne_of_lt ha
    have W := Walks.tuple (prog := Γ.prog) (w := Γ.w) o.handled s₁.heap.objs.size a hne vs.toArray
    have hn : vs.toArray.size = Ps.length := by simp [hr.length]
    rw [hn] at W
    refine p s₁ _ _ _ _ _ _ i₁ g₁ (i₁.stays k rfl rfl) (.of_stays k rfl) ⟨W, fun j h st => ?_, fun j h st b hb o' e' => ?_, fun j h st b hb o' e' => ?_⟩ ⟨⟨_, Heap.get?_push_size _ rfl, rfl, rfl⟩, ?_⟩ ?_ ?_ ?_
    · obtain ⟨⟨o', e', c', _⟩, _⟩ := st
      exact ⟨o', _, e', c', by decide⟩
    · obtain ⟨⟨o₁, e₁, c₁, _⟩, o₂, e₂, c₂, _⟩ := st
      simp only [List.mem_cons, List.not_mem_nil, or_false] at hb
      rcases hb with rfl | rfl
      · rw [e₁] at e'; cases e'; rw [c₁]; decide
      · rw [e₂] at e'; cases e'; rw [c₂]; decide
    · obtain ⟨⟨o₁, e₁, c₁, _⟩, _⟩ := st
      simp only [List.mem_cons, List.not_mem_nil, or_false] at hb
      subst hb
      rw [e₁] at e'; cases e'; exact not_solid c₁ (by decide)
    · obtain ⟨o', e', r⟩ := hl; exact ⟨o', k _ _ e', r⟩
    · intro b hb
      simp only [List.mem_cons, List.not_mem_nil, or_false] at hb
      rcases hb with rfl | rfl
      · exact size_lt_push
      · exact lt_push ha
    · intro b hb
      simp only [List.mem_cons, List.not_mem_nil, or_false] at hb
      subst hb; exact get_size _
    · intro j v hj
      have hj' : vs[j]? = some v := by simpa using hj
      have hlt : j < vs.length := (List.getElem?_eq_some_iff.mp hj').1
      obtain ⟨u, eu, pu⟩ := hr.get (List.getElem?_eq_getElem (show j < Ps.length by rw [← hr.length]; exact hlt))
      rw [hj'] at eu; cases eu
      exact ⟨_, List.getElem?_eq_getElem _, pu⟩
theorem ItD.bytes {e : Expr} {b : Bs} (x : EvD Γ n env σ e (.bytes b)) : ItD Γ n env σ e (b.map fun c => .int c.toNat) := fun A s Q E o i t p =>
  x A s _ E o i t fun v s₁ i₁ g₁ ⟨tk, hv⟩ => by
    subst hv
    refine KBw.pyIter_bytes ?_
    have k := stays_push s₁.heap { cls := .type "bytes_iterator", data := .fields #[.bytes b.toArray tk, .int 0 0] }
    have W := KBw.walks (prog := Γ.prog) (w := Γ.w) o.handled s₁.heap.objs.size b.toArray tk
    have hn : b.toArray.size = (b.map fun c => Pd.int c.toNat).length := by simp
    rw [hn] at W
    refine p s₁ _ _ _ _ _ _ i₁ g₁ (i₁.stays k rfl rfl) (.of_stays k rfl) ⟨W, fun j h st => ?_, fun j h st b hb o' e' => ?_, fun j h st b hb o' e' => ?_⟩ ⟨_, Heap.get?_push_size _ rfl, rfl, rfl⟩ ?_ ?_ ?_
    · obtain ⟨o', e', c', _⟩ := st
      exact ⟨o', _, e', c', by decide⟩
    · obtain ⟨o₁, e₁, c₁, _⟩ := st
      simp only [List.mem_cons, List.not_mem_nil, or_false] at hb
      subst hb
      rw [e₁] at e'; cases e'; rw [c₁]; decide
    · obtain ⟨o₁, e₁, c₁, _⟩ := st
      simp only [List.mem_cons, List.not_mem_nil, or_false] at hb
      subst hb
      rw [e₁] at e'; cases e'; exact not_solid c₁ (by decide)
    · intro b hb
      simp only [List.mem_cons, List.not_mem_nil, or_false] at hb
      rcases hb with rfl
      exact size_lt_push
    · intro b hb
      simp only [List.mem_cons, List.not_mem_nil, or_false] at hb
      subst hb; exact get_size _
    · rintro j v ⟨c, u, hj, rfl⟩
      have hj' : b[j]? = some c := by simpa using hj
      exact ⟨.int c.toNat, by rw [List.getElem?_map, hj']; rfl, u, rfl⟩
end

-- Fk
open PySem PySem.W PyProof.Rows PySem.Calls PySem.SeqAt
set_option Elab.async false
set_option maxRecDepth 4000
set_option linter.unusedVariables false
set_option linter.unusedSimpArgs false

theorem turns_list {prog : Program} {w : World} {A : Around} {R : Result → Shared → Prop} {s : Shared} {elt target iter : Expr} {ifs : List Expr} {scope : Scope} {pos : Pos} {it acc : Value} {env : Env} (J : Nat → Shared → Prop)
    (turn : ∀ n s, J n s → ∀ E, wpAny (model prog w) A (pyNext it) (fun r s₁ => match r with
      | none => R (.ok .next) s₁
      | some v => wpAny (model prog w) A (letOwnedTupleGo target it v) (fun _ s₁' => wpAny (model prog w) A (assign target env v) (fun _ s₂ =>
          wpAny (model prog w) A (forIn ifs true fun c r => if r = true then do let ok ← isTrue c env (eval c env); pure (ForInStep.yield ok) else pure (ForInStep.yield r)) (fun ok s₃ =>
            if ok = true then wpAny (model prog w) A (eval elt env) (fun x s₄ =>
              wpAny (model prog w) A (call (.builtin "list.append") [acc, x]) (fun _ s₅ => ∃ m, m < n ∧ J m s₅) E s₄) E s₃
            else ∃ m, m < n ∧ J m s₃) E s₂) E s₁') E s₁) E s)
    (n : Nat) (h : J n s) :
    codeAny (model prog w) A (.compLoop (.ListComp elt [⟨target, iter, ifs, 0⟩] scope pos) 0 it acc env) R s := by
  refine codeAny_loop rfl J (fun n s hI => ?_) n h
  show wpAny _ A ((compTurn (.ListComp elt [⟨target, iter, ifs, 0⟩] scope pos) 0 it acc env).onRaise (fun x => do noteFrame x env; theTreesLotGoes x)) _ _ s
  refine wpAny_noted ?_
  rw [compTurn_list]
  refine wpAny_bind (wpAny_standAt (wpAny_bind (wpAny_mono (turn n s hI _) (fun r s₁ h₁ => ?_) fun _ _ h' => h')))
  cases r with
  | none => exact wpAny_pure h₁
  | some v =>
    refine wpAny_bind (wpAny_mono h₁ (fun _ s₁' h₁ => wpAny_bind (wpAny_mono h₁ (fun _ s₂ h₂ => wpAny_bind (wpAny_mono h₂ (fun ok s₃ h₃ => ?_) fun _ _ h' => h')) fun _ _ h' => h')) fun _ _ h' => h')
    cases ok with
    | false => exact wpAny_pure ⟨rfl, h₃⟩
    | true =>
      exact wpAny_bind (wpAny_bind (wpAny_mono h₃ (fun x s₄ h₄ => wpAny_bind (wpAny_mono h₄ (fun _ s₅ h₅ => wpAny_pure (wpAny_pure ⟨rfl, h₅⟩)) fun _ _ h' => h')) fun _ _ h' => h'))

theorem turns_dict {prog : Program} {w : World} {A : Around} {R : Result → Shared → Prop} {s : Shared} {kx vx target iter : Expr} {ifs : List Expr} {scope : Scope} {pos : Pos} {it : Value} {D : Addr} {env : Env} (J : Nat → Shared → Prop)
    (turn : ∀ n s, J n s → ∀ E, wpAny (model prog w) A (pyNext it) (fun r s₁ => match r with
      | none => R (.ok .next) s₁
      | some v => wpAny (model prog w) A (letOwnedTupleGo target it v) (fun _ s₁' => wpAny (model prog w) A (assign target env v) (fun _ s₂ =>
          wpAny (model prog w) A (forIn ifs true fun c r => if r = true then do let ok ← isTrue c env (eval c env); pure (ForInStep.yield ok) else pure (ForInStep.yield r)) (fun ok s₃ =>
            if ok = true then wpAny (model prog w) A (eval kx env) (fun kv s₄ => wpAny (model prog w) A (eval vx env) (fun vv s₅ =>
              wpAny (model prog w) A (dictSet D kv vv) (fun _ s₆ => ∃ m, m < n ∧ J m s₆) E s₅) E s₄) E s₃
            else ∃ m, m < n ∧ J m s₃) E s₂) E s₁') E s₁) E s)
    (n : Nat) (h : J n s) :
    codeAny (model prog w) A (.compLoop (.DictComp kx vx [⟨target, iter, ifs, 0⟩] scope pos) 0 it (.ref D) env) R s := by
  refine codeAny_loop rfl J (fun n s hI => ?_) n h
  show wpAny _ A ((compTurn (.DictComp kx vx [⟨target, iter, ifs, 0⟩] scope pos) 0 it (.ref D) env).onRaise (fun x => do noteFrame x env; theTreesLotGoes x)) _ _ s
  refine wpAny_noted ?_
  rw [compTurn_dict]
  refine wpAny_bind (wpAny_standAt (wpAny_bind (wpAny_mono (turn n s hI _) (fun r s₁ h₁ => ?_) fun _ _ h' => h')))
  cases r with
  | none => exact wpAny_pure h₁
  | some v =>
    refine wpAny_bind (wpAny_mono h₁ (fun _ s₁' h₁ => wpAny_bind (wpAny_mono h₁ (fun _ s₂ h₂ => wpAny_bind (wpAny_mono h₂ (fun ok s₃ h₃ => ?_) fun _ _ h' => h')) fun _ _ h' => h')) fun _ _ h' => h')
    cases ok with
    | false => exact wpAny_pure ⟨rfl, h₃⟩
    | true =>
      exact wpAny_bind (wpAny_bind (wpAny_mono h₃ (fun kv s₄ h₄ => wpAny_bind (wpAny_holding (wpAny_mono h₄ (fun vv s₅ h₅ => wpAny_bind (wpAny_standAt (wpAny_holding (wpAny_mono h₅ (fun _ s₆ h₆ => wpAny_pure ⟨rfl, h₆⟩) fun _ _ h' => h')))) fun _ _ h' => h'))) fun _ _ h' => h'))

/-- a predicate that asks nothing of the heap -/
noncomputable def Pure (P : Pd) : Prop := ∀ h h' v, P.p h v → P.p h' v
theorem pure_int {i : Int} : Pure (.int i) := fun _ _ _ q => q
theorem pure_bytes {b : Bs} : Pure (.bytes b) := fun _ _ _ q => q
theorem All2.pure {h h' : Heap} : ∀ {ps : List Pd} {vs : List Value}, (∀ P ∈ ps, Pure P) → All2 h ps vs → All2 h' ps vs
  | [], [], _, _ => trivial
  | P :: _, _ :: _, hp, ⟨x, y⟩ => ⟨hp P (.head _) _ _ _ x, All2.pure (fun Q m => hp Q (.tail _ m)) y⟩

/-- what a comprehension sees of its surroundings -/
noncomputable def CellsAt (cenv : Env) (h : Heap) (φ : Sto) : Prop :=
  ∀ x R, φ.lookup x = some R → (cenv.kindOf x = some .cell ∨ (cenv.kindOf x = some .free ∧ (x == ("__classdict__" : Str)) = false)) ∧ ∃ c v, cenv.cells.lookup x = some c ∧ CellAt h c v ∧ R.p h v
theorem sat_comp {cenv : Env} {s₁ s : Shared} {m : Str → Option Value} {τ φ : Sto} (g : Grow0 s₁ s) (n : s.heap.Ns cenv.locals m) (l : LocAt cenv s₁.heap m τ) (c : CellsAt cenv s₁.heap φ) : Sat cenv s.heap (τ ++ φ) := fun x P hx => by
  rw [List.lookup_append] at hx
  cases hτ : τ.lookup x with
  | some R =>
    rw [hτ] at hx; cases hx
    obtain ⟨k, u, hu, hp⟩ := l x _ hτ
    exact ⟨u, .inl ⟨k, m, n, hu⟩, P.mono g.md0 hp⟩
  | none =>
    rw [hτ] at hx
    obtain ⟨k, a, v, e, q, hp⟩ := c x P hx
    exact ⟨v, .inr ⟨k, a, e, q.md g.md0⟩, P.mono g.md0 hp⟩

section
variable {Γ : Cx} {n : Nat} {env : Env} {σ : Sto}

structure CompD (Γ : Cx) (n : Nat) (env : Env) (scope : Scope) (cl : List (Str × Addr)) (φ : Sto) {α : Type} (items : List α) (P : α → Pd) (τ : α → Sto) (target : Expr) (ifs : List Expr) (b : α → Bool) : Prop where
  tg : ∀ C x, x ∈ items → TgC Γ (compEnvC scope cl C env) target (P x) (τ x)
  ts : ∀ C x, x ∈ items → TstsD Γ n (compEnvC scope cl C env) (τ x ++ φ) ifs (b x)

theorem plain_grow {W : Addr → Prop} {G : Nat → Prop} {s s' : Shared} (g : Grow W G s s') {D : Addr} {ys : Array Value} (h : s.heap.PlainList D ys) (hw : ¬ W D) : s'.heap.PlainList D ys := by
  obtain ⟨k, e⟩ := h
  exact ⟨k, g.get e hw (by simp)⟩

/-- the turns of a list comprehension -/
theorem comp_list_loop {α : Type} {items : List α} {P R : α → Pd} {b : α → Bool} {τ : α → Sto} {φ : Sto} {scope : Scope} {cl : List (Str × Addr)} {target iter elt : Expr} {ifs : List Expr} {pos : Pos} {A : Around} {s₁ s : Shared} {I C D : Addr} {fp wr : List Addr} {Pv : Nat → Value → Prop} {St : Nat → Heap → Prop} {RR : Result → Shared → Prop}
    (cd : CompD Γ n env scope cl φ items P τ target ifs b) (el : ∀ C x, x ∈ items → b x = true → EvD Γ n (compEnvC scope cl C env) (τ x ++ φ) elt (R x)) (pu : ∀ x, Pure (R x)) (hsz : items.length ≤ 100000)
    (o : Ok Γ n A s₁.heap) (i₁ : Inv Γ s₁) (it : It Γ A I fp wr items.length Pv St) (hwr : ∀ b ∈ wr, s₁.heap.get? b = none) (hP : ∀ j v, Pv j v → ∃ R, (items.map P)[j]? = some R ∧ R.p s₁.heap v)
    (hc : CellsAt (compEnvC scope cl C env) s₁.heap φ) (hC : s₁.heap.get? C = none) (hD : s₁.heap.get? D = none) (hDC : D ≠ C) (hCf : C ∉ fp) (hDf : D ∉ fp)
    (i : Inv Γ s) (g : Grow0 s₁ s) (st : St 0 s.heap) (hl : s.heap.PlainList D #[]) (hn : ∃ m, s.heap.Ns C m)
    (hR : ∀ s' ys, Inv Γ s' → Grow0 s₁ s' → s'.heap.PlainList D ys → All2 s'.heap ((items.filter b).map R) ys.toList → (∃ m, s'.heap.Ns C m) → RR (.ok .next) s') :
    codeAny Γ.M A (.compLoop (.ListComp elt [⟨target, iter, ifs, 0⟩] scope pos) 0 (.ref I) (.ref D) (compEnvC scope cl C env)) RR s := by
  have W := it.walks
  have hCw : C ∉ wr := fun h => hCf (W.sub _ h)
  have hDw : D ∉ wr := fun h => hDf (W.sub _ h)
  have fw := fresh_hb (W := fun b => b ∈ wr) i₁ hwr
  have fC := fresh_hb (W := fun b => b = C) i₁ (fun b e => by rw [e]; exact hC)
  have fD := fresh_hb (W := fun b => b = D) i₁ (fun b e => by rw [e]; exact hD)
  refine turns_list (fun k s' => ∃ j ys, Inv Γ s' ∧ Grow0 s₁ s' ∧ St j s'.heap ∧ s'.heap.PlainList D ys ∧ All2 s'.heap (((items.take j).filter b).map R) ys.toList ∧ (∃ m, s'.heap.Ns C m) ∧ j ≤ items.length ∧ k = items.length + 1 - j) ?_ (items.length + 1)
    ⟨0, #[], i, g, st, hl, by simp [All2], hn, Nat.zero_le _, rfl⟩
  rintro k s' ⟨j, ys, i', g', st', hl', ha, ⟨m, hn'⟩, hj, rfl⟩ E
  by_cases hlt : j < items.length
  · refine W.item j _ _ _ hlt st' fun v h₂ tk₂ hPv st₂ k₂ => ?_
    obtain ⟨Q₀, hQ₀, pv⟩ := hP j v hPv
    rw [List.getElem?_map, List.getElem?_eq_getElem hlt] at hQ₀
    cases hQ₀
    have hmem : items[j] ∈ items := List.getElem_mem hlt
    have i₂ : Inv Γ { s' with heap := h₂, toks := tk₂ } := i'.but fw.1 fw.2 k₂
    have g₂ : Grow0 s₁ { s' with heap := h₂, toks := tk₂ } := g'.but hwr k₂
    have hl₂ : h₂.PlainList D ys := hl'.at fun o e => k₂ _ o hDw e
    refine it.go (s := { s' with heap := h₂, toks := tk₂ }) st₂ _ _ ?_
    refine cd.tg C _ hmem A s₁ { s' with heap := h₂, toks := tk₂ } v m _ _ o.handled g₂ pv (hn'.at' fun o e => k₂ _ o hCw e) fun h₃ tk₃ m₃ n₃ e₃ l₃ => ?_
    have i₃ : Inv Γ { s' with heap := h₃, toks := tk₃ } := Inv.but (s := { s' with heap := h₂, toks := tk₂ }) i₂ fC.1 fC.2 e₃
    have g₃ : Grow0 s₁ { s' with heap := h₃, toks := tk₃ } := Grow.but (s := { s' with heap := h₂, toks := tk₂ }) (W := fun b => b = C) g₂ (fun b e => by rw [e]; exact hC) e₃
    have hl₃ : h₃.PlainList D ys := hl₂.at fun o e => e₃ _ o hDC e
    have st₃ : St (j + 1) h₃ := W.frame _ _ _ st₂ fun b hb o e => e₃ b o (fun q => hCf ((show _ = C from q) ▸ hb)) e
    refine cd.ts C _ hmem A { s' with heap := h₃, toks := tk₃ } _ _ (o.grow g₃) i₃ (sat_comp g₃ n₃ l₃ hc) fun s₄ i₄ g₄ => ?_
    have hb₃ : ∀ {u : Shared}, Grow0 { s' with heap := h₃, toks := tk₃ } u → St (j + 1) u.heap ∧ u.heap.PlainList D ys ∧ (∃ m, u.heap.Ns C m) := fun gu => ⟨it.st (s := { s' with heap := h₃, toks := tk₃ }) st₃ gu, plain_grow gu hl₃ (fun f => f), ⟨_, gu.ns n₃ (fun f => f)⟩⟩
    have htk : (items.take (j + 1)).filter b = (items.take j).filter b ++ (if b items[j] then [items[j]] else []) := take_succ_filter b items j _ (List.getElem?_eq_getElem hlt)
    have hpu : ∀ Q ∈ (((items.take j).filter b).map R), Pure Q := fun Q hQ => by
      obtain ⟨x, _, rfl⟩ := List.mem_map.mp hQ; exact pu x
    cases hb : b items[j] with
    | false =>
      rw [if_neg (by decide)]
      obtain ⟨st₄, hl₄, hn₄⟩ := hb₃ g₄
      refine ⟨items.length + 1 - (j + 1), by omega, j + 1, ys, i₄, g₃.trans g₄, st₄, hl₄, ?_, hn₄, hlt, rfl⟩
      rw [htk, hb]
      simp only [Bool.false_eq_true, if_false, List.append_nil]
      exact ha.pure hpu
    | true =>
      rw [if_pos rfl]
      refine el C _ hmem hb A s₄ _ _ ((o.grow g₃).grow g₄) i₄ ((sat_comp g₃ n₃ l₃ hc).grow0 g₄) fun y s₅ i₅ g₅ q₅ => ?_
      obtain ⟨st₅, hl₅, m₅, hn₅⟩ := hb₃ (g₄.trans g₅)
      have hys : ys.size ≤ sizeLine := by
        have e1 := ha.length
        have e2 : ((items.take j).filter b).length ≤ (items.take j).length := List.length_filter_le _ _
        have e3 : (items.take j).length ≤ items.length := by rw [List.length_take]; omega
        have e4 : ys.toList.length = ys.size := by simp
        rw [List.length_map] at e1
        rw [sizeLine_eq]; omega
      refine wpAny_list_append_plain (hsz := hys) hl₅ fun h₆ hl₆ hs₆ => ?_
      have k₆ : ∀ b o, ¬ b = D → s₅.heap.get? b = some o → h₆.get? b = some o := fun b o hb e => hs₆.extBut b o hb e
      refine ⟨items.length + 1 - (j + 1), by omega, j + 1, ys.push y, Inv.but (tk := s₅.toks) (W := fun b => b = D) i₅ fD.1 fD.2 k₆, Grow.but (tk := s₅.toks) (W := fun b => b = D) (g₃.trans (g₄.trans g₅)) (fun b e => by rw [e]; exact hD) k₆, W.frame _ _ _ st₅ fun b hb o e => k₆ b o (fun q => hDf (q ▸ hb)) e, hl₆, ?_, ⟨m₅, hn₅.sameBut hs₆ (Ne.symm hDC)⟩, hlt, rfl⟩
      rw [htk, hb]
      simp only [if_true, List.map_append, List.map_cons, List.map_nil, Array.toList_push]
      exact (ha.pure hpu).append ⟨pu _ _ _ _ q₅, trivial⟩
  · have hin : j = items.length := by omega
    subst hin
    refine W.done _ _ _ st' fun h₂ tk₂ k₂ => ?_
    refine hR { s' with heap := h₂, toks := tk₂ } ys (i'.but fw.1 fw.2 k₂) (g'.but hwr k₂) (hl'.at fun o e => k₂ _ o hDw e) ?_ ⟨m, hn'.at' fun o e => k₂ _ o hCw e⟩
    rw [List.take_length] at ha
    exact ha.pure fun Q hQ => by
      obtain ⟨x, _, rfl⟩ := List.mem_map.mp hQ; exact pu x

/-- the whole of a list comprehension, up to what is done with it -/
theorem comp_list_block {α : Type} {items : List α} {P R : α → Pd} {b : α → Bool} {τ : α → Sto} {φ : Sto} {scope : Scope} {cl : List (Str × Addr)} {target iter elt : Expr} {ifs : List Expr} {pos : Pos} {A : Around} {s₁ s : Shared} {I : Addr} {fp wr : List Addr} {Pv : Nat → Value → Prop} {St : Nat → Heap → Prop} {RR : Value → Addr → Result → Shared → Prop} {E : Value → Shared → Prop}
    (hcell : ∀ y ∈ scope.names, y.2 ≠ .cell) (hkind : scope.kind = .function)
    (cd : CompD Γ n env scope cl φ items P τ target ifs b) (el : ∀ C x, x ∈ items → b x = true → EvD Γ n (compEnvC scope cl C env) (τ x ++ φ) elt (R x)) (pu : ∀ x, Pure (R x)) (hsz : items.length ≤ 100000)
    (o : Ok Γ n A s₁.heap) (i₁ : Inv Γ s₁) (it : It Γ A I fp wr items.length Pv St) (hwr : ∀ b ∈ wr, s₁.heap.get? b = none) (hP : ∀ j v, Pv j v → ∃ R, (items.map P)[j]? = some R ∧ R.p s₁.heap v)
    (hc : ∀ C, CellsAt (compEnvC scope cl C env) s₁.heap φ) (hfp : ∀ b ∈ fp, b < s.heap.objs.size)
    (i : Inv Γ s) (g : Grow0 s₁ s) (st : St 0 s.heap)
    (hR : ∀ D C s', Inv Γ s' → Grow0 s₁ s' → s₁.heap.get? C = none → s₁.heap.get? D = none → D ≠ C → (∃ m, s'.heap.Ns C m) → (∃ ys, s'.heap.PlainList D ys ∧ All2 s'.heap ((items.filter b).map R) ys.toList) → RR (.ref D) C (.ok .next) s') :
    wpAny Γ.M A (newList []) (fun acc s₃ => wpAny Γ.M A (newFunctionEnv scope env.globals cl [] env.qual none .none (some env)) (fun cenv s₄ =>
      codeAny Γ.M A (.compStart (.ListComp elt [⟨target, iter, ifs, 0⟩] scope pos) 0 (.ref I) acc { cenv with scope := relabel scope env }) (RR acc cenv.locals) s₄) E s₃) E s := by
  refine wpAny_newObj_type (wpAny_newFunctionEnv hcell (by intro y hy; simp at hy) (fun h₁ hns₁ hsb₁ => ?_) hkind)
  dsimp only at hns₁ hsb₁ ⊢
  generalize hH2 : s.heap.push { cls := .type "list", dict := none, data := .seq ([] : List Value).toArray } = H2 at hns₁ hsb₁ ⊢
  have hC : H2.objs.size = s.heap.objs.size + 1 := by rw [← hH2, Heap.size_push]
  have hDC : s.heap.objs.size ≠ H2.objs.size := by rw [hC]; exact Nat.ne_of_lt (Nat.lt_succ_self _)
  have below : ∀ b, b < s.heap.objs.size → b ≠ H2.objs.size := fun b hb => by rw [hC]; exact Nat.ne_of_lt (Nat.lt_succ_of_lt hb)
  have old : s.heap.StaysIn h₁ := fun b o e => hsb₁.extBut b o (below b (Heap.lt_size e)) (Heap.get?_push_of_some _ (hH2 ▸ Heap.get?_push_of_some _ e))
  have hacc : h₁.PlainList s.heap.objs.size #[] := ⟨_, hsb₁.extBut _ _ hDC (Heap.get?_push_of_some _ (hH2 ▸ Heap.get?_push_size _ rfl))⟩
  have st₁ : St 0 h₁ := it.walks.frame _ _ _ st fun b _ o e => old b o e
  have fresh : ∀ a, s.heap.objs.size ≤ a → s₁.heap.get? a = none := fun a ha => by
    cases e : s₁.heap.get? a with
    | none => rfl
    | some o' =>
      obtain ⟨o'', e', _⟩ := g.dom _ _ e
      exact absurd (Heap.lt_size e') (Nat.not_lt.mpr ha)
  have f₁ := fresh _ (Nat.le_refl _)
  have f₂ := fresh H2.objs.size (by rw [hC]; exact Nat.le_succ _)
  have i' : Inv Γ { s with heap := h₁, toks := s.toks + ([] : List (Str × Value)).length } := i.stays old rfl rfl
  have g' : Grow0 s₁ { s with heap := h₁, toks := s.toks + ([] : List (Str × Value)).length } := g.trans (.of_stays old rfl)
  have loop : ∀ s₃ : Shared, s₃ = { s with heap := h₁, toks := s.toks + ([] : List (Str × Value)).length } →
      codeAny Γ.M A (.compLoop (.ListComp elt [⟨target, iter, ifs, 0⟩] scope pos) 0 (.ref I) (.ref s.heap.objs.size) (compEnvC scope cl H2.objs.size env)) (RR (.ref s.heap.objs.size) H2.objs.size) s₃ := by
    rintro s₃ rfl
    refine comp_list_loop cd el pu hsz o i₁ it hwr hP (hc _) f₂ f₁ hDC (fun h => by have := hfp _ h; rw [hC] at this; exact Nat.lt_irrefl _ (Nat.lt_of_succ_lt this)) (fun h => Nat.lt_irrefl _ (hfp _ h)) i' g' st₁ hacc ⟨_, hns₁⟩ ?_
    intro s' ys hi hg hp ha hn
    exact hR _ _ s' hi hg f₂ f₁ hDC hn ⟨ys, hp, ha⟩
  exact codeAny_compStart_list (loop _ rfl) (it.walks.self 0 _ _ _ st₁ (loop _ rfl))

theorem EvD.comp {α : Type} {items : List α} {P R : α → Pd} {b : α → Bool} {τ : α → Sto} {φ : Sto} {scope : Scope} {cl : List (Str × Addr)} {target iter elt : Expr} {ifs : List Expr} {pos : Pos}
    (x : ItD Γ n env σ iter (items.map P)) (hclos : closureFor scope env = pure cl) (hcell : ∀ y ∈ scope.names, y.2 ≠ .cell) (hkind : scope.kind = .function) (hnames : ∀ y ∈ scope.names, y.2 = .local → scope.names.lookup y.1 = some .local)
    (hc : ∀ h C, Sat env h σ → CellsAt (compEnvC scope cl C env) h φ)
    (cd : CompD Γ n env scope cl φ items P τ target ifs b) (el : ∀ C x, x ∈ items → b x = true → EvD Γ n (compEnvC scope cl C env) (τ x ++ φ) elt (R x)) (pu : ∀ x, Pure (R x)) (hsz : items.length ≤ 100000)
    (hs : ∀ x, foldedSetIterable iter env x = pure x := by intro _; rfl) : EvD Γ n env σ (.ListComp elt [⟨target, iter, ifs, 0⟩] scope pos) (.lst ((items.filter b).map R)) := fun A s Q E o i t p => by
  rw [eval_ListComp]
  refine wpAny_comprehension_free (use := none) rfl hs hclos hkind hnames (x A s _ E o i t fun s₁ s₂ I fp wr Pv St i₁ g₁ i₂ g₂ it st hfp hwr hP => ?_)
  rw [List.length_map] at it
  refine comp_list_block (RR := fun acc C => compPost Γ.M A E none Q acc C) hcell hkind cd el pu hsz (o.grow g₁) i₁ it hwr hP (fun C => hc _ C (t.grow0 g₁)) hfp i₂ g₂ st ?_
  intro D C s' i' g' hC hD hDC ⟨m, hn⟩ ⟨ys, hp, ha⟩
  refine ⟨m, hn, fun h' hs' => ?_⟩
  have fC := fresh_hb (W := fun b => b = C) i₁ (fun b e => by rw [e]; exact hC)
  refine p (.ref D) { s' with heap := h' } (i'.but (tk := s'.toks) fC.1 fC.2 hs'.extBut) (g₁.trans (Grow.but (tk := s'.toks) (W := fun b => b = C) g' (fun b e => by rw [e]; exact hC) hs'.extBut)) ⟨D, ys.toList, rfl, (hp.extBut hs'.extBut hDC).isList, ha.pure fun Q hQ => ?_⟩
  obtain ⟨x, _, rfl⟩ := List.mem_map.mp hQ; exact pu x

theorem after_use {s s'' : Shared} {h₃ : Heap} {C : Addr} {v : Value} {y : Str} {R : Pd} {m : Str → Option Value} {Q : Flow → Shared → Prop} (a : Act env s.heap) (g : GrowL env s s'') (i : Inv Γ s'') (a'' : Act env s''.heap) (t'' : Sat env s''.heap ((y, .eq v) :: Sto.was s.heap σ))
    (hs : Heap.SameBut C s''.heap h₃) (hC : s.heap.get? C = none) (hLC : C ≠ env.locals) (fC : (∀ b, b = C → Γ.hb.get? b = none) ∧ (∀ q ∈ Γ.tabs, ¬ q.1 = C ∧ ¬ q.2 = C)) (hn : s''.heap.Ns C m) (t : Sat env s.heap σ) (hv : R.p h₃ v)
    (p : ∀ s', Inv Γ s' → GrowL env s s' → Act env s'.heap → Sat env s'.heap ((y, R) :: σ) → Q .next s') : Q .next { s'' with heap := h₃ } := by
  have g₃ : GrowL env s { s'' with heap := h₃ } := Grow.but (tk := s''.toks) (W := fun b => b = C) g (fun b e => by rw [e]; exact hC) hs.extBut
  have loads : ∀ {z u}, Loads env s''.heap z u → Loads env h₃ z u := fun l => by
    rcases l with ⟨k, m₁, n₁, e⟩ | ⟨k, c, e, q⟩
    · exact .inl ⟨k, m₁, n₁.extBut hs.extBut (Ne.symm hLC), e⟩
    · refine .inr ⟨k, c, e, ?_⟩
      obtain ⟨o, e1, q1, q2⟩ := q
      refine ⟨o, hs.extBut _ _ ?_ e1, q1, q2⟩
      rintro rfl
      obtain ⟨o', es, ep, e', hd, _⟩ := hn
      rw [e1] at e'; cases e'
      rw [q2] at hd; cases hd
  refine p { s'' with heap := h₃ } (i.but (tk := s''.toks) (W := fun b => b = C) fC.1 fC.2 hs.extBut) g₃ ?_ fun z P hz => ?_
  · obtain ⟨⟨m', n'⟩, o', e', c'⟩ := a''
    exact ⟨⟨m', n'.extBut hs.extBut (Ne.symm hLC)⟩, o', hs.extBut _ _ (Ne.symm hLC) e', c'⟩
  · by_cases hzy : z = y
    · subst hzy
      rw [lookup_cons_eq] at hz; cases hz
      obtain ⟨u, l, q⟩ := t'' z _ lookup_cons_eq
      cases (show u = v from q)
      exact ⟨v, loads l, hv⟩
    · rw [lookup_cons_ne hzy] at hz
      obtain ⟨u, l, q⟩ := t'' z (.was s.heap P) (by rw [lookup_cons_ne hzy, was_lookup, hz]; rfl)
      exact ⟨u, loads l, P.mono (a.md g₃) q⟩

theorem StD.assignComp {α : Type} {items : List α} {P R : α → Pd} {b : α → Bool} {τ : α → Sto} {φ : Sto} {scope : Scope} {cl : List (Str × Addr)} {target iter elt : Expr} {ifs : List Expr} {y : Str} {py pos spos : Pos}
    (x : ItD Γ n env σ iter (items.map P)) (hclos : closureFor scope env = pure cl) (hcell : ∀ y ∈ scope.names, y.2 ≠ .cell) (hkind : scope.kind = .function) (hnames : ∀ y ∈ scope.names, y.2 = .local → scope.names.lookup y.1 = some .local)
    (hc : ∀ h C, Sat env h σ → CellsAt (compEnvC scope cl C env) h φ)
    (cd : CompD Γ n env scope cl φ items P τ target ifs b) (el : ∀ C x, x ∈ items → b x = true → EvD Γ n (compEnvC scope cl C env) (τ x ++ φ) elt (R x)) (pu : ∀ x, Pure (R x)) (hsz : items.length ≤ 100000) (hy : env.kindOf y = some .local)
    (hsw : swapsWith (.ListComp elt [⟨target, iter, ifs, 0⟩] scope pos) (some (.Name y py)) spos.line env = pure true := by rfl)
    (hs : ∀ x, foldedSetIterable iter env x = pure x := by intro _; rfl) : StD Γ n env σ (.Assign [.Name y py] (.ListComp elt [⟨target, iter, ifs, 0⟩] scope pos) spos) ((y, .lst ((items.filter b).map R)) :: σ) := fun A s Q E o i w a t p => by
  rw [exec_Assign_Name_used _ _ _ _ hsw]
  refine wpAny_bind (wpAny_standAt (wpAny_bind ?_))
  show wpAny _ A (do let _ ← comprehension (.ListComp elt [⟨target, iter, ifs, 0⟩] scope pos) scope env _ (newList []) false (eval iter env) (some (PySem.assign (.Name y py) env))) _ _ s
  refine wpAny_bind (wpAny_mono (wpAny_comprehension_free (use := some (PySem.assign (Expr.Name y py) env)) (Q := fun _ s' => Q .next s') rfl hs hclos hkind hnames
    (x A s _ E o i t fun s₁ s₂ I fp wr Pv St i₁ g₁ i₂ g₂ it st hfp hwr hP => ?_)) (fun _ s' hq => wpAny_pure (wpAny_pure hq)) fun _ _ e => e)
  rw [List.length_map] at it
  refine comp_list_block (RR := fun acc C => compPost Γ.M A E (some (PySem.assign (Expr.Name y py) env)) (fun _ s' => Q .next s') acc C) hcell hkind cd el pu hsz (o.grow g₁) i₁ it hwr hP (fun C => hc _ C (t.grow0 g₁)) hfp i₂ g₂ st ?_
  intro D C s' i' g' hC hD hDC ⟨m, hn⟩ ⟨ys, hp, ha⟩
  show wpAny _ A (PySem.assign (.Name y py) env (.ref D)) _ _ _
  have gg := g₁.trans g'
  have aL := a.grow0 g₁
  have hLC : C ≠ env.locals := by
    rintro rfl
    obtain ⟨o', e', _⟩ := aL.fr
    rw [hC] at e'; cases e'
  have hLD : D ≠ env.locals := by
    rintro rfl
    obtain ⟨o', e', _⟩ := aL.fr
    rw [hD] at e'; cases e'
  refine wpAny_assign_Name (store_at (P := .eq (.ref D)) (σ := Sto.was s.heap σ) w.ok w.new hy (a.grow0 gg) i' w.tab (t.was.grow0 gg) rfl fun s'' i'' g'' a'' t'' => ?_)
  refine ⟨m, g''.ns hn hLC, fun h₃ hs₃ => ?_⟩
  have fC := fresh_hb (W := fun b => b = C) i₁ (fun b e => by rw [e]; exact hC)
  have hC0 : s.heap.get? C = none := by
    cases e : s.heap.get? C with
    | none => rfl
    | some o' =>
      obtain ⟨o'', e', _⟩ := g₁.dom _ _ e
      rw [hC] at e'; cases e'
  have hp'' : s''.heap.PlainList D ys := plain_grow g'' hp hLD
  exact after_use (y := y) a (gg.of0.trans g'') i'' a'' t'' hs₃ hC0 hLC fC (g''.ns hn hLC) t (by
    exact ⟨D, ys.toList, rfl, (hp''.extBut hs₃.extBut hDC).isList, ha.pure fun Q hQ => by
      obtain ⟨x, _, rfl⟩ := List.mem_map.mp hQ
      exact pu x⟩) p
end

-- Fl
open PySem PySem.W PyProof.Rows PySem.Calls PySem.SeqAt
set_option Elab.async false
set_option maxRecDepth 4000
set_option linter.unusedVariables false
set_option linter.unusedSimpArgs false

/- ---------- a dict of bytes to bytes ---------- -/
noncomputable abbrev KV := Bs × Bs
noncomputable def DV (kvs : List KV) (ws : List (Bs × Value)) : Prop := Paired (fun (kv : KV) w => kv.1 = w.1 ∧ ∃ t, w.2 = .bytes kv.2.toArray t) kvs ws
noncomputable def storedB (kvs : List KV) (k v : Bs) : List KV := if kvs.any (fun kv => kv.1 = k) then kvs.map (fun kv => if kv.1 = k then (kv.1, v) else kv) else kvs ++ [(k, v)]
noncomputable def valAt (kvs : List KV) (k : Bs) : Option Bs := (kvs.find? fun kv => kv.1 = k).map (·.2)
noncomputable def dctOf (l : List KV) : List KV := l.foldl (fun acc kv => storedB acc kv.1 kv.2) []
theorem dctOf_snoc (l : List KV) (kv : KV) : dctOf (l ++ [kv]) = storedB (dctOf l) kv.1 kv.2 := by simp [dctOf, List.foldl_append]
theorem DV.any {k : Bs} : ∀ {kvs : List KV} {ws : List (Bs × Value)}, DV kvs ws → (kvs.any fun kv => kv.1 = k) = ws.any fun kv => kv.1 = k
  | _, _, .nil => rfl
  | _, _, .cons (a := a) (b := b) h r => by
    rw [List.any_cons, List.any_cons, DV.any (k := k) r, h.1]
theorem DV.put {k v : Bs} {t : Tok} : ∀ {kvs : List KV} {ws : List (Bs × Value)}, DV kvs ws → DV (kvs.map (fun kv => if kv.1 = k then (kv.1, v) else kv)) (ws.map (fun kv => if kv.1 = k then (kv.1, .bytes v.toArray t) else kv))
  | _, _, .nil => .nil
  | _, _, .cons (a := a) (b := b) h r => by
    rw [List.map_cons, List.map_cons]
    refine .cons ?_ (DV.put r)
    by_cases hk : a.1 = k
    · rw [if_pos hk, if_pos (h.1 ▸ hk)]; exact ⟨h.1, t, rfl⟩
    · rw [if_neg hk, if_neg (h.1 ▸ hk)]; exact h
theorem DV.stored {k v : Bs} {t : Tok} {kvs : List KV} {ws : List (Bs × Value)} (h : DV kvs ws) : DV (storedB kvs k v) (stored ws k (.bytes v.toArray t)) := by
  unfold storedB PySem.stored
  rw [DV.any h]
  split
  · exact h.put
  · exact Paired.snoc h ⟨rfl, t, rfl⟩
theorem DV.value {k : Bs} : ∀ {kvs : List KV} {ws : List (Bs × Value)}, DV kvs ws → (valAt kvs k = none → valueAt ws k = none) ∧ ∀ b, valAt kvs k = some b → ∃ t, valueAt ws k = some (.bytes b.toArray t)
  | _, _, .nil => ⟨fun _ => rfl, fun b h => by simp [valAt] at h⟩
  | _, _, .cons (a := a) (b := b) (l₁ := l₁) (l₂ := l₂) h r => by
    have ih := DV.value (k := k) r
    unfold valAt valueAt at *
    by_cases hk : a.1 = k
    · rw [List.find?_cons_of_pos (by simpa using hk), List.find?_cons_of_pos (by simpa using (h.1 ▸ hk : b.1 = k))]
      refine ⟨fun e => by simp at e, fun x e => ?_⟩
      simp only [Option.map_some, Option.some.injEq] at e
      subst e
      obtain ⟨t, ht⟩ := h.2
      exact ⟨t, by simp [ht]⟩
    · rw [List.find?_cons_of_neg (by simpa using hk), List.find?_cons_of_neg (by simpa using (fun e => hk (h.1.trans e) : ¬ b.1 = k))]
      exact ih
theorem storedB_len (kvs : List KV) (k v : Bs) : (storedB kvs k v).length ≤ kvs.length + 1 := by
  unfold storedB; split <;> simp
theorem dctOf_len (l : List KV) : (dctOf l).length ≤ l.length := by
  have h : ∀ (l acc : List KV), (l.foldl (fun acc kv => storedB acc kv.1 kv.2) acc).length ≤ acc.length + l.length := by
    intro l
    induction l with
    | nil => intro acc; simp
    | cons x r ih =>
      intro acc
      have h1 := ih (storedB acc x.1 x.2)
      have h2 := storedB_len acc x.1 x.2
      simp only [List.foldl_cons, List.length_cons]
      omega
  simpa [dctOf] using h l []

theorem dictOf_md {prog : Program} {w : World} {h h' : Heap} {a : Addr} {ws : List (Bs × Value)} (k : Md h h') (x : h.DictOf (bytesKind prog w) a ws) : h'.DictOf (bytesKind prog w) a ws := by
  obtain ⟨o, es, ep, e, c, r⟩ := x
  exact ⟨o, es, ep, k a o e (.inr (.inr (.inr (.inr (.inl c.1))))), c, r⟩
noncomputable def Pd.dct (Γ : Cx) (kvs : List KV) : Pd := ⟨fun h v => ∃ a ws, v = .ref a ∧ (a == sysModules) = false ∧ h.DictOf (bytesKind Γ.prog Γ.w) a ws ∧ DV kvs ws, by
  intro h h' v k ⟨a, ws, e, l, x, y⟩; exact ⟨a, ws, e, l, dictOf_md k x, y⟩⟩

section
variable {Γ : Cx} {n : Nat} {env : Env} {σ : Sto}

theorem dict_grow {W : Addr → Prop} {G : Nat → Prop} {s s' : Shared} (g : Grow W G s s') {D : Addr} {ws : List (Bs × Value)} (h : s.heap.DictOf (bytesKind Γ.prog Γ.w) D ws) (hw : ¬ W D) : s'.heap.DictOf (bytesKind Γ.prog Γ.w) D ws := by
  obtain ⟨o, es, ep, e, c, r⟩ := h
  exact ⟨o, es, ep, g.get e hw (by rw [c.1]; decide), c, r⟩

theorem comp_dict_loop {α : Type} {items : List α} {P : α → Pd} {kf vf : α → Bs} {τ : α → Sto} {φ : Sto} {scope : Scope} {cl : List (Str × Addr)} {target iter kx vx : Expr} {ifs : List Expr} {pos : Pos} {A : Around} {s₁ s : Shared} {I C D : Addr} {fp wr : List Addr} {Pv : Nat → Value → Prop} {St : Nat → Heap → Prop} {RR : Result → Shared → Prop}
    (cd : CompD Γ n env scope cl φ items P τ target ifs (fun _ => true)) (kl : ∀ C x, x ∈ items → EvD Γ n (compEnvC scope cl C env) (τ x ++ φ) kx (.bytes (kf x))) (vl : ∀ C x, x ∈ items → EvD Γ n (compEnvC scope cl C env) (τ x ++ φ) vx (.bytes (vf x))) (hsz : items.length ≤ 100000)
    (o : Ok Γ n A s₁.heap) (i₁ : Inv Γ s₁) (it : It Γ A I fp wr items.length Pv St) (hwr : ∀ b ∈ wr, s₁.heap.get? b = none) (hP : ∀ j v, Pv j v → ∃ R, (items.map P)[j]? = some R ∧ R.p s₁.heap v)
    (hc : CellsAt (compEnvC scope cl C env) s₁.heap φ) (hC : s₁.heap.get? C = none) (hD : s₁.heap.get? D = none) (hDC : D ≠ C) (hCf : C ∉ fp) (hDf : D ∉ fp)
    (i : Inv Γ s) (g : Grow0 s₁ s) (st : St 0 s.heap) (hl : s.heap.DictOf (bytesKind Γ.prog Γ.w) D []) (hn : ∃ m, s.heap.Ns C m)
    (hR : ∀ s' ws, Inv Γ s' → Grow0 s₁ s' → s'.heap.DictOf (bytesKind Γ.prog Γ.w) D ws → DV (dctOf (items.map fun x => (kf x, vf x))) ws → (∃ m, s'.heap.Ns C m) → RR (.ok .next) s') :
    codeAny Γ.M A (.compLoop (.DictComp kx vx [⟨target, iter, ifs, 0⟩] scope pos) 0 (.ref I) (.ref D) (compEnvC scope cl C env)) RR s := by
  have W := it.walks
  have hCw : C ∉ wr := fun h => hCf (W.sub _ h)
  have hDw : D ∉ wr := fun h => hDf (W.sub _ h)
  have fw := fresh_hb (W := fun b => b ∈ wr) i₁ hwr
  have fC := fresh_hb (W := fun b => b = C) i₁ (fun b e => by rw [e]; exact hC)
  have fD := fresh_hb (W := fun b => b = D) i₁ (fun b e => by rw [e]; exact hD)
  refine turns_dict (fun k s' => ∃ j ws, Inv Γ s' ∧ Grow0 s₁ s' ∧ St j s'.heap ∧ s'.heap.DictOf (bytesKind Γ.prog Γ.w) D ws ∧ DV (dctOf ((items.take j).map fun x => (kf x, vf x))) ws ∧ (∃ m, s'.heap.Ns C m) ∧ j ≤ items.length ∧ k = items.length + 1 - j) ?_ (items.length + 1)
    ⟨0, [], i, g, st, hl, (show DV [] [] from Paired.nil), hn, Nat.zero_le _, rfl⟩
  rintro k s' ⟨j, ws, i', g', st', hl', ha, ⟨m, hn'⟩, hj, rfl⟩ E
  by_cases hlt : j < items.length
  · refine W.item j _ _ _ hlt st' fun v h₂ tk₂ hPv st₂ k₂ => ?_
    obtain ⟨Q₀, hQ₀, pv⟩ := hP j v hPv
    rw [List.getElem?_map, List.getElem?_eq_getElem hlt] at hQ₀
    cases hQ₀
    have hmem : items[j] ∈ items := List.getElem_mem hlt
    have i₂ : Inv Γ { s' with heap := h₂, toks := tk₂ } := i'.but fw.1 fw.2 k₂
    have g₂ : Grow0 s₁ { s' with heap := h₂, toks := tk₂ } := g'.but hwr k₂
    have hl₂ : h₂.DictOf (bytesKind Γ.prog Γ.w) D ws := hl'.at fun o e => k₂ _ o hDw e
    refine it.go (s := { s' with heap := h₂, toks := tk₂ }) st₂ _ _ ?_
    refine cd.tg C _ hmem A s₁ { s' with heap := h₂, toks := tk₂ } v m _ _ o.handled g₂ pv (hn'.at' fun o e => k₂ _ o hCw e) fun h₃ tk₃ m₃ n₃ e₃ l₃ => ?_
    have i₃ : Inv Γ { s' with heap := h₃, toks := tk₃ } := Inv.but (s := { s' with heap := h₂, toks := tk₂ }) i₂ fC.1 fC.2 e₃
    have g₃ : Grow0 s₁ { s' with heap := h₃, toks := tk₃ } := Grow.but (s := { s' with heap := h₂, toks := tk₂ }) (W := fun b => b = C) g₂ (fun b e => by rw [e]; exact hC) e₃
    have hl₃ : h₃.DictOf (bytesKind Γ.prog Γ.w) D ws := hl₂.at fun o e => e₃ _ o hDC e
    have st₃ : St (j + 1) h₃ := W.frame _ _ _ st₂ fun b hb o e => e₃ b o (fun q => hCf ((show _ = C from q) ▸ hb)) e
    refine cd.ts C _ hmem A { s' with heap := h₃, toks := tk₃ } _ _ (o.grow g₃) i₃ (sat_comp g₃ n₃ l₃ hc) fun s₄ i₄ g₄ => ?_
    have hb₃ : ∀ {u : Shared}, Grow0 { s' with heap := h₃, toks := tk₃ } u → St (j + 1) u.heap ∧ u.heap.DictOf (bytesKind Γ.prog Γ.w) D ws ∧ (∃ m, u.heap.Ns C m) := fun gu => ⟨it.st (s := { s' with heap := h₃, toks := tk₃ }) st₃ gu, dict_grow gu hl₃ (fun f => f), ⟨_, gu.ns n₃ (fun f => f)⟩⟩
    have htk : dctOf ((items.take (j + 1)).map fun x => (kf x, vf x)) = storedB (dctOf ((items.take j).map fun x => (kf x, vf x))) (kf items[j]) (vf items[j]) := by
      rw [List.take_add_one, List.getElem?_eq_getElem hlt]
      simp only [Option.toList_some, List.map_append, List.map_cons, List.map_nil]
      exact dctOf_snoc _ _
    rw [if_pos rfl]
    refine kl C _ hmem A s₄ _ _ ((o.grow g₃).grow g₄) i₄ ((sat_comp g₃ n₃ l₃ hc).grow0 g₄) fun y s₅ i₅ g₅ ⟨ty, q₅⟩ => ?_
    subst q₅
    refine vl C _ hmem A s₅ _ _ (((o.grow g₃).grow g₄).grow g₅) i₅ (((sat_comp g₃ n₃ l₃ hc).grow0 g₄).grow0 g₅) fun z s₆ i₆ g₆ ⟨tz, q₆⟩ => ?_
    subst q₆
    obtain ⟨st₆, hl₆, m₆, hn₆⟩ := hb₃ ((g₄.trans g₅).trans g₆)
    have hys : ws.length ≤ sizeLine := by
      have e1 := ha.length
      have e2 := dctOf_len ((items.take j).map fun x => (kf x, vf x))
      rw [List.length_map, List.length_take] at e2
      rw [sizeLine_eq]; omega
    refine wpAny_dictSet_pairs (hsz := hys) (bytesKind_is _ _ (kf items[j]) _) hl₆ fun h₇ hl₇ hs₇ => ?_
    have k₇ : ∀ b o, ¬ b = D → s₆.heap.get? b = some o → h₇.get? b = some o := fun b o hb e => hs₇.extBut b o hb e
    refine ⟨items.length + 1 - (j + 1), by omega, j + 1, _, Inv.but (tk := s₆.toks + 1) (W := fun b => b = D) i₆ fD.1 fD.2 k₇, Grow.but (tk := s₆.toks + 1) (W := fun b => b = D) (g₃.trans ((g₄.trans g₅).trans g₆)) (fun b e => by rw [e]; exact hD) k₇, W.frame _ _ _ st₆ fun b hb o e => k₇ b o (fun q => hDf (q ▸ hb)) e, hl₇, ?_, ⟨m₆, hn₆.sameBut hs₇ (Ne.symm hDC)⟩, hlt, rfl⟩
    rw [htk]
    exact ha.stored
  · have hin : j = items.length := by omega
    subst hin
    refine W.done _ _ _ st' fun h₂ tk₂ k₂ => ?_
    refine hR { s' with heap := h₂, toks := tk₂ } ws (i'.but fw.1 fw.2 k₂) (g'.but hwr k₂) (hl'.at fun o e => k₂ _ o hDw e) ?_ ⟨m, hn'.at' fun o e => k₂ _ o hCw e⟩
    rw [List.take_length] at ha
    exact ha

theorem comp_dict_block {α : Type} {items : List α} {P : α → Pd} {kf vf : α → Bs} {τ : α → Sto} {φ : Sto} {scope : Scope} {cl : List (Str × Addr)} {target iter kx vx : Expr} {ifs : List Expr} {pos : Pos} {A : Around} {s₁ s : Shared} {I : Addr} {fp wr : List Addr} {Pv : Nat → Value → Prop} {St : Nat → Heap → Prop} {RR : Value → Addr → Result → Shared → Prop} {E : Value → Shared → Prop}
    (hcell : ∀ y ∈ scope.names, y.2 ≠ .cell) (hkind : scope.kind = .function)
    (cd : CompD Γ n env scope cl φ items P τ target ifs (fun _ => true)) (kl : ∀ C x, x ∈ items → EvD Γ n (compEnvC scope cl C env) (τ x ++ φ) kx (.bytes (kf x))) (vl : ∀ C x, x ∈ items → EvD Γ n (compEnvC scope cl C env) (τ x ++ φ) vx (.bytes (vf x))) (hsz : items.length ≤ 100000)
    (o : Ok Γ n A s₁.heap) (i₁ : Inv Γ s₁) (it : It Γ A I fp wr items.length Pv St) (hwr : ∀ b ∈ wr, s₁.heap.get? b = none) (hP : ∀ j v, Pv j v → ∃ R, (items.map P)[j]? = some R ∧ R.p s₁.heap v)
    (hc : ∀ C, CellsAt (compEnvC scope cl C env) s₁.heap φ) (hfp : ∀ b ∈ fp, b < s.heap.objs.size)
    (i : Inv Γ s) (g : Grow0 s₁ s) (st : St 0 s.heap)
    (hR : ∀ D C s', Inv Γ s' → Grow0 s₁ s' → s₁.heap.get? C = none → s₁.heap.get? D = none → D ≠ C → (D == sysModules) = false → (∃ m, s'.heap.Ns C m) → (∃ ws, s'.heap.DictOf (bytesKind Γ.prog Γ.w) D ws ∧ DV (dctOf (items.map fun x => (kf x, vf x))) ws) → RR (.ref D) C (.ok .next) s') :
    wpAny Γ.M A newDict (fun acc s₃ => wpAny Γ.M A (newFunctionEnv scope env.globals cl [] env.qual none .none (some env)) (fun cenv s₄ =>
      codeAny Γ.M A (.compStart (.DictComp kx vx [⟨target, iter, ifs, 0⟩] scope pos) 0 (.ref I) acc { cenv with scope := relabel scope env }) (RR acc cenv.locals) s₄) E s₃) E s := by
  have hmod : (s.heap.objs.size == sysModules) = false := beq_eq_false_iff_ne.mpr (Nat.ne_of_gt (modules_low i.nolimit))
  refine wpAny_newObj_type (wpAny_newFunctionEnv hcell (by intro y hy; simp at hy) (fun h₁ hns₁ hsb₁ => ?_) hkind)
  dsimp only at hns₁ hsb₁ ⊢
  have hnew : (s.heap.push { cls := .type "dict", dict := none, data := .dict #[] }).DictOf (bytesKind Γ.prog Γ.w) s.heap.objs.size [] := Heap.DictOf.new s.heap
  generalize hH2 : s.heap.push { cls := .type "dict", dict := none, data := .dict #[] } = H2 at hns₁ hsb₁ hnew ⊢
  have hC : H2.objs.size = s.heap.objs.size + 1 := by rw [← hH2, Heap.size_push]
  have hDC : s.heap.objs.size ≠ H2.objs.size := by rw [hC]; exact Nat.ne_of_lt (Nat.lt_succ_self _)
  have below : ∀ b, b < s.heap.objs.size → b ≠ H2.objs.size := fun b hb => by rw [hC]; exact Nat.ne_of_lt (Nat.lt_succ_of_lt hb)
  have old : s.heap.StaysIn h₁ := fun b o e => hsb₁.extBut b o (below b (Heap.lt_size e)) (Heap.get?_push_of_some _ (hH2 ▸ Heap.get?_push_of_some _ e))
  have hacc : h₁.DictOf (bytesKind Γ.prog Γ.w) s.heap.objs.size [] := hnew.at fun o e => hsb₁.extBut _ _ hDC (Heap.get?_push_of_some _ e)
  have st₁ : St 0 h₁ := it.walks.frame _ _ _ st fun b _ o e => old b o e
  have fresh : ∀ a, s.heap.objs.size ≤ a → s₁.heap.get? a = none := fun a ha => by
    cases e : s₁.heap.get? a with
    | none => rfl
    | some o' =>
      obtain ⟨o'', e', _⟩ := g.dom _ _ e
      exact absurd (Heap.lt_size e') (Nat.not_lt.mpr ha)
  have f₁ := fresh _ (Nat.le_refl _)
  have f₂ := fresh H2.objs.size (by rw [hC]; exact Nat.le_succ _)
  have i' : Inv Γ { s with heap := h₁, toks := s.toks + ([] : List (Str × Value)).length } := i.stays old rfl rfl
  have g' : Grow0 s₁ { s with heap := h₁, toks := s.toks + ([] : List (Str × Value)).length } := g.trans (.of_stays old rfl)
  have loop : ∀ s₃ : Shared, s₃ = { s with heap := h₁, toks := s.toks + ([] : List (Str × Value)).length } →
      codeAny Γ.M A (.compLoop (.DictComp kx vx [⟨target, iter, ifs, 0⟩] scope pos) 0 (.ref I) (.ref s.heap.objs.size) (compEnvC scope cl H2.objs.size env)) (RR (.ref s.heap.objs.size) H2.objs.size) s₃ := by
    rintro s₃ rfl
    refine comp_dict_loop cd kl vl hsz o i₁ it hwr hP (hc _) f₂ f₁ hDC (fun h => by have := hfp _ h; rw [hC] at this; exact Nat.lt_irrefl _ (Nat.lt_of_succ_lt this)) (fun h => Nat.lt_irrefl _ (hfp _ h)) i' g' st₁ hacc ⟨_, hns₁⟩ ?_
    intro s' ys hi hg hp ha hn
    exact hR _ _ s' hi hg f₂ f₁ hDC hmod hn ⟨ys, hp, ha⟩
  exact codeAny_compStart_dict (loop _ rfl) (it.walks.self 0 _ _ _ st₁ (loop _ rfl))

theorem StD.assignDict {α : Type} {items : List α} {P : α → Pd} {kf vf : α → Bs} {τ : α → Sto} {φ : Sto} {scope : Scope} {cl : List (Str × Addr)} {target iter kx vx : Expr} {ifs : List Expr} {y : Str} {py pos spos : Pos}
    (x : ItD Γ n env σ iter (items.map P)) (hclos : closureFor scope env = pure cl) (hcell : ∀ y ∈ scope.names, y.2 ≠ .cell) (hkind : scope.kind = .function) (hnames : ∀ y ∈ scope.names, y.2 = .local → scope.names.lookup y.1 = some .local)
    (hc : ∀ h C, Sat env h σ → CellsAt (compEnvC scope cl C env) h φ)
    (cd : CompD Γ n env scope cl φ items P τ target ifs (fun _ => true)) (kl : ∀ C x, x ∈ items → EvD Γ n (compEnvC scope cl C env) (τ x ++ φ) kx (.bytes (kf x))) (vl : ∀ C x, x ∈ items → EvD Γ n (compEnvC scope cl C env) (τ x ++ φ) vx (.bytes (vf x))) (hsz : items.length ≤ 100000) (hy : env.kindOf y = some .local)
    (hsw : swapsWith (.DictComp kx vx [⟨target, iter, ifs, 0⟩] scope pos) (some (.Name y py)) spos.line env = pure true := by rfl)
    (hs : ∀ x, foldedSetIterable iter env x = pure x := by intro _; rfl) : StD Γ n env σ (.Assign [.Name y py] (.DictComp kx vx [⟨target, iter, ifs, 0⟩] scope pos) spos) ((y, .dct Γ (dctOf (items.map fun x => (kf x, vf x)))) :: σ) := fun A s Q E o i w a t p => by
  rw [exec_Assign_Name_used _ _ _ _ hsw]
  refine wpAny_bind (wpAny_standAt (wpAny_bind ?_))
  show wpAny _ A (do let _ ← comprehension (.DictComp kx vx [⟨target, iter, ifs, 0⟩] scope pos) scope env _ newDict false (eval iter env) (some (PySem.assign (.Name y py) env))) _ _ s
  refine wpAny_bind (wpAny_mono (wpAny_comprehension_free (use := some (PySem.assign (.Name y py) env)) (Q := fun _ s' => Q .next s') rfl hs hclos hkind hnames
    (x A s _ E o i t fun s₁ s₂ I fp wr Pv St i₁ g₁ i₂ g₂ it st hfp hwr hP => ?_)) (fun _ s' hq => wpAny_pure (wpAny_pure hq)) fun _ _ e => e)
  rw [List.length_map] at it
  refine comp_dict_block (RR := fun acc C => compPost Γ.M A E (some (PySem.assign (.Name y py) env)) (fun _ s' => Q .next s') acc C) hcell hkind cd kl vl hsz (o.grow g₁) i₁ it hwr hP (fun C => hc _ C (t.grow0 g₁)) hfp i₂ g₂ st ?_
  intro D C s' i' g' hC hD hDC hmod ⟨m, hn⟩ ⟨ws, hp, ha⟩
  show wpAny _ A (PySem.assign (.Name y py) env (.ref D)) _ _ _
  have gg := g₁.trans g'
  have aL := a.grow0 g₁
  have hLC : C ≠ env.locals := by
    rintro rfl
    obtain ⟨o', e', _⟩ := aL.fr
    rw [hC] at e'; cases e'
  have hLD : D ≠ env.locals := by
    rintro rfl
    obtain ⟨o', e', _⟩ := aL.fr
    rw [hD] at e'; cases e'
  refine wpAny_assign_Name (store_at (P := .eq (.ref D)) (σ := Sto.was s.heap σ) w.ok w.new hy (a.grow0 gg) i' w.tab (t.was.grow0 gg) rfl fun s'' i'' g'' a'' t'' => ?_)
  refine ⟨m, g''.ns hn hLC, fun h₃ hs₃ => ?_⟩
  have fC := fresh_hb (W := fun b => b = C) i₁ (fun b e => by rw [e]; exact hC)
  have hC0 : s.heap.get? C = none := by
    cases e : s.heap.get? C with
    | none => rfl
    | some o' =>
      obtain ⟨o'', e', _⟩ := g₁.dom _ _ e
      rw [hC] at e'; cases e'
  have hp'' := dict_grow g'' hp hLD
  exact after_use (y := y) a (gg.of0.trans g'') i'' a'' t'' hs₃ hC0 hLC fC (g''.ns hn hLC) t (by
    exact ⟨D, ws, rfl, hmod, hp''.at fun o e => hs₃.extBut _ _ hDC e, ha⟩) p
end

-- Fm
open PySem PySem.W PyProof.Rows PySem.Calls PySem.SeqAt
set_option Elab.async false
set_option maxRecDepth 4000
set_option linter.unusedVariables false
set_option linter.unusedSimpArgs false

section
variable {Γ : Cx} {n : Nat} {env : Env} {σ : Sto}

/- chains and values of and/or -/
theorem TsD.cmp2 {l r₁ r₂ : Expr} {op₁ op₂ : CmpOp} {pos : Pos} {P₁ P₂ P₃ : Pd} {a b : Bool} (x : EvD Γ n env σ l P₁) (y : EvD Γ n env σ r₁ P₂) (z : EvD Γ n env σ r₂ P₃) (f : Op2 Γ n (compareOp op₁) P₁ P₂ (.bool a)) (g : Op2 Γ n (compareOp op₂) P₂ P₃ (.bool b))
    (hm : lastMarks [op₁, op₂] [r₁, r₂] = false := by rfl) : TsD Γ n env σ (.Compare l [op₁, op₂] [r₁, r₂] pos) (a && b) := fun A s Q E o i t p => by
  refine isTrue_chain (x A s _ E o i t fun u s₁ i₁ g₁ q₁ => ?_) hm
  refine test_link (y A s₁ _ E (o.grow g₁) i₁ (t.grow0 g₁) fun v s₂ i₂ g₂ q₂ => ?_)
  refine f A s₂ u v _ E ((o.grow g₁).grow g₂) i₂ (P₁.mono g₂.md0 q₁) q₂ fun c s₃ i₃ g₃ q₃ => ?_
  cases (show c = .bool a from q₃)
  refine wpAny_truthy_bool ?_
  cases a with
  | false => exact p s₃ i₃ (g₁.trans (g₂.trans g₃))
  | true =>
    rw [if_pos rfl]
    refine test_last (z A s₃ _ E (((o.grow g₁).grow g₂).grow g₃) i₃ (((t.grow0 g₁).grow0 g₂).grow0 g₃) fun w s₄ i₄ g₄ q₄ => ?_)
    refine g A s₄ v w _ E ((((o.grow g₁).grow g₂).grow g₃).grow g₄) i₄ (P₂.mono (g₃.trans g₄).md0 q₂) q₄ fun d s₅ i₅ g₅ q₅ => ?_
    cases (show d = .bool b from q₅)
    exact wpAny_truthy_bool (p s₅ i₅ ((g₁.trans (g₂.trans g₃)).trans (g₄.trans g₅)))

theorem EvD.bone {op : BoolOp} {e : Expr} {pos : Pos} {P : Pd} (x : EvD Γ n env σ e P) : EvD Γ n env σ (.BoolOp op [e] pos) P := fun A s Q E o i t p => BoolOp_one (x A s Q E o i t p)
theorem EvD.orB {e₁ e₂ : Expr} {r : List Expr} {pos : Pos} {a b : Bool} (x : EvD Γ n env σ e₁ (.bool a)) (y : a = false → EvD Γ n env σ (.BoolOp .Or (e₂ :: r) pos) (.bool b)) : EvD Γ n env σ (.BoolOp .Or (e₁ :: e₂ :: r) pos) (.bool (a || b)) := fun A s Q E o i t p =>
  BoolOp_or (x A s _ E o i t fun v s₁ i₁ g₁ q₁ => by
    cases (show v = .bool a from q₁)
    refine wpAny_truthy_bool ?_
    cases a with
    | true => exact p _ s₁ i₁ g₁ rfl
    | false => exact y rfl A s₁ Q E (o.grow g₁) i₁ (t.grow0 g₁) (p.grow g₁))
theorem EvD.andB {e₁ e₂ : Expr} {r : List Expr} {pos : Pos} {a b : Bool} (x : EvD Γ n env σ e₁ (.bool a)) (y : a = true → EvD Γ n env σ (.BoolOp .And (e₂ :: r) pos) (.bool b)) : EvD Γ n env σ (.BoolOp .And (e₁ :: e₂ :: r) pos) (.bool (a && b)) := fun A s Q E o i t p =>
  BoolOp_and (x A s _ E o i t fun v s₁ i₁ g₁ q₁ => by
    cases (show v = .bool a from q₁)
    refine wpAny_truthy_bool ?_
    cases a with
    | false => exact p _ s₁ i₁ g₁ rfl
    | true => exact y rfl A s₁ Q E (o.grow g₁) i₁ (t.grow0 g₁) (p.grow g₁))

/- in a tuple -/
noncomputable def isInt (c : Int) : Value → Bool
  | .int i _ => i == c
  | _ => false
theorem ints_mem {h : Heap} : ∀ {cs : List Int} {vs : List Value}, All2 h (cs.map Pd.int) vs → ∀ v ∈ vs, ∃ i t, v = .int i t
  | [], [], _, v, hv => by cases hv
  | c :: cs, w :: vs, ⟨⟨t, a⟩, b⟩, v, hv => by
    rcases List.mem_cons.mp hv with rfl | hv
    · exact ⟨c, t, a⟩
    · exact ints_mem b v hv
theorem ints_any {h : Heap} {c : Int} : ∀ {cs : List Int} {vs : List Value}, All2 h (cs.map Pd.int) vs → vs.any (isInt c) = cs.any (· == c)
  | [], [], _ => rfl
  | d :: cs, w :: vs, ⟨⟨t, a⟩, b⟩ => by subst a; rw [List.any_cons, List.any_cons, ints_any b]; rfl
theorem op_in_ints {cs : List Int} {c : Int} : Op2 Γ n (compareOp .In) (.int c) (.tup (cs.map Pd.int)) (.bool (cs.any (· == c))) := fun A s x y Q E o i ⟨t, hx⟩ ⟨a, vs, hy, ht, hr⟩ p => by
  subst hx hy
  refine in_tupleAt (isInt c) ht (fun y hy => ?_) (p.same (tk := s.toks) i (by show Value.bool _ = Value.bool _; rw [List.any_toArray, ints_any hr]))
  obtain ⟨j, u, rfl⟩ := ints_mem hr y (by simpa using hy)
  exact EqAt.int_int _ _ _ _
theorem op_notin_ints {cs : List Int} {c : Int} : Op2 Γ n (compareOp .NotIn) (.int c) (.tup (cs.map Pd.int)) (.bool (!cs.any (· == c))) := fun A s x y Q E o i ⟨t, hx⟩ ⟨a, vs, hy, ht, hr⟩ p => by
  subst hx hy
  refine notIn_tupleAt (isInt c) ht (fun y hy => ?_) (p.same (tk := s.toks) i (by show Value.bool _ = Value.bool _; rw [List.any_toArray, ints_any hr]))
  obtain ⟨j, u, rfl⟩ := ints_mem hr y (by simpa using hy)
  exact EqAt.int_int _ _ _ _
noncomputable def isBs (k : Bs) : Value → Bool
  | .bytes b _ => b.toList == k
  | _ => false
theorem bs_mem {h : Heap} : ∀ {cs : List Bs} {vs : List Value}, All2 h (cs.map Pd.bytes) vs → ∀ v ∈ vs, ∃ (b : Bs) (t : Tok), v = .bytes b.toArray t
  | [], [], _, v, hv => by cases hv
  | c :: cs, w :: vs, ⟨⟨t, a⟩, b⟩, v, hv => by
    rcases List.mem_cons.mp hv with rfl | hv
    · exact ⟨c, t, a⟩
    · exact bs_mem b v hv
theorem bs_any {h : Heap} {c : Bs} : ∀ {cs : List Bs} {vs : List Value}, All2 h (cs.map Pd.bytes) vs → vs.any (isBs c) = cs.any (· == c)
  | [], [], _ => rfl
  | d :: cs, w :: vs, ⟨⟨t, a⟩, b⟩ => by
    subst a; rw [List.any_cons, List.any_cons, bs_any b]; rfl
theorem op_in_bs {cs : List Bs} {c : Bs} : Op2 Γ n (compareOp .In) (.bytes c) (tupB cs) (.bool (cs.any (· == c))) := fun A s x y Q E o i ⟨t, hx⟩ ⟨a, vs, hy, ht, hr⟩ p => by
  subst hx hy
  refine in_tupleAt (isBs c) ht (fun y hy => ?_) (p.same (tk := s.toks) i (by show Value.bool _ = Value.bool _; rw [List.any_toArray, bs_any hr]))
  obtain ⟨j, u, rfl⟩ := bs_mem hr y (by simpa using hy)
  have := eqPd_bytes (n := n) (a := j) (b := c) A.in1 s _ _ (by have := o.units; simp only [Around.in1_units]; omega) ⟨u, rfl⟩ ⟨t, rfl⟩
  exact this
theorem op_notin_bs {cs : List Bs} {c : Bs} : Op2 Γ n (compareOp .NotIn) (.bytes c) (tupB cs) (.bool (!cs.any (· == c))) := fun A s x y Q E o i ⟨t, hx⟩ ⟨a, vs, hy, ht, hr⟩ p => by
  subst hx hy
  refine notIn_tupleAt (isBs c) ht (fun y hy => ?_) (p.same (tk := s.toks) i (by show Value.bool _ = Value.bool _; rw [List.any_toArray, bs_any hr]))
  obtain ⟨j, u, rfl⟩ := bs_mem hr y (by simpa using hy)
  have := eqPd_bytes (n := n) (a := j) (b := c) A.in1 s _ _ (by have := o.units; simp only [Around.in1_units]; omega) ⟨u, rfl⟩ ⟨t, rfl⟩
  exact this

/- a dict -/
theorem op_in_dct {kvs : List KV} {k : Bs} : Op2 Γ n (compareOp .In) (.bytes k) (.dct Γ kvs) (.bool (valAt kvs k).isSome) := fun A s x y Q E o i ⟨t, hx⟩ ⟨a, ws, hy, lo, hd, hv⟩ p => by
  subst hx hy
  refine wpAny_in_of (bytesKind_is _ _ k t) lo hd.mapOf (p.same i ?_)
  show Value.bool _ = Value.bool _
  have := hv.value (k := k)
  cases e : valAt kvs k with
  | none => rw [this.1 e]; rfl
  | some b => obtain ⟨u, hu⟩ := this.2 b e; rw [hu]; rfl
theorem sub_dct {v ie : Expr} {kvs : List KV} {k b : Bs} (hb : valAt kvs k = some b) (hsub : ∀ a t, subscripted ie false (.ref a) (.bytes k.toArray t) = operate [.ref a, .bytes k.toArray t] (getItem (.ref a) (.bytes k.toArray t)) := by intro _ _; with_unfolding_all rfl) : Op2 Γ n (subscriptTail v ie) (.dct Γ kvs) (.bytes k) (.bytes b) := fun A s x y Q E o i ⟨a, ws, hx, lo, hd, hv⟩ ⟨t, hy⟩ p => by
  subst hx hy
  obtain ⟨u, hu⟩ := hv.value.2 b hb
  exact tail_any hd.typeIs slot_dict_getitem.lookup (wpAny_getItem_of (bytesKind_is _ _ k t) hd.mapOf hu (p.same i ⟨u, rfl⟩)) (hsub a t)
theorem dictAt_of {prog : Program} {w : World} {h : Heap} {a : Addr} {ws : List (Bs × Value)} (x : h.DictOf (bytesKind prog w) a ws) : ∃ ep, h.DictAt (bytesKind prog w) a ws ep := by
  obtain ⟨o, es, ep, e, c, d, r⟩ := x; exact ⟨ep, o, es, e, c, d, r⟩
theorem ItD.dct {e : Expr} {kvs : List KV} (x : EvD Γ n env σ e (.dct Γ kvs)) : ItD Γ n env σ e (kvs.map fun kv => .bytes kv.1) := fun A s Q E o i t p =>
  x A s _ E o i t fun v s₁ i₁ g₁ ⟨a, ws, hv, lo, hd, hr⟩ => by
    subst hv
    obtain ⟨ep, hda⟩ := dictAt_of hd
    refine wpAny_pyIter_dict lo hda ?_
    have k := stays_push s₁.heap { cls := .type "dict_keyiterator", data := .fields #[.ref a, .int 0 0, .int ws.length 0, .int ep 0] }
    have ha : a < s₁.heap.objs.size := by obtain ⟨o', es, e', _⟩ := hda; exact Heap.lt_size e'
    have W := Walks.dictKeys (prog := Γ.prog) (w := Γ.w) (knd := bytesKind Γ.prog Γ.w) o.handled s₁.heap.objs.size a (Nat.ne_of_lt ha) ws ep
    have hlen := hr.length
    have hn : ws.length = (kvs.map fun kv => Pd.bytes kv.1).length := by rw [List.length_map]; exact hlen.symm
    rw [hn] at W
    refine p s₁ _ _ _ _ _ _ i₁ g₁ (i₁.stays k rfl rfl) (.of_stays k rfl) ⟨W, fun j h st => ?_, fun j h st b hb o' e' => ?_, fun j h st b hb o' e' => ?_⟩ ⟨⟨_, Heap.get?_push_size _ rfl, rfl, by rw [← hn]; rfl⟩, ?_⟩ ?_ ?_ ?_
    · obtain ⟨⟨o', e', c', _⟩, _⟩ := st
      exact ⟨o', _, e', c', by decide⟩
    · obtain ⟨⟨o₁, e₁, c₁, _⟩, o₂, es, e₂, c₂, _⟩ := st
      simp only [List.mem_cons, List.not_mem_nil, or_false] at hb
      rcases hb with rfl | rfl
      · rw [e₁] at e'; cases e'; rw [c₁]; decide
      · rw [e₂] at e'; cases e'; rw [c₂.1]; decide
    · obtain ⟨⟨o₁, e₁, c₁, _⟩, _⟩ := st
      simp only [List.mem_cons, List.not_mem_nil, or_false] at hb
      subst hb
      rw [e₁] at e'; cases e'; exact not_solid c₁ (by decide)
    · exact hda.at' fun o' e' => k _ _ e'
    · intro b hb
      simp only [List.mem_cons, List.not_mem_nil, or_false] at hb
      rcases hb with rfl | rfl
      · exact size_lt_push
      · exact lt_push ha
    · intro b hb
      simp only [List.mem_cons, List.not_mem_nil, or_false] at hb
      subst hb; exact get_size _
    · rintro j v ⟨k, x, hj, hk⟩
      obtain ⟨kv, hkv, he⟩ := paired_get hr hj
      obtain ⟨u, rfl⟩ := isBytes_shape hk
      exact ⟨.bytes kv.1, by rw [List.getElem?_map, hkv]; rfl, u, by rw [he.1]⟩
where
  paired_get : ∀ {kvs : List KV} {ws : List (Bs × Value)} (_ : DV kvs ws) {j : Nat} {w : Bs × Value}, ws[j]? = some w → ∃ kv, kvs[j]? = some kv ∧ kv.1 = w.1 ∧ ∃ t, w.2 = .bytes kv.2.toArray t
    | _, _, .nil, j, w, h => by simp at h
    | _, _, .cons a b, 0, w, h => by simp at h; subst h; exact ⟨_, rfl, a⟩
    | _, _, .cons a b, j + 1, w, h => paired_get (j := j) b (by simpa using h)

/- a range -/
theorem ItD.range {x : Str} {np pos : Pos} {e₁ e₂ : Expr} {a : Int} {m : Nat} (he : EnvOk env) (hx : env.kindOf x = some .globalImplicit) (hr : x = "range") (y : EvD Γ n env σ e₁ (.int a)) (z : EvD Γ n env σ e₂ (.int (a + m))) (ha : 0 ≤ a) (hs : a + m ≤ 1000000) (h1 : plainE e₁ = true := by rfl) (h2 : plainE e₂ = true := by rfl) :
    ItD Γ n env σ (.Call (.Name x np) [e₁, e₂] [] pos) ((List.range m).map fun i => .int (a + (i : Nat))) := fun A s Q E o i t p => by
  subst hr
  show wpAny Γ.M A (do callWith pos (← eval (.Name "range" np) env) [] (backTo pos (starEach [e₁, e₂] env)) []) _ E s
  refine wpAny_bind (EvD.builtin (Γ := Γ) (n := n) (σ := σ) he hx (by decide) (v := .type "range") rfl (by decide) (by decide) A s _ E o i t fun v s₁ i₁ g₁ q₁ => ?_)
  cases (show v = .type "range" from q₁)
  refine PyProof.Rows.callWith_type1 ?_ (starEach_cons e₁ [e₂] env h1) (star_plain pos env [e₂] (by simp [h2]))
  refine (ArgsD.cons y (ArgsD.cons z ArgsD.nil h2) h1) A s₁ pos _ E (o.grow g₁) i₁ (t.grow0 g₁) fun vs s₂ i₂ g₂ q₂ => ?_
  obtain ⟨u, v, rfl, ⟨tu, hu⟩, ⟨tv, hv⟩⟩ := q₂.two
  subst hu hv
  refine call_range_2 ?_
  have k := stays_push s₂.heap { cls := .type "range", data := .fields #[.int a tu, .int (a + m) tv, .int 1 s₂.toks] }
  have i₃ : Inv Γ { s₂ with heap := s₂.heap.push { cls := .type "range", data := .fields #[.int a tu, .int (a + m) tv, .int 1 s₂.toks] }, toks := s₂.toks + 1 } := i₂.stays k rfl rfl
  have g₃ : Grow0 s₂ { s₂ with heap := s₂.heap.push { cls := .type "range", data := .fields #[.int a tu, .int (a + m) tv, .int 1 s₂.toks] }, toks := s₂.toks + 1 } := .of_stays k rfl
  have hI := IsRange.new s₂.heap a (a + m) 1 tu tv s₂.toks
  generalize s₂.heap.push { cls := .type "range", data := .fields #[.int a tu, .int (a + m) tv, .int 1 s₂.toks] } = H at i₃ g₃ hI
  have hsz : Builtin.Range.rangeSize a (a + m) 1 = (m : Int) := by rw [rangeSize_nat]; omega
  refine wpAny_pyIter_range (s := { s₂ with heap := H, toks := s₂.toks + 1 }) hI (small_one (by omega) (by omega) (by omega) (by omega)) ?_
  rw [hsz]
  have k₄ := stays_push H { cls := .type "range_iterator", data := .fields #[rawInt a, rawInt m, rawInt 1] }
  have W := (Walks.range (prog := Γ.prog) (w := Γ.w) o.handled H.objs.size a 1 m).bound
  have hn : m = ((List.range m).map fun i => Pd.int (a + (i : Nat))).length := by simp
  refine p _ _ _ _ _ _ (fun i h => IsRangeIter h H.objs.size (a + (i : Nat) * 1) ((m : Int) - (i : Nat)) 1) i₃ ((g₁.trans g₂).trans g₃) (i₃.stays k₄ rfl rfl) (.of_stays k₄ rfl) ⟨by rw [← hn]; exact W, fun j h st => ?_, fun j h st b hb o' e' => ?_, fun j h st b hb o' e' => ?_⟩ ?_ ?_ ?_ ?_
  · exact ⟨_, _, st, rfl, by decide⟩
  · simp only [List.mem_cons, List.not_mem_nil, or_false] at hb
    subst hb
    rw [show h.get? _ = some _ from st] at e'; cases e'
    show Value.type "range_iterator" ≠ Value.type "frame"; decide
  · simp only [List.mem_cons, List.not_mem_nil, or_false] at hb
    subst hb
    rw [show h.get? _ = some _ from st] at e'; cases e'
    exact not_solid (T := "range_iterator") rfl (by decide)
  · show IsRangeIter _ _ _ _ _
    have : IsRangeIter (H.push { cls := .type "range_iterator", data := .fields #[rawInt a, rawInt m, rawInt 1] }) H.objs.size a m 1 := Heap.get?_push_size _ rfl
    simpa using this
  · intro b hb
    simp only [List.mem_cons, List.not_mem_nil, or_false] at hb
    subst hb; exact size_lt_push
  · intro b hb
    simp only [List.mem_cons, List.not_mem_nil, or_false] at hb
    subst hb; exact get_size _
  · rintro j v ⟨hj, u, hv⟩
    exact ⟨.int (a + (j : Nat)), by rw [List.getElem?_map, List.getElem?_range hj]; rfl, u, by rw [hv, Int.mul_one]⟩
end

-- Fn
open PySem PySem.W PyProof.Rows PySem.Calls PySem.SeqAt
set_option Elab.async false
set_option maxRecDepth 100000
set_option linter.unusedVariables false
set_option linter.unusedSimpArgs false
set_option maxHeartbeats 400000


/-- a def whose first argument lies in a cell -/
theorem FnD.bodyC {Γ : Cx} {n : Nat} {f : Addr} {oc : Value} {od : Option Addr} {sl : Array (Option Value)} {fd : FuncData} {body : List Stmt} {x : Str} {names : List Str} {P : Pd} {Ps : List Pd} {R : Pd}
    (hK : Γ.Kf.lookup f = some ⟨oc, od, .func fd, sl⟩) (hb : fd.body = .stmts body) (hcode : codeIn Γ.Kf fd.code fd.qualname = true)
    (hbind : ∀ (v : Value) (vs : List Value), vs.length = Ps.length → bindArgs fd ⟨v :: vs, []⟩ = pure ((x, v) :: names.zip vs)) (hnd : names.Nodup) (hxn : x ∉ names) (hlen : names.length = Ps.length) (hloc : ∀ x ∈ names, fd.scope.names.lookup x = some .local)
    (hx : fd.scope.names.lookup x = some .cell) (hcs : ∀ n, cellsFrom n fd.scope.names [] = [(x, n)]) (hps : ∀ h : Heap, pushCells h fd.scope.names = h.push { cls := .type "cell", data := .cell none })
    (hcl : fd.closure = []) (hgl : fd.globals = mainGlobals) (hbl : fd.builtins = builtinsNs) (hco : fd.scope.isCoroutine = false) (hgen : fd.scope.isGenerator = false) (hk : fd.scope.kind = .function)
    (h : ∀ L, BdD Γ n (newEnv fd.scope L fd.globals [(x, L + 1)] (fd.qualname ++ ".<locals>.") (some f) fd.code none fd.builtins) ((x, P) :: names.zip Ps) body R) : FnD Γ (n + 1) f (P :: Ps) R := fun A s vs Rr o i q p => by
  obtain ⟨v, vs, rfl⟩ : ∃ v ws, vs = v :: ws := by
    cases vs with
    | nil => exact q.elim
    | cons v ws => exact ⟨v, ws, rfl⟩
  obtain ⟨qv, q⟩ := q
  have hlv : vs.length = Ps.length := q.length
  refine codeAny_call_function o.room (i.K _ _ hK) rfl hco hgen hb (codeRec_of i.K hcode) ?_
  rw [hbind v vs hlv]
  refine wpAny_pure ?_
  rw [hcl]
  refine newEnv_cell hk hcs hps hx (fun y hy => hloc y.1 (List.of_mem_zip (show (y.1, y.2) ∈ names.zip vs from hy)).1) fun h' tk n' c' ca k => ?_
  have i' : Inv Γ { s with heap := h', toks := tk } := i.stays k rfl rfl
  refine ⟨i'.nolimit, codeAny_func ?_⟩
  have hkeys : ((names.zip vs).map (·.1)).Nodup := by rw [List.map_fst_zip (by omega)]; exact hnd
  generalize hE : newEnv fd.scope s.heap.objs.size fd.globals [(x, s.heap.objs.size + 1)] (fd.qualname ++ ".<locals>.") (some f) fd.code none fd.builtins = ce
  have st : Sat ce h' ((x, P) :: names.zip Ps) := fun y R e => by
    subst hE
    by_cases hyx : y = x
    · subst hyx
      rw [lookup_cons_eq] at e; cases e
      exact ⟨v, .inr ⟨.inl hx, _, by simp [newEnv, List.lookup_cons], ca⟩, P.mono (.of_stays k) qv⟩
    · rw [lookup_cons_ne hyx] at e
      obtain ⟨u, ev, pv⟩ := (q.mono (.of_stays k)).zip_lookup e
      refine ⟨u, .inl ⟨?_, _, n', by rw [lookup_rev hkeys]; exact ev⟩, pv⟩
      have hx : y ∈ names := by
        have : ∃ p ∈ names.zip Ps, p.1 = y := by
          cases hf : (names.zip Ps).lookup y with
          | none => rw [hf] at e; cases e
          | some P' =>
            have m := mem_of_lookup hf
            exact ⟨_, m, rfl⟩
        obtain ⟨p', hp', rfl⟩ := this
        exact (List.of_mem_zip (show (p'.1, p'.2) ∈ names.zip Ps from hp')).1
      exact hloc y hx
  have he : EnvOk ce := by subst hE; exact ⟨hk, hgl, hbl⟩
  have hL : ce.locals = s.heap.objs.size := by subst hE; rfl
  have hf : ce.frame = some ce.locals := by subst hE; rfl
  have hb' : BdD Γ n ce ((x, P) :: names.zip Ps) body R := by subst hE; exact h _
  rw [← hL] at n' c'
  refine hb' (A.deeper ce) { s with heap := h', toks := tk } _ _ (o.call i (s₁ := { s with heap := h', toks := tk }) (env := ce) k rfl he.kind hf hL ⟨_, n'⟩ c') i' (own_of i he hL) ⟨⟨_, n'⟩, c'⟩ st fun v s' i₂ g₂ a₂ r₂ => ?_
  exact p v s' i₂ (grow_call (s₁ := { s with heap := h', toks := tk }) k rfl (Nat.le_of_eq hL.symm) g₂) r₂

theorem CellsAt.nil {cenv : Env} {h : Heap} : CellsAt cenv h [] := fun x R e => by simp at e
theorem CellsAt.one {cenv env : Env} {h : Heap} {x : Str} {P : Pd} {σ : Sto} (t : Sat env h σ) (hx : σ.lookup x = some P) (hk : env.kindOf x = some .cell) (hk' : cenv.kindOf x = some .cell) (hc : cenv.cells.lookup x = env.cells.lookup x) : CellsAt cenv h [(x, P)] := fun y R e => by
  by_cases hyx : y = x
  · subst hyx
    rw [lookup_cons_eq] at e; cases e
    obtain ⟨v, l, q⟩ := t y P hx
    rcases l with ⟨k, _⟩ | ⟨_, c, e, qc⟩
    · rw [hk] at k; cases k
    · exact ⟨.inl hk', c, v, by rw [hc]; exact e, qc, q⟩
  · rw [lookup_cons_ne hyx] at e; simp at e


noncomputable def badC (c : UInt8) : Bool := (!(decide ((33 : Int) ≤ (c.toNat : Int)) && decide ((c.toNat : Int) ≤ 126))) || ((decide ((65 : Int) ≤ (c.toNat : Int)) && decide ((c.toNat : Int) ≤ 90)) || false)
noncomputable def badV (c : UInt8) : Bool := ([0, 10, 13] : List Int).any (· == (c.toNat : Int))
noncomputable def colonAt (name : Bs) (i : Nat) : Bool := (((name.getD (1 + i) 0).toNat : Int) == 58)
noncomputable def white (c : UInt8) : Bool := ([9, 32] : List Int).any (· == (c.toNat : Int))
noncomputable def pureB (name value : Bs) : Bool :=
  if (name == [] || (!(name.filter badC).isEmpty || false)) then false
  else if (!((List.range (name.length - 1)).filter (colonAt name)).isEmpty || (!(value.filter badV).isEmpty || false)) then false
  else (value == [] || (!white (value.getD 0 0) && !white (value.getD (value.length - 1) 0)))

theorem op_ne_nil' {Γ : Cx} {n : Nat} {α : Type} {l : List α} {R : α → Pd} : Op2 Γ n (compareOp .NotEq) (.lst (l.map R)) (.lst []) (.bool (!l.isEmpty)) := by
  have := op_ne_nil (Γ := Γ) (n := n) (ps := l.map R)
  rwa [List.isEmpty_map] at this

theorem pure_t {Γ : Cx} {name value : Bs} (h1 : name.length ≤ 10000) (h2 : value.length ≤ 10000) : FnD Γ 1 327 [.bytes name, .bytes value] (.bool (pureB name value)) := by
  refine' FnD.bodyC (x := "name") (names := ["value"]) ?hK ?hb ?hcode ?hbind ?hnd ?hxn ?hlen ?hloc ?hx ?hcs ?hps ?hcl ?hgl ?hbl ?hco ?hgen ?hk ?h
  (case hK => (show (KF (Cx.w _).params).lookup _ = _; k_is))
  (case hb => exact rfl)
  (case hcode => (show codeIn (KF (Cx.w _).params) _ _ = true; k_is))
  (case hcl => exact rfl)
  (case hgl => exact rfl)
  (case hbl => exact rfl)
  (case hco => exact rfl)
  (case hgen => exact rfl)
  (case hk => exact rfl)
  (case hnd => decide)
  (case hxn => decide)
  (case hlen => exact rfl)
  (case hloc => decide)
  (case hx => exact rfl)
  (case hcs => intro _; exact rfl)
  (case hps => intro _; exact rfl)
  (case hbind => intro v; exact len1 (fun _ => rfl))
  intro L
  dsimp only [List.zip, List.zipWith]
  unfold pureB
  refine BdD.ite (b := (name == [] || (!(name.filter badC).isEmpty || false))) (TsD.bool (AllD.or (TsD.cmp (by walk_at "m nm") (by walk_at "m ev") op_eq_bytes) fun _ => AllD.or ?_ fun _ => AllD.or_nil)) ?_ ?_
  · refine TsD.cmp (P₁ := .lst ((name.filter badC).map fun c => Pd.int c.toNat)) (EvD.comp (items := name) (P := fun c => Pd.int c.toNat) (R := fun c => Pd.int c.toNat) (b := badC) (τ := fun c => [("c", Pd.int c.toNat)]) (φ := []) (cl := []) (ItD.bytes (by walk_at "m nm")) (closureFor_none (by decide)) (by decide) rfl (by decide) (fun _ _ _ => CellsAt.nil) ⟨fun C x _ => TgC.name rfl rfl, fun C x _ => TstsD.one ?_⟩ (fun C x _ _ => by walk_at "m nm") (fun _ => pure_int) (by omega)) (EvD.list ArgsD.nil) op_ne_nil'
    exact TsD.bool (AllD.or (TsD.not (TsD.cmp2 (by walk_at "m ev") (by walk_at "m nm") (by walk_at "m ev") op_le_int op_le_int)) fun _ => AllD.or (TsD.cmp2 (by walk_at "m ev") (by walk_at "m nm") (by walk_at "m ev") op_le_int op_le_int) fun _ => AllD.or_nil)
  · intro h
    rw [if_pos h]
    exact BdD.ret (by walk_at "m ev")
  intro h
  rw [if_neg (by rw [h]; decide)]
  have hne : name ≠ [] := by
    rintro rfl
    simp at h
  have hpos : 0 < name.length := List.length_pos_iff.mpr hne
  refine BdD.ite (b := (!((List.range (name.length - 1)).filter (colonAt name)).isEmpty || (!(value.filter badV).isEmpty || false))) (TsD.bool (AllD.or ?_ fun _ => AllD.or ?_ fun _ => AllD.or_nil)) ?_ ?_
  · refine TsD.cmp (P₁ := .lst (((List.range (name.length - 1)).filter (colonAt name)).map fun i => Pd.int (1 + (i : Nat)))) (EvD.comp (items := List.range (name.length - 1)) (P := fun i => Pd.int (1 + (i : Nat))) (R := fun i => Pd.int (1 + (i : Nat))) (b := colonAt name) (τ := fun i => [("k", Pd.int (1 + (i : Nat)))]) (φ := [("name", .bytes name)]) (cl := [("name", L + 1)]) (ItD.range (a := 1) (m := name.length - 1) ⟨rfl, rfl, rfl⟩ rfl rfl (by walk_at "m ev") (EvD.int_eq ?_ (EvD.callB ⟨rfl, rfl, rfl⟩ rfl (by decide) rfl (by walk_at "m args") (len_bytes_d (b := name) (by omega)))) (by decide) (by omega)) rfl (by decide) rfl (by decide) (fun h C t => CellsAt.one t rfl rfl rfl rfl) ⟨fun C x _ => TgC.name rfl rfl, fun C x hx => TstsD.one ?_⟩ (fun C x _ _ => by walk_at "m nm") (fun _ => pure_int) (by simp; omega)) (EvD.list ArgsD.nil) op_ne_nil'
    · omega
    · have hx' : 1 + x < name.length := by
        have := List.mem_range.mp hx
        omega
      refine TsD.cmp (EvD.item (P₁ := .bytes name) (by walk_at "m nm") (by walk_at "m nm") (sub_bytes (c := name.getD (1 + x) 0) (by omega) (by omega) ?_)) (by walk_at "m ev") op_eq_int
      have e : ((1 : Int) + ((x : Nat) : Int)).toNat = 1 + x := by omega
      rw [e, List.getD_eq_getElem?_getD, List.getElem?_eq_getElem hx']; rfl
  · refine TsD.cmp (P₁ := .lst ((value.filter badV).map fun c => Pd.int c.toNat)) (EvD.comp (items := value) (P := fun c => Pd.int c.toNat) (R := fun c => Pd.int c.toNat) (b := badV) (τ := fun c => [("c", Pd.int c.toNat)]) (φ := []) (cl := []) (ItD.bytes (by walk_at "m nm")) (closureFor_none (by decide)) (by decide) rfl (by decide) (fun _ _ _ => CellsAt.nil) ⟨fun C x _ => TgC.name rfl rfl, fun C x _ => TstsD.one ?_⟩ (fun C x _ _ => by walk_at "m nm") (fun _ => pure_int) (by omega)) (EvD.list ArgsD.nil) op_ne_nil'
    exact TsD.cmp (by walk_at "m nm") (EvD.tuple (Ps := [.int 0, .int 10, .int 13]) (by walk_at "m args") (Nat.le_of_ble_eq_true rfl)) (op_in_ints (cs := [0, 10, 13]))
  · intro h
    rw [if_pos h]
    exact BdD.ret (by walk_at "m ev")
  intro h
  rw [if_neg (by rw [h]; decide)]
  refine BdD.ret (EvD.orB (EvD.compare (by walk_at "m nm") (by walk_at "m ev") op_eq_bytes) fun hv => EvD.bone ?_)
  have hv : 0 < value.length := by
    cases value with
    | nil => simp at hv
    | cons _ _ => simp
  refine EvD.andB (EvD.compare (EvD.item (P₁ := .bytes value) (by walk_at "m nm") (by walk_at "m ev") (sub_bytes (c := value.getD 0 0) (by omega) (by decide) ?_)) (EvD.tuple (Ps := [.int 9, .int 32]) (by walk_at "m args") (Nat.le_of_ble_eq_true rfl)) (op_notin_ints (cs := [9, 32]))) fun _ => EvD.bone (EvD.compare (EvD.item (P₁ := .bytes value) (P₂ := .int ((value.length : Int) - 1)) (by walk_at "m nm") (EvD.binop (EvD.callB ⟨rfl, rfl, rfl⟩ rfl (by decide) rfl (by walk_at "m args") (len_bytes_d (b := value) (by omega))) (by walk_at "m ev") op_sub) (sub_bytes (c := value.getD (value.length - 1) 0) (by omega) (by omega) ?_)) (EvD.tuple (Ps := [.int 9, .int 32]) (by walk_at "m args") (Nat.le_of_ble_eq_true rfl)) (op_notin_ints (cs := [9, 32])))
  · show value[0]? = some (value.getD 0 0)
    rw [List.getD_eq_getElem?_getD, List.getElem?_eq_getElem hv]; rfl
  · have e : ((value.length : Int) - 1).toNat = value.length - 1 := by omega
    rw [e, List.getD_eq_getElem?_getD, List.getElem?_eq_getElem (by omega)]; rfl

-- Fo
open PySem PySem.W PyProof.Rows PySem.Calls PySem.SeqAt
set_option Elab.async false
set_option maxRecDepth 100000
set_option linter.unusedVariables false
set_option linter.unusedSimpArgs false

/- ---------- what the library has not of bytes ---------- -/
theorem bs_slot_lower : Slot "bytes" "lower" "bytes.lower" :=
  .of (owner := "bytes") (n := "lower") (by rw [typeLookup_type, builtinLookup_eq_fast]; kernel_rfl) (by decide +kernel) (by decide +kernel) (by decide +kernel)
    (by first | exact .inl (by decide +kernel) | exact .inr (by decide +kernel)) (by rw [isSubtype_type]; kernel_rfl)
theorem bs_type_lower : typeOf (.builtin "bytes.lower") = pure (.type "method_descriptor") := by show builtinType _ = _; rw [builtinType_eq_fast]; kernel_rfl
theorem bs_entry_lower : entryFor table "bytes.lower" = some Builtin.«bytes.lower» := entryFor_of_tree (by kernel_rfl)
theorem bs_args_lower (a : Value) : argsOk "bytes.lower" ⟨[a], []⟩ := by
  unfold argsOk; rw [signature?_of (id := "bytes.lower") (n := ['r', 'e', 'w', 'o', 'l']) (o := ['s', 'e', 't', 'y', 'b']) (by kernel_rfl) FB.owner_bytes]; kernel_rfl
theorem bs_slot_find : Slot "bytes" "find" "bytes.find" :=
  .of (owner := "bytes") (n := "find") (by rw [typeLookup_type, builtinLookup_eq_fast]; kernel_rfl) (by decide +kernel) (by decide +kernel) (by decide +kernel)
    (by first | exact .inl (by decide +kernel) | exact .inr (by decide +kernel)) (by rw [isSubtype_type]; kernel_rfl)
theorem bs_type_find : typeOf (.builtin "bytes.find") = pure (.type "method_descriptor") := by show builtinType _ = _; rw [builtinType_eq_fast]; kernel_rfl
theorem bs_entry_find : entryFor table "bytes.find" = some Builtin.«bytes.find» := entryFor_of_tree (by kernel_rfl)
theorem bs_args_find (a b c : Value) : argsOk "bytes.find" ⟨[a, b, c], []⟩ := by
  unfold argsOk; rw [signature?_of (id := "bytes.find") (n := ['d', 'n', 'i', 'f']) (o := ['s', 'e', 't', 'y', 'b']) (by kernel_rfl) FB.owner_bytes]; kernel_rfl
theorem bs_slot_lt : Slot "bytes" "__lt__" "bytes.__lt__" :=
  .of (owner := "bytes") (n := "__lt__") (by rw [typeLookup_type, builtinLookup_eq_fast]; kernel_rfl) (by decide +kernel) (by decide +kernel) (by decide +kernel)
    (by first | exact .inl (by decide +kernel) | exact .inr (by decide +kernel)) (by rw [isSubtype_type]; kernel_rfl)
theorem bs_entry_lt : entryFor table "bytes.__lt__" = some Builtin.«bytes.__lt__» := entryFor_of_tree (by kernel_rfl)
theorem bs_args_lt (a b : Value) : argsOk "bytes.__lt__" ⟨[a, b], []⟩ := by
  unfold argsOk; rw [signature?_of (id := "bytes.__lt__") (n := ['_', '_', 't', 'l', '_', '_']) (o := ['s', 'e', 't', 'y', 'b']) (by kernel_rfl) FB.owner_bytes]; kernel_rfl

noncomputable def lowerB (b : Bs) : Bs := b.map Builtin.Bytes.toLower
theorem meets_lower (b : Array UInt8) (t : Tok) : Meets (Builtin.«bytes.lower» ⟨[.bytes b t], []⟩) (fun _ R s => b.size ≤ sizeLine ∧ ∀ t' k, R (.ok (.ret (.bytes (b.toList.map Builtin.Bytes.toLower).toArray t'))) { s with toks := k }) := by
  refine .of_wp fun prog w A R s hS => ?_
  obtain ⟨hsz, h⟩ := hS
  show wpAny _ _ (mkBytes (b.toList.map Builtin.Bytes.toLower).toArray >>= fun v => ret v) _ _ s
  exact wpAny_bind (wpAny_mkBytes (wpAny_pure ⟨_, rfl, h _ _⟩) (by simpa using hsz))
theorem meets_lt (b c : Array UInt8) (t u : Tok) : Gives (Builtin.«bytes.__lt__» ⟨[.bytes b t, .bytes c u], []⟩) (.val (.bool (Builtin.Bytes.order b.toList c.toList == .lt))) := by
  refine .of_wp fun M A E s Q hq => ?_
  show wpAny M A (isInstance (.bytes c u) (.type "bytes") >>= fun r => _) _ E s
  refine wpAny_bind (wpAny_isInstance (typeIs_bytes s c u) F.sub_bytes_bytes ?_)
  exact wpAny_pure ⟨_, rfl, hq⟩

/- ---------- sorting bytes ---------- -/
noncomputable def natsOf (b : Bs) : List Nat := b.map (·.toNat)
theorem order_lt : ∀ a b : Bs, (Builtin.Bytes.order a b == .lt) = decide (natsOf a < natsOf b)
  | [], [] => by simp [Builtin.Bytes.order, natsOf]
  | [], _ :: _ => by simp [Builtin.Bytes.order, natsOf]
  | _ :: _, [] => by simp [Builtin.Bytes.order, natsOf]
  | x :: a, y :: b => by
    have ih := order_lt a b
    unfold natsOf at ih ⊢
    simp only [Builtin.Bytes.order, List.map_cons, List.cons_lt_cons_iff]
    by_cases h1 : x < y
    · have : x.toNat < y.toNat := h1
      simp [h1, this]
    · by_cases h2 : x > y
      · have h2' : y.toNat < x.toNat := h2
        have h3 : ¬ x.toNat < y.toNat := by omega
        have h4 : ¬ x.toNat = y.toNat := by omega
        simp [h1, h2, h3, h4]
      · have : x = y := UInt8.le_antisymm (UInt8.not_lt.mp h2) (UInt8.not_lt.mp h1)
        subst this
        simp [ih]
theorem natsOf_inj {a b : Bs} (h : natsOf a = natsOf b) : a = b := by
  unfold natsOf at h
  exact (List.map_inj_right (fun x y e => UInt8.toNat_inj.mp e)).mp h

noncomputable def bsOrd : PyProof.Rows.KeyKind where
  α := List Nat
  blt a b := decide (a < b)
  irrefl a := by simpa using List.lt_irrefl a
  trans a b c h1 h2 := by simp only [decide_eq_true_eq] at *; exact List.lt_trans h1 h2
  negTrans a b c h := by
    simp only [decide_eq_true_eq] at *
    by_cases hab : a < b
    · exact .inl hab
    · exact .inr (List.lt_of_le_of_lt (List.not_lt.mp hab) h)
  total a b h1 h2 := by simp only [decide_eq_false_iff_not] at *; exact List.le_antisymm (List.not_lt.mp h2) (List.not_lt.mp h1)
  keyOf v := match v with | .bytes b _ => some (natsOf b.toList) | _ => none
  dflt := []
theorem bsOrd_oneLt : bsOrd.OneLt := by
  intro prog w A E s x y a b Q ha hb h
  cases x <;> simp only [bsOrd, reduceCtorEq, Option.some.injEq] at ha
  cases y <;> simp only [bsOrd, reduceCtorEq, Option.some.injEq] at hb
  cases ha; cases hb
  rename_i b₁ t₁ b₂ t₂
  rw [oneLt'_eq]
  simp only [if_true]
  refine wpAny_bind (wpAny_cRoomFor_byValue rfl ?_)
  refine wpAny_bind (wpAny_callSpecialIfBound?_slot (typeIs_bytes s b₁ t₁) bs_slot_lt ?_)
  refine wpAny_call_entry bs_slot_lt (typeIs_bytes s b₁ t₁) bs_entry_lt ?_ (bs_args_lt _ _)
  show wpAny _ _ (isInstance (.bytes b₂ t₂) (.type "bytes") >>= fun r => _) _ _ s
  refine wpAny_bind (wpAny_isInstance (typeIs_bytes s b₂ t₂) F.sub_bytes_bytes ?_)
  refine wpAny_pure ⟨_, rfl, wpAny_truthy_bool ?_⟩
  show Q (Builtin.Bytes.order b₁.toList b₂.toList == .lt) s
  rw [order_lt]
  exact h

theorem bs_all {h : Heap} : ∀ {bs : List Bs} {vs : List Value}, All2 h (bs.map Pd.bytes) vs → ∃ ts : List (Bs × Tok), vs = ts.map (fun x => .bytes x.1.toArray x.2) ∧ ts.map (·.1) = bs
  | [], [], _ => ⟨[], rfl, rfl⟩
  | b :: bs, v :: vs, ⟨⟨t, a⟩, r⟩ => by
    obtain ⟨ts, e1, e2⟩ := bs_all r
    exact ⟨(b, t) :: ts, by rw [a, e1]; rfl, by rw [← e2]; rfl⟩
theorem all2_of {h : Heap} : ∀ ts : List (Bs × Tok), All2 h ((ts.map (·.1)).map Pd.bytes) (ts.map fun x => .bytes x.1.toArray x.2)
  | [] => trivial
  | x :: ts => ⟨⟨x.2, rfl⟩, all2_of ts⟩
noncomputable def bOf : Value → Bs
  | .bytes b _ => b.toList
  | _ => []
noncomputable def tOf : Value → Tok
  | .bytes _ t => t
  | _ => 0

theorem mapM_first_bs : ∀ ts : List (Bs × Tok), (ts.map fun x => Value.bytes x.1.toArray x.2).mapM firstOfTuple' = pure (ts.map fun _ => none)
  | [] => by simp
  | x :: ts => by
    rw [List.map_cons, List.mapM_cons, show firstOfTuple' (.bytes x.1.toArray x.2) = pure none from rfl, mapM_first_bs ts]; simp
theorem mapM_typeOf_bs : ∀ ts : List (Bs × Tok), (ts.map fun x => Value.bytes x.1.toArray x.2).mapM typeOf = pure (ts.map fun _ => Value.type "bytes")
  | [] => by simp
  | x :: ts => by
    rw [List.map_cons, List.mapM_cons, mapM_typeOf_bs ts]
    show (pure (Value.type "bytes") >>= fun b => pure _ >>= fun bs => pure (b :: bs)) = _
    simp
theorem keyKind_bs (x y : Bs × Tok) (ts : List (Bs × Tok)) : keyKind' ((x :: y :: ts).map fun x => Value.bytes x.1.toArray x.2).toArray = pure oneType' := by
  rw [keyKind'_eq, List.mapM_toArray, mapM_first_bs]
  simp only [map_pure, pure_bind]
  rw [if_neg (by simp), if_neg (by simp)]
  rw [oneTypeOnly'_eq, List.mapM_toArray, mapM_typeOf_bs]
  simp only [map_pure, pure_bind]
  have hall : ((List.map (fun _ => Value.type "bytes") (x :: y :: ts)).toArray.all fun x => x == Value.type "bytes") = true := by
    simp only [List.all_toArray, List.all_map, List.all_eq_true]
    intro _ _
    rfl
  have h0 : (List.map (fun _ => Value.type "bytes") (x :: y :: ts)).toArray[0]? = some (Value.type "bytes") := by simp
  rw [h0]
  simp only [hall, if_true, pure_bind, Option.isSome_some]

noncomputable def Rising (l : List Bs) : Prop := l.Pairwise fun a b => ¬ natsOf b < natsOf a
theorem rising_unique {a b : List Bs} (ha : Rising a) (hb : Rising b) (hp : a.Perm b) : a = b :=
  List.Perm.eq_of_pairwise (le := fun a b => ¬ natsOf b < natsOf a) (fun x y _ _ h1 h2 => natsOf_inj (List.le_antisymm (List.not_lt.mp h1) (List.not_lt.mp h2))) ha hb hp

theorem sorted_out_bs (ts : List (Bs × Tok)) {xs : Array Keyed} (hp : xs.Perm (pairsOf (ts.map fun x => Value.bytes x.1.toArray x.2))) (hs : SortedToK bsOrd xs (pairsOf (ts.map fun x => Value.bytes x.1.toArray x.2)).size) :
    ∃ us : List (Bs × Tok), (xs.map (·.2)).toList = us.map (fun x => Value.bytes x.1.toArray x.2) ∧ (us.map (·.1)).Perm (ts.map (·.1)) ∧ Rising (us.map (·.1)) := by
  generalize hvs : (ts.map fun x => Value.bytes x.1.toArray x.2) = vs at hp hs
  have hl : xs.toList.Perm (vs.zip vs) := by rw [← pairsOf_toList]; exact Array.perm_iff_toList_perm.mp hp
  have hmem : ∀ p, p ∈ xs.toList → p.1 = p.2 ∧ p.1 ∈ vs := fun p hp' => mem_zip_self (hl.mem_iff.mp hp')
  have hby : ∀ p, p ∈ xs.toList → p.2 = .bytes (bOf p.2).toArray (tOf p.2) ∧ p.1 = p.2 := fun p hp' => by
    obtain ⟨h1, h2⟩ := hmem p hp'
    rw [h1, ← hvs] at h2
    obtain ⟨x, _, hx⟩ := List.mem_map.mp h2
    rw [← hx]; exact ⟨by simp [bOf, tOf], h1.trans hx.symm⟩
  refine ⟨xs.toList.map fun p => (bOf p.2, tOf p.2), ?_, ?_, ?_⟩
  · rw [Array.toList_map, List.map_map]
    exact List.map_congr_left fun p hp' => (hby p hp').1
  · have h1 := hl.map (fun p => bOf p.2)
    have e2 : (vs.zip vs).map (fun p => bOf p.2) = ts.map (·.1) := by
      have : (vs.zip vs).map (fun p => bOf p.2) = ((vs.zip vs).map Prod.snd).map bOf := by rw [List.map_map]; rfl
      rw [this, List.map_snd_zip (Nat.le_refl _), ← hvs, List.map_map]
      exact List.map_congr_left fun x _ => by simp [bOf]
    rw [e2] at h1
    rw [List.map_map]; exact h1
  · unfold Rising
    rw [List.map_map, List.pairwise_map, List.pairwise_iff_getElem]
    intro i j hi hj hij
    have hi' : i < xs.size := by simpa using hi
    have hj' : j < xs.size := by simpa using hj
    have h1 := hs i j (Nat.le_of_lt hij) (by rw [← hp.size_eq]; exact hj')
    have hx := hby xs[i] (by simp)
    have hy := hby xs[j] (by simp)
    have k1 : KK bsOrd xs i = natsOf (bOf xs[i].2) := by
      unfold KK; rw [getElem?_pos xs i hi']; dsimp only; rw [hx.2, hx.1]; simp [bsOrd, bOf]
    have k2 : KK bsOrd xs j = natsOf (bOf xs[j].2) := by
      unfold KK; rw [getElem?_pos xs j hj']; dsimp only; rw [hy.2, hy.1]; simp [bsOrd, bOf]
    rw [k1, k2] at h1
    simpa [KeyOrd.kle, bsOrd] using h1

noncomputable def sortedPd (bs : List Bs) : Pd := .ex fun x : { c : List Bs // c.Perm bs ∧ Rising c } => lstB x.1
section
variable {Γ : Cx} {n : Nat} {env : Env} {σ : Sto}
theorem sorted_d {bs : List Bs} (h64 : bs.length < 64) : CaD Γ n (.builtin "sorted") [lstB bs] (sortedPd bs) := fun A s vs Q E o i q p => by
  obtain ⟨v, rfl, a, ws, hv, hl, hr⟩ := q.one
  subst hv
  obtain ⟨ts, rfl, rfl⟩ := bs_all hr
  refine sortedK bsOrd_oneLt hl (fun q hq => ?_) (fun v₁ v₂ rest e => ?_) (by simpa using h64) fun st' hp hs => ?_
  · rw [pairsOf_toList] at hq
    obtain ⟨x, _, hx⟩ := List.mem_map.mp (mem_zip_self hq).2
    exact ⟨natsOf x.1, by rw [← hx]; simp [bsOrd]⟩
  · match ts, e with
    | x :: y :: r, e =>
      rw [← e]; exact keyKind_bs x y r
  · obtain ⟨us, e1, e2, e3⟩ := sorted_out_bs ts hp hs
    obtain ⟨e, he⟩ := sortedAll_at s.heap (ts.map fun x => Value.bytes x.1.toArray x.2) ((arrOf st').map (·.2))
    have k : s.heap.StaysIn (sortedAll s.heap (ts.map fun x => Value.bytes x.1.toArray x.2) ((arrOf st').map (·.2))) := fun _ _ => sortedAll_old
    refine p.here (tk := s.toks) i k ⟨⟨us.map (·.1), e2, e3⟩, _, us.map (fun x => Value.bytes x.1.toArray x.2), rfl, ⟨_, he, rfl, e, ?_⟩, all2_of us⟩
    show Data.seq _ _ = Data.seq _ _
    rw [← e1]

/- lists of bytes compared -/
theorem lists_eq : ∀ a b : List Bs, (a.length == b.length && (List.range a.length).all fun j => a.getD j [] == b.getD j []) = (a == b)
  | [], [] => rfl
  | [], _ :: _ => by simp
  | _ :: _, [] => by simp
  | x :: a, y :: b => by
    have ih := lists_eq a b
    rw [List.length_cons, List.length_cons, List.range_succ_eq_map, List.all_cons, List.all_map, List.cons_beq_cons, ← ih]
    have e : ((a.length + 1 == b.length + 1) : Bool) = (a.length == b.length) := by simp
    rw [e]
    simp only [List.getD_cons_zero, Function.comp_def, List.getD_cons_succ]
    cases (a.length == b.length) <;> cases (x == y) <;> simp
theorem mapB_get {a : List Bs} {j : Nat} {P : Pd} (h : (a.map Pd.bytes)[j]? = some P) : P = .bytes (a.getD j []) := by
  rw [List.getElem?_map] at h
  cases e : a[j]? with
  | none => rw [e] at h; cases h
  | some x => rw [e] at h; cases h; rw [List.getD_eq_getElem?_getD, e]; rfl
theorem op_eq_lstB {a b : List Bs} : Op2 Γ n (compareOp .Eq) (lstB a) (lstB b) (.bool (a == b)) :=
  op_eq_list (e := fun j => a.getD j [] == b.getD j []) (fun j P R h1 h2 => by rw [mapB_get h1, mapB_get h2]; exact eqPd_bytes) (by rw [List.length_map, List.length_map, lists_eq])
theorem op_ne_lstB {a b : List Bs} : Op2 Γ n (compareOp .NotEq) (lstB a) (lstB b) (.bool (!(a == b))) :=
  op_ne_list (e := fun j => a.getD j [] == b.getD j []) (fun j P R h1 h2 => by rw [mapB_get h1, mapB_get h2]; exact eqPd_bytes) (by rw [List.length_map, List.length_map, lists_eq])
theorem op_ne_sorted {a b : List Bs} (hb : Rising b) : Op2 Γ n (compareOp .NotEq) (sortedPd a) (lstB b) (.bool (!(a.isPerm b))) := fun A s x y Q E o i ⟨⟨c, hc, hr⟩, hx⟩ hy p => by
  have e : (a.isPerm b) = (c == b) := by
    rw [Bool.eq_iff_iff, List.isPerm_iff, beq_iff_eq]
    exact ⟨fun h => rising_unique hr hb (hc.trans h), fun h => h ▸ hc.symm⟩
  rw [e] at p
  exact op_ne_lstB A s x y Q E o i hx hy p

/- ---------- methods of bytes ---------- -/
theorem EvD.lower {o : Expr} {apos pos : Pos} {b : Bs} {pl : Sem Bool} (x : EvD Γ n env σ o (.bytes b)) (hs : b.length ≤ 100000)
    (he : eval (.Call (.Attribute o "lower" apos) [] [] pos) env = (do
      let ov ← eval o env
      standAt apos.atName
      let (f, first) ← holding [ov] (getMethod ov "lower" pl)
      callWith pos f first (backTo pos (starEach [] env)) []) := by rfl) : EvD Γ n env σ (.Call (.Attribute o "lower" apos) [] [] pos) (.bytes (lowerB b)) := fun A s Q E ok i t p => by
  refine MethodCall_ (pl := pl) (x A s _ E ok i t fun v s₁ i₁ g₁ ⟨tk, hv⟩ => ?_) he
  subst hv
  refine KBd.method_of (.bytes b.toArray tk) (typeIs_bytes _ _ _) bs_slot_lower bs_type_lower KBd.noRef ?_
  refine Calls.callWith_builtin rfl (evalArgs_nil3 ?_)
  refine call_meets bs_slot_lower (typeIs_bytes _ _ _) bs_entry_lower (bs_args_lower _) (meets_lower b.toArray tk) ⟨by simp [sizeLine_eq]; omega, fun t' k => ?_⟩
  exact (p.grow g₁).same i₁ ⟨t', by simp [lowerB]⟩
end

-- Fp
open PySem PySem.W PyProof.Rows PySem.Calls PySem.SeqAt
set_option Elab.async false
set_option maxRecDepth 100000
set_option linter.unusedVariables false
set_option linter.unusedSimpArgs false
set_option maxHeartbeats 400000



noncomputable abbrev cTe : Bs := [116, 101]
noncomputable abbrev cTrailers : Bs := [116, 114, 97, 105, 108, 101, 114, 115]
noncomputable abbrev cStatus : Bs := [58, 115, 116, 97, 116, 117, 115]
noncomputable abbrev cMethod : Bs := [58, 109, 101, 116, 104, 111, 100]
noncomputable abbrev cPath : Bs := [58, 112, 97, 116, 104]
noncomputable abbrev cScheme : Bs := [58, 115, 99, 104, 101, 109, 101]
noncomputable abbrev cProtocol : Bs := [58, 112, 114, 111, 116, 111, 99, 111, 108]
noncomputable abbrev cAuthority : Bs := [58, 97, 117, 116, 104, 111, 114, 105, 116, 121]
noncomputable abbrev cHost : Bs := [104, 111, 115, 116]
noncomputable abbrev cConnect : Bs := [67, 79, 78, 78, 69, 67, 84]
noncomputable abbrev cConn : List Bs := [[99, 111, 110, 110, 101, 99, 116, 105, 111, 110], [107, 101, 101, 112, 45, 97, 108, 105, 118, 101], [112, 114, 111, 120, 121, 45, 99, 111, 110, 110, 101, 99, 116, 105, 111, 110], [116, 114, 97, 110, 115, 102, 101, 114, 45, 101, 110, 99, 111, 100, 105, 110, 103], [117, 112, 103, 114, 97, 100, 101]]

noncomputable def isPs (b : Bs) : Bool := ((b.getD 0 0).toNat : Int) == 58
noncomputable def namesOf (fs : List Fld) : List Bs := fs.map (·.1)
noncomputable def frontOf (fs : List Fld) : List Bs := (namesOf fs).filter isPs
noncomputable def mustOf (vals : List KV) : List Bs :=
  if ((valAt vals cMethod).isSome && ((valAt vals cMethod).getD [] == cConnect && true)) then (if (valAt vals cProtocol).isSome then [cMethod, cPath, cProtocol, cScheme] else [cMethod]) else [cMethod, cPath, cScheme]
noncomputable def hostsOf (fs : List Fld) : List Bs := (fs.filter fun f => f.1 == cHost).map (·.2)
noncomputable def goodB (fs : List Fld) (kind : Int) : Option Bool :=
  if (!(fs.filter fun f => !pureB f.1 f.2).isEmpty) then some false
  else if (!(fs.filter fun f => f.1 == cTe && (lowerB f.2 != cTrailers && true)).isEmpty) then some false
  else if (!((namesOf fs).filter fun x => cConn.any (· == x)).isEmpty) then some false
  else if ((!((namesOf fs).take (frontOf fs).length == frontOf fs)) || (((((dctOf fs).filter fun kv => isPs kv.1).length : Int) != ((frontOf fs).length : Int)) || false)) then some false
  else if (kind == 1 || (kind == 2 || false)) then some (frontOf fs == (if (kind == 1) = true then [cStatus] else []))
  else if (!(((frontOf fs).filter fun x => x != cAuthority).isPerm (mustOf (dctOf fs)))) then some false
  else if ((valAt (dctOf fs) cPath).isSome && ((valAt (dctOf fs) cPath).getD [] == [] && true)) then some false
  else if (valAt (dctOf fs) cAuthority).isSome then some (hostsOf fs == [] || hostsOf fs == [(valAt (dctOf fs) cAuthority).getD []])
  else if ((((mustOf (dctOf fs)).length : Int) == 1) && ((((hostsOf fs).length : Int) == 1) && true)) then none
  else some (((hostsOf fs).length : Int) == 1)
noncomputable def optPd : Option Bool → Pd
  | some b => .bool b
  | none => .none

theorem StD.sub {Γ : Cx} {n : Nat} {env : Env} {σ σ' σ'' : Sto} {st : Stmt} (x : StD Γ n env σ st σ') (h : ∀ h, Sat env h σ' → Sat env h σ'') : StD Γ n env σ st σ'' := fun A s Q E o i w a t k => x A s Q E o i w a t fun s₁ i₁ g₁ a₁ t₁ => k s₁ i₁ g₁ a₁ (h _ t₁)
theorem sat_drop {env : Env} {h : Heap} {x : Str} {P R : Pd} {σ : Sto} (t : Sat env h ((x, P) :: (x, R) :: σ)) : Sat env h ((x, P) :: σ) := fun y S hy => by
  by_cases hyx : y = x
  · subst hyx; rw [lookup_cons_eq] at hy; exact t y S (by rw [lookup_cons_eq]; exact hy)
  · rw [lookup_cons_ne hyx] at hy; exact t y S (by rw [lookup_cons_ne hyx, lookup_cons_ne hyx]; exact hy)
theorem StD.iteU {Γ : Cx} {n : Nat} {env : Env} {x : Str} {P P' : Pd} {σ : Sto} {t : Expr} {b : Bool} {body orelse : List Stmt} {pos : Pos} (h : TsD Γ n env ((x, P) :: σ) t b) (y : b = true → StsD Γ n env ((x, P) :: σ) body ((x, P') :: σ)) (z : b = false → StsD Γ n env ((x, P) :: σ) orelse ((x, P') :: σ)) :
    StD Γ n env ((x, P) :: σ) (.If t body orelse pos) ((x, P') :: σ) := StD.ite h y z
theorem StD.reset {Γ : Cx} {n : Nat} {env : Env} {x : Str} {p1 pos : Pos} {e : Expr} {P P' : Pd} {σ : Sto} (y : EvD Γ n env ((x, P) :: σ) e P') (hx : env.kindOf x = some .local) (hs : swapsWith e (some (.Name x p1)) pos.line env = pure false := by rfl) : StD Γ n env ((x, P) :: σ) (.Assign [.Name x p1] e pos) ((x, P') :: σ) :=
  StD.sub (StD.assign y hx hs) fun _ t => sat_drop t
theorem stored_mem {kvs : List KV} {k v : Bs} {x : KV} (h : x ∈ storedB kvs k v) : x.1 = k ∨ ∃ y ∈ kvs, y.1 = x.1 := by
  unfold storedB at h
  split at h
  · obtain ⟨y, hy, hx⟩ := List.mem_map.mp h
    right
    refine ⟨y, hy, ?_⟩
    rw [← hx]; split <;> rfl
  · rcases List.mem_append.mp h with h | h
    · exact .inr ⟨x, h, rfl⟩
    · simp only [List.mem_singleton] at h; subst h; exact .inl rfl
theorem dct_mem {l : List KV} : ∀ {x : KV}, x ∈ dctOf l → ∃ y ∈ l, y.1 = x.1 := by
  unfold dctOf
  have key : ∀ (l acc : List KV) (x : KV), x ∈ l.foldl (fun acc kv => storedB acc kv.1 kv.2) acc → (∃ y ∈ l, y.1 = x.1) ∨ ∃ y ∈ acc, y.1 = x.1 := by
    intro l
    induction l with
    | nil => intro acc x h; exact .inr ⟨x, h, rfl⟩
    | cons z r ih =>
      intro acc x h
      rcases ih _ x h with ⟨y, hy, e⟩ | ⟨y, hy, e⟩
      · exact .inl ⟨y, .tail _ hy, e⟩
      · rcases stored_mem hy with h | ⟨w, hw, ew⟩
        · exact .inl ⟨z, .head _, h.symm.trans e⟩
        · exact .inr ⟨w, hw, ew.trans e⟩
  intro x h
  rcases key l [] x h with h | ⟨y, hy, _⟩
  · exact h
  · cases hy

theorem good_t {Γ : Cx} {B : Nat} {fs : List Fld} {kind : Int} (hz : Sz B fs) (hB : B ≤ 1000) : FnD Γ 3 332 [blk fs, .int kind] (optPd (goodB fs kind)) := by
  refine' FnD.body (names := ["block", "kind"]) ?hK ?hb ?hcode ?hbind ?hnd ?hlen ?hloc ?hcell ?hcl ?hgl ?hbl ?hco ?hgen ?hk ?h
  walk_at "m fn"
  have hl9 := hz.1
  unfold goodB
  -- names
  refine BdD.cons (StD.assignComp (items := fs) (P := fld) (R := fun f => .bytes f.1) (b := fun _ => true) (τ := fun f => [("name", .bytes f.1), ("value", .bytes f.2)]) (φ := []) (cl := []) (ItD.list (by walk_at "m nm")) (closureFor_none (by decide)) (by decide) rfl (by decide) (fun _ _ _ => CellsAt.nil) ⟨fun C x _ => TgC.pair rfl rfl rfl (by decide), fun C x _ => TstsD.nil⟩ (fun C x _ _ => by walk_at "m nm") (fun _ => pure_bytes) (by omega) rfl) ?_
  rw [List.filter_eq_self.mpr (fun _ _ => rfl), show (fs.map fun f => Pd.bytes f.1) = (namesOf fs).map Pd.bytes by unfold namesOf; rw [List.map_map]; rfl]
  have hnl : (namesOf fs).length = fs.length := by unfold namesOf; simp
  -- values
  refine BdD.cons (StD.assignDict (items := fs) (P := fld) (kf := fun f => f.1) (vf := fun f => f.2) (τ := fun f => [("name", .bytes f.1), ("value", .bytes f.2)]) (φ := []) (cl := []) (ItD.list (by walk_at "m nm")) (closureFor_none (by decide)) (by decide) rfl (by decide) (fun _ _ _ => CellsAt.nil) ⟨fun C x _ => TgC.pair rfl rfl rfl (by decide), fun C x _ => TstsD.nil⟩ (fun C x _ => by walk_at "m nm") (fun C x _ => by walk_at "m nm") (by omega) rfl) ?_
  rw [show (fs.map fun f => (f.1, f.2)) = fs by simp]
  -- pure
  refine BdD.ite (TsD.cmp (EvD.comp (items := fs) (P := fld) (R := fun f => .int 1) (b := fun f => !pureB f.1 f.2) (τ := fun f => [("name", .bytes f.1), ("value", .bytes f.2)]) (φ := []) (cl := []) (ItD.list (by walk_at "m nm")) (closureFor_none (by decide)) (by decide) rfl (by decide) (fun _ _ _ => CellsAt.nil) ⟨fun C x _ => TgC.pair rfl rfl rfl (by decide), fun C x hx => TstsD.one (TsD.not (TsD.val (EvD.call ⟨rfl, rfl, rfl⟩ rfl (by walk_at "m glob") (by walk_at "m keep") (by walk_at "m args") ((pure_t ?_ ?_).le (by decide))) Tru.bool))⟩ (fun C x _ _ => EvD.cint) (fun _ => pure_int) (by omega)) (EvD.list ArgsD.nil) op_ne_nil') ?_ ?_
  · have := (hz.2 x hx).1; omega
  · have := (hz.2 x hx).2; omega
  · intro h; rw [if_pos h]; exact BdD.ret (show EvD _ _ _ _ _ (Pd.bool false) from EvD.cbool)
  intro h; rw [if_neg (by rw [h]; decide)]
  have hpure : ∀ f ∈ fs, pureB f.1 f.2 = true := fun f hf => by
    rw [Bool.not_eq_false', List.isEmpty_iff, List.filter_eq_nil_iff] at h
    have := h f hf
    simpa using this
  have hnne : ∀ f ∈ fs, f.1 ≠ [] := fun f hf e => by
    have := hpure f hf
    unfold pureB at this
    rw [e] at this
    simp at this
  have hnn : ∀ x ∈ namesOf fs, x ≠ [] := fun x hx => by
    unfold namesOf at hx
    obtain ⟨f, hf, rfl⟩ := List.mem_map.mp hx
    exact hnne f hf
  -- te
  refine BdD.ite (TsD.cmp (EvD.comp (items := fs) (P := fld) (R := fun f => .int 1) (b := fun f => f.1 == cTe && (lowerB f.2 != cTrailers && true)) (τ := fun f => [("name", .bytes f.1), ("value", .bytes f.2)]) (φ := []) (cl := []) (ItD.list (by walk_at "m nm")) (closureFor_none (by decide)) (by decide) rfl (by decide) (fun _ _ _ => CellsAt.nil) ⟨fun C x _ => TgC.pair rfl rfl rfl (by decide), fun C x hx => TstsD.one (TsD.bool (AllD.and (TsD.cmp (by walk_at "m nm") (by walk_at "m ev") op_eq_bytes) fun _ => AllD.and (TsD.cmp (EvD.lower (b := x.2) (by walk_at "m nm") ?_) (by walk_at "m ev") op_ne_bytes) fun _ => AllD.and_nil))⟩ (fun C x _ _ => EvD.cint) (fun _ => pure_int) (by omega)) (EvD.list ArgsD.nil) op_ne_nil') ?_ ?_
  · have := (hz.2 x hx).2; omega
  · intro h; rw [if_pos h]; exact BdD.ret (show EvD _ _ _ _ _ (Pd.bool false) from EvD.cbool)
  intro h1; rw [if_neg (by rw [h1]; decide)]
  -- connection
  refine BdD.ite (TsD.cmp (P₁ := .lst (((namesOf fs).filter fun x => cConn.any (· == x)).map Pd.bytes)) (EvD.comp (items := namesOf fs) (P := Pd.bytes) (R := Pd.bytes) (b := fun x => cConn.any (· == x)) (τ := fun x => [("name", .bytes x)]) (φ := []) (cl := []) (ItD.list (by walk_at "m nm")) (closureFor_none (by decide)) (by decide) rfl (by decide) (fun _ _ _ => CellsAt.nil) ⟨fun C x _ => TgC.name rfl rfl, fun C x hx => TstsD.one (TsD.cmp (by walk_at "m nm") (EvD.tuple (Ps := cConn.map Pd.bytes) (ArgsD.bytes ?_) (Nat.le_of_ble_eq_true rfl)) op_in_bs)⟩ (fun C x _ _ => by walk_at "m nm") (fun _ => pure_bytes) (by omega)) (EvD.list ArgsD.nil) op_ne_nil') ?_ ?_
  · kernel_rfl
  · intro h; rw [if_pos h]; exact BdD.ret (show EvD _ _ _ _ _ (Pd.bool false) from EvD.cbool)
  intro h2; rw [if_neg (by rw [h2]; decide)]
  -- front
  refine BdD.cons (StD.assignComp (items := namesOf fs) (P := Pd.bytes) (R := Pd.bytes) (b := isPs) (τ := fun x => [("name", .bytes x)]) (φ := []) (cl := []) (ItD.list (by walk_at "m nm")) (closureFor_none (by decide)) (by decide) rfl (by decide) (fun _ _ _ => CellsAt.nil) ⟨fun C x _ => TgC.name rfl rfl, fun C x hx => TstsD.one (TsD.cmp (EvD.item (P₁ := .bytes x) (by walk_at "m nm") (by walk_at "m ev") (sub_bytes (c := x.getD 0 0) ?_ (by decide) ?_)) (by walk_at "m ev") op_eq_int)⟩ (fun C x _ _ => by walk_at "m nm") (fun _ => pure_bytes) (by omega) rfl) ?_
  · unfold namesOf at hx
    obtain ⟨f, hf, rfl⟩ := List.mem_map.mp hx
    have := (hz.2 f hf).1; omega
  · have := hnn x hx
    cases x with
    | nil => exact absurd rfl this
    | cons c r => rfl
  rw [show ((namesOf fs).filter isPs) = frontOf fs from rfl]
  have hfl : (frontOf fs).length ≤ fs.length := by rw [← hnl]; exact List.length_filter_le _ _
  have hfk : (frontOf fs).length ≤ (namesOf fs).length := List.length_filter_le _ _
  have hvl : (dctOf fs).length ≤ fs.length := dctOf_len fs
  refine BdD.ite (TsD.bool (AllD.or (TsD.cmp (P₁ := lstB ((namesOf fs).take (frontOf fs).length)) (EvD.slice (P := lstB (namesOf fs)) (by walk_at "m nm") .none (.some (i := (frontOf fs).length) (EvD.int_eq ?_ (EvD.callB ⟨rfl, rfl, rfl⟩ rfl (by decide) rfl (by walk_at "m args") (len_list_d (ps := (frontOf fs).map Pd.bytes) ?_)))) (slice_list (by simp; omega) ?_)) (by walk_at "m nm") op_ne_lstB) fun _ => AllD.or (TsD.cmp (P₁ := .int (((dctOf fs).filter fun kv => isPs kv.1).length : Int)) (P₂ := .int ((frontOf fs).length : Int)) (EvD.callB (Ps := [.lst (((dctOf fs).filter fun kv => isPs kv.1).map fun kv => .bytes kv.1)]) ⟨rfl, rfl, rfl⟩ rfl (by decide) rfl (ArgsD.cons ?_ ArgsD.nil) ?_) (EvD.int_eq ?_ (EvD.callB ⟨rfl, rfl, rfl⟩ rfl (by decide) rfl (by walk_at "m args") (len_list_d (ps := (frontOf fs).map Pd.bytes) ?_))) op_ne_int) fun _ => AllD.or_nil)) ?_ ?_
  · rw [List.length_map]
  · simp; omega
  · rw [List.map_take]
    exact cut_upto (by simp; omega)
  · refine EvD.comp (items := dctOf fs) (P := fun kv => .bytes kv.1) (R := fun kv => .bytes kv.1) (b := fun kv => isPs kv.1) (τ := fun kv => [("name", .bytes kv.1)]) (φ := []) (cl := []) (ItD.dct (by walk_at "m nm")) (closureFor_none (by decide)) (by decide) rfl (by decide) (fun _ _ _ => CellsAt.nil) ⟨fun C x _ => TgC.name rfl rfl, fun C x hx => TstsD.one (TsD.cmp (EvD.item (P₁ := .bytes x.1) (by walk_at "m nm") (by walk_at "m ev") (sub_bytes (c := x.1.getD 0 0) ?_ (by decide) ?_)) (by walk_at "m ev") op_eq_int)⟩ (fun C x _ _ => by walk_at "m nm") (fun _ => pure_bytes) (by omega)
    · obtain ⟨f, hf, e⟩ := dct_mem hx
      have := (hz.2 f hf).1; rw [← e]; omega
    · obtain ⟨f, hf, e⟩ := dct_mem hx
      have := hnne f hf
      rw [e] at this
      cases hx1 : x.1 with
      | nil => exact absurd hx1 this
      | cons c r => rfl
  · have h9 : (((dctOf fs).filter fun kv => isPs kv.1)).length ≤ (dctOf fs).length := List.length_filter_le _ _
    have := len_list_d (Γ := Γ) (n := 2) (ps := ((dctOf fs).filter fun kv => isPs kv.1).map fun kv => Pd.bytes kv.1) (by simp; omega)
    rwa [List.length_map] at this
  · rw [List.length_map]
  · simp; omega
  · intro h; rw [if_pos h]; exact BdD.ret (show EvD _ _ _ _ _ (Pd.bool false) from EvD.cbool)
  intro h3; rw [if_neg (by rw [h3]; decide)]
  -- kind
  refine BdD.ite (TsD.bool (AllD.or (TsD.cmp (by walk_at "m nm") (by walk_at "m ev") op_eq_int) fun _ => AllD.or (TsD.cmp (by walk_at "m nm") (by walk_at "m ev") op_eq_int) fun _ => AllD.or_nil)) ?_ ?_
  · intro h; rw [if_pos h]
    refine BdD.ret (show EvD _ _ _ _ _ (Pd.bool _) from EvD.compare (P₂ := lstB (if (kind == 1) = true then [cStatus] else [])) (by walk_at "m nm") (EvD.ite (TsD.cmp (by walk_at "m nm") (by walk_at "m ev") op_eq_int) (fun h => ?_) (fun h => ?_)) op_eq_lstB)
    · rw [if_pos h]; exact EvD.list (Ps := [.bytes cStatus]) (by walk_at "m args") (Nat.le_of_ble_eq_true rfl)
    · rw [if_neg (by rw [h]; decide)]; exact EvD.list (Ps := []) ArgsD.nil (Nat.le_of_ble_eq_true rfl)
  intro h4; rw [if_neg (by rw [h4]; decide)]
  -- must
  refine BdD.cons (StD.assign (P := lstB [cMethod, cPath, cScheme]) (EvD.list (Ps := [.bytes cMethod, .bytes cPath, .bytes cScheme]) (by walk_at "m args") (Nat.le_of_ble_eq_true rfl)) rfl) ?_
  refine BdD.cons (StD.iteU (P' := lstB (mustOf (dctOf fs))) (b := ((valAt (dctOf fs) cMethod).isSome && ((valAt (dctOf fs) cMethod).getD [] == cConnect && true))) (TsD.bool (AllD.and (TsD.cmp (by walk_at "m ev") (by walk_at "m nm") op_in_dct) fun h => AllD.and (TsD.cmp (EvD.item (P₁ := .dct Γ (dctOf fs)) (by walk_at "m nm") (by walk_at "m ev") (sub_dct (b := (valAt (dctOf fs) cMethod).getD []) ?_)) (by walk_at "m ev") op_eq_bytes) fun _ => AllD.and_nil)) ?_ ?_) ?_
  · obtain ⟨b, hb⟩ := Option.isSome_iff_exists.mp h
    rw [hb]; rfl
  · intro h
    refine StsD.cons (StD.reset (P' := lstB [cMethod]) (EvD.list (Ps := [.bytes cMethod]) (by walk_at "m args") (Nat.le_of_ble_eq_true rfl)) rfl) (StsD.cons (StD.iteU (P' := lstB (mustOf (dctOf fs))) (TsD.cmp (by walk_at "m ev") (by walk_at "m nm") op_in_dct) ?_ ?_) StsD.nil)
    · intro h'
      refine StsD.sub (StsD.cons (StD.reset (P' := lstB [cMethod, cPath, cProtocol, cScheme]) (EvD.list (Ps := [.bytes cMethod, .bytes cPath, .bytes cProtocol, .bytes cScheme]) (by walk_at "m args") (Nat.le_of_ble_eq_true rfl)) rfl) StsD.nil) fun _ t => ?_
      unfold mustOf; rw [if_pos h, if_pos h']; exact t
    · intro h'
      refine StsD.sub StsD.nil fun _ t => ?_
      unfold mustOf; rw [if_pos h, if_neg (by rw [h']; decide)]; exact t
  · intro h
    refine StsD.sub StsD.nil fun _ t => ?_
    unfold mustOf; rw [if_neg (by rw [h]; decide)]; exact t
  have hrise : Rising (mustOf (dctOf fs)) := by
    unfold mustOf Rising
    split
    · split <;> decide
    · decide
  have hml : (mustOf (dctOf fs)).length ≤ 4 := by
    unfold mustOf
    split
    · split <;> decide
    · decide
  generalize mustOf (dctOf fs) = must at hrise hml
  refine BdD.ite (TsD.cmp (P₁ := sortedPd ((frontOf fs).filter fun x => x != cAuthority)) (P₂ := lstB must) (EvD.callB (Ps := [lstB ((frontOf fs).filter fun x => x != cAuthority)]) ⟨rfl, rfl, rfl⟩ rfl (by decide) rfl (ArgsD.cons (EvD.comp (items := frontOf fs) (P := Pd.bytes) (R := Pd.bytes) (b := fun x => x != cAuthority) (τ := fun x => [("name", .bytes x)]) (φ := []) (cl := []) (ItD.list (by walk_at "m nm")) (closureFor_none (by decide)) (by decide) rfl (by decide) (fun _ _ _ => CellsAt.nil) ⟨fun C x _ => TgC.name rfl rfl, fun C x hx => TstsD.one (TsD.cmp (by walk_at "m nm") (by walk_at "m ev") op_ne_bytes)⟩ (fun C x _ _ => by walk_at "m nm") (fun _ => pure_bytes) (by omega)) ArgsD.nil) (sorted_d ?_)) (by walk_at "m nm") (op_ne_sorted hrise)) ?_ ?_
  · have : ((frontOf fs).filter fun x => x != cAuthority).length ≤ (frontOf fs).length := List.length_filter_le _ _
    omega
  · intro h; rw [if_pos h]; exact BdD.ret (show EvD _ _ _ _ _ (Pd.bool false) from EvD.cbool)
  intro h5; rw [if_neg (by rw [h5]; decide)]
  -- path
  refine BdD.ite (b := ((valAt (dctOf fs) cPath).isSome && ((valAt (dctOf fs) cPath).getD [] == [] && true))) (TsD.bool (AllD.and (TsD.cmp (by walk_at "m ev") (by walk_at "m nm") op_in_dct) fun h => AllD.and (TsD.cmp (EvD.item (P₁ := .dct Γ (dctOf fs)) (by walk_at "m nm") (by walk_at "m ev") (sub_dct (b := (valAt (dctOf fs) cPath).getD []) ?_)) (by walk_at "m ev") op_eq_bytes) fun _ => AllD.and_nil)) ?_ ?_
  · obtain ⟨b, hb⟩ := Option.isSome_iff_exists.mp h
    rw [hb]; rfl
  · intro h; rw [if_pos h]; exact BdD.ret (show EvD _ _ _ _ _ (Pd.bool false) from EvD.cbool)
  intro h6; rw [if_neg (by rw [h6]; decide)]
  -- hosts
  refine BdD.cons (StD.assignComp (items := fs) (P := fld) (R := fun f => .bytes f.2) (b := fun f => f.1 == cHost) (τ := fun f => [("name", .bytes f.1), ("value", .bytes f.2)]) (φ := []) (cl := []) (ItD.list (by walk_at "m nm")) (closureFor_none (by decide)) (by decide) rfl (by decide) (fun _ _ _ => CellsAt.nil) ⟨fun C x _ => TgC.pair rfl rfl rfl (by decide), fun C x hx => TstsD.one (TsD.cmp (by walk_at "m nm") (by walk_at "m ev") op_eq_bytes)⟩ (fun C x _ _ => by walk_at "m nm") (fun _ => pure_bytes) (by omega) rfl) ?_
  rw [show ((fs.filter fun f => f.1 == cHost).map fun f => Pd.bytes f.2) = (hostsOf fs).map Pd.bytes by unfold hostsOf; rw [List.map_map]; rfl]
  have hhl : (hostsOf fs).length ≤ fs.length := by unfold hostsOf; rw [List.length_map]; exact List.length_filter_le _ _
  refine BdD.ite (TsD.cmp (by walk_at "m ev") (by walk_at "m nm") op_in_dct) ?_ ?_
  · intro h; rw [if_pos h]
    refine BdD.ret (show EvD _ _ _ _ _ (Pd.bool _) from EvD.orB (EvD.compare (P₂ := lstB []) (by walk_at "m nm") (EvD.list (Ps := []) ArgsD.nil (Nat.le_of_ble_eq_true rfl)) op_eq_lstB) fun _ => EvD.bone (EvD.compare (P₂ := lstB [(valAt (dctOf fs) cAuthority).getD []]) (by walk_at "m nm") (EvD.list (Ps := [.bytes ((valAt (dctOf fs) cAuthority).getD [])]) (ArgsD.cons (EvD.item (P₁ := .dct Γ (dctOf fs)) (by walk_at "m nm") (by walk_at "m ev") (sub_dct (b := (valAt (dctOf fs) cAuthority).getD []) ?_)) ArgsD.nil) (Nat.le_of_ble_eq_true rfl)) op_eq_lstB))
    obtain ⟨b, hb⟩ := Option.isSome_iff_exists.mp h
    rw [hb]; rfl
  intro h7; rw [if_neg (by rw [h7]; decide)]
  refine BdD.ite (b := (((must.length : Int) == 1) && ((((hostsOf fs).length : Int) == 1) && true))) (TsD.bool (AllD.and (TsD.cmp (EvD.int_eq ?_ (EvD.callB ⟨rfl, rfl, rfl⟩ rfl (by decide) rfl (by walk_at "m args") (len_list_d (ps := must.map Pd.bytes) ?_))) (by walk_at "m ev") op_eq_int) fun _ => AllD.and (TsD.cmp (EvD.int_eq ?_ (EvD.callB ⟨rfl, rfl, rfl⟩ rfl (by decide) rfl (by walk_at "m args") (len_list_d (ps := (hostsOf fs).map Pd.bytes) ?_))) (by walk_at "m ev") op_eq_int) fun _ => AllD.and_nil)) ?_ ?_
  · rw [List.length_map]
  · simp; omega
  · rw [List.length_map]
  · simp; omega
  · intro h; rw [if_pos h]; exact BdD.ret (show EvD _ _ _ _ _ Pd.none from EvD.cnone)
  intro h8; rw [if_neg (by rw [h8]; decide)]
  refine BdD.ret (show EvD _ _ _ _ _ (Pd.bool _) from EvD.compare (P₁ := .int ((hostsOf fs).length : Int)) (EvD.int_eq ?_ (EvD.callB ⟨rfl, rfl, rfl⟩ rfl (by decide) rfl (by walk_at "m args") (len_list_d (ps := (hostsOf fs).map Pd.bytes) ?_))) (by walk_at "m ev") op_eq_int)
  · rw [List.length_map]
  · simp; omega

-- Fq
open PySem PySem.W PyProof.Rows PySem.Calls PySem.SeqAt
set_option Elab.async false
set_option maxRecDepth 4000
set_option linter.unusedVariables false
set_option linter.unusedSimpArgs false

/- ---------- an exception on its way ---------- -/
noncomputable def HasTb (s₀ s : Shared) (e : Addr) (vs : Array Value) : Prop :=
  ∃ T oT ts, vs[1]? = some (.ref T) ∧ s₀.heap.get? T = none ∧ T ≠ e ∧ s.heap.get? T = some oT ∧ oT.cls = .type "traceback" ∧ oT.data = .fields ts ∧ 3 < ts.size
noncomputable def Exc (C : Addr) (s₀ s : Shared) (e : Addr) : Prop :=
  s₀.heap.get? e = none ∧ ∃ oe vs, s.heap.get? e = some oe ∧ oe.cls = .ref C ∧ oe.data = .fields vs ∧ 1 < vs.size ∧ (vs[1]? = some .none ∨ HasTb s₀ s e vs)
noncomputable def ExcT (C : Addr) (s₀ s : Shared) (e : Addr) : Prop :=
  s₀.heap.get? e = none ∧ ∃ oe vs, s.heap.get? e = some oe ∧ oe.cls = .ref C ∧ oe.data = .fields vs ∧ 1 < vs.size ∧ HasTb s₀ s e vs
theorem ExcT.exc {C : Addr} {s₀ s : Shared} {e : Addr} (x : ExcT C s₀ s e) : Exc C s₀ s e := let ⟨a, oe, vs, b, c, d, f, g⟩ := x; ⟨a, oe, vs, b, c, d, f, .inr g⟩
/-- what was not there -/
noncomputable abbrev News (s₀ : Shared) : Addr → Prop := fun b => s₀.heap.get? b = none
theorem Grow.news {W : Addr → Prop} {G : Nat → Prop} {s₀ s s' : Shared} (x : Grow W G s₀ s) (y : Grow (News s₀) noG s s') : Grow W G s₀ s' := by
  refine ⟨fun b o e w => ?_, fun b o e => ?_, fun j g e h => y.gens j g (x.gens j g e h) (fun f => f), Nat.le_trans x.gsz y.gsz⟩
  · have hb : ¬ News s₀ b := fun q => by rw [show s₀.heap.get? b = none from q] at e; cases e
    obtain ⟨o₁, e₁, r₁⟩ := x.le b o e w
    obtain ⟨o₂, e₂, r₂⟩ := y.le b o₁ e₁ hb
    refine ⟨o₂, e₂, ?_⟩
    rcases r₁ with rfl | ⟨c₁, sl, rfl⟩
    · exact r₂
    · rcases r₂ with rfl | ⟨_, sl', rfl⟩
      · exact .inr ⟨c₁, sl, rfl⟩
      · exact .inr ⟨c₁, sl', rfl⟩
  · obtain ⟨o₁, e₁, c₁, d₁⟩ := x.dom b o e
    obtain ⟨o₂, e₂, c₂, d₂⟩ := y.dom b o₁ e₁
    exact ⟨o₂, e₂, c₂.trans c₁, fun q => d₂ (d₁ q)⟩
theorem News.back {W : Addr → Prop} {G : Nat → Prop} {s₀ s : Shared} (x : Grow W G s₀ s) {b : Addr} (h : s.heap.get? b = none) : s₀.heap.get? b = none := by
  cases e : s₀.heap.get? b with
  | none => rfl
  | some o =>
    obtain ⟨o', e', _⟩ := x.dom b o e
    rw [h] at e'; cases e'

theorem slots_inv {Γ : Cx} {s : Shared} {h' : Heap} {l : List Env} (fr : Frs Γ.hb s.heap l) (x : Heap.SlotsOnly (l.filterMap (·.frame)) s.heap h') (i : Inv Γ s) : Inv Γ { s with heap := h' } ∧ Grow0 s { s with heap := h' } := by
  have hS : ∀ b, b ∈ l.filterMap (·.frame) → Γ.hb.get? b = none ∧ ∃ o, s.heap.get? b = some o ∧ o.cls = .type "frame" ∧ IsDct o := fun b hb => by
    obtain ⟨env, he, hf⟩ := List.mem_filterMap.mp hb
    exact ⟨(fr.1.mem hb).1, fr.2 env he b hf⟩
  refine ⟨i.but (tk := s.toks) (W := fun b => b ∈ l.filterMap (·.frame)) (fun b hb => (hS b hb).1) (fun q mq => ?_) (fun b o hb e => (x.2.1 b hb).trans e), ⟨fun b o e _ => ?_, fun b o e => ?_, fun _ _ e _ => e, Nat.le_refl _⟩⟩
  · obtain ⟨ps, c, ⟨o, vs, e1, c1, d1, _⟩, e2⟩ := i.tabs q mq
    refine ⟨fun w => ?_, fun w => ?_⟩
    · obtain ⟨_, o', e', _, es, n, d⟩ := hS _ w
      rw [e1] at e'; cases e'
      rw [d1] at d; cases d
    · obtain ⟨_, o', e', _, es, n, d⟩ := hS _ w
      rw [e2] at e'; cases e'; cases d
  · by_cases hb : b ∈ l.filterMap (·.frame)
    · obtain ⟨_, o', e', c, _⟩ := hS b hb
      rw [e] at e'; cases e'
      obtain ⟨sl, e''⟩ := x.2.2 b o e
      exact ⟨_, e'', .inr ⟨c, sl, rfl⟩⟩
    · exact ⟨o, (x.2.1 b hb).trans e, .inl rfl⟩
  · obtain ⟨sl, e''⟩ := x.2.2 b o e
    exact ⟨_, e'', rfl, fun q => q⟩

theorem put_entry {Γ : Cx} {M : Model} {A : Around} {E : Value → Shared → Prop} {s₀ s : Shared} {env : Env} {outer : List Env} {L e C : Addr} {oe : Obj} {vs : Array Value} {head : Value} {hadNext : Bool} {Q : Unit → Shared → Prop}
    (hfr : A.frames = some (env :: outer)) (fr : Frs Γ.hb s.heap (env :: outer)) (hf : env.frame = some L) (i₀ : Inv Γ s₀) (i : Inv Γ s) (hdom : ∀ b, s.heap.get? b = none → s₀.heap.get? b = none)
    (hen : s₀.heap.get? e = none) (he : s.heap.get? e = some oe) (hc : oe.cls = .ref C) (hd : oe.data = .fields vs) (hsz : 1 < vs.size)
    (h : ∀ s', Grow (News s₀) noG s s' → Inv Γ s' → ExcT C s₀ s' e → Q () s') :
    wpAny M A (do let a ← frameOf env; let pl ← entryPlaceOf L hadNext; let b ← EntryCells.newEntry head a .none (rawInt L) .none pl; setField (.ref e) 1 b) Q E s := by
  refine wpAny_bind (wpAny_frameOf_fun hfr fr.1 hf fun h₁ hs₁ => ?_)
  obtain ⟨i₁, g₁⟩ := slots_inv fr hs₁ i
  refine wpAny_bind (wpAny_entryPlaceOf fun pl hpl => ?_)
  unfold EntryCells.newEntry newFields
  refine wpAny_bind (wpAny_newObj_type ?_ (hpl.sizeOk5 _ _ _ _ _))
  have he₁ : h₁.get? e = some oe := g₁.get (s' := { s with heap := h₁ }) he (fun f => f) (by rw [hc]; intro q; cases q)
  generalize hTB : ([head, .ref L, .none, rawInt L, .none] ++ (if pl.isEmpty then List.replicate 6 Value.none else pl)).toArray = tb
  have htb : 3 < tb.size := by rw [← hTB]; simp
  have k := stays_push h₁ { cls := .type "traceback", dict := none, data := .fields tb }
  have i₂ : Inv Γ { s with heap := h₁.push { cls := .type "traceback", dict := none, data := .fields tb } } := Inv.stays (s := { s with heap := h₁ }) (s' := { s with heap := h₁.push { cls := .type "traceback", dict := none, data := .fields tb } }) i₁ k rfl rfl
  have g₂ : Grow0 s { s with heap := h₁.push { cls := .type "traceback", dict := none, data := .fields tb } } := g₁.trans (.of_stays (s := { s with heap := h₁ }) (s' := { s with heap := h₁.push { cls := .type "traceback", dict := none, data := .fields tb } }) k rfl)
  have he₂ := k _ _ he₁
  have hT : (h₁.push { cls := .type "traceback", dict := none, data := .fields tb }).get? h₁.objs.size = some _ := Heap.get?_push_size h₁ rfl
  have hTe : h₁.objs.size ≠ e := Nat.ne_of_gt (Heap.lt_size he₁)
  have hTn : s₀.heap.get? h₁.objs.size = none := hdom _ (by
    cases q : s.heap.get? h₁.objs.size with
    | none => rfl
    | some o' =>
      obtain ⟨o'', e'', _⟩ := g₁.dom _ _ q
      exact absurd (Heap.lt_size e'') (Nat.lt_irrefl _))
  generalize h₁.push { cls := .type "traceback", dict := none, data := .fields tb } = H at i₂ g₂ he₂ hT
  generalize h₁.objs.size = T at hT hTe hTn
  refine wpAny_setField (s := { s with heap := H }) he₂ hd hsz ?_
  have hd₃ := Obj.data_mapFields hd (·.setIfInBounds 1 (Value.ref T))
  have hcls : (Obj.mapFields (·.setIfInBounds 1 (Value.ref T)) oe).cls = oe.cls := Obj.cls_mapFields _ _
  have he₃ := Heap.get?_update_self (Obj.mapFields (·.setIfInBounds 1 (Value.ref T))) he₂ (Obj.isFreed_of_fields hd₃)
  have ext : ∀ b o, ¬ b = e → H.get? b = some o → (H.update e (Obj.mapFields (·.setIfInBounds 1 (Value.ref T)))).get? b = some o := fun b o hb q => (Heap.get?_update_other _ _ (Ne.symm hb)).trans q
  have fE := fresh_hb (W := fun b => b = e) i₀ (fun b q => by rw [q]; exact hen)
  refine h { s with heap := H.update e (Obj.mapFields (·.setIfInBounds 1 (Value.ref T))) } ⟨fun b o q w => ?_, fun b o q => ?_, fun _ _ q _ => q, Nat.le_refl _⟩ (Inv.but (s := { s with heap := H }) (tk := s.toks) i₂ fE.1 fE.2 ext)
    ⟨hen, _, _, he₃, hcls.trans hc, hd₃, by simpa using hsz, T, _, tb, by simp [hsz], hTn, hTe, ext _ _ hTe hT, rfl, rfl, htb⟩
  · have hbe : b ≠ e := fun q => w (by rw [q]; exact hen)
    obtain ⟨o', e', r⟩ := g₂.le b o q (fun f => f)
    exact ⟨o', ext b o' hbe e', r⟩
  · obtain ⟨o', e', c', d'⟩ := g₂.dom b o q
    by_cases hbe : b = e
    · subst hbe
      rw [show H.get? b = some o' from e'] at he₂; cases he₂
      refine ⟨_, he₃, hcls.trans c', fun q => ?_⟩
      obtain ⟨es, n, q'⟩ := d' q
      rw [hd] at q'; cases q'
    · exact ⟨o', ext b o' hbe e', c', d'⟩

/-- the frame is noted in the traceback -/
theorem note_exc {Γ : Cx} {M : Model} {A : Around} {E : Value → Shared → Prop} {s₀ s : Shared} {env : Env} {outer : List Env} {L e C : Addr} {Q : Unit → Shared → Prop}
    (hfr : A.frames = some (env :: outer)) (fr : Frs Γ.hb s.heap (env :: outer)) (hf : env.frame = some L) (i₀ : Inv Γ s₀) (i : Inv Γ s) (hdom : ∀ b, s.heap.get? b = none → s₀.heap.get? b = none) (x : Exc C s₀ s e)
    (h : ∀ s', Grow (News s₀) noG s s' → Inv Γ s' → ExcT C s₀ s' e → Q () s') : wpAny M A (noteFrame (.ref e) env) Q E s := by
  obtain ⟨hen, oe, vs, he, hc, hd, hsz, hv⟩ := x
  unfold noteFrame
  simp only [hf]
  rcases hv with h1 | ⟨T, oT, ts, h1, hTn, hTe, hT, hcT, hdT, h3⟩
  · refine wpAny_bind (wpAny_field he hd h1 ?_)
    rw [if_neg (by decide)]
    exact put_entry hfr fr hf i₀ i hdom hen he hc hd hsz h
  · refine wpAny_bind (wpAny_field he hd h1 ?_)
    rw [if_pos (show (Value.ref T != Value.none) = true from by simp)]
    refine wpAny_bind (wpAny_field hT hdT (x := ts[3]) (Array.getElem?_eq_getElem h3) ?_)
    by_cases hq : (ts[3] == rawInt L) = true
    · rw [if_pos hq]
      exact wpAny_pure (h s (.refl _ _ _) i ⟨hen, oe, vs, he, hc, hd, hsz, T, oT, ts, h1, hTn, hTe, hT, hcT, hdT, h3⟩)
    · rw [if_neg hq]
      refine wpAny_bind (wpAny_setField hT hdT h3 ?_)
      have ext : ∀ b o, ¬ b = T → s.heap.get? b = some o → (s.heap.update T (Obj.mapFields (·.setIfInBounds 3 Value.none))).get? b = some o := fun b o hb q => (Heap.get?_update_other _ _ (Ne.symm hb)).trans q
      have fT := fresh_hb (W := fun b => b = T) i₀ (fun b q => by rw [q]; exact hTn)
      have hd₃ := Obj.data_mapFields hdT (·.setIfInBounds 3 Value.none)
      have hT₃ := Heap.get?_update_self (Obj.mapFields (·.setIfInBounds 3 Value.none)) hT (Obj.isFreed_of_fields hd₃)
      have i₁ : Inv Γ { s with heap := s.heap.update T (Obj.mapFields (·.setIfInBounds 3 Value.none)) } := i.but (tk := s.toks) fT.1 fT.2 ext
      have g₁ : Grow (News s₀) noG s { s with heap := s.heap.update T (Obj.mapFields (·.setIfInBounds 3 Value.none)) } := by
        refine ⟨fun b o q w => ⟨o, ext b o (fun z => w (by rw [z]; exact hTn)) q, .inl rfl⟩, fun b o q => ?_, fun _ _ q _ => q, Nat.le_refl _⟩
        by_cases hb : b = T
        · subst hb
          rw [hT] at q; cases q
          exact ⟨_, hT₃, Obj.cls_mapFields _ _, fun ⟨es, n, z⟩ => by rw [hdT] at z; cases z⟩
        · exact ⟨o, ext b o hb q, rfl, fun z => z⟩
      refine put_entry hfr (fr.grow g₁) hf i₀ i₁ (fun b q => hdom b ?_) hen (ext _ _ (Ne.symm hTe) he) hc hd hsz fun s' g' i' x' => h s' (g₁.trans g') i' x'
      cases z : s.heap.get? b with
      | none => rfl
      | some o =>
        obtain ⟨o', e', _⟩ := g₁.dom _ _ z
        rw [show _ = none from q] at e'; cases e'

/-- the flight is set -/
theorem flight_exc {Γ : Cx} {M : Model} {A : Around} {E : Value → Shared → Prop} {s₀ s : Shared} {e C : Addr} {f : Option Addr} {Q : Unit → Shared → Prop} (i₀ : Inv Γ s₀) (i : Inv Γ s) (x : ExcT C s₀ s e)
    (h : ∀ s', Grow (News s₀) noG s s' → Inv Γ s' → ExcT C s₀ s' e → Q () s') : wpAny M A (setFlight (.ref e) f) Q E s := by
  obtain ⟨hen, oe, vs, he, hc, hd, hsz, T, oT, ts, h1, hTn, hTe, hT, hcT, hdT, h3⟩ := x
  unfold setFlight
  refine wpAny_bind (wpAny_field he hd h1 ?_)
  rw [if_pos (show (Value.ref T != Value.none) = true from by simp)]
  refine wpAny_setField hT hdT h3 ?_
  generalize (f.elim Value.none fun f => rawInt f) = v
  have ext : ∀ b o, ¬ b = T → s.heap.get? b = some o → (s.heap.update T (Obj.mapFields (·.setIfInBounds 3 v))).get? b = some o := fun b o hb q => (Heap.get?_update_other _ _ (Ne.symm hb)).trans q
  have fT := fresh_hb (W := fun b => b = T) i₀ (fun b q => by rw [q]; exact hTn)
  have hd₃ := Obj.data_mapFields hdT (·.setIfInBounds 3 v)
  have hT₃ := Heap.get?_update_self (Obj.mapFields (·.setIfInBounds 3 v)) hT (Obj.isFreed_of_fields hd₃)
  refine h { s with heap := s.heap.update T (Obj.mapFields (·.setIfInBounds 3 v)) } ⟨fun b o q w => ⟨o, ext b o (fun z => w (by rw [z]; exact hTn)) q, .inl rfl⟩, fun b o q => ?_, fun _ _ q _ => q, Nat.le_refl _⟩ (i.but (tk := s.toks) fT.1 fT.2 ext)
    ⟨hen, oe, vs, ext _ _ (Ne.symm hTe) he, hc, hd, hsz, T, _, _, h1, hTn, hTe, hT₃, (Obj.cls_mapFields _ _).trans hcT, hd₃, by simpa using h3⟩
  by_cases hb : b = T
  · subst hb
    rw [hT] at q; cases q
    exact ⟨_, hT₃, Obj.cls_mapFields _ _, fun ⟨es, n, z⟩ => by rw [hdT] at z; cases z⟩
  · exact ⟨o, ext b o hb q, rfl, fun z => z⟩

/- ---------- thrown ---------- -/
noncomputable abbrev cPE : Addr := 58
structure Thrown (Γ : Cx) (W : Addr → Prop) (G : Nat → Prop) (s₀ : Shared) (e : Addr) (s : Shared) : Prop where
  inv : Inv Γ s
  grow : Grow W G s₀ s
  exc : Exc cPE s₀ s e
structure ThrownT (Γ : Cx) (W : Addr → Prop) (G : Nat → Prop) (s₀ : Shared) (e : Addr) (s : Shared) : Prop where
  inv : Inv Γ s
  grow : Grow W G s₀ s
  exc : ExcT cPE s₀ s e
theorem ThrownT.plain {Γ : Cx} {W : Addr → Prop} {G : Nat → Prop} {s₀ s : Shared} {e : Addr} (x : ThrownT Γ W G s₀ e s) : Thrown Γ W G s₀ e s := ⟨x.inv, x.grow, x.exc.exc⟩
theorem HasTb.back {W : Addr → Prop} {G : Nat → Prop} {s₀ s₁ s : Shared} {e : Addr} {vs : Array Value} (g : Grow W G s₀ s₁) (x : HasTb s₁ s e vs) : HasTb s₀ s e vs := let ⟨T, oT, ts, a, b, c⟩ := x; ⟨T, oT, ts, a, News.back g b, c⟩
theorem Thrown.back {Γ : Cx} {W : Addr → Prop} {G : Nat → Prop} {s₀ s₁ s : Shared} {e : Addr} (g : Grow W G s₀ s₁) (x : Thrown Γ W G s₁ e s) : Thrown Γ W G s₀ e s :=
  ⟨x.inv, g.trans x.grow, News.back g x.exc.1, let ⟨oe, vs, a, b, c, d, f⟩ := x.exc.2; ⟨oe, vs, a, b, c, d, f.imp id (·.back g)⟩⟩
theorem ThrownT.back {Γ : Cx} {W : Addr → Prop} {G : Nat → Prop} {s₀ s₁ s : Shared} {e : Addr} (g : Grow W G s₀ s₁) (x : ThrownT Γ W G s₁ e s) : ThrownT Γ W G s₀ e s :=
  ⟨x.inv, g.trans x.grow, News.back g x.exc.1, let ⟨oe, vs, a, b, c, d, f⟩ := x.exc.2; ⟨oe, vs, a, b, c, d, f.back g⟩⟩
theorem Thrown.weaken {Γ : Cx} {W W' : Addr → Prop} {G G' : Nat → Prop} {s₀ s : Shared} {e : Addr} (x : Thrown Γ W G s₀ e s) (hW : ∀ b, W b → W' b) (hG : ∀ j, G j → G' j) : Thrown Γ W' G' s₀ e s := ⟨x.inv, x.grow.weaken hW hG, x.exc⟩
theorem ThrownT.weaken {Γ : Cx} {W W' : Addr → Prop} {G G' : Nat → Prop} {s₀ s : Shared} {e : Addr} (x : ThrownT Γ W G s₀ e s) (hW : ∀ b, W b → W' b) (hG : ∀ j, G j → G' j) : ThrownT Γ W' G' s₀ e s := ⟨x.inv, x.grow.weaken hW hG, x.exc⟩

theorem Thrown.note {Γ : Cx} {M : Model} {A : Around} {E : Value → Shared → Prop} {W : Addr → Prop} {G : Nat → Prop} {s₀ s : Shared} {env : Env} {outer : List Env} {L e : Addr} {Q : Unit → Shared → Prop} (x : Thrown Γ W G s₀ e s) (i₀ : Inv Γ s₀)
    (hfr : A.frames = some (env :: outer)) (fr : Frs Γ.hb s₀.heap (env :: outer)) (hf : env.frame = some L) (h : ∀ s', ThrownT Γ W G s₀ e s' → Q () s') : wpAny M A (noteFrame (.ref e) env) Q E s :=
  note_exc hfr (fr.grow x.grow) hf i₀ x.inv (fun b q => News.back x.grow q) x.exc fun s' g i' x' => h s' ⟨i', x.grow.news g, x'⟩
theorem ThrownT.flight {Γ : Cx} {M : Model} {A : Around} {E : Value → Shared → Prop} {W : Addr → Prop} {G : Nat → Prop} {s₀ s : Shared} {e : Addr} {f : Option Addr} {Q : Unit → Shared → Prop} (x : ThrownT Γ W G s₀ e s) (i₀ : Inv Γ s₀) (h : ∀ s', ThrownT Γ W G s₀ e s' → Q () s') : wpAny M A (setFlight (.ref e) f) Q E s :=
  flight_exc i₀ x.inv x.exc fun s' g i' x' => h s' ⟨i', x.grow.news g, x'⟩
theorem Thrown.leaving {Γ : Cx} {M : Model} {A : Around} {E : Value → Shared → Prop} {W : Addr → Prop} {G : Nat → Prop} {s₀ s : Shared} {env : Env} {outer : List Env} {L e : Addr} {Q : Unit → Shared → Prop} (x : Thrown Γ W G s₀ e s) (i₀ : Inv Γ s₀)
    (hfr : A.frames = some (env :: outer)) (fr : Frs Γ.hb s₀.heap (env :: outer)) (hf : env.frame = some L) (h : ∀ s', ThrownT Γ W G s₀ e s' → Q () s') : wpAny M A (PySem.leaving env (.ref e)) Q E s := by
  unfold PySem.leaving
  exact wpAny_bind (x.note i₀ hfr fr hf fun s' x' => x'.flight i₀ h)

-- Ga
open PySem PySem.W PyProof.Rows PySem.Calls PySem.SeqAt
set_option Elab.async false
set_option maxRecDepth 100000
set_option linter.unusedVariables false
set_option linter.unusedSimpArgs false


theorem own_pe (Γ : Cx) : OwnCls "ProtocolError" cPE [.type "Exception", .type "BaseException", .type "object"] "Exception.__new__" Γ.mg Γ.hb := by
  obtain ⟨p, loose, T⟩ := Γ.top
  refine own_of_in Γ.K T ?_ ?_
  · show nsIn (KF (Cx.w _).params) _ _ = _
    k_is
  · show excIn (KF (Cx.w _).params) _ _ _ = true
    k_exc

/- ---------- statements that may raise ---------- -/
noncomputable abbrev TopOf (A : Around) (env : Env) : Prop := (∃ outer, A.frames = some (env :: outer)) ∧ ∃ L, env.frame = some L
noncomputable def RnD (Γ : Cx) (n : Nat) (env : Env) (σ : Sto) (st : Stmt) (r : Option Sto) : Prop :=
  ∀ (A : Around) (s : Shared) (Q : Flow → Shared → Prop) (E : Value → Shared → Prop), TopOf A env → Ok Γ n A s.heap → Inv Γ s → Own Γ env → Act env s.heap → Sat env s.heap σ →
    (∀ σ' s', r = some σ' → Inv Γ s' → GrowL env s s' → Act env s'.heap → Sat env s'.heap σ' → Q .next s') →
    (∀ e s', r = none → Thrown Γ (here env) noG s e s' → E (.ref e) s') → wpAny Γ.M A (exec st env) Q E s
noncomputable def RunD (Γ : Cx) (n : Nat) (env : Env) (σ : Sto) (ss : List Stmt) (r : Option Sto) : Prop :=
  ∀ (A : Around) (s : Shared) (Q : Flow → Shared → Prop) (E : Value → Shared → Prop), TopOf A env → Ok Γ n A s.heap → Inv Γ s → Own Γ env → Act env s.heap → Sat env s.heap σ →
    (∀ σ' s', r = some σ' → Inv Γ s' → GrowL env s s' → Act env s'.heap → Sat env s'.heap σ' → Q .next s') →
    (∀ e s', r = none → Thrown Γ (here env) noG s e s' → E (.ref e) s') → wpAny Γ.M A (execs ss env) Q E s

section
variable {Γ : Cx} {n : Nat} {env : Env} {σ σ' : Sto} {r : Option Sto}
theorem RunD.nil : RunD Γ n env σ [] (some σ) := fun A s Q E _ _ i _ a t h _ => wpAny_execs_nil (h σ s rfl i (.refl _ _ _) a t)
theorem RnD.ofSt {st : Stmt} (x : StD Γ n env σ st σ') : RnD Γ n env σ st (some σ') := fun A s Q E _ o i w a t h _ => x A s Q E o i w a t fun s' i' g' a' t' => h σ' s' rfl i' g' a' t'
theorem RunD.seq {st : Stmt} {ss : List Stmt} {r₁ r₂ : Option Sto} (x : RnD Γ n env σ st r₁) (y : ∀ σ', r₁ = some σ' → RunD Γ n env σ' ss r₂) (hn : r₁ = none → r₂ = none) : RunD Γ n env σ (st :: ss) r₂ := fun A s Q E tp o i w a t h k =>
  wpAny_execs_cons (x A s _ E tp o i w a t (fun σ' s₁ e₁ i₁ g₁ a₁ t₁ => y σ' e₁ A s₁ Q E tp (o.grow g₁) i₁ w a₁ t₁ (fun σ'' s₂ e₂ i₂ g₂ a₂ t₂ => h σ'' s₂ e₂ i₂ (g₁.trans g₂) a₂ t₂) fun e s₂ e₂ x₂ => k e s₂ e₂ (x₂.back g₁)) fun e s₁ e₁ x₁ => k e s₁ (hn e₁) x₁)
theorem RunD.cons {st : Stmt} {ss : List Stmt} (x : StD Γ n env σ st σ') (y : RunD Γ n env σ' ss r) : RunD Γ n env σ (st :: ss) r := RunD.seq (.ofSt x) (fun _ e => by cases e; exact y) (fun e => by cases e)
theorem RunD.thrown {st : Stmt} {ss : List Stmt} (x : RnD Γ n env σ st none) : RunD Γ n env σ (st :: ss) none := RunD.seq x (fun _ e => by cases e) fun _ => rfl
theorem RunD.one {st : Stmt} (x : RnD Γ n env σ st r) : RunD Γ n env σ [st] r := by
  cases r with
  | none => exact RunD.thrown x
  | some σ' => exact RunD.seq x (fun _ e => by cases e; exact RunD.nil) (fun e => by cases e)
theorem RunD.sub {ss : List Stmt} {σ' σ'' : Sto} (x : RunD Γ n env σ ss (some σ')) (h : ∀ h, Sat env h σ' → Sat env h σ'') : RunD Γ n env σ ss (some σ'') := fun A s Q E tp o i w a t k l => x A s Q E tp o i w a t (fun τ s' e i' g' a' t' => by cases e; exact k σ'' s' rfl i' g' a' (h _ t')) fun e s' e' => by cases e'
theorem RnD.ite {t : Expr} {b : Bool} {body orelse : List Stmt} {pos : Pos} (x : TsD Γ n env σ t b) (y : b = true → RunD Γ n env σ body r) (z : b = false → RunD Γ n env σ orelse r) : RnD Γ n env σ (.If t body orelse pos) r := fun A s Q E tp o i w a tt h k => by
  refine wpAny_If (x A s _ E o i tt fun s' i' g => ?_)
  cases b with
  | true => exact y rfl A s' Q E tp (o.grow g) i' w (a.grow0 g) (tt.grow0 g) (fun σ' s₂ e₂ i₂ g₂ a₂ t₂ => h σ' s₂ e₂ i₂ (g.of0.trans g₂) a₂ t₂) fun e s₂ e₂ x₂ => k e s₂ e₂ (x₂.back g.of0)
  | false => exact z rfl A s' Q E tp (o.grow g) i' w (a.grow0 g) (tt.grow0 g) (fun σ' s₂ e₂ i₂ g₂ a₂ t₂ => h σ' s₂ e₂ i₂ (g.of0.trans g₂) a₂ t₂) fun e s₂ e₂ x₂ => k e s₂ e₂ (x₂.back g.of0)
/-- a test, then either a raise or the rest -/
theorem RunD.guard {t : Expr} {b : Bool} {body ss : List Stmt} {pos : Pos} (x : TsD Γ n env σ t b) (y : b = true → RunD Γ n env σ body none) (z : b = false → RunD Γ n env σ ss r) (hr : b = true → r = none) : RunD Γ n env σ (.If t body [] pos :: ss) r := by
  cases b with
  | true =>
    rw [hr rfl]
    exact RunD.thrown (RnD.ite x (fun _ => y rfl) fun e => by cases e)
  | false => exact RunD.seq (RnD.ite (r := some σ) x (fun e => by cases e) fun _ => RunD.nil) (fun _ e => by cases e; exact z rfl) (fun e => by cases e)

theorem thrown_made {W : Addr → Prop} {G : Nat → Prop} {s s₂ : Shared} {h' : Heap} {e : Addr} {vs : List Value} (g : Grow W G s s₂) (i : Inv Γ s₂) (x : Heap.MadeExcOf s₂.heap h' e (.ref cPE) vs) : Thrown Γ W G s e { s₂ with heap := h' } := by
  have k : s₂.heap.StaysIn h' := x.keeps
  obtain ⟨t, he, _⟩ := x.there
  exact ⟨i.stays (s' := { s₂ with heap := h' }) k rfl rfl, g.trans (.of_stays (s' := { s₂ with heap := h' }) k rfl), News.back g x.new, _, _, he, rfl, rfl, (by show 1 < 6; decide), .inl rfl⟩

theorem RnD.raise {e₀ : Expr} {np cpos pos : Pos} {P : Pd} (he : EnvOk env) (hx : env.kindOf "ProtocolError" = some .globalImplicit) (y : EvD Γ n env σ e₀ P) (hpl : plainE e₀ = true := by rfl) : RnD Γ n env σ (.Raise (some (.Call (.Name "ProtocolError" np) [e₀] [] cpos)) none pos) none := fun A s Q E tp o i w a t h k => by
  have O := own_pe Γ
  obtain ⟨tl, N, nm, q, bs, hdct, sn, sub, ab, col, dd, k0, k1, k2, k3, k5, mN, hC, hN, hni, T⟩ := O.obj
  have FB := PySem.F.excBase_Exception
  refine wpAny_Raise_call_subT (C := cPE) (nm := nm) (q := q) (N := N) (bs := bs) (bm := tl) (hdct := hdct) (sn := sn) (sub := sub) (ab := ab) (col := col) (dd := dd) (k0 := k0) (k1 := k1) (k2 := k2) (k3 := k3) (k5 := k5)
    FB (mN := mN) (T.hasType FB.hasBase) o.handled (by rw [starEach_cons e₀ [] env hpl]; rfl) hni ?_
  refine EvD.global (Γ := Γ) (n := n) (σ := σ) he hx O.bound (by decide) A s _ E o i t fun v s₁ i₁ g₁ q₁ => ⟨q₁, ?_⟩
  have key := ArgsD.cons y ArgsD.nil hpl A s₁ cpos (fun vs s₂ => vs.length ≤ sizeLine ∧ s₂.heap.get? cPE = some (excClassObj nm q cPE N bs tl hdct sn sub ab col dd k0 k1 k2 k3 k5 "Exception.__new__") ∧ s₂.heap.Ns N mN ∧ OwnTail s₂.heap [.type "Exception", .type "BaseException", .type "object"] tl ∧ ∀ h' e, Heap.MadeExcOf s₂.heap h' e (.ref cPE) vs → E (.ref e) { s₂ with heap := h' }) E (o.grow g₁) i₁ (t.grow0 g₁) fun vs s₂ i₂ g₂ q₂ => ?_
  · rw [starEach_cons e₀ [] env hpl] at key ⊢
    exact Calls.evalArgs_plain (wpAny_mono key (fun vs s₂ h₂ => ⟨rfl, h₂.1, h₂.2.1, h₂.2.2.1, h₂.2.2.2.1, h₂.2.2.2.2⟩) fun _ _ y => y)
  · obtain ⟨u, rfl, _⟩ := q₂.one
    exact ⟨by simp [sizeLine_eq], i₂.base _ _ hC, hN.keeps i₂.base, T.keeps i₂.base, fun h' e x => k e _ rfl (thrown_made (g₁.trans g₂).of0 i₂ x)⟩

/- ---------- a for loop ---------- -/
theorem sat_but {W : Addr → Prop} {s₁ s : Shared} {h' : Heap} (t₁ : Sat env s₁.heap σ) (t : Sat env s.heap σ) (hL : ∃ o, s₁.heap.get? env.locals = some o) (hW : ∀ b, W b → s₁.heap.get? b = none) (hs : ∀ b, W b → ∀ o, s.heap.get? b = some o → ¬ solid o)
    (ext : ∀ b o, ¬ W b → s.heap.get? b = some o → h'.get? b = some o) : Sat env h' σ := fun x P hx => by
  obtain ⟨v, l, q⟩ := t x P hx
  have md : Md s.heap h' := fun b o e sl => ext b o (fun w => hs b w o e sl) e
  refine ⟨v, ?_, P.mono md q⟩
  rcases l with ⟨k, m, n, e⟩ | ⟨k, c, e, q⟩
  · refine .inl ⟨k, m, n.at' fun o e => ext _ o (fun w => ?_) e, e⟩
    obtain ⟨o', e'⟩ := hL
    rw [hW _ w] at e'; cases e'
  · refine .inr ⟨k, c, e, ?_⟩
    obtain ⟨o, e1, q1, q2⟩ := q
    refine ⟨o, md c o e1 (.inr (.inr (.inl q1))), q1, q2⟩

theorem act_but {W : Addr → Prop} {s₁ s : Shared} {h' : Heap} (a : Act env s.heap) (hL : ∃ o, s₁.heap.get? env.locals = some o) (hW : ∀ b, W b → s₁.heap.get? b = none) (ext : ∀ b o, ¬ W b → s.heap.get? b = some o → h'.get? b = some o) : Act env h' := by
  have hLW : ¬ W env.locals := fun w => by
    obtain ⟨o', e'⟩ := hL
    rw [hW _ w] at e'; cases e'
  obtain ⟨⟨m, n⟩, o, e, c⟩ := a
  exact ⟨⟨m, n.at' fun o e => ext _ o hLW e⟩, o, ext _ o hLW e, c⟩

/-- an exception comes back through the loop's own activation -/
theorem came_back {M : Model} {A : Around} {E : Value → Shared → Prop} {W : Addr → Prop} {G : Nat → Prop} {s₀ s : Shared} {e : Addr} (x : Thrown Γ W G s₀ e s) (i₀ : Inv Γ s₀) (tp : TopOf A env) (fr : ∀ outer, A.frames = some (env :: outer) → Frs Γ.hb s₀.heap (env :: outer)) (k : ∀ s', ThrownT Γ W G s₀ e s' → E (.ref e) s') :
    notedBy M A env (cameBackBy M A env E) (.ref e) s := by
  obtain ⟨⟨outer, hfr⟩, L, hf⟩ := tp
  unfold notedBy
  refine x.note i₀ hfr (fr outer hfr) hf fun s₁ x₁ => ?_
  unfold cameBackBy
  obtain ⟨hen, oe, vs, he, hc, hd, hsz, T, oT, ts, h1, hTn, hTe, hT, hcT, hdT, h3⟩ := id x₁.exc
  refine wpAny_bind (wpAny_field he hd h1 ?_)
  rw [if_neg (show ¬ ((Value.ref T == Value.none) = true) from Bool.false_ne_true)]
  exact x₁.flight i₀ k

theorem RnD.for {α : Type} {items : List α} {P : α → Pd} {ok : α → Bool} {c : Str} {cp pos : Pos} {iter : Expr} {body : List Stmt} (y : ItD Γ n env σ iter (items.map P)) (hc : env.kindOf c = some .local) (hcs : σ.lookup c = none)
    (b : ∀ x, x ∈ items → RunD Γ n env ((c, P x) :: σ) body (if ok x then some σ else none)) (hs : ∀ x, foldedSetIterable iter env x = pure x := by intro _; rfl) :
    RnD Γ n env σ (.For (.Name c cp) iter body [] pos) (if items.all ok then some σ else none) := fun A s Q E tp o i w a t h k => by
  have fr : ∀ outer, A.frames = some (env :: outer) → Frs Γ.hb s.heap (env :: outer) := fun outer hA => by
    obtain ⟨o', hA', fr⟩ := o.frames
    rw [hA] at hA'; cases hA'; exact fr
  refine wpAny_For (y A s _ E o i t fun s₁ s₂ I fp wr Pv St i₁ g₁ i₂ g₂ it st hfp hwr hP => ?_) hs
  rw [List.length_map] at it
  have W := it.walks
  have a₁ := a.grow0 g₁
  have hL : ∃ o, s₁.heap.get? env.locals = some o := let ⟨o, e, _⟩ := a₁.fr; ⟨o, e⟩
  have t₁ := t.grow0 g₁
  have fw := fresh_hb (W := fun b => b ∈ wr) i₁ hwr
  refine codeAny_forLoop_any (fun j s' => ∃ i, Inv Γ s' ∧ GrowL env s₁ s' ∧ St i s'.heap ∧ Act env s'.heap ∧ Sat env s'.heap σ ∧ (items.take i).all ok = true ∧ i ≤ items.length ∧ j = items.length + 1 - i) ?_ (items.length + 1)
    ⟨0, i₂, g₂.of0, st, a₁.grow0 g₂, t₁.grow0 g₂, by simp, Nat.zero_le _, rfl⟩
  rintro j s' ⟨i', i₃, g₃, st₃, a₃, t₃, hall, hle, rfl⟩
  by_cases hlt : i' < items.length
  · refine W.item i' _ _ _ hlt st₃ fun v h₂ tk₂ hPv st₄ k₂ => ?_
    obtain ⟨R, hR, pv⟩ := hP i' v hPv
    rw [List.getElem?_map, List.getElem?_eq_getElem hlt] at hR
    cases hR
    have hmem : items[i'] ∈ items := List.getElem_mem hlt
    have hnos := it.nosol i' _ st₃
    have i₄ : Inv Γ { s' with heap := h₂, toks := tk₂ } := i₃.but fw.1 fw.2 k₂
    have g₄ : GrowL env s₁ { s' with heap := h₂, toks := tk₂ } := g₃.but hwr k₂
    have a₄ : Act env h₂ := act_but a₃ hL hwr k₂
    have t₄ : Sat env h₂ σ := sat_but t₁ t₃ hL hwr hnos k₂
    refine it.go (s := { s' with heap := h₂, toks := tk₂ }) st₄ _ _ ?_
    have md : Md s₁.heap h₂ := a₁.md g₄
    refine wpAny_assign_Name (store_at (s := { s' with heap := h₂, toks := tk₂ }) (P := P items[i']) w.ok w.new hc a₄ i₄ w.tab t₄ ((P _).mono md pv) fun s₅ i₅ g₅ a₅ t₅ => ?_)
    have gg := g₄.trans g₅
    refine b _ hmem A s₅ _ _ tp ((o.grow g₁).grow gg) i₅ w a₅ t₅ (fun σ' s₆ e₆ i₆ g₆ a₆ t₆ => ?_) fun e s₆ e₆ x₆ => ?_
    · split at e₆
      · rename_i hok
        cases e₆
        have st₆ : St (i' + 1) s₆.heap := W.frame _ _ _ st₄ fun b hb o e => (g₅.trans g₆).get e (fun q => ?_) (it.nofr _ _ st₄ b hb o e)
        · refine ⟨items.length + 1 - (i' + 1), by omega, i' + 1, i₆, gg.trans g₆, st₆, a₆, t₆, ?_, hlt, rfl⟩
          rw [List.take_add_one, List.getElem?_eq_getElem hlt, List.all_append, hall]
          simp [hok]
        · obtain ⟨o', e', c'⟩ := a₄.fr
          rw [show b = env.locals from q] at e hb
          exact it.nofr _ _ st₄ _ hb o' e' c'
      · cases e₆
    · split at e₆
      · cases e₆
      · rename_i hok
        have hno : items.all ok = false := by
          rw [Bool.eq_false_iff]
          intro hall'
          exact hok (List.all_eq_true.mp hall' _ hmem)
        exact came_back ((x₆.back gg).back g₁.of0) i tp fr fun s₇ x₇ => k e s₇ (by rw [hno]; rfl) x₇.plain
  · have hin : i' = items.length := by omega
    subst hin
    refine W.done _ _ _ st₃ fun h₂ tk₂ k₂ => ?_
    refine wpAny_execs_nil ?_
    rw [List.take_length] at hall
    exact h σ { s' with heap := h₂, toks := tk₂ } (by rw [hall]; rfl) (i₃.but fw.1 fw.2 k₂) (g₁.of0.trans (g₃.but hwr k₂)) (act_but a₃ hL hwr k₂) (sat_but t₁ t₃ hL hwr (it.nosol _ _ st₃) k₂)
end

-- Gb
open PySem PySem.W PyProof.Rows PySem.Calls PySem.SeqAt
set_option Elab.async false
set_option maxRecDepth 100000
set_option linter.unusedVariables false
set_option linter.unusedSimpArgs false


/- ---------- what a chain of generators may write ---------- -/
structure Wd where
  st : Addr → Prop
  lo : String → Prop
  kp : Addr → Prop
  G : Nat → Prop
noncomputable def Ws (Γ : Cx) (W : Wd) (s : Shared) : Addr → Prop := fun b => W.st b ∨ (Γ.hb.get? b = none ∧ ∃ o T, s.heap.get? b = some o ∧ o.cls = .type T ∧ W.lo T)
noncomputable abbrev GrowX (Γ : Cx) (W : Wd) (s s' : Shared) : Prop := Grow (Ws Γ W s) W.G s s'
noncomputable def Keep (Γ : Cx) (W : Wd) (s : Shared) : Addr → Prop := fun b => Ws Γ W s b ∨ W.kp b
noncomputable abbrev LaterX (Γ : Cx) (W : Wd) (s s' : Shared) : Prop := Grow (fun b => ¬ Keep Γ W s b) (fun j => ¬ W.G j) s s'
theorem Ws.back {Γ : Cx} {W : Wd} {W' : Addr → Prop} {G' : Nat → Prop} {s s' : Shared} (g : Grow W' G' s s') {b : Addr} {o : Obj} (e : s.heap.get? b = some o) (h : Ws Γ W s' b) : Ws Γ W s b := by
  rcases h with h | ⟨hb, o', T, e', c, l⟩
  · exact .inl h
  · obtain ⟨o'', e'', c', _⟩ := g.dom b o e
    rw [e'] at e''; cases e''
    exact .inr ⟨hb, o, T, e, c' ▸ c, l⟩
theorem Ws.on {Γ : Cx} {W : Wd} {W' : Addr → Prop} {G' : Nat → Prop} {s s' : Shared} (g : Grow W' G' s s') {b : Addr} (h : Ws Γ W s b) : Ws Γ W s' b := by
  rcases h with h | ⟨hb, o, T, e, c, l⟩
  · exact .inl h
  · obtain ⟨o', e', c', _⟩ := g.dom b o e
    exact .inr ⟨hb, o', T, e', c'.trans c, l⟩
theorem Keep.on {Γ : Cx} {W : Wd} {W' : Addr → Prop} {G' : Nat → Prop} {s s' : Shared} (g : Grow W' G' s s') {b : Addr} (h : Keep Γ W s b) : Keep Γ W s' b := h.imp (Ws.on g) id
theorem le_trans' {s₁ s₂ s₃ : Shared} {b : Addr} {o : Obj} {o₁ : Obj} (r₁ : o₁ = o ∨ (o.cls = .type "frame" ∧ ∃ sl, o₁ = { o with slots := sl })) (r₂ : ∃ o₂, s₃.heap.get? b = some o₂ ∧ (o₂ = o₁ ∨ (o₁.cls = .type "frame" ∧ ∃ sl, o₂ = { o₁ with slots := sl }))) :
    ∃ o₂, s₃.heap.get? b = some o₂ ∧ (o₂ = o ∨ (o.cls = .type "frame" ∧ ∃ sl, o₂ = { o with slots := sl })) := by
  obtain ⟨o₂, e₂, r₂⟩ := r₂
  refine ⟨o₂, e₂, ?_⟩
  rcases r₁ with rfl | ⟨c₁, sl, rfl⟩
  · exact r₂
  · rcases r₂ with rfl | ⟨_, sl', rfl⟩
    · exact .inr ⟨c₁, sl, rfl⟩
    · exact .inr ⟨c₁, sl', rfl⟩
theorem dom_trans {W W' : Addr → Prop} {G G' : Nat → Prop} {s₁ s₂ s₃ : Shared} (x : Grow W G s₁ s₂) (y : Grow W' G' s₂ s₃) : ∀ b o, s₁.heap.get? b = some o → ∃ o', s₃.heap.get? b = some o' ∧ o'.cls = o.cls ∧ (IsDct o → IsDct o') := fun b o e => by
  obtain ⟨o₁, e₁, c₁, d₁⟩ := x.dom b o e
  obtain ⟨o₂, e₂, c₂, d₂⟩ := y.dom b o₁ e₁
  exact ⟨o₂, e₂, c₂.trans c₁, fun q => d₂ (d₁ q)⟩
theorem GrowX.trans {Γ : Cx} {W : Wd} {s₁ s₂ s₃ : Shared} (x : GrowX Γ W s₁ s₂) (y : GrowX Γ W s₂ s₃) : GrowX Γ W s₁ s₃ :=
  ⟨fun b o e w => let ⟨o₁, e₁, r₁⟩ := x.le b o e w; le_trans' (s₁ := s₁) (s₂ := s₂) r₁ (y.le b o₁ e₁ fun q => w (Ws.back x e q)), dom_trans x y, fun j z e h => y.gens j z (x.gens j z e h) h, Nat.le_trans x.gsz y.gsz⟩
theorem LaterX.trans {Γ : Cx} {W : Wd} {s₁ s₂ s₃ : Shared} (x : LaterX Γ W s₁ s₂) (y : LaterX Γ W s₂ s₃) : LaterX Γ W s₁ s₃ :=
  ⟨fun b o e w => let ⟨o₁, e₁, r₁⟩ := x.le b o e w; le_trans' (s₁ := s₁) (s₂ := s₂) r₁ (y.le b o₁ e₁ fun q => w fun h => q (Keep.on x h)), dom_trans x y, fun j z e h => y.gens j z (x.gens j z e h) h, Nat.le_trans x.gsz y.gsz⟩
structure Wd.Le (V W : Wd) : Prop where
  st : ∀ b, V.st b → W.st b
  lo : ∀ T, V.lo T → W.lo T
  kp : ∀ b, V.kp b → W.kp b
  G : ∀ j, V.G j → W.G j
theorem Ws.mono {Γ : Cx} {V W : Wd} (h : V.Le W) {s : Shared} {b : Addr} (x : Ws Γ V s b) : Ws Γ W s b := x.imp (h.st b) fun ⟨a, o, T, e, c, l⟩ => ⟨a, o, T, e, c, h.lo T l⟩
theorem Keep.mono {Γ : Cx} {V W : Wd} (h : V.Le W) {s : Shared} {b : Addr} (x : Keep Γ V s b) : Keep Γ W s b := x.imp (fun q => q.mono h) (h.kp b)
theorem GrowX.mono {Γ : Cx} {V W : Wd} (h : V.Le W) {s s' : Shared} (x : GrowX Γ V s s') : GrowX Γ W s s' := x.weaken (fun b w => w.mono h) h.G
theorem LaterX.mono {Γ : Cx} {V W : Wd} (h : V.Le W) {s s' : Shared} (x : LaterX Γ W s s') : LaterX Γ V s s' := x.weaken (fun b w v => w (v.mono h)) fun j w v => w (h.G j v)
theorem Grow0.x {Γ : Cx} {W : Wd} {s s' : Shared} (x : Grow0 s s') : GrowX Γ W s s' := x.of0
theorem Grow0.later {Γ : Cx} {W : Wd} {s s' : Shared} (x : Grow0 s s') : LaterX Γ W s s' := x.of0

structure ThrownX (Γ : Cx) (W : Wd) (s₀ : Shared) (e : Addr) (s : Shared) : Prop where
  inv : Inv Γ s
  grow : GrowX Γ W s₀ s
  exc : ExcT cPE s₀ s e
theorem ThrownX.back {Γ : Cx} {W : Wd} {s₀ s₁ s : Shared} {e : Addr} (g : GrowX Γ W s₀ s₁) (x : ThrownX Γ W s₁ e s) : ThrownX Γ W s₀ e s :=
  ⟨x.inv, g.trans x.grow, News.back g x.exc.1, let ⟨oe, vs, a, b, c, d, f⟩ := x.exc.2; ⟨oe, vs, a, b, c, d, f.back g⟩⟩
theorem ThrownX.mono {Γ : Cx} {V W : Wd} {s₀ s : Shared} {e : Addr} (h : V.Le W) (x : ThrownX Γ V s₀ e s) : ThrownX Γ W s₀ e s := ⟨x.inv, x.grow.mono h, x.exc⟩

/- ---------- what an iterator still gives ---------- -/
noncomputable def Feeds (Γ : Cx) (n : Nat) (A : Around) (I : Addr) (fin : Bool) (W : Wd) : List Value → Shared → Prop
  | [], s => ∀ s' (Q : Option Value → Shared → Prop) (E : Value → Shared → Prop), LaterX Γ W s s' → Ok Γ n A s'.heap → Inv Γ s' → (∀ s'', fin = true → Inv Γ s'' → GrowX Γ W s' s'' → Q none s'') → (∀ e s'', fin = false → ThrownX Γ W s' e s'' → E (.ref e) s'') → wpAny Γ.M A (pyNext (.ref I)) Q E s'
  | v :: vs, s => ∀ s' (Q : Option Value → Shared → Prop) (E : Value → Shared → Prop), LaterX Γ W s s' → Ok Γ n A s'.heap → Inv Γ s' → (∀ s'', Inv Γ s'' → GrowX Γ W s' s'' → Feeds Γ n A I fin W vs s'' → Q (some v) s'') → wpAny Γ.M A (pyNext (.ref I)) Q E s'
theorem Feeds.later {Γ : Cx} {n : Nat} {A : Around} {I : Addr} {fin : Bool} {W : Wd} : ∀ {vs : List Value} {s s' : Shared}, Feeds Γ n A I fin W vs s → LaterX Γ W s s' → Feeds Γ n A I fin W vs s'
  | [], _, _, x, l => fun s'' Q E l' => x s'' Q E (l.trans l')
  | _ :: _, _, _, x, l => fun s'' Q E l' => x s'' Q E (l.trans l')

/- ---------- our class is no StopIteration ---------- -/
theorem pe_of {K : Frag} {oc : Value} {od : Option Addr} {cd : ClassData} {sl : Array (Option Value)} (h : K.lookup cPE = some ⟨oc, od, .cls cd, sl⟩) (a : cd.mro.isEmpty = false) (b : cd.mro.contains (.type "StopIteration") = false) :
    ∃ oc od cd sl, K.lookup cPE = some ⟨oc, od, .cls cd, sl⟩ ∧ cd.mro.isEmpty = false ∧ cd.mro.contains (.type "StopIteration") = false := ⟨_, _, _, _, h, a, b⟩
theorem pe_in (Γ : Cx) : ∃ oc od cd sl, Γ.Kf.lookup cPE = some ⟨oc, od, .cls cd, sl⟩ ∧ cd.mro.isEmpty = false ∧ cd.mro.contains (.type "StopIteration") = false := by
  refine' pe_of ?h ?a ?b
  case h =>
    show (KF (Cx.w _).params).lookup _ = _
    k_is
  case a => rfl
  case b => decide
theorem not_stop {Γ : Cx} {A : Around} {E : Value → Shared → Prop} {s : Shared} {e : Addr} {o : Obj} {Q : Bool → Shared → Prop} (i : Inv Γ s) (ho : s.heap.get? e = some o) (hc : o.cls = .ref cPE) (h : Q false s) : wpAny Γ.M A (isInstance (.ref e) (.type "StopIteration")) Q E s := by
  obtain ⟨oc, od, cd, sl, hK, h1, h2⟩ := pe_in Γ
  have hC := i.K _ _ hK
  unfold isInstance
  refine wpAny_bind (wpAny_bind (wpAny_loadPart ho (wpAny_pure ?_)))
  show wpAny Γ.M A (isSubtype o.cls _) Q E s
  rw [hc]
  unfold isSubtype mroOf
  refine wpAny_bind (wpAny_bind (wpAny_bind (wpAny_load hC (wpAny_pure (wpAny_pure ?_)))))
  dsimp only
  rw [if_neg (by rw [h1]; decide)]
  show wpAny Γ.M A (pure (cd.mro.contains (.type "StopIteration"))) Q E s
  rw [h2]
  exact wpAny_pure h

/- ---------- one pull of a generator ---------- -/
noncomputable def EndR (P : Nat → Shared → Shared → Prop) (X : Nat → Shared → Addr → Shared → Prop) : GenEnd := fun m s₀ r s₁ =>
  ((r = .ok .next ∨ r = .ok (.ret .none)) ∧ P m s₀ s₁) ∨ (∃ e, r = .error (.ref e) ∧ X m s₀ e s₁)
theorem pyNext_gen {Γ : Cx} {A : Around} {E : Value → Shared → Prop} {s : Shared} {a : Addr} {g n : Nat} {gs : GenState} {P : Nat → Shared → Shared → Prop} {X : Nat → Shared → Addr → Shared → Prop} {Y : Protocol} {Q : Option Value → Shared → Prop} (hh : A.handled = none)
    (hl : s.heap.NoLimit) (hroom : A.depth < recursionLimit) (hg : s.heap.IsGen a g) (hgs : s.gens[g]? = some gs)
    (hgo : gs.Goes Γ.M A.in1 (EndR P X) Y n (.send .none) (s.setGen g .running))
    (hY : ∀ v s₁ gs', gs'.bare = true → Y (n - 1) (s.setGen g .running) v s₁ (fun r' s'' => match n with | 0 => False | m + 1 => gs'.Goes Γ.M A.in1 (EndR P X) Y m r' s'') → Q (some v) (s₁.setGen g gs'))
    (hP : ∀ s₁, P n (s.setGen g .running) s₁ → ∀ h', (∀ b o, s₁.heap.get? b = some o → h'.get? b = some o) → Q none { s₁.setGen g .finished with heap := h' })
    (hX : ∀ e s₁, X n (s.setGen g .running) e s₁ → (Inv Γ (s₁.setGen g .finished) ∧ (∃ o, s₁.heap.get? e = some o ∧ o.cls = .ref cPE) ∧ (∃ o, s₁.heap.get? a = some o ∧ o.cls = .type "generator" ∧ ∃ i nm qn, o.data = .fields #[i, nm, qn])) ∧ E (.ref e) (s₁.setGen g .finished)) :
    wpAny Γ.M A (pyNext (.ref a)) Q E s := by
  unfold pyNext
  refine wpAny_bind (wpAny_attempt (wpAny_callSpecial?_slot (name := Str.ofString "__next__") hg.typeIs slot_gen_next
    (wpAny_call_entry slot_gen_next hg.typeIs entry_gen_next ?_ (args_gen_next _))))
  show wpAny _ A.in1 (Builtin.Generator.genWake (.ref a) (.send .none)) _ _ s
  unfold Builtin.Generator.genWake
  refine wpAny_bind (wpAny_holding (wpAny_genNumber hg (wpAny_bind (wpAny_genState hgs ?_))))
  cases gs with
  | running => exact hgo.elim
  | finished => exact hgo.elim
  | _ =>
    refine wpAny_bind (wpAny_roomToWake hl hroom ?_)
    show wpAny _ A.in1 (.resume g (.send .none) [] _) _ _ s
    refine wpAny_resumeQ hgs hgo (fun x s₁ hx => ?_) (fun v s₁ gs' hb hv => ?_)
    · rcases hx with ⟨hf, hp⟩ | ⟨e, rfl, hx⟩
      · rcases hf with rfl | rfl <;> (
          show wpAny _ A.in1 (newExc (.type "StopIteration") [] >>= _) _ _ _
          refine wpAny_bind ?_
          simp only [newExc, newTuple]
          refine wpAny_bind (wpAny_newObj_type ?_ (by size_fits))
          refine wpAny_bind (m := firstArgMember _ _) (wpAny_of_eq (a := Value.none) (by first | rfl | (simp only [firstArgMember]; rfl)) ?_)
          refine wpAny_newObj_type ?_ (by size_fits)
          simp only [raiseNew]
          refine wpAny_bind (wpAny_bind (wpAny_handled ?_))
          first | rw [show A.in1.handled = none from hh] | rw [hh]
          refine wpAny_throw ?_
          refine wpAny_bind (wpAny_isInstance (T := "StopIteration") (b := true) ⟨_, Heap.get?_push_size _ rfl, rfl⟩ isSubtype_stop ?_)
          exact wpAny_pure (hP s₁ hp _ fun b o hb => Heap.get?_push_of_some _ (Heap.get?_push_of_some _ hb)))
      · obtain ⟨⟨i', ⟨o, ho, hc⟩, oa, hoa, hca, j, nm, qn, hda⟩, hE⟩ := hX e s₁ hx
        show wpAny _ A.in1 (Builtin.Generator.genLeft (.ref a) (.ref e)) _ _ _
        unfold Builtin.Generator.genLeft
        refine wpAny_bind (m := Builtin.Generator.madeByALambda (.ref a)) ?_
        unfold Builtin.Generator.madeByALambda
        refine wpAny_bind (wpAny_load (s := s₁.setGen g .finished) hoa (wpAny_pure ?_))
        have hf : (oa.cls == Value.type "generator" && (match oa.data with | .fields vs => vs[3]? == some (.bool true) | _ => false)) = false := by
          rw [hca, hda]; rfl
        refine wpAny_bind (not_stop (s := s₁.setGen g .finished) i' ho hc ?_)
        simp only [Bool.and_false, Bool.false_eq_true, if_false]
        unfold Builtin.Generator.genEscaped
        refine wpAny_bind (not_stop (s := s₁.setGen g .finished) i' ho hc ?_)
        rw [if_pos (by decide)]
        refine wpAny_throw ?_
        refine wpAny_bind (not_stop (s := s₁.setGen g .finished) i' ho hc ?_)
        rw [if_neg (by decide)]
        exact wpAny_throw hE
    · exact wpAny_pure ⟨v, rfl, wpAny_pure (hY v s₁ gs' hb hv)⟩

-- Gc
open PySem PySem.W PyProof.Rows PySem.Calls PySem.SeqAt
set_option Elab.async false
set_option maxRecDepth 100000
set_option linter.unusedVariables false
set_option linter.unusedSimpArgs false

section
variable {M : Model} {A : Around} {R : GenEnd} {Y : Protocol} {n : Nat} {s₀ : Shared} {c : Code} {fs : List Frame} {s : Shared} {env : Env}
  {K : Flow → Sem Fin} {H : Value → Sem Fin} {gd : Bool → Bool} {lv : List Value → List Value}

/-- what stands between a loop and its statement -/
noncomputable abbrev ownBack (env : Env) (K : Flow → Sem Fin) (H : Value → Sem Fin) (gd : Bool → Bool) (lv : List Value → List Value) : Result → Sem Fin := fun r =>
  ((match r with | .ok f => (.pure f : Sem Flow) | .error e => .raise e).onRaise fun (x : Value) => do
    if (← field x 1) == Value.none then unsupported "frame.own-activation:exception-without-traceback"
    setFlight x env.frame).wrap K H gd lv

theorem seg_exec {st : Stmt} (h : wpAny M (A.over c fs) (exec st env) (fun f s' => Seg M A R Y n s₀ c (K f) fs s') (fun x s' => Seg M A R Y n s₀ c (H x) fs s') s) : Seg M A R Y n s₀ c ((exec st env).wrap K H gd lv) fs s := seg_wrap h
theorem seg_execs {ss : List Stmt} (h : wpAny M (A.over c fs) (execs ss env) (fun f s' => Seg M A R Y n s₀ c (K f) fs s') (fun x s' => Seg M A R Y n s₀ c (H x) fs s') s) : Seg M A R Y n s₀ c ((execs ss env).wrap K H gd lv) fs s := seg_wrap h

theorem seg_For {target iter : Expr} {body orelse : List Stmt} {pos : Pos} (hs : ∀ x, foldedSetIterable iter env x = pure x)
    (h : wpAny M (A.over c fs) (eval iter env) (fun x s₁ => wpAny M (A.over c fs) (pyIter x) (fun it s₂ => ∀ p,
      Seg M A R Y n s₀ (.forLoop target it body orelse env) (M.den (.forLoop target it body orelse env)) (.ret (ownBack env K H gd lv) none (gd false) (lv []) c p [] :: fs) s₂)
      (fun x s' => Seg M A R Y n s₀ c (H x) fs s') s₁) (fun x s' => Seg M A R Y n s₀ c (H x) fs s') s) :
    Seg M A R Y n s₀ c ((exec (.For target iter body orelse pos) env).wrap K H gd lv) fs s := by
  rw [exec_For]
  refine seg_at (p' := pos) ?_
  show Seg M A R Y n s₀ c ((eval iter env >>= fun x => (foldedSetIterable iter env x >>= fun x => (standAt iter.pos >>= fun _ => (holding [x] (pyIter x) >>= fun it => runOwn (.forLoop target it body orelse env) env)))).wrap K H gd lv) fs s
  rw [Sem.bind_eq_wrap', Sem.wrap_wrap]
  refine seg_wrap (wpAny_mono h (fun x s₁ h₁ => ?_) fun _ _ e => e)
  rw [hs x]
  refine seg_at (p' := iter.pos) ?_
  show Seg M A R Y n s₀ c ((holding [x] (pyIter x) >>= fun it => runOwn (.forLoop target it body orelse env) env).wrap K H gd lv) fs s₁
  rw [Sem.bind_eq_wrap', Sem.wrap_wrap]
  refine seg_wrap (wpAny_holding (wpAny_mono h₁ (fun it s₂ h₂ => ?_) fun _ _ e => e))
  exact seg_call h₂
end

section
variable {prog : Program} {w : World} {A : Around} {R : GenEnd} {Y : Protocol} {n : Nat} {s₀ : Shared} {fs : List Frame} {s : Shared} {env : Env}

noncomputable abbrev loopErr (env : Env) : Value → Sem Fin := fun e => (do noteFrame e env; theTreesLotGoes e : Sem Unit).wrap (fun _ => .raise e) .raise id id
noncomputable abbrev loopOn (target : Expr) (it : Value) (body orelse : List Stmt) (env : Env) : Flow → Sem Fin := fun f => match f with
  | .next | .cont => .pure (.again (.forLoop target it body orelse env))
  | .brk => .pure (.done .next)
  | .ret v => .pure (.done (.ret v))

theorem seg_forLoop {target : Expr} {it : Value} {body orelse : List Stmt}
    (h : wpAny (model prog w) (A.over (.forLoop target it body orelse env) fs) (pyNext it) (fun r s₁ => match r with
      | none => Seg (model prog w) A R Y n s₀ (.block orelse env) ((model prog w).den (.block orelse env)) fs s₁
      | some v => wpAny (model prog w) (A.over (.forLoop target it body orelse env) fs) (letOwnedTupleGo target it v) (fun _ s₂ => wpAny (model prog w) (A.over (.forLoop target it body orelse env) fs) (assign target env v)
          (fun _ s₃ => Seg (model prog w) A R Y n s₀ (.forLoop target it body orelse env) ((execs body env).wrap (loopOn target it body orelse env) (loopErr env) id id) fs s₃)
          (fun x s' => Seg (model prog w) A R Y n s₀ (.forLoop target it body orelse env) (loopErr env x) fs s') s₂)
          (fun x s' => Seg (model prog w) A R Y n s₀ (.forLoop target it body orelse env) (loopErr env x) fs s') s₁)
      (fun x s' => Seg (model prog w) A R Y n s₀ (.forLoop target it body orelse env) (loopErr env x) fs s') s) :
    Seg (model prog w) A R Y n s₀ (.forLoop target it body orelse env) ((model prog w).den (.forLoop target it body orelse env)) fs s := by
  have hE : ∀ x : Value, (do noteFrame x env; theTreesLotGoes x : Sem Unit).bind (fun _ => (.raise x : Sem Fin)) = loopErr env x := fun x => Sem.bind_eq_wrap _ _
  show Seg _ A R Y n s₀ _ ((forTurn target it body orelse env).onRaise (fun x => do noteFrame x env; theTreesLotGoes x)) fs s
  unfold forTurn
  rw [Sem.onRaise_eq_wrap]
  refine seg_at (p' := target.pos) ?_
  rw [Sem.wrap_congr _ _ _ (fun _ => rfl) hE]
  show Seg _ A R Y n s₀ _ (Sem.wrap .pure (loopErr env) id id ((pyNext it).onRaise (fun _ => standAt { target.pos with line := 0 }) >>= fun r => match r with
    | none => again (.block orelse env)
    | some v => letOwnedTupleGo target it v >>= fun _ => assign target env v >>= fun _ => execs body env >>= fun f => match f with
      | .next | .cont => again (.forLoop target it body orelse env)
      | .brk => pure (.done .next)
      | .ret v => pure (.done (.ret v)))) fs s
  rw [Sem.bind_eq_wrap', Sem.onRaise_eq_wrap, Sem.wrap_wrap, Sem.wrap_wrap]
  refine seg_wrap (wpAny_mono h (fun r s₁ h₁ => ?_) (fun x s' hx => ?_))
  · cases r with
    | none => exact seg_again rfl h₁
    | some v =>
      show Seg _ A R Y n s₀ _ (Sem.wrap .pure (loopErr env) id id (letOwnedTupleGo target it v >>= fun _ => assign target env v >>= fun _ => execs body env >>= fun f => match f with
        | .next | .cont => again (.forLoop target it body orelse env)
        | .brk => pure (.done .next)
        | .ret v => pure (.done (.ret v)))) fs s₁
      rw [Sem.bind_eq_wrap', Sem.wrap_wrap]
      refine seg_wrap (wpAny_mono h₁ (fun _ s₂ h₂ => ?_) fun _ _ e => e)
      show Seg _ A R Y n s₀ _ (Sem.wrap .pure (loopErr env) id id (assign target env v >>= fun _ => execs body env >>= fun f => match f with
        | .next | .cont => again (.forLoop target it body orelse env)
        | .brk => pure (.done .next)
        | .ret v => pure (.done (.ret v)))) fs s₂
      rw [Sem.bind_eq_wrap', Sem.wrap_wrap]
      refine seg_wrap (wpAny_mono h₂ (fun _ s₃ h₃ => ?_) fun _ _ e => e)
      show Seg _ A R Y n s₀ _ (Sem.wrap .pure (loopErr env) id id (execs body env >>= fun f => match f with
        | .next | .cont => again (.forLoop target it body orelse env)
        | .brk => pure (.done .next)
        | .ret v => pure (.done (.ret v)))) fs s₃
      rw [Sem.bind_eq_wrap', Sem.wrap_wrap]
      exact (congrArg (fun t => Seg (model prog w) A R Y n s₀ (.forLoop target it body orelse env) t fs s₃) (Sem.wrap_congr (execs body env) id id (fun f => by cases f <;> rfl) (fun e => rfl))).mpr h₃
  · exact seg_at hx
end

-- Gd
open PySem PySem.W PyProof.Rows PySem.Calls PySem.SeqAt
set_option Elab.async false
set_option maxRecDepth 100000
set_option linter.unusedVariables false
set_option linter.unusedSimpArgs false

/-- the surroundings of a generator's own code -/
noncomputable abbrev Af (A : Around) (fb : List Stmt) (env : Env) : Around := A.in1.over (.func fb env) []
theorem over_loop {A : Around} {k : Result → Sem Fin} {l : List Value} {fb body orelse : List Stmt} {env : Env} {p : Pos} {target : Expr} {it : Value} (hh : A.handled = none) :
    A.in1.over (.forLoop target it body orelse env) [.ret k none false l (.func fb env) p []] = Af A fb env := by
  unfold Af Around.over
  simp only [Around.mk.injEq]
  refine ⟨?_, ?_, ?_, ?_, ?_⟩
  · rw [show A.in1.handled = none from hh]; rfl
  · show A.in1.depth + frameCount [(Code.func fb env, p)] + Code.weight (.forLoop target it body orelse env) = A.in1.depth + frameCount [] + Code.weight (.func fb env)
    rw [show Code.weight (.func fb env) = 1 from rfl, show Code.weight (.forLoop target it body orelse env) = 0 from rfl, frameCount_cons, show Code.weight (.func fb env) = 1 from rfl]
    simp [frameCount]
  · rfl
  · rfl
  · show A.in1.units + unitsOf [(Code.func fb env, p)] + Code.cUnits (.forLoop target it body orelse env) = A.in1.units + unitsOf [] + Code.cUnits (.func fb env)
    rw [show Code.cUnits (.func fb env) = 3 from rfl, show Code.cUnits (.forLoop target it body orelse env) = 0 from rfl, unitsOf_cons, show Code.cUnits (.func fb env) = 3 from rfl]
    simp [unitsOf]
theorem af_eq (A : Around) (fb : List Stmt) (env : Env) : Af A fb env = A.in1.deeper env := by
  unfold Af Around.over Around.deeper
  simp only [Around.mk.injEq]
  refine ⟨rfl, ?_, rfl, rfl, ?_⟩
  · show A.in1.depth + 0 + 1 = A.in1.depth + 1
    omega
  · show A.in1.units + 0 + 3 = A.in1.units + 3
    omega
/-- a frame of a generator at rest -/
structure Own2 (Γ : Cx) (env : Env) : Prop where
  own : Own Γ env
  frame : env.frame = some env.locals
theorem Ok.enter {Γ : Cx} {n : Nat} {A : Around} {h : Heap} {env : Env} (o : Ok Γ (n + 1) A h) (w : Own2 Γ env) (a : Act env h) : Ok Γ n (A.in1.deeper env) h := by
  refine ⟨o.handled, by have := o.depth; simp only [Around.deeper, Around.in1_depth]; omega, by have := o.units; simp only [Around.deeper, Around.in1_units]; omega, o.guards, ?_⟩
  obtain ⟨outer, hA, f1, f2⟩ := o.frames
  obtain ⟨⟨m, oL, es, ep, eL, hd, _⟩, oL', eL', cL⟩ := a
  rw [eL] at eL'; cases eL'
  refine ⟨env :: outer, Around.frames_deeper (A := A.in1) hA, ⟨by rw [w.own.ok.kind]; decide, ⟨env.locals, oL, w.frame, w.own.new, eL, fun vs q => by rw [hd] at q; cases q⟩, f1⟩, fun e m L hL' => ?_⟩
  cases m with
  | head => rw [w.frame] at hL'; cases hL'; exact ⟨oL, eL, cL, es, ep, hd⟩
  | tail _ m => exact f2 e m L hL'
theorem Ok.topOf {Γ : Cx} {n : Nat} {A : Around} {h : Heap} {env : Env} (o : Ok Γ n A h) (w : Own2 Γ env) : TopOf (A.in1.deeper env) env := by
  obtain ⟨outer, hA, _⟩ := o.frames
  exact ⟨⟨outer, Around.frames_deeper (A := A.in1) hA⟩, _, w.frame⟩
theorem Ok.frs {Γ : Cx} {n : Nat} {A : Around} {h : Heap} {env : Env} (o : Ok Γ n A h) : ∀ outer, A.frames = some (env :: outer) → Frs Γ.hb h (env :: outer) := fun outer hA => by
  obtain ⟨o', hA', fr⟩ := o.frames
  rw [hA] at hA'; cases hA'; exact fr

/- ---------- a stage ---------- -/
noncomputable def runTr {χ : Type} (ufin : Bool) (step : χ → Fld → Option χ) (epi : χ → Bool) : χ → List (Value × Fld) → List Value × Bool
  | x, [] => ([], ufin && epi x)
  | x, (v, f) :: us => match step x f with
    | none => ([], false)
    | some x' => (v :: (runTr ufin step epi x' us).1, (runTr ufin step epi x' us).2)

structure Stage (Γ : Cx) (n : Nat) (env : Env) (a : Addr) (g : Nat) (V W : Wd) (χ : Type) (step : χ → Fld → Option χ) (epi : χ → Bool) (Lp : χ → Shared → Prop) (ok : Fld → Prop) (pre rest : List Stmt) : Prop where
  own : Own2 Γ env
  le : V.Le W
  ga : W.G g
  gu : ¬ V.G g
  wg : ∀ j, W.G j → j = g ∨ V.G j
  ak : W.kp a
  an : ¬ W.st a
  ag : ¬ W.lo "generator"
  hdr : env.kindOf "header" = some .local
  up : ∀ x s s', Act env s.heap → Lp x s → GrowX Γ V s s' → Act env s'.heap ∧ Lp x s'
  down : ∀ x s s', Act env s.heap → Lp x s → Grow (fun b => ¬ Keep Γ W s b) (fun j => ¬ V.G j) s s' → Act env s'.heap ∧ Lp x s'
  turn : ∀ A s x v f (Q : Flow → Shared → Prop) (E : Value → Shared → Prop), TopOf A env → Ok Γ n A s.heap → Inv Γ s → Act env s.heap → Lp x s → (fld f).p Γ.hb v → ok f →
    (∀ x' s', step x f = some x' → Inv Γ s' → GrowX Γ W s s' → LaterX Γ V s s' → Act env s'.heap → Lp x' s' → Loads env s'.heap "header" v → Q .next s') →
    (∀ e s', step x f = none → Thrown Γ (Ws Γ W s) W.G s e s' → E (.ref e) s') → ∀ px, wpAny Γ.M A (assign (.Name "header" px) env v) (fun _ s₁ => wpAny Γ.M A (execs pre env) Q E s₁) E s
  epil : ∀ A s x (Q : Flow → Shared → Prop) (E : Value → Shared → Prop), TopOf A env → Ok Γ n A s.heap → Inv Γ s → Act env s.heap → Lp x s →
    (∀ s', epi x = true → Inv Γ s' → GrowX Γ W s s' → Q .next s') → (∀ e s', epi x = false → Thrown Γ (Ws Γ W s) W.G s e s' → E (.ref e) s') → wpAny Γ.M A (execs rest env) Q E s

noncomputable def PEnd (Γ : Cx) (W : Wd) (ofin : Bool) : Nat → Shared → Shared → Prop := fun m s₀ s₁ => m = 0 ∧ ofin = true ∧ Inv Γ s₁ ∧ GrowX Γ W s₀ s₁
noncomputable def XEnd (Γ : Cx) (W : Wd) (ofin : Bool) : Nat → Shared → Addr → Shared → Prop := fun m s₀ e s₁ => m = 0 ∧ ofin = false ∧ ThrownX Γ W s₀ e s₁
noncomputable def YOut (Γ : Cx) (n : Nat) (A : Around) (V W : Wd) (out : List Value) : Protocol := fun m s₀ v s₁ κ =>
  out[out.length - 1 - m]? = some v ∧ Inv Γ s₁ ∧ GrowX Γ W s₀ s₁ ∧ ∀ s'', Grow (fun b => ¬ Keep Γ W s₁ b) (fun j => ¬ V.G j) s₁ s'' → Ok Γ n A s''.heap → Inv Γ s'' → κ (.send .none) s''
noncomputable abbrev K0 : Flow → Sem Fin := fun f => .pure (.done (.ret (match f with | .ret v => v | _ => .none)))
noncomputable abbrev H0 (env : Env) : Value → Sem Fin := fun e => (leaving env e).wrap (fun _ => .raise e) .raise id id
noncomputable abbrev K1 (rest : List Stmt) (env : Env) : Flow → Sem Fin := fun f => match f with | .next => (execs rest env).wrap K0 (H0 env) id id | f => K0 f

theorem thrown_x {Γ : Cx} {W : Wd} {s₀ s s' : Shared} {e : Addr} (g : GrowX Γ W s₀ s) (x : ThrownT Γ (Ws Γ W s) W.G s e s') : ThrownX Γ W s₀ e s' := ThrownX.back g ⟨x.inv, x.grow, x.exc⟩

section
variable {Γ : Cx} {n : Nat} {A : Around} {env : Env} {V W : Wd} {out : List Value} {ofin : Bool} {fb : List Stmt} {s₀ s s' : Shared} {e : Addr}

/-- leaving by an exception, at the def's own code -/
theorem seg_leave (w : Own2 Γ env) (o : Ok Γ (n + 1) A s.heap) (i : Inv Γ s) (a : Act env s.heap) (hf : ofin = false) (g : GrowX Γ W s₀ s) (x : Thrown Γ (Ws Γ W s) W.G s e s') :
    Seg Γ.M A.in1 (EndR (PEnd Γ W ofin) (XEnd Γ W ofin)) (YOut Γ (n + 1) A V W out) 0 s₀ (.func fb env) (H0 env (.ref e)) [] s' := by
  obtain ⟨⟨outer, hfr⟩, L, hL⟩ := o.topOf w
  refine seg_wrap ?_
  rw [show A.in1.over (.func fb env) [] = A.in1.deeper env from af_eq A fb env]
  refine x.leaving i hfr ((o.enter w a).frs outer hfr) hL fun s₂ x₂ => ?_
  exact seg_end (.error (.ref e)) (.inr ⟨e, rfl, rfl, hf, thrown_x g x₂⟩)

/-- leaving by an exception, out of the loop -/
theorem seg_err {target : Expr} {it : Value} {body orelse rest : List Stmt} {l : List Value} {p : Pos} (w : Own2 Γ env) (o : Ok Γ (n + 1) A s.heap) (i : Inv Γ s) (a : Act env s.heap) (hf : ofin = false) (g : GrowX Γ W s₀ s) (x : Thrown Γ (Ws Γ W s) W.G s e s') :
    Seg Γ.M A.in1 (EndR (PEnd Γ W ofin) (XEnd Γ W ofin)) (YOut Γ (n + 1) A V W out) 0 s₀ (.forLoop target it body orelse env) (loopErr env (.ref e)) [.ret (ownBack env (K1 rest env) (H0 env) id id) none false l (.func fb env) p []] s' := by
  obtain ⟨⟨outer, hfr⟩, L, hL⟩ := o.topOf w
  have fr := (o.enter w a).frs outer hfr
  refine seg_wrap ?_
  rw [over_loop o.handled, af_eq]
  refine wpAny_bind (x.note i hfr fr hL fun s₂ x₂ => wpAny_theTreesLotGoes ?_)
  refine seg_leaf (.error (.ref e)) ?_
  show Seg _ _ _ _ _ _ _ (Sem.wrap (K1 rest env) (H0 env) id id (Sem.bind (do
    if (← field (.ref e) 1) == Value.none then unsupported "frame.own-activation:exception-without-traceback"
    setFlight (.ref e) env.frame) fun _ => .raise (.ref e))) [] s₂
  rw [Sem.bind_eq_wrap, Sem.wrap_wrap]
  refine seg_wrap ?_
  rw [show A.in1.over (.func fb env) [] = A.in1.deeper env from af_eq A fb env]
  obtain ⟨hen, oe, vs, he, hc, hd, hsz, T, oT, ts, h1, hTn, hTe, hT, hcT, hdT, h3⟩ := id x₂.exc
  refine wpAny_bind (wpAny_field he hd h1 ?_)
  rw [if_neg (show ¬ ((Value.ref T == Value.none) = true) from Bool.false_ne_true)]
  exact x₂.flight i fun s₃ x₃ => seg_leave w o i a hf g x₃.plain

theorem execs_append_wrap {K : Flow → Sem Fin} {H : Value → Sem Fin} {gd : Bool → Bool} {lv : List Value → List Value} (rest : List Stmt) : ∀ pre : List Stmt, (execs (pre ++ rest) env).wrap K H gd lv =
    (execs pre env).wrap (fun f => match f with | .next => (execs rest env).wrap K H gd lv | f => K f) H gd lv
  | [] => rfl
  | st :: pre => by
    rw [List.cons_append, execs_cons_wrap, execs_cons_wrap]
    refine Sem.wrap_congr _ _ _ (fun f => ?_) (fun _ => rfl)
    cases f with
    | next => exact execs_append_wrap rest pre
    | _ => rfl

theorem runTr_len {χ : Type} {ufin : Bool} {step : χ → Fld → Option χ} {epi : χ → Bool} {x x' : χ} {v : Value} {f : Fld} {us : List (Value × Fld)} (h : step x f = some x') : runTr ufin step epi x ((v, f) :: us) = (v :: (runTr ufin step epi x' us).1, (runTr ufin step epi x' us).2) := by
  simp only [runTr, h]
theorem runTr_none {χ : Type} {ufin : Bool} {step : χ → Fld → Option χ} {epi : χ → Bool} {x : χ} {v : Value} {f : Fld} {us : List (Value × Fld)} (h : step x f = none) : runTr ufin step epi x ((v, f) :: us) = ([], false) := by
  simp only [runTr, h]

theorem stage_loop {ok : Fld → Prop} {a I : Addr} {g : Nat} {χ : Type} {step : χ → Fld → Option χ} {epi : χ → Bool} {Lp : χ → Shared → Prop} {pre rest body : List Stmt} {ufin : Bool} {px yp ypos epos : Pos} {l : List Value} (S : Stage Γ n env a g V W χ step epi Lp ok pre rest)
    (hbody : body = pre ++ [.Expr (.Yield (some (.Name "header" yp)) ypos) epos]) (hco : env.scope.isCoroutine = false) (hi : interactive env = false) (hh : A.handled = none) :
    ∀ (us : List (Value × Fld)) (x : χ) (s s₀ : Shared) (p : Pos), (∀ q ∈ us, (fld q.2).p Γ.hb q.1 ∧ ok q.2) → Feeds Γ n (A.in1.deeper env) I ufin V (us.map (·.1)) s → Ok Γ (n + 1) A s.heap → Inv Γ s → Act env s.heap → Lp x s → GrowX Γ W s₀ s →
      (∃ pr, out = pr ++ (runTr ufin step epi x us).1) → ofin = (runTr ufin step epi x us).2 →
      Seg Γ.M A.in1 (EndR (PEnd Γ W ofin) (XEnd Γ W ofin)) (YOut Γ (n + 1) A V W out) (runTr ufin step epi x us).1.length s₀ (.forLoop (.Name "header" px) (.ref I) body [] env) (Γ.M.den (.forLoop (.Name "header" px) (.ref I) body [] env)) [.ret (ownBack env (K1 rest env) (H0 env) id id) none false l (.func fb env) p []] s := by
  intro us
  induction us with
  | nil =>
    intro x s s₀ p hus hF o i ac hl gs ho hof
    refine seg_forLoop ?_
    rw [over_loop hh, af_eq]
    refine hF s _ _ (.refl _ _ _) (o.enter S.own ac) i (fun s'' hf i'' g'' => ?_) (fun e s'' hf x'' => ?_)
    · obtain ⟨a'', l''⟩ := S.up x s s'' ac hl g''
      have gW : GrowX Γ W s s'' := g''.mono S.le
      refine seg_leaf (.ok .next) ?_
      refine seg_execs (ss := rest) (K := K0) (H := H0 env) ?_
      rw [show A.in1.over (.func fb env) [] = A.in1.deeper env from af_eq A fb env]
      refine S.epil _ _ x _ _ (o.topOf S.own) ((o.grow g'').enter S.own a'') i'' a'' l'' (fun s₃ he i₃ g₃ => ?_) (fun e s₃ he x₃ => ?_)
      · refine seg_end (.ok (.ret .none)) (.inl ⟨.inr rfl, rfl, ?_, i₃, (gs.trans gW).trans g₃⟩)
        rw [hof]; simp [runTr, hf, he]
      · refine seg_leave S.own (o.grow g'') i'' a'' ?_ (gs.trans gW) x₃
        rw [hof]; simp [runTr, hf, he]
    · refine seg_err S.own o i ac ?_ gs ⟨x''.inv, x''.grow.mono S.le, x''.exc.exc⟩
      rw [hof]; simp [runTr, hf]
  | cons q us ih =>
    obtain ⟨v, f⟩ := q
    intro x s s₀ p hus hF o i ac hl gs ho hof
    refine seg_forLoop ?_
    rw [over_loop hh, af_eq]
    refine hF s _ _ (.refl _ _ _) (o.enter S.own ac) i fun s₁ i₁ g₁ hF₁ => ?_
    obtain ⟨a₁, l₁⟩ := S.up x s s₁ ac hl g₁
    have gW₁ : GrowX Γ W s s₁ := g₁.mono S.le
    have o₁ := o.grow g₁
    show wpAny Γ.M (A.in1.deeper env) (pure ()) _ _ s₁
    refine wpAny_pure ?_
    have hv := hus (v, f) (.head _)
    refine wpAny_mono (S.turn _ s₁ x v f (fun fl s₃ => Seg Γ.M A.in1 (EndR (PEnd Γ W ofin) (XEnd Γ W ofin)) (YOut Γ (n + 1) A V W out) (runTr ufin step epi x ((v, f) :: us)).1.length s₀ (.forLoop (.Name "header" px) (.ref I) body [] env)
        ((match fl with | .next => (execs [.Expr (.Yield (some (.Name "header" yp)) ypos) epos] env).wrap (loopOn (.Name "header" px) (.ref I) body [] env) (loopErr env) id id | fl => loopOn (.Name "header" px) (.ref I) body [] env fl) : Sem Fin) [.ret (ownBack env (K1 rest env) (H0 env) id id) none false l (.func fb env) p []] s₃)
      (fun z s' => Seg Γ.M A.in1 (EndR (PEnd Γ W ofin) (XEnd Γ W ofin)) (YOut Γ (n + 1) A V W out) (runTr ufin step epi x ((v, f) :: us)).1.length s₀ (.forLoop (.Name "header" px) (.ref I) body [] env) (loopErr env z) [.ret (ownBack env (K1 rest env) (H0 env) id id) none false l (.func fb env) p []] s')
      (o.topOf S.own) (o₁.enter S.own a₁) i₁ a₁ l₁ hv.1 hv.2 ?_ ?_ px) (fun _ s₂ h₂ => ?_) fun _ _ e => e
    · intro x' s' hst i' g' lt' a' l' hload
      rw [runTr_len hst] at ho hof ⊢
      obtain ⟨pr, ho⟩ := ho
      show Seg _ _ _ _ ((runTr ufin step epi x' us).1.length + 1) _ _ _ _ _
      refine seg_execs_cons (seg_Expr_Yield rfl rfl rfl ?_ hco hi)
      rw [over_loop hh, af_eq]
      refine EvD.name (Γ := Γ) (n := n) (σ := [("header", .eq v)]) S.own.own.ok lookup_cons_eq (by decide) _ s' _ _ ((o₁.grow g').enter S.own a') i' (fun y P hy => ?_) fun v' s'' i'' g'' hv' => ?_
      · by_cases hyx : y = "header"
        · subst hyx
          rw [lookup_cons_eq] at hy; cases hy
          exact ⟨v, hload, rfl⟩
        · rw [lookup_cons_ne hyx] at hy; simp at hy
      · cases (show v' = v from hv')
        intro κ hκ
        obtain ⟨a'', l''⟩ := S.up x' s' s'' a' l' g''.x
        refine ⟨?_, i'', (gs.trans gW₁).trans (g'.trans g''.x), fun s₅ lt₅ o₅ i₅ => hκ .none s₅ ?_⟩
        · rw [ho]
          have e : (pr ++ v :: (runTr ufin step epi x' us).1).length - 1 - (runTr ufin step epi x' us).1.length = pr.length := by simp
          rw [e]; simp
        · obtain ⟨a₅, l₅⟩ := S.down x' s'' s₅ a'' l'' lt₅
          have ltV : LaterX Γ V s'' s₅ := lt₅.weaken (fun b w q => w (q.mono S.le)) fun j w => w
          refine seg_again rfl (ih x' s₅ s₅ p (fun q hq => hus q (.tail _ hq)) (hF₁.later ((lt'.trans g''.later).trans ltV)) o₅ i₅ a₅ l₅ (.refl _ _ _) ⟨pr ++ [v], by rw [ho]; simp⟩ hof)
    · intro e s' hst x'
      rw [runTr_none hst] at hof ⊢
      exact seg_err S.own o₁ i₁ a₁ hof (gs.trans gW₁) x'
    · show Seg _ _ _ _ _ _ _ ((execs body env).wrap (loopOn (.Name "header" px) (.ref I) body [] env) (loopErr env) id id) _ s₂
      rw [hbody, execs_append_wrap, ← hbody]
      refine seg_wrap ?_
      rw [over_loop hh, af_eq]
      exact h₂
end

-- Ge
open PySem PySem.W PyProof.Rows PySem.Calls PySem.SeqAt
set_option Elab.async false
set_option maxRecDepth 100000
set_option linter.unusedVariables false
set_option linter.unusedSimpArgs false

theorem setGen_get {s : Shared} {g j : Nat} {x : GenState} (h : j ≠ g) : (s.setGen g x).gens[j]? = s.gens[j]? := by
  show (s.gens.setIfInBounds g x)[j]? = _
  rw [Array.getElem?_setIfInBounds_ne (Ne.symm h)]
theorem setGen_self {s : Shared} {g : Nat} {x y : GenState} (h : s.gens[g]? = some y) : (s.setGen g x).gens[g]? = some x := by
  have hlt : g < s.gens.size := (Array.getElem?_eq_some_iff.mp h).1
  show (s.gens.setIfInBounds g x)[g]? = _
  rw [Array.getElem?_setIfInBounds_self_of_lt hlt]
theorem setGen_grow (s : Shared) (g : Nat) (x : GenState) : Grow noW (fun j => j = g) s (s.setGen g x) :=
  ⟨fun b o e _ => ⟨o, e, .inl rfl⟩, fun b o e => ⟨o, e, rfl, fun q => q⟩, fun j y e h => (setGen_get h).trans e, by show _ ≤ (s.gens.setIfInBounds g x).size; simp⟩
theorem setGen_inv {Γ : Cx} {s : Shared} {g : Nat} {x : GenState} (i : Inv Γ s) (h : x.bare = true) : Inv Γ (s.setGen g x) := by
  refine ⟨i.base, i.tabs, i.os, fun y hy => ?_⟩
  rcases Array.mem_or_eq_of_mem_setIfInBounds hy with h' | rfl
  · exact i.bare y h'
  · exact h

section
variable {Γ : Cx} {n : Nat} {A : Around} {env : Env} {V W : Wd} {out : List Value} {ofin : Bool} {a : Addr} {g : Nat}

theorem isGen_keep {s s' : Shared} {W' : Addr → Prop} {G' : Nat → Prop} (x : s.heap.IsGen a g) (h : Grow W' G' s s') (ha : ¬ W' a) : s'.heap.IsGen a g := by
  obtain ⟨o, nm, qn, e, c, d⟩ := x
  exact ⟨o, nm, qn, h.get e ha (by rw [c]; decide), c, d⟩

/-- from what a generator does when woken, what it gives -/
theorem feeds_gen (le : V.Le W) (ga : W.G g) (gu : ¬ V.G g) (ak : W.kp a) (an : ¬ W.st a) (ag : ¬ W.lo "generator") (hh : A.handled = none) :
    ∀ (rest : List Value) (s : Shared) (gs' : GenState) (pr : List Value), out = pr ++ rest → s.gens[g]? = some gs' → s.heap.IsGen a g →
      (∀ s'', Grow (fun b => ¬ Keep Γ W s b) (fun j => ¬ V.G j) s s'' → Ok Γ (n + 1) A s''.heap → Inv Γ s'' → gs'.Goes Γ.M A.in1 (EndR (PEnd Γ W ofin) (XEnd Γ W ofin)) (YOut Γ (n + 1) A V W out) rest.length (.send .none) s'') →
      Feeds Γ (n + 1) A a ofin W rest s := by
  have nW : ∀ {s : Shared}, s.heap.IsGen a g → ¬ Ws Γ W s a := fun ⟨o, nm, qn, e, c, d⟩ w => by
    rcases w with w | ⟨_, o', T, e', c', l⟩
    · exact an w
    · rw [e] at e'; cases e'
      rw [c] at c'; cases c'; exact ag l
  have start : ∀ {s s' : Shared} {gs' : GenState}, LaterX Γ W s s' → s.gens[g]? = some gs' → s.heap.IsGen a g → Inv Γ s' → s'.gens[g]? = some gs' ∧ s'.heap.IsGen a g ∧ Inv Γ (s'.setGen g .running) ∧ Grow (fun b => ¬ Keep Γ W s b) (fun j => ¬ V.G j) s (s'.setGen g .running) := fun lt hg hI i =>
    ⟨lt.gens g _ hg (fun q => q ga), isGen_keep hI lt (fun q => q (.inr ak)), setGen_inv i rfl, (lt.weaken (fun _ q => q) fun j q v => q (le.G j v)).trans ((setGen_grow _ g .running).weaken (fun _ q => q.elim) fun j q => by rw [q]; exact gu)⟩
  have comb : ∀ {s' s₁ : Shared} {x : GenState}, GrowX Γ W (s'.setGen g .running) s₁ → GrowX Γ W s' (s₁.setGen g x) := fun {s' s₁ x} gx => by
    have g1 : GrowX Γ W s' (s'.setGen g .running) := (setGen_grow s' g .running).weaken (fun _ q => q.elim) (fun j q => by rw [q]; exact ga)
    have g2 : GrowX Γ W s₁ (s₁.setGen g x) := (setGen_grow s₁ g x).weaken (fun _ q => q.elim) (fun j q => by rw [q]; exact ga)
    exact (g1.trans gx).trans g2
  have bad : ∀ {s' s₁ : Shared} {e : Addr}, s'.heap.IsGen a g → ThrownX Γ W (s'.setGen g .running) e s₁ → (Inv Γ (s₁.setGen g .finished) ∧ (∃ o, s₁.heap.get? e = some o ∧ o.cls = .ref cPE) ∧ (∃ o, s₁.heap.get? a = some o ∧ o.cls = .type "generator" ∧ ∃ i nm qn, o.data = .fields #[i, nm, qn])) := fun {s' s₁ e} hI x => by
    obtain ⟨o, nm, qn, e1, c1, d1, _⟩ := isGen_keep (s := s'.setGen g .running) hI x.grow (nW (s := s'.setGen g .running) hI)
    obtain ⟨_, oe, vs, he, hc, _⟩ := x.exc
    exact ⟨setGen_inv x.inv rfl, ⟨oe, he, hc⟩, o, e1, c1, _, nm, qn, d1⟩
  intro rest
  induction rest with
  | nil =>
    intro s gs' pr ho hg hI hres s' Q E lt o i hq he
    obtain ⟨hg', hI', i', gr⟩ := start lt hg hI i
    refine pyNext_gen hh i.nolimit o.room hI' hg' (hres (s'.setGen g .running) gr o i') (fun v s₁ gs₂ hb hY => ?_) (fun s₁ hP h' k => ?_) (fun e s₁ hX => ?_)
    · obtain ⟨_, i₁, g₁, hk⟩ := hY
      exact (hk s₁ (.refl _ _ _) (show Ok Γ (n + 1) A (s₁.setGen g .running).heap from o.grow (comb (x := .running) g₁)) i₁).elim
    · obtain ⟨_, hf, i₁, g₁⟩ := hP
      have g2 : Grow0 (s₁.setGen g .finished) { s₁.setGen g .finished with heap := h' } := .of_stays (s' := { s₁.setGen g .finished with heap := h' }) k rfl
      exact hq _ hf ((setGen_inv i₁ rfl).stays (s' := { s₁.setGen g .finished with heap := h' }) k rfl rfl) ((comb g₁).trans g2.x)
    · obtain ⟨_, hf, x⟩ := hX
      exact ⟨bad hI' x, he e _ hf ⟨setGen_inv x.inv rfl, comb x.grow, x.exc⟩⟩
  | cons v rest ih =>
    intro s gs' pr ho hg hI hres s' Q E lt o i hq
    obtain ⟨hg', hI', i', gr⟩ := start lt hg hI i
    refine pyNext_gen hh i.nolimit o.room hI' hg' (hres (s'.setGen g .running) gr o i') (fun v' s₁ gs₂ hb hY => ?_) (fun s₁ hP h' k => ?_) (fun e s₁ hX => ?_)
    · obtain ⟨hv, i₁, g₁, hk⟩ := hY
      have e : out.length - 1 - ((v :: rest).length - 1) = pr.length := by rw [ho]; simp
      rw [e, ho] at hv
      have hv' : v = v' := by simpa using hv
      subst hv'
      have hgs : ∃ y, s₁.gens[g]? = some y := by
        have hsz : g < s₁.gens.size := Nat.lt_of_lt_of_le (show g < (s'.setGen g .running).gens.size from (Array.getElem?_eq_some_iff.mp (setGen_self hg')).1) g₁.gsz
        exact ⟨_, Array.getElem?_eq_getElem hsz⟩
      obtain ⟨y, hy⟩ := hgs
      refine hq _ (setGen_inv i₁ hb) (comb g₁) (ih (s₁.setGen g gs₂) gs₂ (pr ++ [v]) (by rw [ho]; simp) (setGen_self hy) (show s₁.heap.IsGen a g from isGen_keep (s := s'.setGen g .running) hI' g₁ (nW (s := s'.setGen g .running) hI')) fun s'' g'' o'' i'' => ?_)
      have gg : Grow (fun b => ¬ Keep Γ W s₁ b) (fun j => ¬ V.G j) s₁ s'' := (show Grow (fun b => ¬ Keep Γ W s₁ b) (fun j => ¬ V.G j) s₁ (s₁.setGen g gs₂) from (setGen_grow s₁ g gs₂).weaken (fun _ q => q.elim) fun j q => by rw [q]; exact gu).trans g''
      exact hk s'' gg o'' i''
    · obtain ⟨h0, _⟩ := hP
      simp at h0
    · obtain ⟨h0, _⟩ := hX
      simp at h0

/-- what may be iterated over -/
noncomputable def Able (Γ : Cx) (n : Nat) (u : Value) (fin : Bool) (W : Wd) (vs : List Value) (s : Shared) : Prop :=
  ∀ (A : Around) (s' : Shared) (Q : Value → Shared → Prop) (E : Value → Shared → Prop), LaterX Γ W s s' → Ok Γ n A s'.heap → Inv Γ s' →
    (∀ I s'', Inv Γ s'' → Grow0 s' s'' → Feeds Γ n A I fin W vs s'' → Q (.ref I) s'') → wpAny Γ.M A (pyIter u) Q E s'
theorem Able.later {fin : Bool} {u : Value} {vs : List Value} {s s' : Shared} (x : Able Γ n u fin W vs s) (l : LaterX Γ W s s') : Able Γ n u fin W vs s' := fun A s'' Q E l' => x A s'' Q E (l.trans l')
theorem able_gen {vs : List Value} {s : Shared} (ak : W.kp a) (hI : s.heap.IsGen a g) (h : ∀ A, A.handled = none → Feeds Γ n A a ofin W vs s) : Able Γ n (.ref a) ofin W vs s := fun A s' Q E l o i hq =>
  wpAny_pyIter_gen (isGen_keep hI l fun q => q (.inr ak)) (hq a s' i (.refl _ _ _) ((h A o.handled).later l))
end

-- Gf
open PySem PySem.W PyProof.Rows PySem.Calls PySem.SeqAt
set_option Elab.async false
set_option maxRecDepth 100000
set_option linter.unusedVariables false
set_option linter.unusedSimpArgs false

section
variable {Γ : Cx} {n : Nat} {A : Around} {env : Env} {V W : Wd} {out : List Value} {ofin ufin : Bool} {a : Addr} {g : Nat} {χ : Type} {step : χ → Fld → Option χ} {epi : χ → Bool} {Lp : χ → Shared → Prop} {ok : Fld → Prop} {pre rest : List Stmt}

/-- from the start -/
theorem stage_fresh {fb pro body : List Stmt} {iter : Expr} {px yp ypos epos fpos : Pos} {x₀ : χ} {L₀ : Shared → Prop} {u : Value} {us : List (Value × Fld)} {s : Shared} (S : Stage Γ n env a g V W χ step epi Lp ok pre rest)
    (hbody : body = pre ++ [.Expr (.Yield (some (.Name "header" yp)) ypos) epos]) (hfb : fb = pro ++ (.For (.Name "header" px) iter body [] fpos :: rest)) (hco : env.scope.isCoroutine = false) (hi : interactive env = false) (hh : A.handled = none) (hs : ∀ x, foldedSetIterable iter env x = pure x)
    (hpro : ∀ A s (Q : Flow → Shared → Prop) (E : Value → Shared → Prop), TopOf A env → Ok Γ n A s.heap → Inv Γ s → Act env s.heap → L₀ s → (∀ s', Inv Γ s' → GrowX Γ W s s' → LaterX Γ V s s' → Act env s'.heap → Lp x₀ s' → Q .next s') → wpAny Γ.M A (execs pro env) Q E s)
    (hit : ∀ A s (Q E : Value → Shared → Prop), Ok Γ n A s.heap → Inv Γ s → Act env s.heap → Lp x₀ s → (∀ s', Inv Γ s' → Grow0 s s' → Q u s') → wpAny Γ.M A (eval iter env) Q E s)
    (hus : ∀ q ∈ us, (fld q.2).p Γ.hb q.1 ∧ ok q.2) (hab : Able Γ n u ufin V (us.map (·.1)) s) (o : Ok Γ (n + 1) A s.heap) (i : Inv Γ s) (ac : Act env s.heap) (hl : L₀ s) (ho : out = (runTr ufin step epi x₀ us).1) (hof : ofin = (runTr ufin step epi x₀ us).2) :
    Seg Γ.M A.in1 (EndR (PEnd Γ W ofin) (XEnd Γ W ofin)) (YOut Γ (n + 1) A V W out) out.length s (.func fb env) (Γ.M.den (.func fb env)) [] s := by
  refine seg_func ?_
  rw [hfb, execs_append_wrap, ← hfb]
  refine seg_execs ?_
  rw [show A.in1.over (.func fb env) [] = A.in1.deeper env from af_eq A fb env]
  refine hpro _ s _ _ (o.topOf S.own) (o.enter S.own ac) i ac hl fun s₁ i₁ g₁ lt₁ a₁ l₁ => ?_
  refine seg_execs_cons (seg_For hs ?_)
  rw [show A.in1.over (.func fb env) [] = A.in1.deeper env from af_eq A fb env]
  have o₁ := o.grow g₁
  refine hit _ s₁ _ _ (o₁.enter S.own a₁) i₁ a₁ l₁ fun s₂ i₂ g₂ => ?_
  obtain ⟨a₂, l₂⟩ := S.up x₀ s₁ s₂ a₁ l₁ g₂.x
  have o₂ := o₁.grow g₂
  refine hab _ s₂ _ _ (lt₁.trans g₂.later) (o₂.enter S.own a₂) i₂ fun I s₃ i₃ g₃ hF p => ?_
  obtain ⟨a₃, l₃⟩ := S.up x₀ s₂ s₃ a₂ l₂ g₃.x
  rw [ho]
  exact stage_loop (l := []) S hbody hco hi hh us x₀ s₃ s p hus hF (o₂.grow g₃) i₃ a₃ l₃ (g₁.trans (Grow0.x (g₂.trans g₃))) ⟨[], rfl⟩ hof

/-- all a stage gives, before it starts -/
theorem stage_able {fb pro body : List Stmt} {iter : Expr} {px yp ypos epos fpos : Pos} {x₀ : χ} {L₀ : Shared → Prop} {u : Value} {us : List (Value × Fld)} {s : Shared} (S : Stage Γ n env a g V W χ step epi Lp ok pre rest)
    (hbody : body = pre ++ [.Expr (.Yield (some (.Name "header" yp)) ypos) epos]) (hfb : fb = pro ++ (.For (.Name "header" px) iter body [] fpos :: rest)) (hco : env.scope.isCoroutine = false) (hi : interactive env = false) (hs : ∀ x, foldedSetIterable iter env x = pure x)
    (hpro : ∀ A s (Q : Flow → Shared → Prop) (E : Value → Shared → Prop), TopOf A env → Ok Γ n A s.heap → Inv Γ s → Act env s.heap → L₀ s → (∀ s', Inv Γ s' → GrowX Γ W s s' → LaterX Γ V s s' → Act env s'.heap → Lp x₀ s' → Q .next s') → wpAny Γ.M A (execs pro env) Q E s)
    (hit : ∀ A s (Q E : Value → Shared → Prop), Ok Γ n A s.heap → Inv Γ s → Act env s.heap → Lp x₀ s → (∀ s', Inv Γ s' → Grow0 s s' → Q u s') → wpAny Γ.M A (eval iter env) Q E s)
    (hdown : ∀ s s', Act env s.heap → L₀ s → Grow (fun b => ¬ Keep Γ W s b) (fun j => ¬ V.G j) s s' → Act env s'.heap ∧ L₀ s')
    (hus : ∀ q ∈ us, (fld q.2).p Γ.hb q.1 ∧ ok q.2) (hab : Able Γ n u ufin V (us.map (·.1)) s) (ac : Act env s.heap) (hl : L₀ s) (hg : s.gens[g]? = some (.fresh (.func fb env))) (hI : s.heap.IsGen a g) :
    ∀ A, A.handled = none → Feeds Γ (n + 1) A a (runTr ufin step epi x₀ us).2 W (runTr ufin step epi x₀ us).1 s := by
  refine fun A hh => feeds_gen (V := V) (out := (runTr ufin step epi x₀ us).1) S.le S.ga S.gu S.ak S.an S.ag hh _ s _ [] rfl hg hI fun s'' gr o i => ⟨rfl, ?_⟩
  obtain ⟨a', l'⟩ := hdown s s'' ac hl gr
  exact stage_fresh S hbody hfb hco hi hh hs hpro hit hus (hab.later (gr.weaken (fun b w q => w (q.mono S.le)) fun j w => w)) o i a' l' rfl rfl
end

/- ---------- a generator made ---------- -/
structure Made (Γ : Cx) (s s' : Shared) (env : Env) (a : Addr) (g : Nat) (fb : List Stmt) (σ : Sto) : Prop where
  inv : Inv Γ s'
  grow : Grow0 s s'
  newL : s.heap.get? env.locals = none
  newA : s.heap.get? a = none
  ne : a ≠ env.locals
  num : g = s.gens.size
  act : Act env s'.heap
  own : Own2 Γ env
  sat : Sat env s'.heap σ
  isGen : s'.heap.IsGen a g
  gen : s'.gens[g]? = some (.fresh (.func fb env))

theorem gen_made {Γ : Cx} {n : Nat} {A : Around} {s : Shared} {vs : List Value} {Rr : Result → Shared → Prop} {f : Addr} {oc : Value} {od : Option Addr} {sl : Array (Option Value)} {fd : FuncData} {body : List Stmt} {names : List Str} {Ps : List Pd}
    (hK : Γ.Kf.lookup f = some ⟨oc, od, .func fd, sl⟩) (hb : fd.body = .stmts body) (hcode : codeIn Γ.Kf fd.code fd.qualname = true)
    (hbind : ∀ vs : List Value, vs.length = Ps.length → bindArgs fd ⟨vs, []⟩ = pure (names.zip vs)) (hnd : names.Nodup) (hlen : names.length = Ps.length) (hloc : ∀ x ∈ names, fd.scope.names.lookup x = some .local) (hcell : ∀ x ∈ fd.scope.names, x.2 ≠ .cell)
    (hcl : fd.closure = []) (hgl : fd.globals = mainGlobals) (hbl : fd.builtins = builtinsNs) (hco : fd.scope.isCoroutine = false) (hgen : fd.scope.isGenerator = true) (hk : fd.scope.kind = .function)
    (o : Ok Γ n A s.heap) (i : Inv Γ s) (q : All2 s.heap Ps vs) (h : ∀ L a s', Made Γ s s' (callEnv fd L f) a s.gens.size body (names.zip Ps) → Rr (.ok (.ret (.ref a))) s') : codeAny Γ.M A (.call (.ref f) ⟨vs, []⟩) Rr s := by
  have hlv : vs.length = Ps.length := q.length
  refine codeAny_call_generator o.room (i.K _ _ hK) rfl hco hgen hb (codeRec_of i.K hcode) ?_
  rw [hbind vs hlv]
  refine wpAny_pure ?_
  refine newEnv_at hk hcell (fun x hx => hloc x.1 (List.of_mem_zip (show (x.1, x.2) ∈ names.zip vs from hx)).1) fun h' tk n' c' k sb => ?_
  rw [hcl]
  have i' : Inv Γ { s with heap := h', toks := tk } := i.stays k rfl rfl
  refine ⟨i'.nolimit, ?_⟩
  have hkeys : ((names.zip vs).map (·.1)).Nodup := by rw [List.map_fst_zip (by omega)]; exact hnd
  have ee : newEnv fd.scope s.heap.objs.size fd.globals [] (fd.qualname ++ ".<locals>.") (some f) fd.code none fd.builtins = callEnv fd s.heap.objs.size f := by unfold callEnv; rw [hcl]
  rw [ee]
  have he : EnvOk (callEnv fd s.heap.objs.size f) := ⟨hk, hgl, hbl⟩
  have kk := stays_push h' { cls := .type "generator", data := .fields #[.int s.gens.size 0, .str fd.name tk, .str fd.qualname (tk + 1)] }
  have hsz : ∀ b, h'.objs.size ≤ b → s.heap.get? b = none := fun b hb => by
    cases e : s.heap.get? b with
    | none => rfl
    | some o => exact absurd (Heap.lt_size (k _ _ e)) (Nat.not_lt.mpr hb)
  obtain ⟨oL, eL, cL⟩ := c'
  refine h s.heap.objs.size h'.objs.size _ ⟨⟨fun b o e => kk b o (i'.base b o e), fun q m => let ⟨ps, a, b⟩ := i'.tabs q m; ⟨ps, a.keeps kk, b.keeps kk⟩, i.os, i.bare.push rfl⟩,
    ⟨fun b o e _ => ⟨o, kk b o (k b o e), .inl rfl⟩, fun b o e => ⟨o, kk b o (k b o e), rfl, fun q => q⟩, fun j y e _ => ?_, ?_⟩, get_size _, hsz _ (Nat.le_refl _), ?_, rfl, ⟨⟨_, n'.keeps kk⟩, oL, kk _ _ eL, cL⟩, ⟨own_of i he rfl, rfl⟩, ?_, ⟨_, _, _, Heap.get?_push_size _ rfl, rfl, rfl, rfl⟩, ?_⟩
  · show (s.gens.push _)[j]? = some y
    have hj : j < s.gens.size := (Array.getElem?_eq_some_iff.mp e).1
    rw [Array.getElem?_push_lt hj]
    rw [Array.getElem?_eq_getElem hj] at e; exact e
  · show s.gens.size ≤ (s.gens.push _).size
    simp
  · intro e
    have h1 := Heap.lt_size eL
    rw [show (callEnv fd s.heap.objs.size f).locals = s.heap.objs.size from rfl] at e
    rw [← e] at h1
    exact Nat.lt_irrefl _ h1
  · intro x P e
    obtain ⟨v, ev, pv⟩ := (q.mono (.of_stays fun b o e => kk b o (k b o e))).zip_lookup e
    refine ⟨v, .inl ⟨?_, _, n'.keeps kk, by rw [lookup_rev hkeys]; exact ev⟩, pv⟩
    have hx : x ∈ names := by
      have : ∃ p ∈ names.zip Ps, p.1 = x := by
        cases hf : (names.zip Ps).lookup x with
        | none => rw [hf] at e; cases e
        | some P' =>
          have m := mem_of_lookup hf
          exact ⟨_, m, rfl⟩
      obtain ⟨p', hp', rfl⟩ := this
      exact (List.of_mem_zip (show (p'.1, p'.2) ∈ names.zip Ps from hp')).1
    exact hloc x hx
  · show (s.gens.push _)[s.gens.size]? = _
    simp

-- Gg
open PySem PySem.W PyProof.Rows PySem.Calls PySem.SeqAt
set_option Elab.async false
set_option maxRecDepth 100000
set_option linter.unusedVariables false
set_option linter.unusedSimpArgs false

/- ---------- texts ---------- -/
theorem bs_slot_repr : Slot "bytes" "__repr__" "bytes.__repr__" :=
  .of (owner := "bytes") (n := "__repr__") (by rw [typeLookup_type, builtinLookup_eq_fast]; kernel_rfl) (by decide +kernel) (by decide +kernel) (by decide +kernel)
    (by first | exact .inl (by decide +kernel) | exact .inr (by decide +kernel)) (by rw [isSubtype_type]; kernel_rfl)
theorem bs_entry_repr : entryFor table "bytes.__repr__" = some Builtin.«bytes.__repr__» := entryFor_of_tree (by kernel_rfl)
theorem bs_args_repr (a : Value) : argsOk "bytes.__repr__" ⟨[a], []⟩ := by
  unfold argsOk; rw [signature?_of (id := "bytes.__repr__") (n := ['_', '_', 'r', 'p', 'e', 'r', '_', '_']) (o := ['s', 'e', 't', 'y', 'b']) (by kernel_rfl) FB.owner_bytes]; kernel_rfl

noncomputable def shownQ (quote c : Nat) : Array Nat :=
  if ((c == if false = true then 39 else quote) || c == 92) = true then #[92, c]
  else if (c == 9) = true then #[92, 116]
  else if (c == 10) = true then #[92, 110]
  else if (c == 13) = true then #[92, 114]
  else if (decide (c < 32) || decide (c ≥ 127)) = true then #[92, 120, if c / 16 < 10 then 48 + c / 16 else 87 + c / 16, if c % 16 < 10 then 48 + c % 16 else 87 + c % 16]
  else #[c]
theorem shownQ_size (quote c : Nat) : (shownQ quote c).size ≤ 4 := by
  unfold shownQ
  generalize (if false = true then 39 else quote : Nat) = q
  split
  · simp
  split
  · simp
  split
  · simp
  split
  · simp
  split
  · simp
  · simp
theorem literal_len (b : Array UInt8) : (Builtin.Bytes.literal b).length ≤ 4 * b.size + 3 := by
  unfold Builtin.Bytes.literal
  dsimp only
  generalize (if (b.contains 39 && !b.contains 34) = true then 34 else 39 : Nat) = quote
  have key : ∀ (f : Nat → Array Nat) (hf : ∀ c, (f c).size ≤ 4) (l : List UInt8) (acc : Array Nat), (l.foldl (fun acc c => acc ++ f c.toNat) acc).size ≤ acc.size + 4 * l.length := by
    intro f hf l
    induction l with
    | nil => intro acc; simp
    | cons c l ih =>
      intro acc
      have h1 := ih (acc ++ f c.toNat)
      have h2 := hf c.toNat
      simp only [List.foldl_cons, List.length_cons]
      rw [Array.size_append] at h1
      omega
  show (Array.push _ _).size ≤ _
  rw [Array.size_push, ← Array.foldl_toList]
  have hk := key (shownQ quote) (shownQ_size quote) b.toList #[98, quote]
  refine Nat.le_trans (Nat.add_le_add_right hk 1) ?_
  simp
  omega
theorem gives_repr (b : Array UInt8) (t : Tok) (h : b.size ≤ 100000) : Gives (Builtin.«bytes.__repr__» ⟨[.bytes b t], []⟩) (.str (Builtin.Bytes.literal b)) := by
  have e : Builtin.Bytes.literalAsked b = pure (Builtin.Bytes.literal b) := by
    unfold Builtin.Bytes.literalAsked
    have h1 : Builtin.Bytes.tooLong (4 * b.size + 3 + 0) = false := by
      unfold Builtin.Bytes.tooLong
      rw [sizeLine_eq, decide_eq_false_iff_not]; omega
    rw [h1]; rfl
  show Gives (Builtin.Bytes.literalAsked b >>= fun r => retStr r) _
  rw [e]
  exact .of_eq rfl

section
variable {Γ : Cx} {n : Nat} {env : Env} {σ : Sto}
theorem EvD.fmtS {v : Expr} {pos : Pos} {k : Nat} (x : EvD Γ n env σ v (.text k)) (hk : k ≤ 1000000) : EvD Γ n env σ (.FormattedValue v (-1) none pos) (.text k) := fun A s Q E o i t p => by
  refine wpAny_FormattedValue_plain (x A s _ E o i t fun u s₁ i₁ g₁ ⟨y, tk, hu, hl⟩ => ?_)
  subst hu
  exact wpAny_formatField_str ((p.grow g₁).same (tk := s₁.toks) i₁ ⟨y, tk, rfl, hl⟩) ((p.grow g₁).same i₁ ⟨y, _, rfl, hl⟩) (by rw [sizeLine_eq]; omega)
theorem EvD.fmtR {v : Expr} {pos : Pos} {b : Bs} (x : EvD Γ n env σ v (.bytes b)) (hb : b.length ≤ 2000) : EvD Γ n env σ (.FormattedValue v 114 none pos) (.text 8003) := fun A s Q E o i t p => by
  refine wpAny_FormattedValue_repr (x A s _ E o i t fun u s₁ i₁ g₁ ⟨tk, hu⟩ => ?_)
  subst hu
  have hl := literal_len b.toArray
  have hl' : (Builtin.Bytes.literal b.toArray).length ≤ 8003 := by
    refine Nat.le_trans hl ?_
    simp; omega
  refine wpAny_pyReprObj_gives (typeIs_bytes _ _ _) bs_slot_repr bs_entry_repr (bs_args_repr _) (gives_repr _ _ (by simp; omega)) ?_ rfl (by rw [sizeLine_eq]; omega)
  have q := p.grow g₁
  exact wpAny_formatField_str (q.same i₁ ⟨_, _, rfl, hl'⟩) (q.same i₁ ⟨_, _, rfl, hl'⟩) (by rw [sizeLine_eq]; omega)
noncomputable def JnD (Γ : Cx) (n : Nat) (env : Env) (σ : Sto) (es : List Expr) (k : Nat) : Prop :=
  ∀ (acc : Str) (A : Around) (s : Shared) (Q : Str → Shared → Prop) (E : Value → Shared → Prop), Ok Γ n A s.heap → Inv Γ s → Sat env s.heap σ → acc.length + k ≤ 1000000 → (∀ y s', Inv Γ s' → Grow0 s s' → y.length ≤ acc.length + k → Q y s') → Joins Γ.M A E (evalEach es env) acc Q s
theorem JnD.nil : JnD Γ n env σ [] 0 := fun acc A s Q E _ i _ _ h => h acc s i (.refl _ _ _) (Nat.le_refl _)
theorem JnD.cons {e : Expr} {es : List Expr} {a b : Nat} (x : EvD Γ n env σ e (.text a)) (y : JnD Γ n env σ es b) : JnD Γ n env σ (e :: es) (a + b) := fun acc A s Q E o i t hk h =>
  x A s _ E o i t fun v s₁ i₁ g₁ ⟨u, tk, hu, hl⟩ => ⟨u, tk, hu, by rw [strLen_append, sizeLine_eq]; omega, y (acc ++ u) A s₁ Q E (o.grow g₁) i₁ (t.grow0 g₁) (by rw [strLen_append]; omega) fun z s₂ i₂ g₂ hz => h z s₂ i₂ (g₁.trans g₂) (by rw [strLen_append] at hz; omega)⟩
theorem EvD.fstr {e₁ e₂ : Expr} {es : List Expr} {pos : Pos} {k : Nat} (x : JnD Γ n env σ (e₁ :: e₂ :: es) k) (hk : k ≤ 1000000) : EvD Γ n env σ (.JoinedStr (e₁ :: e₂ :: es) pos) (.text k) := fun A s Q E o i t p =>
  wpAny_JoinedStr (x Str.empty A s _ E o i t (by show 0 + k ≤ _; omega) fun y s₁ i₁ g₁ hy => ⟨by rw [sizeLine_eq]; have : Str.empty.length = 0 := rfl; omega, (p.grow g₁).same i₁ ⟨y, _, rfl, by have : Str.empty.length = 0 := rfl; omega⟩⟩)
theorem chr_d {c : UInt8} : CaD Γ n (.builtin "chr") [.int c.toNat] (.text 1) := fun A s vs Q E o i q p => by
  obtain ⟨v, rfl, t, hv⟩ := q.one
  subst hv
  have hc : c.toNat < 256 := c.toNat_lt
  exact chr_of_range (by omega) (by omega) (p.same i ⟨_, _, rfl, Nat.le_refl _⟩)
end

-- Gh
open PySem PySem.W PyProof.Rows PySem.Calls PySem.SeqAt
set_option Elab.async false
set_option maxRecDepth 100000
set_option linter.unusedVariables false
set_option linter.unusedSimpArgs false

noncomputable def hdrP (v : Value) (f : Fld) : Pd := ⟨fun h w => w = v ∧ (fld f).p h w, fun k ⟨a, b⟩ => ⟨a, (fld f).mono k b⟩⟩
theorem hdr_fld {Γ : Cx} {n : Nat} {env : Env} {σ : Sto} {e : Expr} {v : Value} {f : Fld} (x : EvD Γ n env σ e (hdrP v f)) : EvD Γ n env σ e (fld f) := x.imp fun _ _ q => q.2
noncomputable abbrev mkW (V : Wd) (L a g : Nat) (C : Addr → Prop) : Wd := ⟨fun b => V.st b ∨ b = L, V.lo, fun b => V.kp b ∨ b = a ∨ C b, fun j => V.G j ∨ j = g⟩
noncomputable def PureS (σ : Sto) : Prop := ∀ x P, σ.lookup x = some P → Pure P

theorem sat_keep {env : Env} {σ : Sto} {s s' : Shared} {W' : Addr → Prop} {G' : Nat → Prop} (t : Sat env s.heap σ) (pu : PureS σ) (g : Grow W' G' s s') (hL : ¬ W' env.locals) (hC : ∀ x c, env.cells.lookup x = some c → ¬ W' c) : Sat env s'.heap σ := fun x P hx => by
  obtain ⟨v, l, q⟩ := t x P hx
  refine ⟨v, ?_, pu x P hx _ _ _ q⟩
  rcases l with ⟨k, m, nn, e⟩ | ⟨k, c, e, o, e1, q1, q2⟩
  · exact .inl ⟨k, m, g.ns nn hL, e⟩
  · exact .inr ⟨k, c, e, o, g.get e1 (hC x c e) (by rw [q1]; decide), q1, q2⟩

theorem ws_not {Γ : Cx} {V : Wd} {s : Shared} {b : Addr} {T : String} {o : Obj} (h1 : ¬ V.st b) (e : s.heap.get? b = some o) (c : o.cls = .type T) (hl : ¬ V.lo T) : ¬ Ws Γ V s b := fun w => by
  rcases w with w | ⟨_, o', T', e', c', l⟩
  · exact h1 w
  · rw [e] at e'; cases e'
    rw [c] at c'; cases c'; exact hl l
theorem ws_none {Γ : Cx} {V : Wd} {s : Shared} {b : Addr} (h1 : ¬ V.st b) (e : s.heap.get? b = none) : ¬ Ws Γ V s b := fun w => by
  rcases w with w | ⟨_, o', T', e', c', l⟩
  · exact h1 w
  · rw [e] at e'; cases e'

section
variable {Γ : Cx} {n : Nat} {env : Env} {V : Wd} {a : Addr} {g : Nat} {χ : Type} {step : χ → Fld → Option χ} {epi : χ → Bool} {σ : χ → Sto} {ok : Fld → Prop} {pre rest : List Stmt} {C : Addr → Prop}
structure Apart (Γ : Cx) (env : Env) (V : Wd) (a : Addr) (g : Nat) (C : Addr → Prop) : Prop where
  nL : ¬ V.st env.locals
  nLk : ¬ V.kp env.locals
  na : ¬ V.st a
  haL : a ≠ env.locals
  ng : ¬ V.G g
  lof : ¬ V.lo "frame"
  log : ¬ V.lo "generator"
  loc : ¬ V.lo "cell"
  nC : ∀ x c, env.cells.lookup x = some c → C c ∧ ¬ V.st c ∧ c ≠ env.locals

theorem cell_not {σ : Sto} {s : Shared} (t : Sat env s.heap σ) (h1 : ¬ V.lo "cell") : ∀ x P c, σ.lookup x = some P → env.kindOf x ≠ some .local → env.cells.lookup x = some c → ¬ V.st c → ¬ Ws Γ V s c := fun x P c hx hk hc hst => by
  obtain ⟨v, l, q⟩ := t x P hx
  rcases l with ⟨k, _⟩ | ⟨k, c', e, o, e1, q1, q2⟩
  · exact absurd k hk
  · rw [hc] at e; cases e
    exact ws_not hst e1 q1 h1

theorem sat_keep' {σ : Sto} {s s' : Shared} {W' : Addr → Prop} {G' : Nat → Prop} (t : Sat env s.heap σ) (pu : PureS σ) (g : Grow W' G' s s') (hL : ¬ W' env.locals) (hC : ∀ c o, s.heap.get? c = some o → o.cls = .type "cell" → (∃ x, env.cells.lookup x = some c) → ¬ W' c) : Sat env s'.heap σ := fun x P hx => by
  obtain ⟨v, l, q⟩ := t x P hx
  refine ⟨v, ?_, pu x P hx _ _ _ q⟩
  rcases l with ⟨k, m, nn, e⟩ | ⟨k, c, e, o, e1, q1, q2⟩
  · exact .inl ⟨k, m, g.ns nn hL, e⟩
  · exact .inr ⟨k, c, e, o, g.get e1 (hC c o e1 q1 ⟨x, e⟩) (by rw [q1]; decide), q1, q2⟩

theorem mkStage (own : Own2 Γ env) (hdr : env.kindOf "header" = some .local) (ap : Apart Γ env V a g C) (pu : ∀ x, PureS (σ x)) (hσ : ∀ x, (σ x).lookup ("header" : Str) = none)
    (turn : ∀ x v f, ok f → RunD Γ n env (("header", hdrP v f) :: σ x) pre ((step x f).map fun x' => ("header", hdrP v f) :: σ x'))
    (epil : ∀ x, ∃ τ, RunD Γ n env (σ x) rest (if epi x then some τ else none)) : Stage Γ n env a g V (mkW V env.locals a g C) χ step epi (fun x s => Sat env s.heap (σ x)) ok pre rest := by
  have hLV : ∀ {s : Shared}, Act env s.heap → ¬ Keep Γ V s env.locals := fun ac k => by
    obtain ⟨o, e, c⟩ := ac.fr
    rcases k with k | k
    · exact ws_not ap.nL e c ap.lof k
    · exact ap.nLk k
  have toW : ∀ {s s' : Shared}, GrowL env s s' → GrowX Γ (mkW V env.locals a g C) s s' := fun gg => gg.weaken (fun b hb => .inl (.inr hb)) (fun _ q => q.elim)
  refine
    { own := own
      le := ⟨fun _ h => .inl h, fun _ h => h, fun _ h => .inl h, fun _ h => .inl h⟩
      ga := .inr rfl
      gu := ap.ng
      wg := fun j h => h.symm
      ak := .inr (.inl rfl)
      an := fun h => h.elim ap.na ap.haL
      ag := ap.log
      hdr := hdr
      up := fun x s s' ac hl gg => ?_
      down := fun x s s' ac hl gg => ?_
      turn := fun A s x v f Q E tp o i ac hl hv hok hq he px => ?_
      epil := fun A s x Q E tp o i ac hl hq he => ?_ }
  · have hL : ¬ Ws Γ V s env.locals := fun w => hLV ac (.inl w)
    exact ⟨ac.grow gg hL, sat_keep' hl (pu x) gg hL fun c o e c' ⟨y, hy⟩ => ws_not (ap.nC y c hy).2.1 e c' ap.loc⟩
  · have hL : ¬ ¬ Keep Γ (mkW V env.locals a g C) s env.locals := fun w => w (.inl (.inl (.inr rfl)))
    exact ⟨ac.grow gg hL, sat_keep' hl (pu x) gg hL fun c o e c' ⟨y, hy⟩ w => w (.inr (.inr (.inr (ap.nC y c hy).1)))⟩
  · have pv : (hdrP v f).p s.heap v := ⟨rfl, (fld f).mono (.of_stays i.base) hv⟩
    refine wpAny_assign_Name (store_at (P := hdrP v f) own.own.ok own.own.new hdr ac i own.own.tab hl pv fun s₁ i₁ g₁ a₁ t₁ => ?_)
    refine turn x v f hok A s₁ Q E tp (o.grow g₁) i₁ own.own a₁ t₁ (fun σ' s₂ hs i₂ g₂ a₂ t₂ => ?_) fun e s₂ hs x₂ => ?_
    · cases hst : step x f with
      | none => rw [hst] at hs; cases hs
      | some x' =>
        rw [hst] at hs; cases hs
        have gg := g₁.trans g₂
        obtain ⟨w, lw, hw, _⟩ := t₂ ("header" : Str) _ lookup_cons_eq
        cases hw
        refine hq x' s₂ hst i₂ (toW gg) (gg.weaken (fun b hb k => ?_) fun _ q => q.elim) a₂ (fun y P hy => ?_) lw
        · exact hLV ac ((show b = env.locals from hb) ▸ k)
        · refine t₂ y P ?_
          by_cases hyx : y = "header"
          · subst hyx; rw [hσ] at hy; cases hy
          · rw [lookup_cons_ne hyx]; exact hy
    · cases hst : step x f with
      | some x' => rw [hst] at hs; cases hs
      | none => exact he e s₂ hst ((x₂.back g₁).weaken (fun b hb => .inl (.inr hb)) fun _ q => q.elim)
  · obtain ⟨τ, hr⟩ := epil x
    refine hr A s Q E tp o i own.own ac hl (fun σ' s₂ hs i₂ g₂ a₂ t₂ => ?_) fun e s₂ hs x₂ => ?_
    · cases he' : epi x with
      | false => rw [he'] at hs; cases hs
      | true => exact hq s₂ he' i₂ (toW g₂)
    · cases he' : epi x with
      | true => rw [he'] at hs; cases hs
      | false => exact he e s₂ he' (x₂.weaken (fun b hb => .inl (.inr hb)) fun _ q => q.elim)
end

-- Gi
open PySem PySem.W PyProof.Rows PySem.Calls PySem.SeqAt
set_option Elab.async false
set_option maxRecDepth 100000
set_option linter.unusedVariables false
set_option linter.unusedSimpArgs false

/-- what may be iterated over, made after s₀ -/
noncomputable def AbleX (Γ : Cx) (n : Nat) (s₀ : Shared) (u : Value) (fin : Bool) (lo : String → Prop) (vs : List Value) (s : Shared) : Prop :=
  ∃ W : Wd, W.lo = lo ∧ Able Γ n u fin W vs s ∧ (∀ b, W.st b ∨ W.kp b → s₀.heap.get? b = none ∧ ∃ o, s.heap.get? b = some o) ∧ (∀ j, W.G j → j < s.gens.size) ∧ (∀ b, W.st b → ∃ o, s.heap.get? b = some o ∧ o.cls = .type "frame")
noncomputable def Dom (s₀ s : Shared) : Prop := ∀ b, s.heap.get? b = none → s₀.heap.get? b = none
theorem Dom.of {W : Addr → Prop} {G : Nat → Prop} {s₀ s : Shared} (g : Grow W G s₀ s) : Dom s₀ s := fun b h => News.back g h
theorem Dom.trans {s₁ s₂ s₃ : Shared} (x : Dom s₁ s₂) (y : Dom s₂ s₃) : Dom s₁ s₃ := fun b h => x b (y b h)

section
variable {Γ : Cx} {n : Nat} {s₀ s s' : Shared} {u : Value} {fin ufin : Bool} {lo : String → Prop} {vs : List Value}
theorem AbleX.grow {W' : Addr → Prop} {G' : Nat → Prop} (x : AbleX Γ n s₀ u fin lo vs s) (g : Grow W' G' s s') (hW : ∀ b, W' b → (∃ o, s₀.heap.get? b = some o) ∧ ∃ o, s.heap.get? b = some o ∧ (∀ T, o.cls = .type T → ¬ lo T)) (hG : ∀ j, ¬ G' j) : AbleX Γ n s₀ u fin lo vs s' := by
  obtain ⟨W, hlo, ha, hs, hg, hfr⟩ := x
  refine ⟨W, hlo, ha.later (g.weaken (fun b w k => ?_) fun j q => (hG j q).elim), fun b hb => ?_, fun j hj => Nat.lt_of_lt_of_le (hg j hj) g.gsz, fun b hb => let ⟨o, e, c⟩ := hfr b hb; let ⟨o', e', c', _⟩ := g.dom b o e; ⟨o', e', c'.trans c⟩⟩
  · obtain ⟨⟨o₀, e₀⟩, o, e, hT⟩ := hW b w
    rcases k with (k | ⟨_, o', T, e', c', l⟩) | k
    · rw [(hs b (.inl k)).1] at e₀; cases e₀
    · rw [e] at e'; cases e'
      exact hT T c' (hlo ▸ l)
    · rw [(hs b (.inr k)).1] at e₀; cases e₀
  · obtain ⟨h1, o, h2⟩ := hs b hb
    obtain ⟨o', h3, _⟩ := g.dom b o h2
    exact ⟨h1, o', h3⟩
theorem AbleX.grow0 (x : AbleX Γ n s₀ u fin lo vs s) (g : Grow0 s s') : AbleX Γ n s₀ u fin lo vs s' := x.grow g (fun _ h => h.elim) fun _ h => h

/-- a generator made after s₀ -/
noncomputable def SrcX (Γ : Cx) (n : Nat) (s₀ : Shared) (a : Addr) (fin : Bool) (lo : String → Prop) (vs : List Value) (s : Shared) : Prop :=
  ∃ (W : Wd) (g : Nat), W.lo = lo ∧ W.kp a ∧ s.heap.IsGen a g ∧ (∀ A, A.handled = none → Feeds Γ n A a fin W vs s) ∧ (∀ b, W.st b ∨ W.kp b → s₀.heap.get? b = none ∧ ∃ o, s.heap.get? b = some o) ∧ (∀ j, W.G j → j < s.gens.size) ∧ (∀ b, W.st b → ∃ o, s.heap.get? b = some o ∧ o.cls = .type "frame")
theorem SrcX.able {a : Addr} (x : SrcX Γ n s₀ a fin lo vs s) : AbleX Γ n s₀ (.ref a) fin lo vs s := let ⟨W, g, h1, h2, h3, h4, h5, h6⟩ := x; ⟨W, h1, able_gen h2 h3 h4, h5, h6⟩
theorem SrcX.grow {a : Addr} {W' : Addr → Prop} {G' : Nat → Prop} (x : SrcX Γ n s₀ a fin lo vs s) (g : Grow W' G' s s') (hW : ∀ b, W' b → (∃ o, s₀.heap.get? b = some o) ∧ ∃ o, s.heap.get? b = some o ∧ (∀ T, o.cls = .type T → ¬ lo T)) (hG : ∀ j, ¬ G' j) : SrcX Γ n s₀ a fin lo vs s' := by
  obtain ⟨W, gg, hlo, hk, hI, ha, hs, hg, hfr⟩ := x
  have lt : LaterX Γ W s s' := g.weaken (fun b w k => by
    obtain ⟨⟨o₀, e₀⟩, o, e, hT⟩ := hW b w
    rcases k with (k | ⟨_, o', T, e', c', l⟩) | k
    · rw [(hs b (.inl k)).1] at e₀; cases e₀
    · rw [e] at e'; cases e'
      exact hT T c' (hlo ▸ l)
    · rw [(hs b (.inr k)).1] at e₀; cases e₀) fun j q => (hG j q).elim
  refine ⟨W, gg, hlo, hk, isGen_keep hI lt fun q => q (.inr hk), fun A hA => (ha A hA).later lt, fun b hb => ?_, fun j hj => Nat.lt_of_lt_of_le (hg j hj) g.gsz, fun b hb => let ⟨o, e, c⟩ := hfr b hb; let ⟨o', e', c', _⟩ := g.dom b o e; ⟨o', e', c'.trans c⟩⟩
  obtain ⟨h1, o, h2⟩ := hs b hb
  obtain ⟨o', h3, _⟩ := g.dom b o h2
  exact ⟨h1, o', h3⟩
theorem SrcX.grow0 {a : Addr} (x : SrcX Γ n s₀ a fin lo vs s) (g : Grow0 s s') : SrcX Γ n s₀ a fin lo vs s' := x.grow g (fun _ h => h.elim) fun _ h => h

variable {env : Env} {a : Addr} {g : Nat} {χ : Type} {step : χ → Fld → Option χ} {epi : χ → Bool} {σ : χ → Sto} {ok : Fld → Prop} {pre rest : List Stmt}
theorem apart_of {fb : List Stmt} {σ₀ : Sto} {V : Wd} (md : Made Γ s s' env a g fb σ₀) (hc : env.cells = []) (hs : ∀ b, V.st b ∨ V.kp b → s₀.heap.get? b = none ∧ ∃ o, s.heap.get? b = some o) (hg : ∀ j, V.G j → j < s.gens.size) (h1 : ¬ V.lo "frame") (h2 : ¬ V.lo "generator") (h3 : ¬ V.lo "cell") : Apart Γ env V a g (fun _ => False) := by
  refine ⟨fun h => ?_, fun h => ?_, fun h => ?_, md.ne, fun h => ?_, h1, h2, h3, fun x c h => by rw [hc] at h; simp at h⟩
  · obtain ⟨_, o, e⟩ := hs _ (.inl h)
    rw [md.newL] at e; cases e
  · obtain ⟨_, o, e⟩ := hs _ (.inr h)
    rw [md.newL] at e; cases e
  · obtain ⟨_, o, e⟩ := hs _ (.inl h)
    rw [md.newA] at e; cases e
  · have := hg _ h
    rw [md.num] at this; exact Nat.lt_irrefl _ this

/-- a stage without cells: what it gives, once made -/
theorem stage_simple {fb pro body : List Stmt} {iter : Expr} {px yp ypos epos fpos : Pos} {x₀ : χ} {us : List (Value × Fld)} {FL : Pd} (md : Made Γ s s' env a g fb [("headers", .eq u), ("hdr_validation_flags", FL)]) (hc : env.cells = []) (hab : AbleX Γ n s₀ u ufin lo (us.map (·.1)) s) (hd : Dom s₀ s)
    (h1 : ¬ lo "frame") (h2 : ¬ lo "generator") (h3 : ¬ lo "cell") (hFL : Pure FL) (hdr : env.kindOf "header" = some .local) (pu : ∀ x, PureS (σ x)) (hσ : ∀ x, (σ x).lookup ("header" : Str) = none)
    (hbody : body = pre ++ [.Expr (.Yield (some (.Name "header" yp)) ypos) epos]) (hfb : fb = pro ++ (.For (.Name "header" px) iter body [] fpos :: rest)) (hco : env.scope.isCoroutine = false) (hi : interactive env = false) (hs : ∀ x, foldedSetIterable iter env x = pure x)
    (hpro : StsD Γ n env [("headers", .eq u), ("hdr_validation_flags", FL)] pro (σ x₀)) (hit : EvD Γ n env (σ x₀) iter (.eq u))
    (turn : ∀ x v f, ok f → RunD Γ n env (("header", hdrP v f) :: σ x) pre ((step x f).map fun x' => ("header", hdrP v f) :: σ x'))
    (epil : ∀ x, ∃ τ, RunD Γ n env (σ x) rest (if epi x then some τ else none)) (hus : ∀ q ∈ us, (fld q.2).p Γ.hb q.1 ∧ ok q.2) :
    SrcX Γ (n + 1) s₀ a (runTr ufin step epi x₀ us).2 lo (runTr ufin step epi x₀ us).1 s' := by
  obtain ⟨V, hlo, ha, hst, hG, hfr⟩ := hab
  subst hlo
  have ap := apart_of md hc hst hG h1 h2 h3
  have S := mkStage (rest := rest) (epi := epi) md.own hdr ap pu hσ turn epil
  have pL : PureS [("headers", .eq u), ("hdr_validation_flags", FL)] := fun x P hx => by
    by_cases h : x = "headers"
    · subst h; rw [lookup_cons_eq] at hx; cases hx; exact fun _ _ _ q => q
    · rw [lookup_cons_ne h] at hx
      by_cases h' : x = "hdr_validation_flags"
      · subst h'; rw [lookup_cons_eq] at hx; cases hx; exact hFL
      · rw [lookup_cons_ne h'] at hx; simp at hx
  have hLV : ∀ {s : Shared}, Act env s.heap → ¬ Keep Γ V s env.locals := fun ac k => by
    obtain ⟨o, e, c⟩ := ac.fr
    rcases k with k | k
    · exact ws_not ap.nL e c ap.lof k
    · exact ap.nLk k
  refine ⟨mkW V env.locals a g (fun _ => False), g, rfl, .inr (.inl rfl), md.isGen, stage_able (L₀ := fun s => Sat env s.heap [("headers", .eq u), ("hdr_validation_flags", FL)]) S hbody hfb hco hi hs (fun A s Q E tp o i ac hl hq => ?_) (fun A s Q E o i ac hl hq => ?_) (fun s s' ac hl gr => ?_) hus (ha.later md.grow.later) md.act md.sat md.gen md.isGen, fun b hb => ?_, fun j hj => ?_, fun b hb => ?_⟩
  · refine hpro A s Q E o i md.own.own ac hl fun s₁ i₁ g₁ a₁ t₁ => hq s₁ i₁ (g₁.weaken (fun b hb => .inl (.inr hb)) fun _ q => q.elim) (g₁.weaken (fun b hb k => ?_) fun _ q => q.elim) a₁ t₁
    exact hLV ac ((show b = env.locals from hb) ▸ k)
  · refine hit A s _ E o i hl fun v s₁ i₁ g₁ hv => ?_
    cases (show v = u from hv)
    exact hq s₁ i₁ g₁
  · have hL : ¬ ¬ Keep Γ (mkW V env.locals a g (fun _ => False)) s env.locals := fun w => w (.inl (.inl (.inr rfl)))
    exact ⟨ac.grow gr hL, sat_keep' hl pL gr hL fun c o e c' ⟨y, hy⟩ => by rw [hc] at hy; simp at hy⟩
  · have old : ∀ {b : Addr}, (s₀.heap.get? b = none ∧ ∃ o, s.heap.get? b = some o) → s₀.heap.get? b = none ∧ ∃ o, s'.heap.get? b = some o := fun ⟨p, o, q⟩ => ⟨p, let ⟨o', q', _⟩ := md.grow.dom _ _ q; ⟨o', q'⟩⟩
    rcases hb with (hb | rfl) | (hb | rfl | hb)
    · exact old (hst b (.inl hb))
    · obtain ⟨o, e, _⟩ := md.act.fr
      exact ⟨hd _ md.newL, o, e⟩
    · exact old (hst b (.inr hb))
    · obtain ⟨o, nm, qn, e, _⟩ := md.isGen
      exact ⟨hd _ md.newA, o, e⟩
    · exact hb.elim
  · rcases hj with hj | rfl
    · exact Nat.lt_of_lt_of_le (hG j hj) md.grow.gsz
    · exact (Array.getElem?_eq_some_iff.mp md.gen).1
  · rcases hb with hb | rfl
    · obtain ⟨o, e, c⟩ := hfr b hb
      obtain ⟨o', e', c', _⟩ := md.grow.dom b o e
      exact ⟨o', e', c'.trans c⟩
    · exact md.act.fr
end

-- Gj
open PySem PySem.W PyProof.Rows PySem.Calls PySem.SeqAt
set_option Elab.async false
set_option maxRecDepth 100000
set_option linter.unusedVariables false
set_option linter.unusedSimpArgs false
set_option maxHeartbeats 400000


local macro_rules | `(tactic| walk_at "m gen") => `(tactic| (
  (case hK => (show (KF (Cx.w _).params).lookup _ = _; k_is))
  (case hb => exact rfl)
  (case hcode => (show codeIn (KF (Cx.w _).params) _ _ = true; k_is))
  (case hcl => exact rfl)
  (case hgl => exact rfl)
  (case hbl => exact rfl)
  (case hco => exact rfl)
  (case hgen => exact rfl)
  (case hk => exact rfl)
  (case hnd => decide)
  (case hlen => exact rfl)
  (case hloc => decide)
  (case hcell => decide)
  (case hbind => first | exact len0 rfl | exact len1 (fun _ => rfl) | exact len2 (fun _ _ => rfl) | exact len3 (fun _ _ _ => rfl))))

/-- what a stage's def makes -/
noncomputable def GenD (Γ : Cx) (f : Addr) {χ : Type} (step : χ → Fld → Option χ) (epi : χ → Bool) (x₀ : χ) (ok : Fld → Prop) : Prop :=
  ∀ (m n : Nat) (A : Around) (s s₀ : Shared) (u fl : Value) (FL : Pd) (lo : String → Prop) (ufin : Bool) (us : List (Value × Fld)) (Rr : Result → Shared → Prop), Ok Γ m A s.heap → Inv Γ s → 3 ≤ n → Pure FL → FL.p s.heap fl → ¬ lo "frame" → ¬ lo "generator" → ¬ lo "cell" →
    AbleX Γ n s₀ u ufin lo (us.map (·.1)) s → Dom s₀ s → (∀ q ∈ us, (fld q.2).p Γ.hb q.1 ∧ ok q.2) →
    (∀ a s', Inv Γ s' → Grow0 s s' → SrcX Γ (n + 1) s₀ a (runTr ufin step epi x₀ us).2 lo (runTr ufin step epi x₀ us).1 s' → Rr (.ok (.ret (.ref a))) s') → codeAny Γ.M A (.call (.ref f) ⟨[u, fl], []⟩) Rr s

theorem pure_args {u : Value} {FL : Pd} (hFL : Pure FL) : PureS [("headers", .eq u), ("hdr_validation_flags", FL)] := fun x P hx => by
  by_cases h : x = "headers"
  · subst h; rw [lookup_cons_eq] at hx; cases hx; exact fun _ _ _ q => q
  · rw [lookup_cons_ne h] at hx
    by_cases h' : x = "hdr_validation_flags"
    · subst h'; rw [lookup_cons_eq] at hx; cases hx; exact hFL
    · rw [lookup_cons_ne h'] at hx; simp at hx
theorem StD.doc {Γ : Cx} {n : Nat} {env : Env} {σ : Sto} {t : Str} {k : Nat} {p pos : Pos} (hi : interactive env = false) : StD Γ n env σ (.Expr (.Constant (.str t) k p) pos) σ := fun A s Q E o i w a tt h =>
  wpAny_Expr_any (wpAny_Constant_str (by
    have k : s.heap.StaysIn s.heap := fun _ _ e => e
    exact h { s with toks := s.toks + 1 } (i.stays (s' := { s with toks := s.toks + 1 }) k rfl rfl) (.of_stays (s' := { s with toks := s.toks + 1 }) k rfl) a tt)) hi rfl

theorem empty_g {Γ : Cx} : GenD Γ 206 (fun (_ : Unit) f => if ((f.1.length : Int) == 0) then none else some ()) (fun _ => true) () (fun f => f.1.length ≤ 2000) := by
  intro m n A s s₀ u fl FL lo ufin us Rr o i hn hFL hfl h1 h2 h3 hab hd hus h
  refine' gen_made (names := ["headers", "hdr_validation_flags"]) (Ps := [.eq u, FL]) ?hK ?hb ?hcode ?hbind ?hnd ?hlen ?hloc ?hcell ?hcl ?hgl ?hbl ?hco ?hgen ?hk o i ⟨rfl, hfl, trivial⟩ ?h
  walk_at "m gen"
  case' h => intro L a s' md
  refine h a s' md.inv md.grow ?_
  dsimp only [List.zip, List.zipWith] at md
  refine' stage_simple (pro := [_]) (rest := []) (pre := [_]) (ok := fun f => f.1.length ≤ 2000) (σ := fun _ => [("headers", .eq u), ("hdr_validation_flags", FL)]) md rfl hab hd h1 h2 h3 hFL rfl ?pu ?hσ ?hbody ?hfb rfl rfl ?hs ?hpro ?hit ?turn ?epil hus
  case hfb => exact rfl
  case hbody => exact rfl
  case hs => exact fun _ => rfl
  case pu => exact fun _ => pure_args hFL
  case hσ => exact fun _ => rfl
  case hpro => exact StsD.cons (StD.doc rfl) StsD.nil
  case hit => exact EvD.name ⟨rfl, rfl, rfl⟩ rfl
  case epil => exact fun _ => ⟨_, RunD.nil⟩
  case turn =>
    intro x v f hok
    refine RunD.guard (b := ((f.1.length : Int) == 0)) (TsD.cmp (EvD.callB ⟨rfl, rfl, rfl⟩ rfl (by decide) rfl (ArgsD.cons (EvD.item (P₁ := fld f) (hdr_fld (by walk_at "m nm")) EvD.cint (sub_tup (P := .bytes f.1) (by decide) (by simp) rfl)) ArgsD.nil) (len_bytes_d (b := f.1) (by omega))) EvD.cint op_eq_int) (fun h => ?_) (fun h => ?_) (fun h => ?_)
    · exact RunD.cons (StD.assign (EvD.cstr (m := 100) (by decide)) rfl) (RunD.thrown (RnD.raise ⟨rfl, rfl, rfl⟩ rfl (by walk_at "m nm")))
    · rw [if_neg (by rw [h]; decide)]
      exact RunD.nil
    · rw [if_pos h]; rfl

-- Gk
open PySem PySem.W PyProof.Rows PySem.Calls PySem.SeqAt
set_option Elab.async false
set_option maxRecDepth 100000
set_option linter.unusedVariables false
set_option linter.unusedSimpArgs false
set_option maxHeartbeats 400000

/- ---------- finding a colon ---------- -/
noncomputable def findB (b : Bs) : Int := match (if (b.length : Int) - 1 < 1 then (none : Option Nat) else Builtin.Bytes.find? b.toArray #[58] 1 b.length) with
  | some i => i
  | none => -1
noncomputable def hasColon (b : Bs) : Bool := (b.drop 1).any (· == 58)
theorem find_some (b : Bs) : (Builtin.Bytes.find? b.toArray #[58] 1 b.length).isSome = hasColon b := by
  unfold Builtin.Bytes.find? hasColon
  rw [Bool.eq_iff_iff, List.find?_isSome, List.any_eq_true]
  simp only [List.mem_map, List.mem_range, List.size_toArray, List.length_cons, List.length_nil, beq_iff_eq]
  constructor
  · rintro ⟨i, ⟨j, hj, rfl⟩, h⟩
    have hj' : j + 1 < b.length := by omega
    refine ⟨58, ?_, rfl⟩
    have e : (b.extract (j + 1) (j + 1 + 1)) = [58] := by
      have := congrArg Array.toList h
      simpa using this
    have e0 : b[j + 1] = 58 := by
      have e2 : (b.extract (j + 1) (j + 1 + 1))[0]? = some 58 := by rw [e]; rfl
      rw [List.extract_eq_take_drop, List.getElem?_take_of_lt (by omega), List.getElem?_drop, Nat.add_zero, List.getElem?_eq_getElem hj'] at e2
      exact Option.some.inj e2
    rw [← e0]
    exact List.mem_of_getElem? (i := j) (by rw [List.getElem?_drop, Nat.add_comm, List.getElem?_eq_getElem hj'])
  · rintro ⟨x, hx, rfl⟩
    obtain ⟨j, hj, e⟩ := List.mem_iff_getElem.mp hx
    rw [List.length_drop] at hj
    rw [List.getElem_drop] at e
    refine ⟨j + 1, ⟨j, by omega, rfl⟩, ?_⟩
    have hj' : j + 1 < b.length := by omega
    have e' : b[j + 1] = 58 := by simpa [Nat.add_comm] using e
    rw [List.extract_toArray, List.extract_eq_take_drop, List.drop_eq_getElem_cons hj', e']
    simp
theorem findB_ne (b : Bs) : (findB b != -1) = hasColon b := by
  unfold findB
  rw [← find_some]
  by_cases h : (b.length : Int) - 1 < 1
  · rw [if_pos h]
    have : Builtin.Bytes.find? b.toArray #[58] 1 b.length = none := by
      unfold Builtin.Bytes.find?
      have e : b.length + 1 - (1 + (#[58] : Array UInt8).size) = 0 := by
        show b.length + 1 - 2 = 0
        omega
      rw [e]; rfl
    rw [this]; rfl
  · rw [if_neg h]
    cases Builtin.Bytes.find? b.toArray #[58] 1 b.length with
    | none => rfl
    | some i =>
      show (((i : Nat) : Int) != -1) = true
      rw [bne_iff_ne]; omega

theorem meets_find (b : Bs) (t t2 u : Tok) : Meets (Builtin.«bytes.find» ⟨[.bytes b.toArray t, .bytes #[58] t2, .int 1 u], []⟩) (fun _ R s => ∀ t' k, R (.ok (.ret (.int (findB b) t'))) { s with toks := k }) := by
  refine .of_wp fun prog w A R s h => ?_
  have hx : ∀ (Q : Option Int → Shared → Prop) E (s : Shared), Q (some 1) s → wpAny (model prog w) A.in1 (Builtin.Bytes.bound? (some (.int 1 u))) Q E s := fun Q E s hq => by
    unfold Builtin.Bytes.bound?
    refine wpAny_bind (wpAny_specialOf (typeIs_int s 1 u) F.slot_int_index.lookup ?_)
    exact wpAny_bind (wpAny_pure (wpAny_pure hq))
  unfold Builtin.«bytes.find» Builtin.Bytes.searchM Builtin.Bytes.searchArgs
  refine wpAny_bind ?_
  refine wpAny_bind (wpAny_of_eq (a := (.bytes b.toArray t, [.bytes #[58] t2, .int 1 u])) rfl ?_)
  dsimp only
  refine wpAny_bind (hx _ _ _ ?_)
  refine wpAny_bind (wpAny_of_eq (a := none) rfl ?_)
  refine wpAny_bind (wpAny_of_eq KBy.buffer_eq ?_)
  refine wpAny_bind (wpAny_pure ?_)
  refine wpAny_bind (wpAny_of_eq (a := b.toArray) rfl ?_)
  refine wpAny_pure ?_
  have hw : Builtin.Bytes.window b.toArray.size (some 1) none = (1, (b.length : Int)) := by
    unfold Builtin.Bytes.window
    simp
    split <;> omega
  dsimp only
  rw [hw]
  have fin : ∀ (o : Option Nat) (i : Int), (match o with | some i => (i : Int) | none => -1) = i → (∀ t' k, R (.ok (.ret (.int i t'))) { s with toks := k }) →
      wpAny (model prog w) A.in1 (match o with
        | some i => retInt i
        | none => (do
          rule s!"{Builtin.Bytes.Kind.bytes.name}.find.not-found"
          if false = true then raiseError "ValueError" "subsection not found" else retInt (-1))) (fun fin s' => ∃ v, fin = Fin.done (Flow.ret v) ∧ R (Except.ok (Flow.ret v)) s') (fun e s' => R (Except.error e) s') s := fun o i hi hR => by
    subst hi
    cases o with
    | some i => exact wpAny_bind (wpAny_mkInt (wpAny_pure ⟨_, rfl, hR _ _⟩))
    | none => exact wpAny_bind (wpAny_rule (wpAny_bind (wpAny_mkInt (wpAny_pure ⟨_, rfl, hR _ _⟩))))
  refine fin _ (findB b) ?_ h
  unfold findB
  show (match (if (b.length : Int) - 1 < 1 then (none : Option (Nat × Nat)) else some ((1 : Int).toNat, (b.length : Int).toNat)).bind (fun x => if false = true then Builtin.Bytes.rfind? b.toArray #[58] x.1 x.2 else Builtin.Bytes.find? b.toArray #[58] x.1 x.2) with
    | some i => (i : Int)
    | none => -1) = _
  by_cases hh : (b.length : Int) - 1 < 1
  · rw [if_pos hh, if_pos hh]; rfl
  · rw [if_neg hh, if_neg hh]; rfl

section
variable {Γ : Cx} {n : Nat} {env : Env} {σ : Sto}
theorem EvD.find {o e₁ e₂ : Expr} {apos pos : Pos} {b : Bs} {pl : Sem Bool} (x : EvD Γ n env σ o (.bytes b)) (y : EvD Γ n env σ e₁ (.bytes [58])) (z : EvD Γ n env σ e₂ (.int 1)) (h1 : plainE e₁ = true := by rfl) (h2 : plainE e₂ = true := by rfl)
    (he : eval (.Call (.Attribute o "find" apos) [e₁, e₂] [] pos) env = (do
      let ov ← eval o env
      standAt apos.atName
      let (f, first) ← holding [ov] (getMethod ov "find" pl)
      callWith pos f first (backTo pos (starEach [e₁, e₂] env)) []) := by rfl) : EvD Γ n env σ (.Call (.Attribute o "find" apos) [e₁, e₂] [] pos) (.int (findB b)) := fun A s Q E ok i t p => by
  refine MethodCall_ (pl := pl) (x A s _ E ok i t fun v s₁ i₁ g₁ ⟨tk, hv⟩ => ?_) he
  subst hv
  refine KBd.method_of (.bytes b.toArray tk) (typeIs_bytes _ _ _) bs_slot_find bs_type_find KBd.noRef ?_
  have key := ArgsD.cons y (ArgsD.cons z ArgsD.nil h2) h1 A s₁ pos (fun vs s₂ => wpAny Γ.M A (PySem.call (.builtin "bytes.find") ([.bytes b.toArray tk] ++ vs)) Q E s₂) E (ok.grow g₁) i₁ (t.grow0 g₁) fun vs s₂ i₂ g₂ q₂ => ?_
  · rw [starEach_cons e₁ [e₂] env h1] at key ⊢
    exact Calls.callWith_builtin (by
      have := star_plain pos env [e₂] (by simp [h2])
      show (false || (backTo pos (starEach [e₂] env)).any (·.1)) = false
      rw [this]; rfl) (Calls.evalArgs_plain key)
  · obtain ⟨u, v, rfl, ⟨tu, hu⟩, ⟨tv, hv⟩⟩ := q₂.two
    subst hu hv
    exact call_meets bs_slot_find (typeIs_bytes _ _ _) bs_entry_find (bs_args_find _ _ _) (meets_find b tk tu tv) fun t' k => (p.grow (g₁.trans g₂)).same i₂ ⟨t', rfl⟩

/- ---------- more of bytes ---------- -/
theorem EvD.neg {e : Expr} {pos : Pos} {a : Int} (x : EvD Γ n env σ e (.int a)) : EvD Γ n env σ (.UnaryOp .USub e pos) (.int (-a)) := fun A s Q E o i t p =>
  wpAny_UnaryOp (x A s _ E o i t fun v s₁ i₁ g₁ ⟨tk, hv⟩ => by subst hv; exact PyProof.Rows.neg_int ((p.grow g₁).same i₁ ⟨_, rfl⟩))
theorem Tru.bytes {b : Bs} (hs : b.length ≤ 100000) : Tru Γ n (.bytes b) (!b.isEmpty) := fun A s v Q E _ i ⟨t, hv⟩ h => by
  subst hv
  refine truthy_bytes (by simp; omega) ?_
  have e : (((b.toArray.size : Nat) : Int) != 0) = !b.isEmpty := by
    cases b with
    | nil => rfl
    | cons c r =>
      show (((r.length + 1 : Nat) : Int) != 0) = true
      rw [bne_iff_ne]; omega
  have k : s.heap.StaysIn s.heap := fun _ _ e => e
  rw [e]
  exact h { s with toks := s.toks + 1 + 1 } (i.stays (s' := { s with toks := s.toks + 1 + 1 }) k rfl rfl) (.of_stays (s' := { s with toks := s.toks + 1 + 1 }) k rfl)
theorem sub_last {v ie : Expr} {b : Bs} (hs : b.length ≤ 100000) (h0 : 0 < b.length) (hsub : ∀ t u, subscripted ie false (.bytes b.toArray t) (.int (-1) u) = operate [.bytes b.toArray t, .int (-1) u] (getItem (.bytes b.toArray t) (.int (-1) u)) := by intro _ _; with_unfolding_all rfl) (ht : ∀ t r, letTemporaryGo v (.bytes b.toArray t) r = pure () := by intro _ _; with_unfolding_all rfl) :
    Op2 Γ n (subscriptTail v ie) (.bytes b) (.int (-1)) (.int (b.getD (b.length - 1) 0).toNat) := fun A s x y Q E o i ⟨t, hx⟩ ⟨u, hy⟩ p => by
  subst hx hy
  refine tail_of_ItemOn ⟨"bytes", _, FB.slot_bytes_getitem.lookup, typeIs_bytes _ _ _, ?_⟩ (hsub t u) (ht t)
  refine getItem_gives (typeIs_bytes s _ t) (by decide) FB.slot_bytes_getitem FB.entry_bytes_getitem (FB.args_bytes_getitem_2 _ _) (gives_bytes_getitem _ (-1) t u (b.getD (b.length - 1) 0) (by decide) ?_) (p.same i ⟨_, rfl⟩)
  have : seqIndex? (-1) b.toArray.size = some (b.length - 1) := by
    unfold seqIndex?
    simp
    omega
  rw [this]
  have hl : b.length - 1 < b.length := by omega
  simp [hl]
/-- a tuple of the top, of bytes -/
theorem EvD.globT {x : Str} {pos : Pos} {a : Addr} {cs : List Bs} {od : Option Addr} {sl : Array (Option Value)} {items : Array Value} {k : Nat} (he : EnvOk env) (hx : env.kindOf x = some .globalImplicit) (hf : nsIn Γ.Kf mainGlobals x = some (some (.ref a))) (hk : Γ.Kf.lookup a = some ⟨.type "tuple", od, .seq items k, sl⟩)
    (hi : ∀ h, All2 h (cs.map Pd.bytes) items.toList) (hd : (x == ("__debug__" : Str)) = false := by decide) : EvD Γ n env σ (.Name x pos) (tupB cs) := fun A s Q E o i t p =>
  EvD.global (Γ := Γ) (n := n) (σ := σ) he hx (keepGlob hf) hd A s _ E o i t fun v s₁ i₁ g₁ q₁ => by
    cases (show v = .ref a from q₁)
    exact p _ s₁ i₁ g₁ ⟨a, items.toList, rfl, ⟨_, i₁.K _ _ hk, rfl, k, by simp⟩, hi _⟩
end

-- Gl
open PySem PySem.W PyProof.Rows PySem.Calls PySem.SeqAt
set_option Elab.async false
set_option maxRecDepth 100000
set_option linter.unusedVariables false
set_option linter.unusedSimpArgs false
set_option maxHeartbeats 400000


local macro_rules | `(tactic| walk_at "m look") => `(tactic| (show (KF (Cx.w _).params).lookup _ = _; k_is))
local macro_rules | `(tactic| walk_at "m h0") => `(tactic| exact EvD.item (P₁ := fld _) (hdr_fld (EvD.name ⟨rfl, rfl, rfl⟩ rfl)) EvD.cint (sub_tup (P := .bytes _) (by decide) (by simp) rfl))

noncomputable abbrev okF : Fld → Prop := fun f => f.1.length ≤ 1100 ∧ f.2.length ≤ 1100
noncomputable abbrev bTe : Bs := [116, 101]
noncomputable abbrev bTrailers : Bs := [116, 114, 97, 105, 108, 101, 114, 115]
noncomputable def badTe (f : Fld) : Bool := f.1 == bTe && (lowerB f.2 != bTrailers && true)
theorem te_g {Γ : Cx} : GenD Γ 213 (fun (_ : Unit) f => if badTe f then none else some ()) (fun _ => true) () okF := by
  intro m n A s s₀ u fl FL lo ufin us Rr o i hn hFL hfl h1 h2 h3 hab hd hus h
  refine' gen_made (names := ["headers", "hdr_validation_flags"]) (Ps := [.eq u, FL]) ?hK ?hb ?hcode ?hbind ?hnd ?hlen ?hloc ?hcell ?hcl ?hgl ?hbl ?hco ?hgen ?hk o i ⟨rfl, hfl, trivial⟩ ?h
  walk_at "m gen"
  case' h => intro L a s' md
  refine h a s' md.inv md.grow ?_
  dsimp only [List.zip, List.zipWith] at md
  refine' stage_simple (pro := [_]) (rest := []) (pre := [_]) (ok := okF) (σ := fun _ => [("headers", .eq u), ("hdr_validation_flags", FL)]) md rfl hab hd h1 h2 h3 hFL rfl ?pu ?hσ ?hbody ?hfb rfl rfl ?hs ?hpro ?hit ?turn ?epil hus
  case hfb => exact rfl
  case hbody => exact rfl
  case hs => exact fun _ => rfl
  case pu => exact fun _ => pure_args hFL
  case hσ => exact fun _ => rfl
  case hpro => exact StsD.cons (StD.doc rfl) StsD.nil
  case hit => exact EvD.name ⟨rfl, rfl, rfl⟩ rfl
  case epil => exact fun _ => ⟨_, RunD.nil⟩
  case turn =>
    intro x v f hok
    refine RunD.guard (b := badTe f) (TsD.bool (AllD.and (TsD.cmp (P₁ := .bytes f.1) (by walk_at "m h0") (by walk_at "m ev") op_eq_bytes) fun _ => AllD.and (TsD.cmp (EvD.lower (b := f.2) (by walk_at "m h0") (by omega)) (by walk_at "m ev") op_ne_bytes) fun _ => AllD.and_nil)) (fun h => ?_) (fun h => ?_) (fun h => ?_)
    · exact RunD.cons (StD.assign (EvD.fstr (JnD.cons (EvD.cstr (m := 100) (by decide)) (JnD.cons (EvD.fmtR (b := f.2) (by walk_at "m h0") (by omega)) JnD.nil)) (by decide)) rfl) (RunD.thrown (RnD.raise ⟨rfl, rfl, rfl⟩ rfl (by walk_at "m nm")))
    · rw [if_neg (by rw [h]; decide)]
      exact RunD.nil
    · rw [if_pos h]; rfl

noncomputable abbrev bConn : List Bs := [[99, 111, 110, 110, 101, 99, 116, 105, 111, 110], [112, 114, 111, 120, 121, 45, 99, 111, 110, 110, 101, 99, 116, 105, 111, 110], [107, 101, 101, 112, 45, 97, 108, 105, 118, 101], [116, 114, 97, 110, 115, 102, 101, 114, 45, 101, 110, 99, 111, 100, 105, 110, 103], [117, 112, 103, 114, 97, 100, 101]]
noncomputable def badConn (f : Fld) : Bool := bConn.any (· == f.1)
theorem conn_g {Γ : Cx} : GenD Γ 220 (fun (_ : Unit) f => if badConn f then none else some ()) (fun _ => true) () okF := by
  intro m n A s s₀ u fl FL lo ufin us Rr o i hn hFL hfl h1 h2 h3 hab hd hus h
  refine' gen_made (names := ["headers", "hdr_validation_flags"]) (Ps := [.eq u, FL]) ?hK ?hb ?hcode ?hbind ?hnd ?hlen ?hloc ?hcell ?hcl ?hgl ?hbl ?hco ?hgen ?hk o i ⟨rfl, hfl, trivial⟩ ?h
  walk_at "m gen"
  case' h => intro L a s' md
  refine h a s' md.inv md.grow ?_
  dsimp only [List.zip, List.zipWith] at md
  refine' stage_simple (pro := [_]) (rest := []) (pre := [_]) (ok := okF) (σ := fun _ => [("headers", .eq u), ("hdr_validation_flags", FL)]) md rfl hab hd h1 h2 h3 hFL rfl ?pu ?hσ ?hbody ?hfb rfl rfl ?hs ?hpro ?hit ?turn ?epil hus
  case hfb => exact rfl
  case hbody => exact rfl
  case hs => exact fun _ => rfl
  case pu => exact fun _ => pure_args hFL
  case hσ => exact fun _ => rfl
  case hpro => exact StsD.cons (StD.doc rfl) StsD.nil
  case hit => exact EvD.name ⟨rfl, rfl, rfl⟩ rfl
  case epil => exact fun _ => ⟨_, RunD.nil⟩
  case turn =>
    intro x v f hok
    refine' RunD.guard (b := badConn f) (TsD.cmp (P₁ := .bytes f.1) (P₂ := tupB bConn) (by walk_at "m h0") (EvD.globT ⟨rfl, rfl, rfl⟩ rfl ?g1 ?g2 ?g3) op_in_bs) (fun h => ?a) (fun h => ?b) (fun h => ?c)
    case g1 => walk_at "m glob"
    case g2 => walk_at "m look"
    case g3 => exact fun h => ⟨⟨_, rfl⟩, ⟨_, rfl⟩, ⟨_, rfl⟩, ⟨_, rfl⟩, ⟨_, rfl⟩, trivial⟩
    case a => exact RunD.cons (StD.assign (EvD.fstr (JnD.cons (EvD.cstr (m := 100) (by decide)) (JnD.cons (EvD.fmtR (b := f.1) (by walk_at "m h0") (by omega)) (JnD.cons (EvD.cstr (m := 100) (by decide)) JnD.nil))) (by decide)) rfl) (RunD.thrown (RnD.raise ⟨rfl, rfl, rfl⟩ rfl (by walk_at "m nm")))
    case b => rw [if_neg (by rw [h]; decide)]; exact RunD.nil
    case c => rw [if_pos h]; rfl

/- ---------- illegal characters ---------- -/
noncomputable def upC (c : UInt8) : Bool := decide ((65 : Int) ≤ (c.toNat : Int)) && decide ((c.toNat : Int) ≤ 90)
noncomputable def outC (c : UInt8) : Bool := decide ((c.toNat : Int) ≤ 32) || (decide ((127 : Int) ≤ (c.toNat : Int)) || false)
noncomputable def okN (c : UInt8) : Bool := !(upC c) && !(outC c)
noncomputable def ctlC (c : UInt8) : Bool := ((c.toNat : Int) == 0) || (((c.toNat : Int) == 10) || (((c.toNat : Int) == 13) || false))
noncomputable def edge (b : Bs) : Bool := (((b.getD 0 0).toNat : Int) == 32) || ((((b.getD 0 0).toNat : Int) == 9) || ((((b.getD (b.length - 1) 0).toNat : Int) == 32) || ((((b.getD (b.length - 1) 0).toNat : Int) == 9) || false)))
noncomputable def okV (b : Bs) : Bool := b.isEmpty || (b.all (fun c => !(ctlC c)) && !(edge b))
noncomputable def legal (f : Fld) : Bool := f.1.all okN && (!(hasColon f.1) && okV f.2)
theorem sat_tl {env : Env} {h : Heap} {x : Str} {P : Pd} {σ : Sto} (t : Sat env h ((x, P) :: σ)) (hx : σ.lookup x = none) : Sat env h σ := fun y R hy => by
  refine t y R ?_
  by_cases hyx : y = x
  · subst hyx; rw [hx] at hy; cases hy
  · rw [lookup_cons_ne hyx]; exact hy
theorem map_if {b : Bool} {τ : Unit → Sto} : (if b = true then some () else none : Option Unit).map τ = if b = true then some (τ ()) else none := by cases b <;> rfl
theorem illegal_g {Γ : Cx} : GenD Γ 199 (fun (_ : Unit) f => if legal f then some () else none) (fun _ => true) () okF := by
  intro m n A s s₀ u fl FL lo ufin us Rr o i hn hFL hfl h1 h2 h3 hab hd hus h
  refine' gen_made (names := ["headers", "hdr_validation_flags"]) (Ps := [.eq u, FL]) ?hK ?hb ?hcode ?hbind ?hnd ?hlen ?hloc ?hcell ?hcl ?hgl ?hbl ?hco ?hgen ?hk o i ⟨rfl, hfl, trivial⟩ ?h
  walk_at "m gen"
  case' h => intro L a s' md
  refine h a s' md.inv md.grow ?_
  dsimp only [List.zip, List.zipWith] at md
  refine' stage_simple (pro := [_]) (rest := []) (pre := [_, _, _, _]) (ok := okF) (σ := fun _ => [("headers", .eq u), ("hdr_validation_flags", FL)]) md rfl hab hd h1 h2 h3 hFL rfl ?pu ?hσ ?hbody ?hfb rfl rfl ?hs ?hpro ?hit ?turn ?epil hus
  case hfb => exact rfl
  case hbody => exact rfl
  case hs => exact fun _ => rfl
  case pu => exact fun _ => pure_args hFL
  case hσ => exact fun _ => rfl
  case hpro => exact StsD.cons (StD.doc rfl) StsD.nil
  case hit => exact EvD.name ⟨rfl, rfl, rfl⟩ rfl
  case epil => exact fun _ => ⟨_, RunD.nil⟩
  case turn =>
    intro x v f hok
    rw [map_if]
    refine RunD.seq (RnD.for (items := f.1) (P := fun c => .int c.toNat) (ok := okN) (ItD.bytes (by walk_at "m h0")) rfl rfl (fun c hc => ?_)) (fun σ' hσ' => ?_) (fun hn => ?_)
    · refine RunD.guard (b := upC c) (TsD.cmp2 (by walk_at "m ev") (by walk_at "m nm") (by walk_at "m ev") op_le_int op_le_int) (fun h => ?_) (fun h => ?_) (fun h => ?_)
      · exact RunD.cons (StD.assign (EvD.fstr (JnD.cons (EvD.cstr (m := 100) (by decide)) (JnD.cons (EvD.fmtR (b := f.1) (by walk_at "m h0") (by omega)) (JnD.cons (EvD.cstr (m := 100) (by decide)) JnD.nil))) (by decide)) rfl) (RunD.thrown (RnD.raise ⟨rfl, rfl, rfl⟩ rfl (by walk_at "m nm")))
      · refine RunD.guard (b := outC c) (TsD.bool (AllD.or (TsD.cmp (by walk_at "m nm") (by walk_at "m ev") op_le_int) fun _ => AllD.or (TsD.cmp (by walk_at "m nm") (by walk_at "m ev") op_ge_int) fun _ => AllD.or_nil)) (fun h' => ?_) (fun h' => ?_) (fun h' => ?_)
        · exact RunD.cons (StD.assign (EvD.fstr (JnD.cons (EvD.cstr (m := 100) (by decide)) (JnD.cons (EvD.fmtS (EvD.callB ⟨rfl, rfl, rfl⟩ rfl (by decide) rfl (ArgsD.cons (by walk_at "m nm") ArgsD.nil) (chr_d (c := c))) (by decide)) (JnD.cons (EvD.cstr (m := 100) (by decide)) (JnD.cons (EvD.fmtR (b := f.1) (by walk_at "m h0") (by omega)) JnD.nil)))) (by decide)) rfl) (RunD.thrown (RnD.raise ⟨rfl, rfl, rfl⟩ rfl (by walk_at "m nm")))
        · rw [if_pos (by unfold okN; rw [h, h']; rfl)]
          exact RunD.sub RunD.nil fun _ t => sat_tl t rfl
        · rw [if_neg (by unfold okN; rw [h']; simp)]
      · rw [if_neg (by unfold okN; rw [h]; simp)]
    · have hall : f.1.all okN = true := by
        cases h : f.1.all okN with
        | true => rfl
        | false => rw [h] at hσ'; cases hσ'
      rw [if_pos hall] at hσ'
      cases hσ'
      refine RunD.guard (b := hasColon f.1) (TsD.cmp (P₁ := .int (findB f.1)) (P₂ := .int (-1)) (EvD.find (b := f.1) (by walk_at "m h0") (by walk_at "m ev") (by walk_at "m ev")) (EvD.neg (a := 1) EvD.cint) (by rw [← findB_ne]; exact op_ne_int)) (fun h => ?_) (fun h => ?_) (fun h => ?_)
      · exact RunD.cons (StD.assign (EvD.fstr (JnD.cons (EvD.cstr (m := 100) (by decide)) (JnD.cons (EvD.fmtR (b := f.1) (by walk_at "m h0") (by omega)) JnD.nil)) (by decide)) rfl) (RunD.thrown (RnD.raise ⟨rfl, rfl, rfl⟩ rfl (by walk_at "m nm")))
      · refine RunD.cons (StD.assign (P := .bytes f.2) (by walk_at "m h0") rfl) (RunD.one (RnD.ite (TsD.val (by walk_at "m nm") (Tru.bytes (by omega))) (fun h' => ?_) (fun h' => ?_)))
        · refine RunD.seq (RnD.for (items := f.2) (P := fun c => .int c.toNat) (ok := fun c => !(ctlC c)) (ItD.bytes (by walk_at "m nm")) rfl rfl (fun c hc => ?_)) (fun σ' hσ' => ?_) (fun hn => ?_)
          · refine RunD.guard (b := ctlC c) (TsD.bool (AllD.or (TsD.cmp (by walk_at "m nm") (by walk_at "m ev") op_eq_int) fun _ => AllD.or (TsD.cmp (by walk_at "m nm") (by walk_at "m ev") op_eq_int) fun _ => AllD.or (TsD.cmp (by walk_at "m nm") (by walk_at "m ev") op_eq_int) fun _ => AllD.or_nil)) (fun hq => ?_) (fun hq => ?_) (fun hq => ?_)
            · exact RunD.cons (StD.assign (EvD.fstr (JnD.cons (EvD.cstr (m := 100) (by decide)) (JnD.cons (EvD.fmtS (EvD.callB ⟨rfl, rfl, rfl⟩ rfl (by decide) rfl (ArgsD.cons (by walk_at "m nm") ArgsD.nil) (chr_d (c := c))) (by decide)) (JnD.cons (EvD.cstr (m := 100) (by decide)) (JnD.cons (EvD.fmtR (b := f.2) (by walk_at "m nm") (by omega)) JnD.nil)))) (by decide)) rfl) (RunD.thrown (RnD.raise ⟨rfl, rfl, rfl⟩ rfl (by walk_at "m nm")))
            · rw [if_pos (by rw [hq]; rfl)]
              exact RunD.sub RunD.nil fun _ t => sat_tl t rfl
            · rw [if_neg (by rw [hq]; simp)]
          · have hall' : (f.2.all fun c => !(ctlC c)) = true := by
              cases hh : (f.2.all fun c => !(ctlC c)) with
              | true => rfl
              | false => rw [hh] at hσ'; cases hσ'
            rw [if_pos hall'] at hσ'
            cases hσ'
            have hpos : 0 < f.2.length := by
              cases hf : f.2 with
              | nil => rw [hf] at h'; cases h'
              | cons c r => simp
            have hz0 : f.2[(0 : Int).toNat]? = some (f.2.getD 0 0) := by
              show f.2[0]? = _
              rw [List.getD_eq_getElem?_getD, List.getElem?_eq_getElem hpos]; rfl
            refine RunD.guard (b := edge f.2) (TsD.bool (AllD.or (TsD.cmp (EvD.item (P₁ := .bytes f.2) (by walk_at "m nm") (by walk_at "m ev") (sub_bytes (c := f.2.getD 0 0) (by omega) (by decide) hz0)) (by walk_at "m ev") op_eq_int) fun _ => AllD.or (TsD.cmp (EvD.item (P₁ := .bytes f.2) (by walk_at "m nm") (by walk_at "m ev") (sub_bytes (c := f.2.getD 0 0) (by omega) (by decide) hz0)) (by walk_at "m ev") op_eq_int) fun _ => AllD.or (TsD.cmp (EvD.item (P₁ := .bytes f.2) (P₂ := .int (-1)) (by walk_at "m nm") (EvD.neg (a := 1) EvD.cint) (sub_last (by omega) hpos)) (by walk_at "m ev") op_eq_int) fun _ => AllD.or (TsD.cmp (EvD.item (P₁ := .bytes f.2) (P₂ := .int (-1)) (by walk_at "m nm") (EvD.neg (a := 1) EvD.cint) (sub_last (by omega) hpos)) (by walk_at "m ev") op_eq_int) fun _ => AllD.or_nil)) (fun hq => ?_) (fun hq => ?_) (fun hq => ?_)
            · exact RunD.cons (StD.assign (EvD.fstr (JnD.cons (EvD.cstr (m := 100) (by decide)) (JnD.cons (EvD.fmtR (b := f.2) (by walk_at "m nm") (by omega)) JnD.nil)) (by decide)) rfl) (RunD.thrown (RnD.raise ⟨rfl, rfl, rfl⟩ rfl (by walk_at "m nm")))
            · rw [if_pos (by unfold legal okV; rw [hall, h, hall', hq]; simp)]
              exact RunD.sub RunD.nil fun _ t => sat_tl t rfl
            · have he : f.2.isEmpty = false := by simpa using h'
              rw [if_neg (by unfold legal okV; rw [he, hq]; simp)]
          · have hall' : (f.2.all fun c => !(ctlC c)) = false := by
              cases hh : (f.2.all fun c => !(ctlC c)) with
              | false => rfl
              | true => rw [hh] at hn; cases hn
            have he : f.2.isEmpty = false := by simpa using h'
            rw [if_neg (by unfold legal okV; rw [he, hall']; simp)]
        · have he : f.2.isEmpty = true := by simpa using h'
          rw [if_pos (by unfold legal okV; rw [hall, h, he]; simp)]
          exact RunD.sub RunD.nil fun _ t => sat_tl t rfl
      · rw [if_neg (by unfold legal; rw [h]; simp)]
    · have hall : f.1.all okN = false := by
        cases h : f.1.all okN with
        | false => rfl
        | true => rw [h] at hn; cases hn
      rw [if_neg (by unfold legal; rw [hall]; simp)]

-- Gm
open PySem PySem.W PyProof.Rows PySem.Calls PySem.SeqAt
set_option Elab.async false
set_option maxRecDepth 100000
set_option linter.unusedVariables false
set_option linter.unusedSimpArgs false
set_option maxHeartbeats 400000

theorem over_comp {A : Around} {elt iter : Expr} {target : Expr} {scope : Scope} {pos : Pos} {it acc : Value} {cenv : Env} :
    A.in1.over (.compLoop (.GeneratorExp elt [⟨target, iter, [], 0⟩] scope pos) 0 it acc cenv) [] = A.in1.deeper cenv := by
  unfold Around.over Around.deeper
  simp only [Around.mk.injEq]
  refine ⟨rfl, ?_, rfl, rfl, ?_⟩
  · show A.in1.depth + 0 + 1 = A.in1.depth + 1
    omega
  · show A.in1.units + 0 + 3 = A.in1.units + 3
    omega
theorem over_start {A : Around} {elt iter : Expr} {target : Expr} {scope : Scope} {pos : Pos} {it acc : Value} {cenv : Env} :
    A.in1.over (.compStart (.GeneratorExp elt [⟨target, iter, [], 0⟩] scope pos) 0 it acc cenv) [] = A.in1.deeper cenv := by
  unfold Around.over Around.deeper
  simp only [Around.mk.injEq]
  refine ⟨rfl, ?_, rfl, rfl, ?_⟩
  · show A.in1.depth + 0 + 1 = A.in1.depth + 1
    omega
  · show A.in1.units + 0 + 3 = A.in1.units + 3
    omega

section
variable {Γ : Cx} {n : Nat} {A : Around} {cenv : Env} {V : Wd} {a : Addr} {g : Nat} {out : List Value} {ufin : Bool} {h : Str}

/-- the turns of (h for h in it) -/
theorem gexp_loop {iter : Expr} {scope : Scope} {pos px ep : Pos} {I : Addr} {C : Addr → Prop} (own : Own2 Γ cenv) (hx : cenv.kindOf h = some .local) (hd : (h == ("__debug__" : Str)) = false) (ap : Apart Γ cenv V a g C) (hco : cenv.scope.isCoroutine = false) (hh : A.handled = none) :
    ∀ (us : List Value) (s s₀ : Shared), Feeds Γ n (A.in1.deeper cenv) I ufin V us s → Ok Γ (n + 1) A s.heap → Inv Γ s → Act cenv s.heap → GrowX Γ (mkW V cenv.locals a g C) s₀ s → (∃ pr, out = pr ++ us) →
      Seg Γ.M A.in1 (EndR (PEnd Γ (mkW V cenv.locals a g C) ufin) (XEnd Γ (mkW V cenv.locals a g C) ufin)) (YOut Γ (n + 1) A V (mkW V cenv.locals a g C) out) us.length s₀
        (.compLoop (.GeneratorExp (.Name h ep) [⟨.Name h px, iter, [], 0⟩] scope pos) 0 (.ref I) .none cenv) (Γ.M.den (.compLoop (.GeneratorExp (.Name h ep) [⟨.Name h px, iter, [], 0⟩] scope pos) 0 (.ref I) .none cenv)) [] s := by
  have le : V.Le (mkW V cenv.locals a g C) := ⟨fun _ h => .inl h, fun _ h => h, fun _ h => .inl h, fun _ h => .inl h⟩
  have hLV : ∀ {s : Shared}, Act cenv s.heap → ¬ Keep Γ V s cenv.locals := fun ac k => by
    obtain ⟨o, e, c⟩ := ac.fr
    rcases k with k | k
    · exact ws_not ap.nL e c ap.lof k
    · exact ap.nLk k
  have toW : ∀ {s s' : Shared}, GrowL cenv s s' → GrowX Γ (mkW V cenv.locals a g C) s s' := fun gg => gg.weaken (fun b hb => .inl (.inr hb)) (fun _ q => q.elim)
  intro us
  induction us with
  | nil =>
    intro s s₀ hF o i ac gs ho
    show Seg _ A.in1 _ _ _ s₀ _ ((compTurn (.GeneratorExp (.Name h ep) [⟨.Name h px, iter, [], 0⟩] scope pos) 0 (.ref I) .none cenv).onRaise (leaving cenv)) [] s
    rw [compTurn_gen, Sem.onRaise_eq_wrap]
    refine seg_bind_wrap (wpAny_standAt ?_)
    refine seg_bind_wrap ?_
    rw [over_comp]
    refine hF s _ _ (.refl _ _ _) (o.enter own ac) i (fun s'' hf i'' g'' => ?_) (fun e s'' hf x'' => ?_)
    · exact seg_end (.ok .next) (.inl ⟨.inl rfl, rfl, hf, i'', gs.trans (g''.mono le)⟩)
    · obtain ⟨⟨outer, hfr⟩, L, hL⟩ := o.topOf own
      show Seg _ A.in1 _ _ _ s₀ _ ((leaving cenv (.ref e)).bind fun _ => .raise (.ref e)) [] s''
      rw [Sem.bind_eq_wrap]
      refine seg_wrap ?_
      rw [over_comp]
      have xp : Thrown Γ (Ws Γ (mkW V cenv.locals a g C) s) (mkW V cenv.locals a g C).G s e s'' := ⟨x''.inv, x''.grow.mono le, x''.exc.exc⟩
      refine xp.leaving i hfr ((o.enter own ac).frs outer hfr) hL fun s₂ x₂ => ?_
      exact seg_end (.error (.ref e)) (.inr ⟨e, rfl, rfl, hf, thrown_x gs x₂⟩)
  | cons v us ih =>
    intro s s₀ hF o i ac gs ho
    obtain ⟨pr, ho⟩ := ho
    show Seg _ A.in1 _ _ _ s₀ _ ((compTurn (.GeneratorExp (.Name h ep) [⟨.Name h px, iter, [], 0⟩] scope pos) 0 (.ref I) .none cenv).onRaise (leaving cenv)) [] s
    rw [compTurn_gen, Sem.onRaise_eq_wrap]
    refine seg_bind_wrap (wpAny_standAt ?_)
    refine seg_bind_wrap ?_
    rw [over_comp]
    refine hF s _ _ (.refl _ _ _) (o.enter own ac) i fun s₁ i₁ g₁ hF₁ => ?_
    have gW₁ : GrowX Γ (mkW V cenv.locals a g C) s s₁ := g₁.mono le
    have hLs : ¬ Ws Γ V s cenv.locals := fun w => hLV ac (.inl w)
    have a₁ : Act cenv s₁.heap := ac.grow g₁ hLs
    refine seg_bind_wrap (wpAny_of_eq (rfl : letOwnedTupleGo (.Name h px) (.ref I) v = pure ()) ?_)
    refine seg_bind_wrap ?_
    rw [over_comp]
    have t₀ : Sat cenv s₁.heap [] := fun y P hy => by simp at hy
    refine wpAny_assign_Name (store_at (P := .eq v) (σ := []) own.own.ok own.own.new hx a₁ i₁ own.own.tab t₀ rfl fun s₂ i₂ g₂ a₂ t₂ => ?_)
    refine seg_bind_wrap (wpAny_tests_nil ?_)
    simp only [if_true]
    have hy : ∀ v, yieldOut cenv v = yieldValue v := fun v => by simp only [yieldOut, hco, Bool.false_eq_true, if_false]
    simp only [hy]
    rw [Sem.bind_eq_wrap', Sem.bind_eq_wrap', Sem.wrap_wrap, Sem.wrap_wrap]
    refine seg_wrap ?_
    rw [over_comp]
    have o₂ := (o.grow g₁).grow g₂
    refine EvD.name (Γ := Γ) (n := n) (σ := [(h, .eq v)]) own.own.ok lookup_cons_eq hd _ s₂ _ _ (o₂.enter own a₂) i₂ t₂ fun v' s₃ i₃ g₃ hv' => ?_
    cases (show v' = v from hv')
    have a₃ := a₂.grow0 g₃
    refine seg_at (seg_yield rfl rfl rfl ⟨?_, i₃, (gs.trans gW₁).trans ((toW g₂).trans g₃.x), fun s₅ lt₅ o₅ i₅ => ?_⟩)
    · rw [ho]
      have e : (pr ++ v :: us).length - 1 - us.length = pr.length := by simp
      rw [e]; simp
    · have hL3 : ¬ ¬ Keep Γ (mkW V cenv.locals a g C) s₃ cenv.locals := fun w => w (.inl (.inl (.inr rfl)))
      have ltV : LaterX Γ V s₃ s₅ := lt₅.weaken (fun b w q => w (q.mono le)) fun j w => w
      have lt1 : LaterX Γ V s₁ s₂ := g₂.weaken (fun b hb k => hLV a₁ ((show b = cenv.locals from hb) ▸ k)) fun _ q => q.elim
      exact seg_again rfl (ih s₅ s₅ (hF₁.later ((lt1.trans g₃.later).trans ltV)) o₅ i₅ (a₃.grow lt₅ hL3) (.refl _ _ _) ⟨pr ++ [v], by rw [ho]; simp⟩)
end

-- Gn
open PySem PySem.W PyProof.Rows PySem.Calls PySem.SeqAt
set_option Elab.async false
set_option maxRecDepth 100000
set_option linter.unusedVariables false
set_option linter.unusedSimpArgs false
set_option maxHeartbeats 400000

/-- written: the tables of the code objects that grow -/
noncomputable def TabW (Γ : Cx) : Addr → Prop := fun b => ∃ q ∈ Γ.tabs, q.2 = b

/-- a code record, of class code -/
noncomputable def CodeC (h : Heap) (v : Value) (q : Str) : Prop := ∃ c o vs t, v = .ref c ∧ h.get? c = some o ∧ o.cls = .type "code" ∧ o.data = .fields vs ∧ vs[1]? = some (.str q t)
theorem CodeC.rec {h : Heap} {v : Value} {q : Str} (x : CodeC h v q) : h.CodeRec v q := let ⟨c, o, vs, t, e, g, _, d, r⟩ := x; ⟨c, o, vs, t, e, g, d, r⟩
theorem CodeC.grow {W : Addr → Prop} {G : Nat → Prop} {s s' : Shared} {v : Value} {q : Str} (x : CodeC s.heap v q) (g : Grow W G s s') (hw : ∀ b o, s.heap.get? b = some o → o.cls = .type "code" → ¬ W b) : CodeC s'.heap v q := by
  obtain ⟨c, o, vs, t, e, g1, g2, d, r⟩ := x
  exact ⟨c, o, vs, t, e, g.get g1 (hw _ _ g1 g2) (by rw [g2]; decide), g2, d, r⟩
/-- the table at P, its entries at pos good -/
noncomputable def TabGood (h : Heap) (P : Addr) (pos : Pos) (q : Str) : Prop := ∃ ps : Array Value, h.get? P = some { cls := .none, data := .fields ps } ∧ ∀ v, codeAmong pos ps.toList = some v → CodeC h v q
theorem TabGood.grow {W : Addr → Prop} {G : Nat → Prop} {s s' : Shared} {P : Addr} {pos : Pos} {q : Str} (x : TabGood s.heap P pos q) (g : Grow W G s s') (hP : ¬ W P) (hw : ∀ b o, s.heap.get? b = some o → o.cls = .type "code" → ¬ W b) : TabGood s'.heap P pos q := by
  obtain ⟨ps, e, hh⟩ := x
  exact ⟨ps, g.get e hP (by intro h; cases h), fun v hv => (hh v hv).grow g hw⟩
noncomputable abbrev apartP (pos pos' : Pos) : Bool := !(((pos.line : Int) == (pos'.line : Int)) && ((pos.col : Int) == (pos'.col : Int)))
theorem codeAmong_other {pos pos' : Pos} {c : Value} (hne : apartP pos pos' = true) (l : List Value) (h : TriplesOk l) : codeAmong pos' (l ++ [rawInt pos.line, rawInt pos.col, c]) = codeAmong pos' l := by
  fun_induction TriplesOk l with
  | case1 =>
    have : (((pos.line : Int) == (pos'.line : Int)) && ((pos.col : Int) == (pos'.col : Int))) = false := by
      cases e : (((pos.line : Int) == (pos'.line : Int)) && ((pos.col : Int) == (pos'.col : Int))) with
      | false => rfl
      | true => unfold apartP at hne; rw [e] at hne; cases hne
    simp only [List.nil_append, codeAmong, rawInt]
    rw [if_neg (by rw [this]; exact Bool.false_ne_true)]
  | case2 a t b u x rest ih =>
    simp only [List.cons_append, codeAmong]
    rw [ih h]
  | case3 l h1 h2 => exact h.elim
/-- what is kept of a table when an entry at pos comes in -/
noncomputable def TabKeep (P : Addr) (pos : Pos) (s s' : Shared) : Prop := ∀ pos' q, apartP pos pos' = true → TabGood s.heap P pos' q → TabGood s'.heap P pos' q

section
variable {Γ : Cx} {A : Around} {s : Shared}
theorem tab_grow {c P : Addr} {ps ps' : Array Value} {h' : Heap} {tk : Tok} (i : Inv Γ s) (hm : (c, P) ∈ Γ.tabs) (it : s.heap.TableAt c P ps) (hx : Heap.ExtBut P s.heap h') (hic : h'.IsCode c P ps') (htb : h'.TableAt c P ps') :
    Inv Γ { s with heap := h', toks := tk } ∧ Grow (fun b => b = P) noG s { s with heap := h', toks := tk } := by
  refine ⟨⟨fun b o e => ?_, fun q hq => ?_, i.os, i.bare⟩, ⟨fun b o e hw => ?_, fun b o e => ?_, fun j y e _ => e, Nat.le_refl _⟩⟩
  · refine hx b o (fun hb => ?_) (i.base b o e)
    rw [hb, Γ.tabN _ hm] at e; cases e
  · by_cases hP : q.2 = P
    · have h1 : q.1 = c := Γ.tabU q hq _ hm hP
      rw [h1, hP]
      exact ⟨ps', hic, htb⟩
    · obtain ⟨ps₁, ic, tt⟩ := i.tabs q hq
      have h1 : q.1 ≠ P := fun e => by
        obtain ⟨⟨o, vs, e1, c1, _⟩, _⟩ := tt
        rw [e, it.2] at e1; cases e1; cases c1
      exact ⟨ps₁, ic.extBut hx h1 hP, tt.extBut hx h1 hP⟩
  · exact ⟨o, hx b o hw e, .inl rfl⟩
  · by_cases hb : b = P
    · subst hb
      rw [it.2] at e; cases e
      exact ⟨_, htb.2, rfl, fun ⟨_, _, q⟩ => by cases q⟩
    · exact ⟨o, hx b o hb e, rfl, fun q => q⟩

theorem gencode_at {env : Env} {c P : Addr} {pos : Pos} {qn : Str} {scope : Scope} {Q E : Value → Shared → Prop} (hc : env.code = .ref c) (hm : (c, P) ∈ Γ.tabs) (i : Inv Γ s)
    (hQ : ∀ v s', Inv Γ s' → Grow (fun b => b = P) noG s s' → TabKeep P pos s s' → Q v s') : wpAny Γ.M A (genexprCode env pos qn scope) Q E s := by
  obtain ⟨ps, ic, it⟩ := i.tabs _ hm
  cases hf : codeAmong pos ps.toList with
  | some v => exact wpAny_genexprCode_hit hc ic hf (hQ v s i (.refl _ _ _) fun _ _ _ x => x)
  | none =>
    refine wpAny_genexprCodeX hc ic it hf fun c' h' tk hx _ _ hic _ htb _ => ?_
    obtain ⟨i', g'⟩ := tab_grow (tk := tk) i hm it hx hic htb
    refine hQ _ _ i' g' fun pos' q hne x => ?_
    obtain ⟨ps₁, e1, hg⟩ := x
    have : ps₁ = ps := by
      have := it.2
      rw [e1] at this; cases this; rfl
    subst this
    have htr : TriplesOk ps₁.toList := by
      obtain ⟨o, vs, file, tf, flags, tg, inF, text, tt, op, ho, hd, h11, h2, h7, h9, h10, hop, hpd, htr, hne⟩ := id ic
      rw [e1] at hop; cases hop
      cases hpd
      exact htr
    refine ⟨_, htb.2, fun v hv => ?_⟩
    have hl : (ps₁ ++ #[rawInt pos.line, rawInt pos.col, Value.ref c']).toList = ps₁.toList ++ [rawInt pos.line, rawInt pos.col, .ref c'] := by simp
    rw [hl, codeAmong_other hne _ htr] at hv
    refine (hg v hv).grow g' fun b o e co w => ?_
    rw [show b = P from w, e1] at e; cases e; cases co

theorem builtins_at {globals running : Addr} {Q : Addr → Shared → Prop} {E : Value → Shared → Prop} (hg : globals = mainGlobals) (i : Inv Γ s) (h : Q builtinsNs s) : wpAny Γ.M A (builtinsFor globals running) Q E s := by
  obtain ⟨bm, o, h1, h2, h3, h4, h5, h6⟩ := Γ.bim
  rw [hg]
  exact wpAny_builtinsFor (Γ.g.keeps i.base) h1 h2 (i.base _ _ h3) h4 h5 h6 h
end

section
variable {Γ : Cx} {n : Nat} {A : Around} {cenv : Env} {V : Wd} {a : Addr} {g : Nat} {out : List Value} {ufin : Bool} {h : Str}

theorem gexp_start {iter : Expr} {scope : Scope} {pos px ep : Pos} {I : Addr} {gI : Nat} {C : Addr → Prop} (own : Own2 Γ cenv) (hx : cenv.kindOf h = some .local) (hd : (h == ("__debug__" : Str)) = false) (ap : Apart Γ cenv V a g C) (hco : cenv.scope.isCoroutine = false) (hh : A.handled = none)
    {us : List Value} {s : Shared} (hF : Feeds Γ n (A.in1.deeper cenv) I ufin V us s) (hI : s.heap.IsGen I gI) (o : Ok Γ (n + 1) A s.heap) (i : Inv Γ s) (ac : Act cenv s.heap) (ho : ∃ pr, out = pr ++ us) :
      Seg Γ.M A.in1 (EndR (PEnd Γ (mkW V cenv.locals a g C) ufin) (XEnd Γ (mkW V cenv.locals a g C) ufin)) (YOut Γ (n + 1) A V (mkW V cenv.locals a g C) out) us.length s
        (.compStart (.GeneratorExp (.Name h ep) [⟨.Name h px, iter, [], 0⟩] scope pos) 0 (.ref I) .none cenv) (Γ.M.den (.compStart (.GeneratorExp (.Name h ep) [⟨.Name h px, iter, [], 0⟩] scope pos) 0 (.ref I) .none cenv)) [] s := by
  have loop := gexp_loop (iter := iter) (scope := scope) (pos := pos) (px := px) (ep := ep) own hx hd ap hco hh us s s hF o i ac (.refl _ _ _) ho
  show Seg _ A.in1 _ _ _ s _ ((compStart (.GeneratorExp (.Name h ep) [⟨.Name h px, iter, [], 0⟩] scope pos) 0 (.ref I) .none cenv).onRaise (leaving cenv)) [] s
  unfold compStart
  rw [Sem.onRaise_eq_wrap]
  show Seg _ A.in1 _ _ _ s _ ((ask >>= _).wrap _ _ _ _) [] s
  refine seg_bind_wrap (wpAny_askSetting ?_)
  split
  · exact seg_again rfl loop
  · first
      | exact seg_bind_wrap (wpAny_rule (seg_bind_wrap (wpAny_standAt (seg_bind_wrap (wpAny_pyIter_gen hI (seg_again rfl loop))))))
      | (refine seg_bind_wrap (wpAny_rule ?_); show Seg _ A.in1 _ _ _ s _ ((standAt iter.pos >>= _).wrap _ _ _ _) [] s; exact seg_bind_wrap (wpAny_standAt (seg_bind_wrap (wpAny_pyIter_gen hI (seg_again rfl loop)))))
end

theorem SrcX.tab {Γ : Cx} {n : Nat} {s₀ s s' : Shared} {a : Addr} {fin : Bool} {lo : String → Prop} {vs : List Value} (x : SrcX Γ n s₀ a fin lo vs s) (i₀ : Inv Γ s₀) (i : Inv Γ s) (g : Grow (TabW Γ) noG s s') : SrcX Γ n s₀ a fin lo vs s' :=
  x.grow g (fun b ⟨q, hq, e⟩ => by
    subst e
    obtain ⟨_, _, _, t₀⟩ := i₀.tabs q hq
    obtain ⟨_, _, _, t⟩ := i.tabs q hq
    exact ⟨⟨_, t₀⟩, _, t, fun T hT => by cases hT⟩) fun _ q => q

/-- (h for h in headers), over a generator: made -/
theorem gexp_made {Γ : Cx} {m n : Nat} {A : Around} {env : Env} {σ : Sto} {iter : Expr} {scope : Scope} {pos px ep : Pos} {h : Str} {a₁ c P : Addr} {s s₀ : Shared} {ufin : Bool} {lo : String → Prop} {vs : List Value} {Q E : Value → Shared → Prop}
    (he : EnvOk env) (hc : env.code = .ref c) (hm : (c, P) ∈ Γ.tabs) (hco : scope.isCoroutine = false) (hclos : closureFor scope env = pure []) (hcell : ∀ y ∈ scope.names, y.2 ≠ .cell) (h0 : scope.names.lookup (".0" : Str) = some .local) (hkind : scope.kind = .function)
    (hx : scope.names.lookup h = some .local) (hd : (h == ("__debug__" : Str)) = false) (hs : ∀ x, genFold iter env x = pure x) (hit : EvD Γ m env σ iter (.eq (.ref a₁))) (o : Ok Γ m A s.heap) (i : Inv Γ s) (i₀ : Inv Γ s₀) (hdm : Dom s₀ s) (t : Sat env s.heap σ)
    (src : SrcX Γ n s₀ a₁ ufin lo vs s) (h1 : ¬ lo "frame") (h2 : ¬ lo "generator") (h3 : ¬ lo "cell")
    (hq : ∀ a s', Inv Γ s' → Grow (fun b => b = P) noG s s' → TabKeep P pos s s' → SrcX Γ (n + 1) s₀ a ufin lo vs s' → Q (.ref a) s') :
    wpAny Γ.M A (eval (.GeneratorExp (.Name h ep) [⟨.Name h px, iter, [], 0⟩] scope pos) env) Q E s := by
  rw [eval_GeneratorExp1 _ _ _ _ _ _ _ hco, hclos]
  refine wpAny_bind (hit A s _ E o i t fun v s₁ i₁ g₁ hv => ?_)
  cases (show v = .ref a₁ from hv)
  refine wpAny_bind (wpAny_standAt ?_)
  refine wpAny_bind (wpAny_of_eq (hs _) ?_)
  have src₁ := src.grow0 g₁
  obtain ⟨gI, hI⟩ : ∃ gI, s₁.heap.IsGen a₁ gI := by
    obtain ⟨W, gI, _, _, q, _⟩ := src₁
    exact ⟨gI, q⟩
  refine wpAny_bind (wpAny_holding (wpAny_pyIter_gen hI ?_))
  refine wpAny_bind (wpAny_enterFrame i₁.nolimit o.room ?_)
  refine wpAny_bind (wpAny_pure ?_)
  refine wpAny_bind (gencode_at hc hm i₁ fun code s₂ i₂ g₂ tk₂ => ?_)
  refine wpAny_bind (builtins_at he.glob i₂ ?_)
  have src₂ := src₁.tab i₀ i₁ (g₂.weaken (fun b hb => ⟨_, hm, (show b = P from hb).symm⟩) fun _ q => q)
  have gg₂ : Grow (fun b => b = P) noG s s₂ := g₁.of0.trans g₂
  have hbinds : ∀ y ∈ ([((".0" : Str), Value.ref a₁)] : List (Str × Value)), scope.names.lookup y.1 = some NameKind.local := by
    intro y hy
    rcases List.mem_cons.mp hy with rfl | hy
    · exact h0
    · cases hy
  refine wpAny_bind (newEnv_at hkind hcell hbinds fun h' tk n' c' k sb => ?_)
  simp only [newGenerator, newFields]
  refine wpAny_bind (wpAny_newGen (wpAny_bind (wpAny_mkText (wpAny_bind (wpAny_mkText (wpAny_newObj_type ?_ (by size_fits)))))))
  suffices H : ∀ (ob : Obj) (cenv : Env) (s₃ : Shared), ob = { cls := .type "generator", data := .fields #[.int s₂.gens.size 0, .str ("<genexpr>" : Str) tk, .str (env.qual ++ ("<genexpr>" : Str)) (tk + 1)] } →
      cenv = newEnv scope s₂.heap.objs.size env.globals [] (env.qual ++ ("<genexpr>." : Str)) none code none builtinsNs →
      s₃ = { s₂ with gens := s₂.gens.push (.fresh (.compStart (.GeneratorExp (.Name h ep) [⟨.Name h px, iter, [], 0⟩] scope pos) 0 (.ref a₁) .none cenv)), toks := tk + 1 + 1, heap := h'.push ob } → Q (.ref h'.objs.size) s₃ by
    exact H _ _ _ rfl rfl rfl
  intro ob cenv s₃ hG hC hT
  have kk := stays_push h' ob
  have eL : cenv.locals = s₂.heap.objs.size := by rw [hC]; rfl
  have eC : cenv.cells = [] := by rw [hC]; rfl
  have eS : cenv.scope = scope := by rw [hC]; rfl
  have hcl : ob.cls = .type "generator" := by rw [hG]
  have hdt : ob.data = .fields #[.int s₂.gens.size 0, .str ("<genexpr>" : Str) tk, .str (env.qual ++ ("<genexpr>" : Str)) (tk + 1)] := by rw [hG]
  have hfr : ob.isFreed = false := by rw [hG]; rfl
  have i' : Inv Γ { s₂ with heap := h', toks := tk } := i₂.stays k rfl rfl
  have own : Own2 Γ cenv := ⟨own_of i₂ ⟨by rw [eS]; exact hkind, by rw [hC]; exact he.glob, by rw [hC]; rfl⟩ eL, by rw [hC]; rfl⟩
  have hsz : ∀ b, h'.objs.size ≤ b → s₂.heap.get? b = none := fun b hb => by
    cases e : s₂.heap.get? b with
    | none => rfl
    | some o => exact absurd (Heap.lt_size (k _ _ e)) (Nat.not_lt.mpr hb)
  obtain ⟨oL, eoL, cL⟩ := c'
  have eh : s₃.heap = h'.push ob := by rw [hT]
  have eg : s₃.gens = s₂.gens.push (.fresh (.compStart (.GeneratorExp (.Name h ep) [⟨.Name h px, iter, [], 0⟩] scope pos) 0 (.ref a₁) .none cenv)) := by rw [hT]
  have i₃ : Inv Γ s₃ := ⟨fun b o e => by rw [eh]; exact kk b o (i'.base b o e), fun q m => let ⟨ps, a, b⟩ := i'.tabs q m; ⟨ps, by rw [eh]; exact a.keeps kk, by rw [eh]; exact b.keeps kk⟩, by rw [hT]; exact i₂.os, by rw [eg]; exact i₂.bare.push rfl⟩
  have g₃ : Grow0 s₂ s₃ := by
    refine ⟨fun b o e _ => ⟨o, by rw [eh]; exact kk b o (k b o e), .inl rfl⟩, fun b o e => ⟨o, by rw [eh]; exact kk b o (k b o e), rfl, fun q => q⟩, fun j y e _ => ?_, ?_⟩
    · have hj : j < s₂.gens.size := (Array.getElem?_eq_some_iff.mp e).1
      rw [eg, Array.getElem?_push_lt hj]
      rw [Array.getElem?_eq_getElem hj] at e; exact e
    · rw [eg]; simp
  have gen₃ : s₃.gens[s₂.gens.size]? = some (.fresh (.compStart (.GeneratorExp (.Name h ep) [⟨.Name h px, iter, [], 0⟩] scope pos) 0 (.ref a₁) .none cenv)) := by rw [eg]; simp
  have isg : s₃.heap.IsGen h'.objs.size s₂.gens.size := by
    rw [eh]; exact ⟨ob, _, _, Heap.get?_push_size _ hfr, hcl, hdt, by rw [hG]⟩
  have act₃ : Act cenv s₃.heap := by
    rw [eh]
    exact ⟨⟨_, by rw [eL]; exact n'.keeps kk⟩, oL, by rw [eL]; exact kk _ _ eoL, cL⟩
  have neL : h'.objs.size ≠ cenv.locals := by
    rw [eL]
    intro e
    have h1 := Heap.lt_size eoL
    rw [e] at h1; exact Nat.lt_irrefl _ h1
  have dm₂ : Dom s₀ s₂ := hdm.trans (.of gg₂)
  refine hq _ s₃ i₃ (gg₂.trans g₃.of0) (fun pos' q hne x => (tk₂ pos' q hne (x.grow g₁ (fun w => w) fun _ _ _ _ w => w)).grow g₃ (fun w => w) fun _ _ _ _ w => w) ?_
  obtain ⟨V, gI, hlo, hk, hI₂, hF, hst, hGn, hfr⟩ := src₂
  subst hlo
  have newL : s₂.heap.get? cenv.locals = none := by rw [eL]; exact get_size _
  have newA : s₂.heap.get? h'.objs.size = none := hsz _ (Nat.le_refl _)
  have ap : Apart Γ cenv V h'.objs.size s₂.gens.size (fun _ => False) := by
    refine ⟨fun q => ?_, fun q => ?_, fun q => ?_, neL, fun q => Nat.lt_irrefl _ (hGn _ q), h1, h2, h3, fun x c q => by rw [eC] at q; simp at q⟩
    · obtain ⟨_, o', e'⟩ := hst _ (.inl q)
      rw [newL] at e'; cases e'
    · obtain ⟨_, o', e'⟩ := hst _ (.inr q)
      rw [newL] at e'; cases e'
    · obtain ⟨_, o', e'⟩ := hst _ (.inl q)
      rw [newA] at e'; cases e'
  have le : V.Le (mkW V cenv.locals h'.objs.size s₂.gens.size (fun _ => False)) := ⟨fun _ q => .inl q, fun _ q => q, fun _ q => .inl q, fun _ q => .inl q⟩
  refine ⟨mkW V cenv.locals h'.objs.size s₂.gens.size (fun _ => False), s₂.gens.size, rfl, .inr (.inl rfl), isg, fun A' hA' => ?_, fun b hb => ?_, fun j hj => ?_, fun b hb => ?_⟩
  · refine feeds_gen (V := V) (out := vs) le (.inr rfl) ap.ng (.inr (.inl rfl)) (fun q => q.elim ap.na ap.haL) ap.log hA' vs s₃ _ [] rfl gen₃ isg fun s₄ gr o₄ i₄ => ⟨rfl, ?_⟩
    have hL : ¬ ¬ Keep Γ (mkW V cenv.locals h'.objs.size s₂.gens.size (fun _ => False)) s₃ cenv.locals := fun w => w (.inl (.inl (.inr rfl)))
    have lt : LaterX Γ V s₃ s₄ := gr.weaken (fun b w q => w (q.mono le)) fun j w => w
    have lt₂ : LaterX Γ V s₂ s₄ := g₃.later.trans lt
    exact gexp_start own (by show cenv.scope.names.lookup h = _; rw [eS]; exact hx) hd ap (by rw [eS]; exact hco) hA' ((hF (A'.in1.deeper cenv) hA').later lt₂) (isGen_keep hI₂ lt₂ fun q => q (.inr hk)) o₄ i₄ (act₃.grow gr hL) ⟨[], rfl⟩
  · have old : ∀ {b : Addr}, (s₀.heap.get? b = none ∧ ∃ o, s₂.heap.get? b = some o) → s₀.heap.get? b = none ∧ ∃ o, s₃.heap.get? b = some o := fun ⟨p, o, q⟩ => ⟨p, let ⟨o', q', _⟩ := g₃.dom _ _ q; ⟨o', q'⟩⟩
    rcases hb with (hb | rfl) | (hb | rfl | hb)
    · exact old (hst b (.inl hb))
    · obtain ⟨o', e', _⟩ := act₃.fr
      exact ⟨dm₂ _ newL, o', e'⟩
    · exact old (hst b (.inr hb))
    · obtain ⟨o', nm, qn, e', _⟩ := isg
      exact ⟨dm₂ _ newA, o', e'⟩
    · exact hb.elim
  · rcases hj with hj | rfl
    · exact Nat.lt_of_lt_of_le (hGn j hj) g₃.gsz
    · exact (Array.getElem?_eq_some_iff.mp gen₃).1
  · rcases hb with hb | rfl
    · obtain ⟨o, e, c⟩ := hfr b hb
      obtain ⟨o', e', c', _⟩ := g₃.dom b o e
      exact ⟨o', e', c'.trans c⟩
    · exact act₃.fr

-- Ha
open PySem PySem.W PyProof.Rows PySem.Calls PySem.SeqAt
open PySem.Builtin.ObjectAttr
set_option Elab.async false
set_option maxRecDepth 100000
set_option linter.unusedVariables false
set_option linter.unusedSimpArgs false
set_option maxHeartbeats 400000

theorem kind_tga : builtinKind "tuple.__getattribute__" = some .slot := by decide +kernel
theorem ga_ne : (Value.builtin "tuple.__getattribute__" == Value.builtin "object.__getattribute__") = false := by decide +kernel
theorem split_tga : splitId "tuple.__getattribute__" = some ("tuple", "__getattribute__") := by decide +kernel

section
variable {prog : Program} {w : World} {A : Around} {E : Value → Shared → Prop} {s : Shared} {K : Frag} {x C : Addr} {ox : Obj} {name : Str} {expr : Bool} {Q : Value → Shared → Prop}
/-- an attribute of an object of an own class over tuple, by a descriptor of the class -/
theorem tup_get {g a : Value} {od : Option Obj} (X : K.In s.heap) (I : InstAt s.heap x ox C od) (hga : findIn K (.ref C) "__getattribute__" = some (some (.builtin "tuple.__getattribute__")))
    (hk : findIn K (.ref C) "__getattr__" = some none) (hsub : subIn K (.ref C) (.type "tuple") = some true) (hf : findObj K C od name = some (.bind g a))
    (h : wpAny (model prog w) A.in1 (call g [a, .ref x, .ref C]) (fun v s' => wpAny (model prog w) A (handedOut v) Q E s') (fun _ _ => False) { s with toks := s.toks + 1 }) :
    wpAny (model prog w) A (getAttr (.ref x) name expr) Q E s := by
  obtain ⟨hh, gg, d, t, os⟩ := s
  have L0 := I.type (M := model prog w)
  have L1 := looks_findIn (M := model prog w) X hga
  have L2 := looks_find (M := model prog w) X I hf
  have L3 := looks_findIn (M := model prog w) X hk
  have LI : Looks (model prog w) hh (isInstance (.ref x) (.type "tuple")) true := L0.andThen (looks_subIn X hsub)
  have hne : ¬ (onTheHeap (.ref C) && (Value.builtin "tuple.__getattribute__" == Value.builtin "object.__getattribute__")) = true := by
    rw [ga_ne, Bool.and_false]; exact Bool.false_ne_true
  have hb : hookBefore (.ref C) = typeLookup (.ref C) "__getattr__" := rfl
  have hcg : ∀ o n, callGetattribute o n (.builtin "tuple.__getattribute__") expr = boundAndCalled (.builtin "tuple.__getattribute__") o n := fun o n => by
    unfold callGetattribute
    have : onTheHeap (.builtin "tuple.__getattribute__") = false := rfl
    rw [this, Bool.and_false]; rfl
  unfold getAttr getAttrBy
  refine wpAny_bind (wpAny_mkText (wpAny_holding (wpAny_bind (L0.at (wpAny_bind (L1.at ?_))))))
  show wpAny _ _ (if (onTheHeap (.ref C) && (Value.builtin "tuple.__getattribute__" == Value.builtin "object.__getattribute__")) = true then _ else _) _ _ _
  rw [if_neg hne]
  unfold getAttrByItsOwn
  rw [hb]
  refine wpAny_bind (L3.at ?_)
  refine wpAny_bind (wpAny_attempt (wpAny_holding ?_))
  rw [hcg]
  unfold boundAndCalled
  rw [F.slot_tuple_getattribute.bind]
  refine wpAny_bind (wpAny_pure ?_)
  show wpAny _ _ (call (.builtin "tuple.__getattribute__") [.ref x, .str name t]) _ _ _
  refine wpAny_call ?_
  refine codeAny_call_builtin F.slot_tuple_getattribute.plain am_entry_tuple_getattribute ?_
  refine check_slot (i := "tuple.__getattribute__") (self := .ref x) (rest := [.str name t]) (kw := []) kind_tga split_tga LI (F.args_tuple_getattribute_2 (.ref x) (.str name t)) ?_
  unfold Builtin.«object.__getattribute__»
  refine wpAny_bind (wpAny_pure (wpAny_bind (wpAny_pure (wpAny_bind (L0.at (wpAny_bind (L2.at ?_)))))))
  show wpAny _ _ (bindTo g a (.ref x) (.ref C)) _ _ _
  show wpAny _ _ (holding [a] (call g [a, .ref x, .ref C]) >>= ret) _ _ _
  exact wpAny_bind (wpAny_holding (wpAny_mono h (fun v s' z => wpAny_pure z) fun _ _ z => z.elim))
end

-- Hb
open PySem PySem.W PyProof.Rows PySem.Calls PySem.SeqAt
set_option Elab.async false
set_option maxRecDepth 100000
set_option linter.unusedVariables false
set_option linter.unusedSimpArgs false
set_option maxHeartbeats 400000

noncomputable def flagsObj (cl tr rs pu : Bool) (k : Nat) (d : Addr) : Obj := { cls := .ref 182, dict := some d, data := .seq #[.bool cl, .bool tr, .bool rs, .bool pu] k }
noncomputable def FlagsAt (Γ : Cx) (fa : Addr) (cl tr rs pu : Bool) : Prop := ∃ k d od, Γ.hb.get? fa = some (flagsObj cl tr rs pu k d) ∧ Γ.hb.get? d = some od

section
variable {Γ : Cx} {n : Nat} {env : Env} {σ : Sto} {fa : Addr} {cl tr rs pu : Bool}
theorem type_d {x C : Addr} {o : Obj} (hx : Γ.hb.get? x = some o) (hc : o.cls = .ref C) : CaD Γ n (.type "type") [.eq (.ref x)] (.eq (.ref C)) := fun A s vs Q E ok i q p => by
  obtain ⟨v, rfl, hv⟩ := q.one
  cases (show v = .ref x from hv)
  obtain ⟨hh, g, d, t, os⟩ := s
  exact call_type_obj (i.base _ _ hx) (by rw [hc]; rfl) (by rw [hc]; exact p.same i rfl)
theorem meta_tuple : typeOf (.type "tuple") = pure (.type "type") := by kernel_rfl
theorem issub_d {C : Addr} {o : Obj} {cd : ClassData} (hs : subIn Γ.Kf (.ref C) (.type "tuple") = some true) (hl : Γ.Kf.lookup C = some o) (hc : o.data = .cls cd) : CaD Γ n (.builtin "issubclass") [.eq (.ref C), .eq (.type "tuple")] (.bool true) := fun A s vs Q E ok i q p => by
  obtain ⟨v, w, rfl, hv, hw⟩ := q.two
  cases (show v = .ref C from hv)
  cases (show w = .type "tuple" from hw)
  have g : Meets (Builtin.«issubclass» ⟨[.ref C, .type "tuple"], []⟩) (fun _ R s => ((∃ o cd, s.heap.get? C = some o ∧ o.data = .cls cd) ∧ ∀ (M : Model) (A : Around) (Q : Bool → Shared → Prop) (E : Value → Shared → Prop), Q true s → wpAny M A (isSubtype (.ref C) (.type "tuple")) Q E s) ∧ R (.ok (.ret (.bool true))) s) := by
    intro prog w A R s ⟨⟨⟨o, cd, ho, hcd⟩, hl⟩, hr⟩
    refine issubclass_outer ?_
    have hm := meta_tuple
    have hd : (match o.data with | .cls _ => true | _ => false) = true := by rw [hcd]
    repeat (any_goals (first | assumption | (rw [if_pos hm]) | (rw [hd]) | (refine hl _ _ _ _ ?_) | (refine wpAny_loadPart ho ?_) | wp_step))
  refine call_issubclass g ⟨⟨⟨o, cd, i.K _ _ hl, hc⟩, fun M A Q E hq => (looks_subIn i.K hs).here hq⟩, ?_⟩
  exact p.same i rfl
end

-- Hc
open PySem PySem.W PyProof.Rows PySem.Calls PySem.SeqAt
set_option Elab.async false
set_option maxRecDepth 100000
set_option linter.unusedVariables false
set_option linter.unusedSimpArgs false
set_option maxHeartbeats 400000

theorem kind_tgi : builtinKind "tuple.__getitem__" = some .slot := by decide +kernel
theorem split_tgi : splitId "tuple.__getitem__" = some ("tuple", "__getitem__") := by decide +kernel
section
open PySem.MeetsSeq
theorem meets_tget (l C : Addr) (D : Option Addr) (items : Array Value) (n : Nat) (i : Int) (u : Tok) (k : Nat) (y : Value) (hlo : -2 ^ 63 ≤ i) (hhi : i < 2 ^ 63) (hk : seqIndex? i items.size = some k) (hy : items[k]? = some y) :
    Meets (Builtin.«tuple.__getitem__» ⟨[.ref l, .int i u], []⟩)
      (fun _ R s => s.heap.get? l = some { cls := .ref C, dict := D, data := .seq items n, slots := #[] } ∧ R (.ok (.ret y)) s) :=
  .of_wp fun prog w A R s h => by
    obtain ⟨hp, g, d, tk, os⟩ := s; obtain ⟨hl, h⟩ := h
    have f1 := AutoSeq1.idx_int
    have hf : ¬ (decide (i < -2 ^ 63) || decide (i ≥ 2 ^ 63)) = true := by simp; omega
    wp_walk using wpAny_loadPart' hl
    simp only [hk, hy, Option.bind_some]
    refine wpAny_ite_false (by simp; omega) ?_
    wp_walk
    exact ⟨_, rfl, h⟩
end
section
variable {Γ : Cx} {n : Nat} {env : Env} {σ : Sto} {fa : Addr} {cl tr rs pu : Bool}
/-- an attribute out of the dict of an object of the top -/
theorem EvD.kattr {o : Expr} {attr : Str} {pos : Pos} {a C dx : Addr} {ox od : Obj} {v : Value} (x : EvD Γ n env σ o (.eq (.ref a))) (l1 : Γ.Kf.lookup a = some ox) (hc : ox.cls = .ref C) (hn : notCls ox = true) (hd : ox.dict = some dx) (l2 : Γ.Kf.lookup dx = some od)
    (hga : findIn Γ.Kf (.ref C) "__getattribute__" = some (some (.builtin "object.__getattribute__"))) (hf : findObj Γ.Kf C (some od) attr = some (.value v)) (hh : handedIn v = true)
    (he : eval (.Attribute o attr pos) env = (do
      let ov ← eval o env
      standAt pos.atName
      let r ← holding [ov] (getAttr ov attr true)
      letTemporaryGo o ov r
      pure r) := by rfl) (hl : ∀ u r, letTemporaryGo o u r = pure () := by intros; rfl) : EvD Γ n env σ (.Attribute o attr pos) (.eq v) := fun A s Q E ok i t p => by
  rw [he]
  refine wpAny_bind (x A s _ E ok i t fun u s₁ i₁ g₁ hu => ?_)
  cases (show u = .ref a from hu)
  refine wpAny_bind (wpAny_standAt (wpAny_bind (wpAny_holding ?_)))
  have I : InstAt s₁.heap a ox C (some od) := ⟨i₁.K _ _ l1, hc, hn, by rw [hd]; exact i₁.K _ _ l2⟩
  refine get_value i₁.K I hga hf hh ?_
  rw [hl]
  refine wpAny_bind (wpAny_pure (wpAny_pure ?_))
  have k : s₁.heap.StaysIn s₁.heap := fun _ _ e => e
  exact p _ _ (i₁.stays (s' := { s₁ with toks := s₁.toks + 1 }) k rfl rfl) (g₁.trans (.of_stays (s' := { s₁ with toks := s₁.toks + 1 }) k rfl)) rfl

/-- tuple.__getitem__(o, i) over an object of an own class over tuple -/
theorem EvD.tget {e₁ e₂ : Expr} {np apos pos : Pos} {pl : Sem Bool} {i : Int} {b : Bool} (henv : EnvOk env) (hx : env.kindOf ("tuple" : Str) = some .globalImplicit) (x : EvD Γ n env σ e₁ (.eq (.ref fa))) (y : EvD Γ n env σ e₂ (.int i)) (hfa : FlagsAt Γ fa cl tr rs pu)
    (hs : subIn Γ.Kf (.ref 182) (.type "tuple") = some true) (hfc : findCls Γ.Kf (.type "tuple") (.type "type") "__getitem__" = some (.val (.builtin "tuple.__getitem__"))) (hlo : 0 ≤ i) (hhi : i < 4) (hb : (#[.bool cl, .bool tr, .bool rs, .bool pu] : Array Value)[i.toNat]? = some (.bool b))
    (e1 : plainE e₁ = true := by rfl) (e2 : plainE e₂ = true := by rfl)
    (he : eval (.Call (.Attribute (.Name "tuple" np) "__getitem__" apos) [e₁, e₂] [] pos) env = (do
      let ov ← eval (.Name "tuple" np) env
      standAt apos.atName
      let (f, first) ← holding [ov] (getMethod ov "__getitem__" pl)
      callWith pos f first (backTo pos (starEach [e₁, e₂] env)) []) := by rfl) : EvD Γ n env σ (.Call (.Attribute (.Name "tuple" np) "__getitem__" apos) [e₁, e₂] [] pos) (.bool b) := fun A s Q E ok iv t p => by
  obtain ⟨kk, df, odf, hfa, _⟩ := hfa
  refine MethodCall_ (pl := pl) (EvD.builtin (Γ := Γ) (n := n) (σ := σ) (v := .type "tuple") henv hx (by decide) rfl (by decide) (by decide) A s _ E ok iv t fun v s₁ i₁ g₁ hv => ?_) he
  cases (show v = .type "tuple" from hv)
  have X := i₁.K
  have hstub : opaqueClassAbove (.type "tuple") = pure none := by unfold opaqueClassAbove; dsimp only; rw [show Manifest.isStub "tuple" = false by decide +kernel]; rfl
  have L0 : Looks Γ.M s₁.heap (typeOf (.type "tuple")) (.type "type") := Looks.of_pure meta_tuple
  have hg : findIn Γ.Kf (.type "type") "__getattribute__" = some (some (.builtin "type.__getattribute__")) := type_tga
  unfold getMethod specialOf
  refine wpAny_bind (wpAny_bind (L0.here ((looks_findIn X hg).here ?_)))
  dsimp only
  rw [if_pos canon_tga]
  have k0 : s₁.heap.StaysIn s₁.heap := fun _ _ e => e
  have i₁' : Inv Γ { s₁ with toks := s₁.toks + 1 } := i₁.stays (s' := { s₁ with toks := s₁.toks + 1 }) k0 rfl rfl
  have g₁' : Grow0 s { s₁ with toks := s₁.toks + 1 } := g₁.trans (.of_stays (s' := { s₁ with toks := s₁.toks + 1 }) k0 rfl)
  refine wpAny_bind (wpAny_mono (Q := fun v s₃ => v = .builtin "tuple.__getitem__" ∧ s₃ = { s₁ with toks := s₁.toks + 1 }) (E := E) ?_ (fun v s₃ z => wpAny_pure ?_) fun _ _ z => z)
  · have LO : Looks Γ.M s₁.heap (opaqueClassAbove (.type "tuple")) none := Looks.of_pure hstub
    refine cls_open X LO L0 hg (looks_hook X (r := none) (by rfl)) (by show subIn _ _ _ = _; rfl) (r := .val (.builtin "tuple.__getitem__")) hfc
      (wpAny_pure (by show wpAny _ _ (handedOut _) _ _ _; rw [handedOut_of (show handedIn (.builtin "tuple.__getitem__") = true by decide +kernel)]; exact wpAny_pure ⟨rfl, rfl⟩))
  · obtain ⟨rfl, rfl⟩ := z
    have key := ArgsD.cons x (ArgsD.cons y ArgsD.nil e2) e1 A _ pos (fun vs s₂ => wpAny Γ.M A (PySem.call (.builtin "tuple.__getitem__") ([] ++ vs)) Q E s₂) E (ok.grow g₁') i₁' (t.grow0 g₁') fun vs s₂ i₂ g₂ q₂ => ?_
    · rw [starEach_cons e₁ [e₂] env e1] at key ⊢
      exact Calls.callWith_builtin (by
        have := star_plain pos env [e₂] (by simp [e2])
        show (false || (backTo pos (starEach [e₂] env)).any (·.1)) = false
        rw [this]; rfl) (Calls.evalArgs_plain key)
    · obtain ⟨u, v, rfl, hu, ⟨tv, hv⟩⟩ := q₂.two
      cases (show u = .ref fa from hu)
      subst hv
      have eo := i₂.base _ _ hfa
      have LI : Looks Γ.M s₂.heap (isInstance (.ref fa) (.type "tuple")) true := (Looks.ld eo).andThen (Looks.now.andThen (looks_subIn i₂.K hs))
      show wpAny Γ.M A (PySem.call (.builtin "tuple.__getitem__") [.ref fa, .int i tv]) Q E s₂
      refine wpAny_call ?_
      refine codeAny_call_builtin F.slot_tuple_getitem.plain F.entry_tuple_getitem ?_
      refine check_slot (i := "tuple.__getitem__") (self := .ref fa) (rest := [.int i tv]) (kw := []) kind_tgi split_tgi LI (F.args_tuple_getitem_2 (.ref fa) (.int i tv)) ?_
      refine meets_tget fa 182 _ _ kk i tv i.toNat (.bool b) (by omega) (by omega) ?_ ?_ Γ.prog Γ.w A (wants Q E) s₂ ⟨eo, (p.grow (g₁'.trans g₂)).same i₂ rfl⟩
      · have hn : ¬ i < 0 := by omega
        simp [seqIndex?, hn, hlo, hhi]
      · exact hb
end

-- Hd
open PySem PySem.W PyProof.Rows PySem.Calls PySem.SeqAt
set_option Elab.async false
set_option maxRecDepth 100000
set_option linter.unusedVariables false
set_option linter.unusedSimpArgs false
set_option maxHeartbeats 400000



theorem FnD.bodyP {Γ : Cx} {n : Nat} {f : Addr} {oc : Value} {od : Option Addr} {sl : Array (Option Value)} {fd : FuncData} {body : List Stmt} {names : List Str} {Ps : List Pd} {R : Pd}
    (hK : Γ.Kf.lookup f = some ⟨oc, od, .func fd, sl⟩) (hb : fd.body = .stmts body) (hcode : codeIn Γ.Kf fd.code fd.qualname = true)
    (hbind : ∀ vs : List Value, vs.length = Ps.length → ∀ S, peek Γ.Kf S (bindArgs fd ⟨vs, []⟩) = some (names.zip vs)) (hnd : names.Nodup) (hlen : names.length = Ps.length) (hloc : ∀ x ∈ names, fd.scope.names.lookup x = some .local) (hcell : ∀ x ∈ fd.scope.names, x.2 ≠ .cell)
    (hcl : fd.closure = []) (hgl : fd.globals = mainGlobals) (hbl : fd.builtins = builtinsNs) (hco : fd.scope.isCoroutine = false) (hgen : fd.scope.isGenerator = false) (hk : fd.scope.kind = .function)
    (h : ∀ L, BdD Γ n (callEnv fd L f) (names.zip Ps) body R) : FnD Γ (n + 1) f Ps R := fun A s vs Rr o i q p => by
  have hlv : vs.length = Ps.length := q.length
  refine codeAny_call_function o.room (i.K _ _ hK) rfl hco hgen hb (codeRec_of i.K hcode) ?_
  refine (Looks.of_peek i.K (hbind vs hlv _)).here ?_
  refine newEnv_at hk hcell (fun x hx => hloc x.1 (List.of_mem_zip (show (x.1, x.2) ∈ names.zip vs from hx)).1) fun h' tk n' c' k sb => ?_
  rw [hcl]
  have i' : Inv Γ { s with heap := h', toks := tk } := i.stays k rfl rfl
  refine ⟨i'.nolimit, codeAny_func ?_⟩
  have hkeys : ((names.zip vs).map (·.1)).Nodup := by rw [List.map_fst_zip (by omega)]; exact hnd
  have st : Sat (callEnv fd s.heap.objs.size f) h' (names.zip Ps) := fun x P e => by
    obtain ⟨v, ev, pv⟩ := (q.mono (.of_stays k)).zip_lookup e
    refine ⟨v, .inl ⟨?_, _, n', by rw [lookup_rev hkeys]; exact ev⟩, pv⟩
    have hx : x ∈ names := by
      have : ∃ p ∈ names.zip Ps, p.1 = x := by
        cases hf : (names.zip Ps).lookup x with
        | none => rw [hf] at e; cases e
        | some P' =>
          have m := mem_of_lookup hf
          exact ⟨_, m, rfl⟩
      obtain ⟨p', hp', rfl⟩ := this
      exact (List.of_mem_zip (show (p'.1, p'.2) ∈ names.zip Ps from hp')).1
    exact hloc x hx
  have he : EnvOk (callEnv fd s.heap.objs.size f) := ⟨hk, hgl, hbl⟩
  have ee : newEnv fd.scope s.heap.objs.size fd.globals [] (fd.qualname ++ ".<locals>.") (some f) fd.code none fd.builtins = callEnv fd s.heap.objs.size f := by unfold callEnv; rw [hcl]
  rw [ee]
  refine h s.heap.objs.size (A.deeper (callEnv fd s.heap.objs.size f)) { s with heap := h', toks := tk } _ _ (o.call i (s₁ := { s with heap := h', toks := tk }) (env := callEnv fd s.heap.objs.size f) k rfl hk rfl rfl ⟨_, n'⟩ c') i' (own_of i he rfl) ⟨⟨_, n'⟩, c'⟩ st fun v s' i₂ g₂ a₂ r₂ => ?_
  exact p v s' i₂ (grow_call (s₁ := { s with heap := h', toks := tk }) k rfl (Nat.le_refl _) g₂) r₂


theorem len3' {α : Type} {β : Type} {P : List α → Prop} (h : ∀ a b c, P [a, b, c]) : ∀ vs : List α, vs.length = 3 → P vs := by
  intro vs hv
  rcases vs with _ | ⟨a, _ | ⟨b, _ | ⟨c, _ | ⟨d, r⟩⟩⟩⟩ <;> simp at hv
  exact h a b c
section
variable {Γ : Cx} {n : Nat} {env : Env} {σ : Sto} {fa : Addr} {cl tr rs pu : Bool}
theorem get_t {a dx : Addr} {ox od : Obj} {j : Int} {tk : Tok} {b : Bool} (hfa : FlagsAt Γ fa cl tr rs pu) (l1 : Γ.Kf.lookup a = some ox) (hc : ox.cls = .ref 99) (hn : notCls ox = true) (hdx : ox.dict = some dx) (l2 : Γ.Kf.lookup dx = some od)
    (hf : findObj Γ.Kf 99 (some od) "index" = some (.value (.int j tk))) (hlo : 0 ≤ j) (hhi : j < 4) (hb : (#[.bool cl, .bool tr, .bool rs, .bool pu] : Array Value)[j.toNat]? = some (.bool b)) : FnD Γ 1 82 [.eq (.ref a), .eq (.ref fa), .eq (.ref 182)] (.bool b) := by
  refine' FnD.bodyP (names := ["self", "obj", "objtype"]) ?hK ?hb ?hcode ?hbind ?hnd ?hlen ?hloc ?hcell ?hcl ?hgl ?hbl ?hco ?hgen ?hk ?h
  (case hK => (show (KF (Cx.w _).params).lookup _ = _; k_is))
  (case hb => exact rfl)
  (case hcode => (show codeIn (KF (Cx.w _).params) _ _ = true; k_is))
  (case hcl => exact rfl)
  (case hgl => exact rfl)
  (case hbl => exact rfl)
  (case hco => exact rfl)
  (case hgen => exact rfl)
  (case hk => exact rfl)
  (case hnd => decide)
  (case hlen => exact rfl)
  (case hloc => decide)
  (case hcell => decide)
  (case hbind =>
    refine len3' (β := Unit) fun a b c S => ?_
    show peek (KF (Cx.w _).params) _ _ = _
    kernel_rfl)
  (case' h => (intro _; dsimp only [List.zip, List.zipWith]))
  refine BdD.ite (b := false) (TsD.cmp (by walk_at "m nm") EvD.cnone (op_is_none rfl)) (fun h => by cases h) fun _ => ?_
  obtain ⟨kk, df, odf, hfk, _⟩ := id hfa
  have hs : subIn Γ.Kf (.ref 182) (.type "tuple") = some true := by
    show subIn (KF (Cx.w _).params) _ _ = _; k_is
  have isd : CaD Γ 0 (.builtin "issubclass") [.eq (.ref 182), .eq (.type "tuple")] (.bool true) := by
    refine' issub_d hs ?l1 ?l2
    case l1 => show (KF (Cx.w _).params).lookup _ = _; k_is
    case l2 => rfl
  refine BdD.ite (b := !true) (TsD.not (TsD.val (EvD.callB ⟨rfl, rfl, rfl⟩ rfl (by decide) rfl (ArgsD.cons (EvD.callT ⟨rfl, rfl, rfl⟩ rfl (by decide) rfl (ArgsD.cons (by walk_at "m nm") ArgsD.nil) (type_d hfk rfl)) (ArgsD.cons (EvD.builtin (v := .type "tuple") ⟨rfl, rfl, rfl⟩ rfl (by decide) rfl) ArgsD.nil)) isd) Tru.bool)) (fun h => by cases h) fun _ => ?_
  refine BdD.ret (EvD.tget ⟨rfl, rfl, rfl⟩ rfl (by walk_at "m nm") (EvD.imp (EvD.kattr (by walk_at "m nm") l1 hc hn hdx l2 ?g hf rfl) fun _ v q => ⟨tk, q⟩) hfa hs ?f hlo hhi hb)
  case g => show findIn (KF (Cx.w _).params) _ _ = _; k_is
  case f => show findCls (KF (Cx.w _).params) _ _ _ = _; k_is

theorem Ok.in1 {A : Around} {h : Heap} (o : Ok Γ (n + 1) A h) : Ok Γ n A.in1 h := ⟨o.handled, by have := o.depth; simp only [Around.in1_depth]; omega, by have := o.units; simp only [Around.in1_units]; omega, o.guards, o.frames⟩
/-- hdr_validation_flags.name -/
theorem EvD.flagA {o : Expr} {attr : Str} {pos : Pos} {a dx : Addr} {ox od : Obj} {j : Int} {tk : Tok} {b : Bool} (x : EvD Γ (n + 2) env σ o (.eq (.ref fa))) (hfa : FlagsAt Γ fa cl tr rs pu)
    (hf1 : ∀ od, findObj Γ.Kf 182 od attr = some (.bind (.ref 82) (.ref a))) (l1 : Γ.Kf.lookup a = some ox) (hc : ox.cls = .ref 99) (hn : notCls ox = true) (hdx : ox.dict = some dx) (l2 : Γ.Kf.lookup dx = some od)
    (hf : findObj Γ.Kf 99 (some od) "index" = some (.value (.int j tk))) (hlo : 0 ≤ j) (hhi : j < 4) (hb : (#[.bool cl, .bool tr, .bool rs, .bool pu] : Array Value)[j.toNat]? = some (.bool b))
    (hga : findIn Γ.Kf (.ref 182) "__getattribute__" = some (some (.builtin "tuple.__getattribute__"))) (hk : findIn Γ.Kf (.ref 182) "__getattr__" = some none) (hs : subIn Γ.Kf (.ref 182) (.type "tuple") = some true)
    (he : eval (.Attribute o attr pos) env = (do
      let ov ← eval o env
      standAt pos.atName
      let r ← holding [ov] (getAttr ov attr true)
      letTemporaryGo o ov r
      pure r) := by rfl) (hl : ∀ u r, letTemporaryGo o u r = pure () := by intros; rfl) : EvD Γ (n + 2) env σ (.Attribute o attr pos) (.bool b) := fun A s Q E ok i t p => by
  rw [he]
  refine wpAny_bind (x A s _ E ok i t fun u s₁ i₁ g₁ hu => ?_)
  cases (show u = .ref fa from hu)
  refine wpAny_bind (wpAny_standAt (wpAny_bind (wpAny_holding ?_)))
  obtain ⟨kk, df, odf, hfk, hfd⟩ := id hfa
  have eo := i₁.base _ _ hfk
  have I : InstAt s₁.heap fa (flagsObj cl tr rs pu kk df) 182 (some odf) := ⟨eo, rfl, rfl, i₁.base _ _ hfd⟩
  have k0 : s₁.heap.StaysIn s₁.heap := fun _ _ e => e
  have i₁' : Inv Γ { s₁ with toks := s₁.toks + 1 } := i₁.stays (s' := { s₁ with toks := s₁.toks + 1 }) k0 rfl rfl
  have g₁' : Grow0 s { s₁ with toks := s₁.toks + 1 } := g₁.trans (.of_stays (s' := { s₁ with toks := s₁.toks + 1 }) k0 rfl)
  refine tup_get i₁.K I hga hk hs (hf1 _) ?_
  refine call_ofFn ((get_t hfa l1 hc hn hdx l2 hf hlo hhi hb).le (Nat.le_add_left 1 n)) (Ok.in1 (ok.grow g₁')) i₁' ⟨rfl, rfl, rfl, trivial⟩ fun v s₂ i₂ g₂ hv => ?_
  cases (show v = .bool b from hv)
  show wpAny _ _ (handedOut (.bool b)) _ _ _
  rw [handedOut_of rfl]
  refine wpAny_pure ?_
  rw [hl]
  exact wpAny_bind (wpAny_pure (wpAny_pure (p _ _ i₂ (g₁'.trans g₂) rfl)))
theorem EvD.trailer {o : Expr} {pos : Pos} (x : EvD Γ (n + 2) env σ o (.eq (.ref fa))) (hfa : FlagsAt Γ fa cl tr rs pu) (he : eval (.Attribute o "is_trailer" pos) env = (do
      let ov ← eval o env
      standAt pos.atName
      let r ← holding [ov] (getAttr ov "is_trailer" true)
      letTemporaryGo o ov r
      pure r) := by rfl) (hl : ∀ u r, letTemporaryGo o u r = pure () := by intros; rfl) : EvD Γ (n + 2) env σ (.Attribute o "is_trailer" pos) (.bool tr) := by
  refine' EvD.flagA (a := 171) (dx := 170) (j := 1) (tk := 481) (b := tr) x hfa ?hf1 ?l1 ?hc ?hn ?hdx ?l2 ?hf (by decide) (by decide) rfl ?hga ?hk ?hs he hl
  case hf1 => intro od; show findObj (KF (Cx.w _).params) _ _ _ = _; kernel_rfl
  case l1 => show (KF (Cx.w _).params).lookup _ = _; k_is
  case hc => rfl
  case hn => rfl
  case hdx => rfl
  case l2 => show (KF (Cx.w _).params).lookup _ = _; k_is
  case hf => show findObj (KF (Cx.w _).params) _ _ _ = _; kernel_rfl
  case hga => show findIn (KF (Cx.w _).params) _ _ = _; k_is
  case hk => show findIn (KF (Cx.w _).params) _ _ = _; k_is
  case hs => show subIn (KF (Cx.w _).params) _ _ = _; k_is
theorem EvD.response {o : Expr} {pos : Pos} (x : EvD Γ (n + 2) env σ o (.eq (.ref fa))) (hfa : FlagsAt Γ fa cl tr rs pu) (he : eval (.Attribute o "is_response_header" pos) env = (do
      let ov ← eval o env
      standAt pos.atName
      let r ← holding [ov] (getAttr ov "is_response_header" true)
      letTemporaryGo o ov r
      pure r) := by rfl) (hl : ∀ u r, letTemporaryGo o u r = pure () := by intros; rfl) : EvD Γ (n + 2) env σ (.Attribute o "is_response_header" pos) (.bool rs) := by
  refine' EvD.flagA (a := 174) (dx := 173) (j := 2) (tk := 491) (b := rs) x hfa ?hf1 ?l1 ?hc ?hn ?hdx ?l2 ?hf (by decide) (by decide) rfl ?hga ?hk ?hs he hl
  case hf1 => intro od; show findObj (KF (Cx.w _).params) _ _ _ = _; kernel_rfl
  case l1 => show (KF (Cx.w _).params).lookup _ = _; k_is
  case hc => rfl
  case hn => rfl
  case hdx => rfl
  case l2 => show (KF (Cx.w _).params).lookup _ = _; k_is
  case hf => show findObj (KF (Cx.w _).params) _ _ _ = _; kernel_rfl
  case hga => show findIn (KF (Cx.w _).params) _ _ = _; k_is
  case hk => show findIn (KF (Cx.w _).params) _ _ = _; k_is
  case hs => show subIn (KF (Cx.w _).params) _ _ = _; k_is
end

-- He
open PySem PySem.W PyProof.Rows PySem.Calls PySem.SeqAt
set_option Elab.async false
set_option maxRecDepth 100000
set_option linter.unusedVariables false
set_option linter.unusedSimpArgs false
set_option maxHeartbeats 400000


section
variable {Γ : Cx} {n : Nat} {s₀ s s' : Shared} {u : Value} {fin ufin : Bool} {lo : String → Prop} {vs : List Value}
variable {env : Env} {a : Addr} {g : Nat} {χ : Type} {step : χ → Fld → Option χ} {epi : χ → Bool} {σ : χ → Sto} {ok : Fld → Prop} {pre rest : List Stmt}
/-- a stage without cells: what it gives, once made -/
theorem stage_any {fb pro body : List Stmt} {iter : Expr} {px yp ypos epos fpos : Pos} {x₀ : χ} {us : List (Value × Fld)} {σ₀ : Sto} (md : Made Γ s s' env a g fb σ₀) (hc : env.cells = []) (hab : AbleX Γ n s₀ u ufin lo (us.map (·.1)) s) (hd : Dom s₀ s)
    (h1 : ¬ lo "frame") (h2 : ¬ lo "generator") (h3 : ¬ lo "cell") (pL : PureS σ₀) (hdr : env.kindOf "header" = some .local) (pu : ∀ x, PureS (σ x)) (hσ : ∀ x, (σ x).lookup ("header" : Str) = none)
    (hbody : body = pre ++ [.Expr (.Yield (some (.Name "header" yp)) ypos) epos]) (hfb : fb = pro ++ (.For (.Name "header" px) iter body [] fpos :: rest)) (hco : env.scope.isCoroutine = false) (hi : interactive env = false) (hs : ∀ x, foldedSetIterable iter env x = pure x)
    (hpro : StsD Γ n env σ₀ pro (σ x₀)) (hit : EvD Γ n env (σ x₀) iter (.eq u))
    (turn : ∀ x v f, ok f → RunD Γ n env (("header", hdrP v f) :: σ x) pre ((step x f).map fun x' => ("header", hdrP v f) :: σ x'))
    (epil : ∀ x, ∃ τ, RunD Γ n env (σ x) rest (if epi x then some τ else none)) (hus : ∀ q ∈ us, (fld q.2).p Γ.hb q.1 ∧ ok q.2) :
    SrcX Γ (n + 1) s₀ a (runTr ufin step epi x₀ us).2 lo (runTr ufin step epi x₀ us).1 s' := by
  obtain ⟨V, hlo, ha, hst, hG, hfr⟩ := hab
  subst hlo
  have ap := apart_of md hc hst hG h1 h2 h3
  have S := mkStage (rest := rest) (epi := epi) md.own hdr ap pu hσ turn epil
  have hLV : ∀ {s : Shared}, Act env s.heap → ¬ Keep Γ V s env.locals := fun ac k => by
    obtain ⟨o, e, c⟩ := ac.fr
    rcases k with k | k
    · exact ws_not ap.nL e c ap.lof k
    · exact ap.nLk k
  refine ⟨mkW V env.locals a g (fun _ => False), g, rfl, .inr (.inl rfl), md.isGen, stage_able (L₀ := fun s => Sat env s.heap σ₀) S hbody hfb hco hi hs (fun A s Q E tp o i ac hl hq => ?_) (fun A s Q E o i ac hl hq => ?_) (fun s s' ac hl gr => ?_) hus (ha.later md.grow.later) md.act md.sat md.gen md.isGen, fun b hb => ?_, fun j hj => ?_, fun b hb => ?_⟩
  · refine hpro A s Q E o i md.own.own ac hl fun s₁ i₁ g₁ a₁ t₁ => hq s₁ i₁ (g₁.weaken (fun b hb => .inl (.inr hb)) fun _ q => q.elim) (g₁.weaken (fun b hb k => ?_) fun _ q => q.elim) a₁ t₁
    exact hLV ac ((show b = env.locals from hb) ▸ k)
  · refine hit A s _ E o i hl fun v s₁ i₁ g₁ hv => ?_
    cases (show v = u from hv)
    exact hq s₁ i₁ g₁
  · have hL : ¬ ¬ Keep Γ (mkW V env.locals a g (fun _ => False)) s env.locals := fun w => w (.inl (.inl (.inr rfl)))
    exact ⟨ac.grow gr hL, sat_keep' hl pL gr hL fun c o e c' ⟨y, hy⟩ => by rw [hc] at hy; simp at hy⟩
  · have old : ∀ {b : Addr}, (s₀.heap.get? b = none ∧ ∃ o, s.heap.get? b = some o) → s₀.heap.get? b = none ∧ ∃ o, s'.heap.get? b = some o := fun ⟨p, o, q⟩ => ⟨p, let ⟨o', q', _⟩ := md.grow.dom _ _ q; ⟨o', q'⟩⟩
    rcases hb with (hb | rfl) | (hb | rfl | hb)
    · exact old (hst b (.inl hb))
    · obtain ⟨o, e, _⟩ := md.act.fr
      exact ⟨hd _ md.newL, o, e⟩
    · exact old (hst b (.inr hb))
    · obtain ⟨o, nm, qn, e, _⟩ := md.isGen
      exact ⟨hd _ md.newA, o, e⟩
    · exact hb.elim
  · rcases hj with hj | rfl
    · exact Nat.lt_of_lt_of_le (hG j hj) md.grow.gsz
    · exact (Array.getElem?_eq_some_iff.mp md.gen).1
  · rcases hb with hb | rfl
    · obtain ⟨o, e, c⟩ := hfr b hb
      obtain ⟨o', e', c', _⟩ := md.grow.dom b o e
      exact ⟨o', e', c'.trans c⟩
    · exact md.act.fr
end

-- Hf
open PySem PySem.W PyProof.Rows PySem.Calls PySem.SeqAt
set_option Elab.async false
set_option maxRecDepth 100000
set_option linter.unusedVariables false
set_option linter.unusedSimpArgs false
set_option maxHeartbeats 400000



noncomputable def GenD1 (Γ : Cx) (f : Addr) {χ : Type} (step : χ → Fld → Option χ) (epi : χ → Bool) (x₀ : χ) (ok : Fld → Prop) : Prop :=
  ∀ (m n : Nat) (A : Around) (s s₀ : Shared) (u : Value) (lo : String → Prop) (ufin : Bool) (us : List (Value × Fld)) (Rr : Result → Shared → Prop), Ok Γ m A s.heap → Inv Γ s → 3 ≤ n → ¬ lo "frame" → ¬ lo "generator" → ¬ lo "cell" →
    AbleX Γ n s₀ u ufin lo (us.map (·.1)) s → Dom s₀ s → (∀ q ∈ us, (fld q.2).p Γ.hb q.1 ∧ ok q.2) →
    (∀ a s', Inv Γ s' → Grow0 s s' → SrcX Γ (n + 1) s₀ a (runTr ufin step epi x₀ us).2 lo (runTr ufin step epi x₀ us).1 s' → Rr (.ok (.ret (.ref a))) s') → codeAny Γ.M A (.call (.ref f) ⟨[u], []⟩) Rr s

noncomputable abbrev bAuth : Bs := [58, 97, 117, 116, 104, 111, 114, 105, 116, 121]
noncomputable abbrev bHost : Bs := [104, 111, 115, 116]
noncomputable def hostStep (x : Option Bs × Option Bs) (f : Fld) : Option (Option Bs × Option Bs) := if f.1 == bAuth then some (some f.2, x.2) else if f.1 == bHost then (if x.2.isSome then none else some (x.1, some f.2)) else some x
noncomputable def hostEpi (x : Option Bs × Option Bs) : Bool := if !x.1.isSome && !x.2.isSome then false else !(x.1.isSome && (x.2.isSome && x.1.getD [] != x.2.getD []))

noncomputable def optB : Option Bs → Pd
  | none => .none
  | some b => ⟨fun h v => (Pd.bytes b).p h v ∧ b.length ≤ 1100, fun m q => ⟨(Pd.bytes b).mono m q.1, q.2⟩⟩
theorem pure_optB (b : Option Bs) : Pure (optB b) := by
  cases b with
  | none => exact fun _ _ _ q => q
  | some b => exact fun _ _ _ q => q
noncomputable abbrev hostS (u : Value) (x : Option Bs × Option Bs) : Sto := [("host_header_val", optB x.2), ("authority_header_val", optB x.1), ("headers", .eq u)]

theorem sat_sel {env : Env} {h : Heap} {σ' σ'' : Sto} (t : Sat env h σ') (hs : ∀ q ∈ σ'', σ'.lookup q.1 = some q.2) : Sat env h σ'' := fun x P hx => t x P (hs _ (mem_of_lookup hx))
section
variable {Γ : Cx} {n : Nat} {env : Env} {σ : Sto}
theorem RunD.assume {φ : Prop} {y : Str} {P : Pd} {ss : List Stmt} {r : Option Sto} (hy : σ.lookup y = some P) (hP : ∀ h v, P.p h v → φ) (x : φ → RunD Γ n env σ ss r) : RunD Γ n env σ ss r := fun A s Q E tp o i w a t k l =>
  x (let ⟨v, _, q⟩ := t y P hy; hP _ _ q) A s Q E tp o i w a t k l
theorem isnot_opt (b : Option Bs) : Op2 Γ n (compareOp .IsNot) (optB b) .none (.bool b.isSome) := op_isnot fun h v q => by
  cases b with
  | none => cases (show v = .none from q); rfl
  | some b => obtain ⟨⟨t, e⟩, _⟩ := q; subst e; rfl
theorem Tru.id {b : Bool} : Tru Γ n (.bool b) b := Tru.bool
end

theorem host_g {Γ : Cx} : GenD1 Γ 246 hostStep hostEpi (none, none) okF := by
  intro m n A s s₀ u lo ufin us Rr o i hn h1 h2 h3 hab hd hus h
  refine' gen_made (names := ["headers"]) (Ps := [.eq u]) ?hK ?hb ?hcode ?hbind ?hnd ?hlen ?hloc ?hcell ?hcl ?hgl ?hbl ?hco ?hgen ?hk o i ⟨rfl, trivial⟩ ?h
  walk_at "m gen"
  case' h => intro L a s' md
  refine h a s' md.inv md.grow ?_
  dsimp only [List.zip, List.zipWith] at md
  refine' stage_any (pro := [_, _, _]) (rest := [_, _, _, _]) (pre := [_]) (ok := okF) (σ := hostS u) md rfl hab hd h1 h2 h3 ?pL rfl ?pu ?hσ ?hbody ?hfb rfl rfl ?hs ?hpro ?hit ?turn ?epil hus
  case hfb => exact rfl
  case hbody => exact rfl
  case hs => exact fun _ => rfl
  case pL =>
    intro x P hx
    by_cases h : x = "headers"
    · subst h; rw [lookup_cons_eq] at hx; cases hx; exact fun _ _ _ q => q
    · rw [lookup_cons_ne h] at hx; simp at hx
  case pu =>
    intro x y P hy
    have hm := mem_of_lookup hy
    simp only [List.mem_cons, List.not_mem_nil, or_false, Prod.mk.injEq] at hm
    rcases hm with ⟨_, rfl⟩ | ⟨_, rfl⟩ | ⟨_, rfl⟩
    · exact pure_optB _
    · exact pure_optB _
    · exact fun _ _ _ q => q
  case hσ => exact fun _ => rfl
  case hpro => exact StsD.cons (StD.doc rfl) (StsD.cons (StD.assign EvD.cnone rfl) (StsD.cons (StD.assign EvD.cnone rfl) StsD.nil))
  case hit => exact EvD.name ⟨rfl, rfl, rfl⟩ rfl
  case epil =>
    intro x
    refine ⟨[], ?_⟩
    refine RunD.cons (StD.assign (P := .bool x.1.isSome) (EvD.compare (P₁ := optB x.1) (by walk_at "m nm") EvD.cnone (isnot_opt _)) rfl) ?_
    refine RunD.cons (StD.assign (P := .bool x.2.isSome) (EvD.compare (P₁ := optB x.2) (by walk_at "m nm") EvD.cnone (isnot_opt _)) rfl) ?_
    refine RunD.guard (b := !x.1.isSome && (!x.2.isSome && true)) (TsD.bool (AllD.and (TsD.not (TsD.val (by walk_at "m nm") Tru.bool)) fun _ => AllD.and (TsD.not (TsD.val (by walk_at "m nm") Tru.bool)) fun _ => AllD.and_nil)) (fun h => ?_) (fun h => ?_) (fun h => ?_)
    · exact RunD.cons (StD.assign (EvD.cstr (m := 100) (by decide)) rfl) (RunD.thrown (RnD.raise ⟨rfl, rfl, rfl⟩ rfl (by walk_at "m nm")))
    · rcases x with ⟨_ | a, _ | b⟩
      · cases h
      · refine RunD.guard (b := false && false) (TsD.bool (AllD.and (TsD.val (by walk_at "m nm") Tru.bool) fun h => by cases h)) (fun h => by cases h) (fun _ => ?_) (fun h => by cases h)
        exact RunD.sub RunD.nil fun _ t => sat_sel t fun q hq => by cases hq
      · refine RunD.guard (b := true && (false && false)) (TsD.bool (AllD.and (TsD.val (by walk_at "m nm") Tru.bool) fun _ => AllD.and (TsD.val (by walk_at "m nm") Tru.bool) fun h => by cases h)) (fun h => by cases h) (fun _ => ?_) (fun h => by cases h)
        exact RunD.sub RunD.nil fun _ t => sat_sel t fun q hq => by cases hq
      · refine RunD.assume (φ := a.length ≤ 1100) (y := "authority_header_val") rfl (fun h v q => q.2) fun ha => ?_
        refine RunD.assume (φ := b.length ≤ 1100) (y := "host_header_val") rfl (fun h v q => q.2) fun hb => ?_
        have ea : ∀ {env : Env} {σ : Sto} {e : Expr} {n : Nat} {a : Bs}, EvD Γ n env σ e (optB (some a)) → EvD Γ n env σ e (.bytes a) := fun x => x.imp fun _ _ q => q.1
        refine RunD.guard (b := true && (true && ((a != b) && true))) (TsD.bool (AllD.and (TsD.val (by walk_at "m nm") Tru.bool) fun _ => AllD.and (TsD.val (by walk_at "m nm") Tru.bool) fun _ => AllD.and (TsD.cmp (ea (a := a) (by walk_at "m nm")) (ea (a := b) (by walk_at "m nm")) op_ne_bytes) fun _ => AllD.and_nil)) (fun h => ?_) (fun h => ?_) (fun h => ?_)
        · exact RunD.cons (StD.assign (EvD.fstr (JnD.cons (EvD.cstr (m := 100) (by decide)) (JnD.cons (EvD.fmtR (b := a) (ea (by walk_at "m nm")) (by omega)) (JnD.cons (EvD.cstr (m := 100) (by decide)) (JnD.cons (EvD.fmtR (b := b) (ea (by walk_at "m nm")) (by omega)) JnD.nil)))) (by decide)) rfl) (RunD.thrown (RnD.raise ⟨rfl, rfl, rfl⟩ rfl (by walk_at "m nm")))
        · rw [if_pos (by simp only [Bool.true_and, Bool.and_true] at h; unfold hostEpi; simp [h])]
          exact RunD.sub RunD.nil fun _ t => sat_sel t fun q hq => by cases hq
        · rw [if_neg (by simp only [Bool.true_and, Bool.and_true] at h; unfold hostEpi; simp [h])]
    · rw [if_neg]
      unfold hostEpi
      rw [if_pos (by simpa using h)]
      exact Bool.false_ne_true
  case turn =>
    intro x v f hok
    refine RunD.one (RnD.ite (b := f.1 == bAuth) (TsD.cmp (P₁ := .bytes f.1) (by walk_at "m h0") (by walk_at "m ev") op_eq_bytes) (fun h => ?_) (fun h => ?_))
    · have e : hostStep x f = some (some f.2, x.2) := by unfold hostStep; rw [if_pos h]
      rw [e]
      refine RunD.cons (StD.assign (P := optB (some f.2)) (EvD.imp (P := .bytes f.2) (by walk_at "m h0") fun _ _ q => ⟨q, hok.2⟩) rfl) (RunD.sub RunD.nil fun _ t => sat_sel t fun q hq => ?_)
      simp only [List.mem_cons, List.not_mem_nil, or_false] at hq
      rcases hq with rfl | rfl | rfl | rfl <;> rfl
    · refine RunD.one (RnD.ite (b := f.1 == bHost) (TsD.cmp (P₁ := .bytes f.1) (by walk_at "m h0") (by walk_at "m ev") op_eq_bytes) (fun h' => ?_) (fun h' => ?_))
      · refine RunD.guard (b := x.2.isSome) (TsD.cmp (P₁ := optB x.2) (by walk_at "m nm") EvD.cnone (isnot_opt _)) (fun h2 => ?_) (fun h2 => ?_) (fun h2 => ?_)
        · exact RunD.cons (StD.assign (EvD.cstr (m := 100) (by decide)) rfl) (RunD.thrown (RnD.raise ⟨rfl, rfl, rfl⟩ rfl (by walk_at "m nm")))
        · have e : hostStep x f = some (x.1, some f.2) := by unfold hostStep; rw [if_neg (by rw [h]; exact Bool.false_ne_true), if_pos h', if_neg (by rw [h2]; exact Bool.false_ne_true)]
          rw [e]
          refine RunD.cons (StD.assign (P := optB (some f.2)) (EvD.imp (P := .bytes f.2) (by walk_at "m h0") fun _ _ q => ⟨q, hok.2⟩) rfl) (RunD.sub RunD.nil fun _ t => sat_sel t fun q hq => ?_)
          simp only [List.mem_cons, List.not_mem_nil, or_false] at hq
          rcases hq with rfl | rfl | rfl | rfl <;> rfl
        · have e : hostStep x f = none := by unfold hostStep; rw [if_neg (by rw [h]; exact Bool.false_ne_true), if_pos h', if_pos h2]
          rw [e]; rfl
      · have e : hostStep x f = some x := by unfold hostStep; rw [if_neg (by rw [h]; exact Bool.false_ne_true), if_neg (by rw [h']; exact Bool.false_ne_true)]
        rw [e]
        exact RunD.nil

-- Hg
open PySem PySem.W PyProof.Rows PySem.Calls PySem.SeqAt
set_option Elab.async false
set_option maxRecDepth 100000
set_option linter.unusedVariables false
set_option linter.unusedSimpArgs false
set_option maxHeartbeats 400000



theorem Grow.drop {W W' : Addr → Prop} {G : Nat → Prop} {s s' : Shared} (x : Grow W G s s') (h : ∀ b o, s.heap.get? b = some o → W b → W' b) : Grow W' G s s' :=
  ⟨fun b o e hw => x.le b o e fun w => hw (h b o e w), x.dom, x.gens, x.gsz⟩
theorem fn_enter {Γ : Cx} {n : Nat} {A : Around} {s : Shared} {vs : List Value} {Rr : Result → Shared → Prop} {f : Addr} {oc : Value} {od : Option Addr} {sl : Array (Option Value)} {fd : FuncData} {body : List Stmt} {names : List Str} {Ps : List Pd}
    (hK : Γ.Kf.lookup f = some ⟨oc, od, .func fd, sl⟩) (hb : fd.body = .stmts body) (hcode : codeIn Γ.Kf fd.code fd.qualname = true)
    (hbind : ∀ vs : List Value, vs.length = Ps.length → bindArgs fd ⟨vs, []⟩ = pure (names.zip vs)) (hnd : names.Nodup) (hlen : names.length = Ps.length) (hloc : ∀ x ∈ names, fd.scope.names.lookup x = some .local) (hcell : ∀ x ∈ fd.scope.names, x.2 ≠ .cell)
    (hcl : fd.closure = []) (hgl : fd.globals = mainGlobals) (hbl : fd.builtins = builtinsNs) (hco : fd.scope.isCoroutine = false) (hgen : fd.scope.isGenerator = false) (hk : fd.scope.kind = .function)
    (o : Ok Γ (n + 1) A s.heap) (i : Inv Γ s) (q : All2 s.heap Ps vs)
    (h : ∀ L s₁, s.heap.get? L = none → Grow0 s s₁ → Ok Γ n (A.deeper (callEnv fd L f)) s₁.heap → Inv Γ s₁ → Own2 Γ (callEnv fd L f) → Act (callEnv fd L f) s₁.heap → Sat (callEnv fd L f) s₁.heap (names.zip Ps) →
      wpAny Γ.M (A.deeper (callEnv fd L f)) (execs body (callEnv fd L f)) (fun fl s' => Rr (.ok (.ret (match fl with | .ret v => v | _ => .none))) s')
        (fun e s' => wpAny Γ.M (A.deeper (callEnv fd L f)) (leaving (callEnv fd L f) e) (fun _ s'' => Rr (.error e) s'') (fun e' s'' => Rr (.error e') s'') s') s₁) : codeAny Γ.M A (.call (.ref f) ⟨vs, []⟩) Rr s := by
  have hlv : vs.length = Ps.length := q.length
  refine codeAny_call_function o.room (i.K _ _ hK) rfl hco hgen hb (codeRec_of i.K hcode) ?_
  rw [hbind vs hlv]
  refine wpAny_pure ?_
  refine newEnv_at hk hcell (fun x hx => hloc x.1 (List.of_mem_zip (show (x.1, x.2) ∈ names.zip vs from hx)).1) fun h' tk n' c' k sb => ?_
  rw [hcl]
  have i' : Inv Γ { s with heap := h', toks := tk } := i.stays k rfl rfl
  refine ⟨i'.nolimit, codeAny_func ?_⟩
  have hkeys : ((names.zip vs).map (·.1)).Nodup := by rw [List.map_fst_zip (by omega)]; exact hnd
  have st : Sat (callEnv fd s.heap.objs.size f) h' (names.zip Ps) := fun x P e => by
    obtain ⟨v, ev, pv⟩ := (q.mono (.of_stays k)).zip_lookup e
    refine ⟨v, .inl ⟨?_, _, n', by rw [lookup_rev hkeys]; exact ev⟩, pv⟩
    have hx : x ∈ names := by
      have : ∃ p ∈ names.zip Ps, p.1 = x := by
        cases hf : (names.zip Ps).lookup x with
        | none => rw [hf] at e; cases e
        | some P' =>
          have m := mem_of_lookup hf
          exact ⟨_, m, rfl⟩
      obtain ⟨p', hp', rfl⟩ := this
      exact (List.of_mem_zip (show (p'.1, p'.2) ∈ names.zip Ps from hp')).1
    exact hloc x hx
  have he : EnvOk (callEnv fd s.heap.objs.size f) := ⟨hk, hgl, hbl⟩
  have ee : newEnv fd.scope s.heap.objs.size fd.globals [] (fd.qualname ++ ".<locals>.") (some f) fd.code none fd.builtins = callEnv fd s.heap.objs.size f := by unfold callEnv; rw [hcl]
  rw [ee]
  exact h s.heap.objs.size { s with heap := h', toks := tk } (get_size _) (.of_stays (s' := { s with heap := h', toks := tk }) k rfl) (o.call i (s₁ := { s with heap := h', toks := tk }) (env := callEnv fd s.heap.objs.size f) k rfl hk rfl rfl ⟨_, n'⟩ c') i' ⟨own_of i he rfl, rfl⟩ ⟨⟨_, n'⟩, c'⟩ st

theorem ev_call {Γ : Cx} {n : Nat} {env : Env} {σ : Sto} {x : Str} {np pos : Pos} {f : Addr} {e : Expr} {es : List Expr} {Ps : List Pd} {A : Around} {s : Shared} {Q E : Value → Shared → Prop} (he : EnvOk env) (hx : env.kindOf x = some .globalImplicit) (hf : nsIn Γ.Kf mainGlobals x = some (some (.ref f))) (hk : keepIn Γ.Kf (.ref f) = true)
    (a : ArgsD Γ n env σ (e :: es) Ps) (o : Ok Γ n A s.heap) (i : Inv Γ s) (t : Sat env s.heap σ) (h : ∀ vs s₁, Inv Γ s₁ → Grow0 s s₁ → All2 s₁.heap Ps vs → codeAny Γ.M A (.call (.ref f) ⟨vs, []⟩) (wants Q E) s₁)
    (hd : (x == ("__debug__" : Str)) = false := by decide) (hse : plainE e = true := by rfl) (hplain : es.all plainE = true := by rfl) : wpAny Γ.M A (eval (.Call (.Name x np) (e :: es) [] pos) env) Q E s := by
  show wpAny Γ.M A (do callWith pos (← eval (.Name x np) env) [] (backTo pos (starEach (e :: es) env)) []) Q E s
  refine wpAny_bind (EvD.global (Γ := Γ) (n := n) (σ := σ) he hx (keepGlob hf) hd A s _ E o i t fun v s₁ i₁ g₁ q₁ => ?_)
  cases (show v = .ref f from q₁)
  refine callWith_K i₁.K hk ?_ (starEach_cons e es env hse) (star_plain pos env es hplain)
  refine a A s₁ pos _ E (o.grow g₁) i₁ (t.grow0 g₁) fun vs s₂ i₂ g₂ q₂ => ⟨i₂.K, ?_⟩
  exact wpAny_call (h vs s₂ i₂ (g₁.trans g₂) q₂)

-- Hh
open PySem PySem.W PyProof.Rows PySem.Calls PySem.SeqAt
set_option Elab.async false
set_option maxRecDepth 100000
set_option linter.unusedVariables false
set_option linter.unusedSimpArgs false
set_option maxHeartbeats 400000



noncomputable def hostOut (skip ufin : Bool) (us : List (Value × Fld)) : List Value × Bool := if skip then (us.map (·.1), ufin) else runTr ufin hostStep hostEpi (none, none) us
theorem chk_host {Γ : Cx} {P : Addr} (hm : (252, P) ∈ Γ.tabs) {fa : Addr} {cl tr rs pu : Bool} (hfa : FlagsAt Γ fa cl tr rs pu) {m n : Nat} {A : Around} {s s₀ : Shared} {a₁ : Addr} {lo : String → Prop} {ufin : Bool} {us : List (Value × Fld)} {Rr : Result → Shared → Prop}
    (o : Ok Γ (m + 3) A s.heap) (i : Inv Γ s) (i₀ : Inv Γ s₀) (hn : 3 ≤ n) (h1 : ¬ lo "frame") (h2 : ¬ lo "generator") (h3 : ¬ lo "cell") (src : SrcX Γ n s₀ a₁ ufin lo (us.map (·.1)) s) (hdm : Dom s₀ s) (hus : ∀ q ∈ us, (fld q.2).p Γ.hb q.1 ∧ okF q.2)
    (h : ∀ a s', Inv Γ s' → Grow (fun b => b = P) noG s s' → SrcX Γ (n + 1) s₀ a (hostOut (rs || tr) ufin us).2 lo (hostOut (rs || tr) ufin us).1 s' → Rr (.ok (.ret (.ref a))) s') : codeAny Γ.M A (.call (.ref 253) ⟨[.ref a₁, .ref fa], []⟩) Rr s := by
  refine' fn_enter (names := ["headers", "hdr_validation_flags"]) (Ps := [.eq (.ref a₁), .eq (.ref fa)]) ?hK ?hb ?hcode ?hbind ?hnd ?hlen ?hloc ?hcell ?hcl ?hgl ?hbl ?hco ?hgen ?hk o i ⟨rfl, rfl, trivial⟩ ?h
  walk_at "m gen"
  case' h => intro L s₁ hL g₁ o₁ i₁ own a₁' t₁
  dsimp only [List.zip, List.zipWith] at t₁
  refine wpAny_execs_cons (StD.doc (n := m + 2) rfl _ s₁ _ _ o₁ i₁ own.own a₁' t₁ fun s₂ i₂ g₂ a₂ t₂ => ?_)
  refine wpAny_execs_cons (StD.assign (n := m + 2) (P := .bool (rs || tr)) (EvD.orB (EvD.response (by walk_at "m nm") hfa) fun _ => EvD.bone (EvD.trailer (by walk_at "m nm") hfa)) rfl rfl _ s₂ _ _ (o₁.grow g₂) i₂ own.own a₂ t₂ fun s₃ i₃ g₃ a₃ t₃ => ?_)
  have o₃ := (o₁.grow g₂).grow g₃
  refine wpAny_execs_cons (wpAny_If (TsD.val (n := m + 2) (b := rs || tr) (EvD.name ⟨rfl, rfl, rfl⟩ lookup_cons_eq) Tru.bool rfl _ s₃ _ _ o₃ i₃ t₃ fun s₄ i₄ g₄ => ?_))
  have o₄ := o₃.grow g₄
  have t₄ := t₃.grow0 g₄
  have gg : Grow0 s s₄ := ((g₁.of0.trans (g₂.trans g₃)).trans g₄.of0).drop fun b ob e w => by
    cases (show b = L from w)
    rw [hL] at e; cases e
  have src₄ := src.grow0 gg
  have dm₄ : Dom s₀ s₄ := hdm.trans (.of gg)
  cases hsk : (rs || tr) with
  | true =>
    refine wpAny_execs_cons (wpAny_Return_some ?_)
    refine' gexp_made (m := m + 2) (n := n) (a₁ := a₁) ⟨rfl, rfl, rfl⟩ ?hc1 hm ?hco1 (closureFor_none (by decide)) (by decide) rfl rfl rfl (by decide) (fun _ => rfl) (EvD.name ⟨rfl, rfl, rfl⟩ rfl) o₄ i₄ i₀ dm₄ t₄ src₄ h1 h2 h3 fun a s' i' g' _ src' => ?_
    case hc1 => exact rfl
    case hco1 => exact rfl
    refine h a s' i' (gg.of0.trans g') ?_
    rw [hsk]; exact src'
  | false =>
    refine wpAny_execs_nil ?_
    refine wpAny_execs_cons (wpAny_Return_some ?_)
    refine ev_call (n := m + 2) (f := 246) (Ps := [.eq (.ref a₁)]) ⟨rfl, rfl, rfl⟩ rfl (by walk_at "m glob") (by walk_at "m keep") (ArgsD.cons (EvD.name ⟨rfl, rfl, rfl⟩ rfl) ArgsD.nil) o₄ i₄ t₄ fun vs s₅ i₅ g₅ q₅ => ?_
    obtain ⟨v, rfl, hv⟩ := q₅.one
    cases (show v = .ref a₁ from hv)
    have gg₅ := gg.trans g₅
    refine host_g (m + 2) n _ s₅ s₀ (.ref a₁) lo ufin us _ (o₄.grow g₅) i₅ hn h1 h2 h3 (src₄.grow0 g₅).able (dm₄.trans (.of g₅)) hus fun a s' i' g' src' => ?_
    refine h a s' i' (gg₅.trans g').of0 ?_
    rw [hsk]; exact src'

-- Hi
open PySem PySem.W PyProof.Rows PySem.Calls PySem.SeqAt
set_option Elab.async false
set_option maxRecDepth 100000
set_option linter.unusedVariables false
set_option linter.unusedSimpArgs false
set_option maxHeartbeats 400000



section
variable {M : Model} {A : Around} {E : Value → Shared → Prop} {s : Shared} {env : Env} {name : Str} {params : Arguments} {body : List Stmt} {scope : Scope} {pos : Pos}
theorem def_at {Q : Flow → Shared → Prop} (hd0 : params.defaults = []) (hk0 : params.kw_defaults = []) (ha : annTrees params none env = [])
    (h : wpAny M A (makeFunction name (qualnameIn env name name) params (.stmts body) scope env [] [] [] pos pos.line) (fun v s' => wpAny M A (storeName env name v) (fun _ s'' => Q .next s'') E s') E s) :
    wpAny M A (exec (.FunctionDef name params body [] none [] scope none name pos) env) Q E s := by
  rw [exec_def]
  refine wpAny_bind (wpAny_standAt (wpAny_bind (wpAny_holding ?_)))
  rw [defaultsOf_eq, hk0, ha, hd0]
  refine wpAny_bind (wpAny_pure ?_)
  refine wpAny_bind (wpAny_holding (wpAny_pure ?_))
  refine wpAny_holding (wpAny_bind (wpAny_pure ?_))
  exact wpAny_mono h (fun v s' h' => wpAny_bind (wpAny_standAt (wpAny_bind (wpAny_bindName (wpAny_mono h' (fun _ _ h'' => wpAny_pure h'') fun _ _ x => x))))) fun _ _ x => x
end

section
variable {Γ : Cx} {A : Around} {E : Value → Shared → Prop} {s : Shared} {env : Env} {name qual : Str} {params : Arguments} {body : List Stmt} {scope : Scope} {pos : Pos} {firstLine : Nat} {c P : Addr} {ps : Array Value}
theorem funcode_at {fb : FuncBody} {Q : Value → Shared → Prop} (hc : env.code = .ref c) (hm : (c, P) ∈ Γ.tabs) (i : Inv Γ s) (hT : TabGood s.heap P pos qual)
    (hQ : ∀ v s', Inv Γ s' → Grow (fun b => b = P) noG s s' → CodeC s'.heap v qual → TabGood s'.heap P pos qual → Q v s') : wpAny Γ.M A (functionCode env pos firstLine name qual params scope fb) Q E s := by
  obtain ⟨ps, ic, it⟩ := i.tabs _ hm
  obtain ⟨ps₁, e1, hgood⟩ := id hT
  have : ps₁ = ps := by
    have := it.2
    rw [e1] at this; cases this; rfl
  subst this
  cases hf : codeAmong pos ps₁.toList with
  | some v => exact wpAny_functionCode_hit hc ic hf (hQ v s i (.refl _ _ _) (hgood v hf) hT)
  | none =>
    have htr : TriplesOk ps₁.toList := by
      obtain ⟨o, vs, file, tf, flags, tg, inF, text, tt, op, ho, hd, h11, h2, h7, h9, h10, hop, hpd, htr, hne⟩ := id ic
      rw [e1] at hop; cases hop
      cases hpd
      exact htr
    refine wpAny_functionCodeX hc ic it hf fun c' h' tk hx _ _ hic hrec htb hnew => ?_
    obtain ⟨i', g'⟩ := tab_grow (tk := tk) i hm it hx hic htb
    have cc : CodeC h' (.ref c') qual := by
      obtain ⟨P', _, _, ⟨o', vs', e', c1, d1, _⟩, _⟩ := hnew
      obtain ⟨c₂, o₂, vs₂, t₂, e₂, g₂, d₂, r₂⟩ := hrec
      cases e₂
      rw [e'] at g₂; cases g₂
      exact ⟨_, _, vs₂, t₂, rfl, e', c1, d₂, r₂⟩
    refine hQ _ _ i' g' cc ⟨_, htb.2, fun v hv => ?_⟩
    have hl : (ps₁ ++ #[rawInt pos.line, rawInt pos.col, Value.ref c']).toList = ps₁.toList ++ [rawInt pos.line, rawInt pos.col, .ref c'] := by simp
    rw [hl, codeAmong_snoc _ htr hf] at hv
    cases hv
    exact cc

structure FnIs (fd : FuncData) (qual : Str) (body : List Stmt) (scope : Scope) (clos : List (Str × Addr)) : Prop where
  qual : fd.qualname = qual
  body : fd.body = .stmts body
  scope : fd.scope = scope
  clos : fd.closure = clos
  glob : fd.globals = mainGlobals
  blt : fd.builtins = builtinsNs
  defs : fd.defaults = .none
  kwd : fd.kwdefaults = .none

theorem make_at {q : Str × Addr} {r : List (Str × Addr)} {Q : Value → Shared → Prop} (hc : env.code = .ref c) (hm : (c, P) ∈ Γ.tabs) (hg : env.globals = mainGlobals) (hcl : closureFor scope env = pure (q :: r)) (hdoc : docOf body = none) (i : Inv Γ s) (hT : TabGood s.heap P pos qual)
    (hQ : ∀ f fd s', Inv Γ s' → Grow (fun b => b = P) noG s s' → s.heap.get? f = none → s'.heap.get? f = some { cls := .type "function", data := .func fd } → FnIs fd qual body scope (q :: r) → fd.params = params → CodeC s'.heap fd.code qual → TabGood s'.heap P pos qual → Q (.ref f) s') :
    wpAny Γ.M A (makeFunction name qual params (.stmts body) scope env [] [] [] pos firstLine) Q E s := by
  rw [makeFunction_eq]
  simp only [List.zip_nil_right, List.filterMap_nil, List.isEmpty_nil, if_true, pure_bind]
  unfold makeTail
  rw [hcl, hg]
  refine wpAny_bind (wpAny_pure ?_)
  simp only [List.isEmpty_cons, Bool.false_eq_true, if_false]
  refine wpAny_bind (wpAny_newTextTuple ?_)
  generalize hob : ({ cls := .type "tuple", data := .seq (((q :: r).mergeSort fun a b => a.1.cps.toList ≤ b.1.cps.toList).map (Value.ref ·.2)).toArray } : Obj) = ob
  have k1 := stays_push s.heap ob
  have i₁ : Inv Γ { s with heap := s.heap.push ob } := i.stays (s' := { s with heap := s.heap.push ob }) k1 rfl rfl
  have g₁ : Grow0 s { s with heap := s.heap.push ob } := .of_stays (s' := { s with heap := s.heap.push ob }) k1 rfl
  have hT₁ : TabGood (s.heap.push ob) P pos qual := by
    obtain ⟨ps, e, hh⟩ := hT
    exact ⟨ps, k1 _ _ e, fun v hv => (hh v hv).grow g₁ fun _ _ _ _ w => w⟩
  refine wpAny_bind (funcode_at hc hm i₁ hT₁ fun v s₂ i₂ g₂ cc hT₂ => ?_)
  refine wpAny_bind (builtins_at rfl i₂ ?_)
  refine wpAny_bind (wpAny_nsGet (Γ.g.keeps i₂.base) ?_)
  simp only [hdoc]
  refine wpAny_bind (wpAny_pure ?_)
  refine wpAny_newObj_type ?_ (by size_fits)
  generalize hfd : (FuncData.mk _ _ _ _ _ _ _ _ _ _ _ _ _ _ _) = fd
  have k3 := stays_push s₂.heap { cls := .type "function", data := .func fd }
  have g₃ : Grow0 s₂ { s₂ with heap := s₂.heap.push { cls := .type "function", data := .func fd } } := .of_stays (s' := { s₂ with heap := s₂.heap.push { cls := .type "function", data := .func fd } }) k3 rfl
  have i₃ : Inv Γ { s₂ with heap := s₂.heap.push { cls := .type "function", data := .func fd } } := i₂.stays (s' := { s₂ with heap := s₂.heap.push { cls := .type "function", data := .func fd } }) k3 rfl rfl
  have gg : Grow (fun b => b = P) noG s s₂ := g₁.of0.trans g₂
  refine hQ s₂.heap.objs.size fd _ i₃ (gg.trans g₃.of0) (News.back gg (get_size _)) (Heap.get?_push_size _ rfl) ?_ ?_ ?_ ?_
  · subst hfd; exact ⟨rfl, rfl, rfl, rfl, rfl, rfl, rfl, rfl⟩
  · subst hfd; rfl
  · subst hfd; exact cc.grow g₃ fun _ _ _ _ w => w
  · obtain ⟨ps, e, hh⟩ := hT₂
    exact ⟨ps, k3 _ _ e, fun v hv => (hh v hv).grow g₃ fun _ _ _ _ w => w⟩
end

-- Hj
open PySem PySem.W PyProof.Rows PySem.Calls PySem.SeqAt
set_option Elab.async false
set_option maxRecDepth 100000
set_option linter.unusedVariables false
set_option linter.unusedSimpArgs false
set_option maxHeartbeats 400000


theorem fn_enterC {Γ : Cx} {n : Nat} {A : Around} {s : Shared} {v : Value} {vs : List Value} {Rr : Result → Shared → Prop} {f : Addr} {oc : Value} {od : Option Addr} {sl : Array (Option Value)} {fd : FuncData} {body : List Stmt} {x : Str} {names : List Str} {P : Pd} {Ps : List Pd}
    (hK : Γ.Kf.lookup f = some ⟨oc, od, .func fd, sl⟩) (hb : fd.body = .stmts body) (hcode : codeIn Γ.Kf fd.code fd.qualname = true)
    (hbind : ∀ (v : Value) (vs : List Value), vs.length = Ps.length → bindArgs fd ⟨v :: vs, []⟩ = pure ((x, v) :: names.zip vs)) (hnd : names.Nodup) (hxn : x ∉ names) (hlen : names.length = Ps.length) (hloc : ∀ x ∈ names, fd.scope.names.lookup x = some .local)
    (hx : fd.scope.names.lookup x = some .cell) (hcs : ∀ n, cellsFrom n fd.scope.names [] = [(x, n)]) (hps : ∀ h : Heap, pushCells h fd.scope.names = h.push { cls := .type "cell", data := .cell none })
    (hcl : fd.closure = []) (hgl : fd.globals = mainGlobals) (hbl : fd.builtins = builtinsNs) (hco : fd.scope.isCoroutine = false) (hgen : fd.scope.isGenerator = false) (hk : fd.scope.kind = .function)
    (o : Ok Γ (n + 1) A s.heap) (i : Inv Γ s) (qv : P.p s.heap v) (q : All2 s.heap Ps vs)
    (h : ∀ L s₁, s.heap.get? L = none → s.heap.get? (L + 1) = none → CellAt s₁.heap (L + 1) v → Grow0 s s₁ → Ok Γ n (A.deeper (newEnv fd.scope L fd.globals [(x, L + 1)] (fd.qualname ++ ".<locals>.") (some f) fd.code none fd.builtins)) s₁.heap → Inv Γ s₁ → Own2 Γ (newEnv fd.scope L fd.globals [(x, L + 1)] (fd.qualname ++ ".<locals>.") (some f) fd.code none fd.builtins) → Act (newEnv fd.scope L fd.globals [(x, L + 1)] (fd.qualname ++ ".<locals>.") (some f) fd.code none fd.builtins) s₁.heap → Sat (newEnv fd.scope L fd.globals [(x, L + 1)] (fd.qualname ++ ".<locals>.") (some f) fd.code none fd.builtins) s₁.heap ((x, P) :: names.zip Ps) →
      wpAny Γ.M (A.deeper (newEnv fd.scope L fd.globals [(x, L + 1)] (fd.qualname ++ ".<locals>.") (some f) fd.code none fd.builtins)) (execs body (newEnv fd.scope L fd.globals [(x, L + 1)] (fd.qualname ++ ".<locals>.") (some f) fd.code none fd.builtins)) (fun fl s' => Rr (.ok (.ret (match fl with | .ret v => v | _ => .none))) s')
        (fun e s' => wpAny Γ.M (A.deeper (newEnv fd.scope L fd.globals [(x, L + 1)] (fd.qualname ++ ".<locals>.") (some f) fd.code none fd.builtins)) (leaving (newEnv fd.scope L fd.globals [(x, L + 1)] (fd.qualname ++ ".<locals>.") (some f) fd.code none fd.builtins) e) (fun _ s'' => Rr (.error e) s'') (fun e' s'' => Rr (.error e') s'') s') s₁) : codeAny Γ.M A (.call (.ref f) ⟨v :: vs, []⟩) Rr s := by
  have hlv : vs.length = Ps.length := q.length
  refine codeAny_call_function o.room (i.K _ _ hK) rfl hco hgen hb (codeRec_of i.K hcode) ?_
  rw [hbind v vs hlv]
  refine wpAny_pure ?_
  rw [hcl]
  refine newEnv_cell hk hcs hps hx (fun y hy => hloc y.1 (List.of_mem_zip (show (y.1, y.2) ∈ names.zip vs from hy)).1) fun h' tk n' c' ca k => ?_
  have i' : Inv Γ { s with heap := h', toks := tk } := i.stays k rfl rfl
  refine ⟨i'.nolimit, codeAny_func ?_⟩
  have hkeys : ((names.zip vs).map (·.1)).Nodup := by rw [List.map_fst_zip (by omega)]; exact hnd
  generalize hE : newEnv fd.scope s.heap.objs.size fd.globals [(x, s.heap.objs.size + 1)] (fd.qualname ++ ".<locals>.") (some f) fd.code none fd.builtins = ce
  have st : Sat ce h' ((x, P) :: names.zip Ps) := fun y R e => by
    subst hE
    by_cases hyx : y = x
    · subst hyx
      rw [lookup_cons_eq] at e; cases e
      exact ⟨v, .inr ⟨.inl hx, _, by simp [newEnv, List.lookup_cons], ca⟩, P.mono (.of_stays k) qv⟩
    · rw [lookup_cons_ne hyx] at e
      obtain ⟨u, ev, pv⟩ := (q.mono (.of_stays k)).zip_lookup e
      refine ⟨u, .inl ⟨?_, _, n', by rw [lookup_rev hkeys]; exact ev⟩, pv⟩
      have hx : y ∈ names := by
        have : ∃ p ∈ names.zip Ps, p.1 = y := by
          cases hf : (names.zip Ps).lookup y with
          | none => rw [hf] at e; cases e
          | some P' =>
            have m := mem_of_lookup hf
            exact ⟨_, m, rfl⟩
        obtain ⟨p', hp', rfl⟩ := this
        exact (List.of_mem_zip (show (p'.1, p'.2) ∈ names.zip Ps from hp')).1
      exact hloc y hx
  have he : EnvOk ce := by subst hE; exact ⟨hk, hgl, hbl⟩
  have hL : ce.locals = s.heap.objs.size := by subst hE; rfl
  have hf : ce.frame = some ce.locals := by subst hE; rfl
  rw [← hL] at n' c'
  have hn1 : s.heap.get? (s.heap.objs.size + 1) = none := by
    cases e : s.heap.get? (s.heap.objs.size + 1) with
    | none => rfl
    | some o => exact absurd (Heap.lt_size e) (Nat.not_lt.mpr (Nat.le_succ _))
  have key := h s.heap.objs.size { s with heap := h', toks := tk } (get_size _) hn1 ca (.of_stays (s' := { s with heap := h', toks := tk }) k rfl)
  rw [hE] at key
  exact key (o.call i (s₁ := { s with heap := h', toks := tk }) (env := ce) k rfl he.kind hf hL ⟨_, n'⟩ c') i' ⟨own_of i he hL, hf⟩ ⟨⟨_, n'⟩, c'⟩ st


-- Hk
open PySem PySem.W PyProof.Rows PySem.Calls PySem.SeqAt
set_option Elab.async false
set_option maxRecDepth 100000
set_option linter.unusedVariables false
set_option linter.unusedSimpArgs false
set_option maxHeartbeats 400000


theorem gen_madeC {Γ : Cx} {n : Nat} {A : Around} {s : Shared} {Rr : Result → Shared → Prop} {f c : Addr} {fd : FuncData} {body : List Stmt} {qual x : Str} {v : Value} {P : Pd}
    (ho : s.heap.get? f = some { cls := .type "function", data := .func fd }) (F : FnIs fd qual body fd.scope [(x, c)]) (hbind : bindArgs fd ⟨[], []⟩ = pure []) (hcell : ∀ x ∈ fd.scope.names, x.2 ≠ .cell) (hx : fd.scope.names.lookup x = some .free) (hxc : (x == ("__classdict__" : Str)) = false)
    (hco : fd.scope.isCoroutine = false) (hgen : fd.scope.isGenerator = true) (hk : fd.scope.kind = .function) (cc : CodeC s.heap fd.code qual) (ca : CellAt s.heap c v) (pv : P.p s.heap v)
    (o : Ok Γ n A s.heap) (i : Inv Γ s) (h : ∀ L a s', Made Γ s s' (newEnv fd.scope L mainGlobals [(x, c)] (qual ++ ".<locals>.") (some f) fd.code none builtinsNs) a s.gens.size body [(x, P)] → Rr (.ok (.ret (.ref a))) s') : codeAny Γ.M A (.call (.ref f) ⟨[], []⟩) Rr s := by
  refine codeAny_call_generator o.room ho rfl hco hgen F.body (by rw [F.qual]; exact cc.rec) ?_
  rw [hbind]
  refine wpAny_pure ?_
  refine newEnv_at hk hcell (fun x hx => by cases hx) fun h' tk n' c' k sb => ?_
  rw [F.clos, F.glob, F.blt, F.qual]
  have i' : Inv Γ { s with heap := h', toks := tk } := i.stays k rfl rfl
  refine ⟨i'.nolimit, ?_⟩
  have he : EnvOk (newEnv fd.scope s.heap.objs.size mainGlobals [(x, c)] (qual ++ ".<locals>.") (some f) fd.code none builtinsNs) := ⟨hk, rfl, rfl⟩
  have kk := stays_push h' { cls := .type "generator", data := .fields #[.int s.gens.size 0, .str fd.name tk, .str qual (tk + 1)] }
  have hsz : ∀ b, h'.objs.size ≤ b → s.heap.get? b = none := fun b hb => by
    cases e : s.heap.get? b with
    | none => rfl
    | some o => exact absurd (Heap.lt_size (k _ _ e)) (Nat.not_lt.mpr hb)
  obtain ⟨oL, eL, cL⟩ := c'
  refine h s.heap.objs.size h'.objs.size _ ⟨⟨fun b o e => kk b o (i'.base b o e), fun q m => let ⟨ps, a, b⟩ := i'.tabs q m; ⟨ps, a.keeps kk, b.keeps kk⟩, i.os, i.bare.push rfl⟩,
    ⟨fun b o e _ => ⟨o, kk b o (k b o e), .inl rfl⟩, fun b o e => ⟨o, kk b o (k b o e), rfl, fun q => q⟩, fun j y e _ => ?_, ?_⟩, get_size _, hsz _ (Nat.le_refl _), ?_, rfl, ⟨⟨_, n'.keeps kk⟩, oL, kk _ _ eL, cL⟩, ⟨own_of i he rfl, rfl⟩, ?_, ⟨_, _, _, Heap.get?_push_size _ rfl, rfl, rfl, rfl⟩, ?_⟩
  · show (s.gens.push _)[j]? = some y
    have hj : j < s.gens.size := (Array.getElem?_eq_some_iff.mp e).1
    rw [Array.getElem?_push_lt hj]
    rw [Array.getElem?_eq_getElem hj] at e; exact e
  · show s.gens.size ≤ (s.gens.push _).size
    simp
  · intro e
    have h1 := Heap.lt_size eL
    rw [show (newEnv fd.scope s.heap.objs.size mainGlobals [(x, c)] (qual ++ ".<locals>.") (some f) fd.code none builtinsNs).locals = s.heap.objs.size from rfl] at e
    rw [← e] at h1
    exact Nat.lt_irrefl _ h1
  · intro y R e
    by_cases hyx : y = x
    · subst hyx
      rw [lookup_cons_eq] at e; cases e
      obtain ⟨oc, e1, r1⟩ := ca
      exact ⟨v, .inr ⟨.inr ⟨hx, hxc⟩, _, by simp [newEnv, List.lookup_cons], oc, kk _ _ (k _ _ e1), r1⟩, P.mono (.of_stays fun b o e => kk b o (k b o e)) pv⟩
    · rw [lookup_cons_ne hyx] at e; simp at e
  · show (s.gens.push _)[s.gens.size]? = _
    simp


-- Hl
open PySem PySem.W PyProof.Rows PySem.Calls PySem.SeqAt
set_option Elab.async false
set_option maxRecDepth 100000
set_option linter.unusedVariables false
set_option linter.unusedSimpArgs false
set_option maxHeartbeats 400000


section
variable {Γ : Cx} {n : Nat} {s₀ s s' : Shared} {u : Value} {fin ufin : Bool} {lo : String → Prop} {vs : List Value}
variable {env : Env} {a : Addr} {g : Nat} {χ : Type} {step : χ → Fld → Option χ} {epi : χ → Bool} {σ : χ → Sto} {ok : Fld → Prop} {pre rest : List Stmt}
/-- a stage whose frame reads cells of its maker: what it gives, once made -/
theorem stage_cell {fb pro body : List Stmt} {iter : Expr} {px yp ypos epos fpos : Pos} {x₀ : χ} {us : List (Value × Fld)} {σ₀ : Sto} (md : Made Γ s s' env a g fb σ₀) {s₁ : Shared} {W₁ : Addr → Prop} {cc : Addr} (hab₁ : AbleX Γ n s₀ u ufin lo (us.map (·.1)) s₁) (g₁ : Grow W₁ noG s₁ s) (hW₁ : ∀ b, W₁ b → (∃ o, s₀.heap.get? b = some o) ∧ ∃ o, s₁.heap.get? b = some o ∧ (∀ T, o.cls = .type T → ¬ lo T))
    (hcx : ∀ x c, env.cells.lookup x = some c → c = cc) (cN : s₁.heap.get? cc = none) (cL : cc ≠ env.locals) (c0 : s₀.heap.get? cc = none) (cE : ∃ o, s'.heap.get? cc = some o) (hd : Dom s₀ s)
    (h1 : ¬ lo "frame") (h2 : ¬ lo "generator") (h3 : ¬ lo "cell") (pL : PureS σ₀) (hdr : env.kindOf "header" = some .local) (pu : ∀ x, PureS (σ x)) (hσ : ∀ x, (σ x).lookup ("header" : Str) = none)
    (hbody : body = pre ++ [.Expr (.Yield (some (.Name "header" yp)) ypos) epos]) (hfb : fb = pro ++ (.For (.Name "header" px) iter body [] fpos :: rest)) (hco : env.scope.isCoroutine = false) (hi : interactive env = false) (hs : ∀ x, foldedSetIterable iter env x = pure x)
    (hpro : StsD Γ n env σ₀ pro (σ x₀)) (hit : EvD Γ n env (σ x₀) iter (.eq u))
    (turn : ∀ x v f, ok f → RunD Γ n env (("header", hdrP v f) :: σ x) pre ((step x f).map fun x' => ("header", hdrP v f) :: σ x'))
    (epil : ∀ x, ∃ τ, RunD Γ n env (σ x) rest (if epi x then some τ else none)) (hus : ∀ q ∈ us, (fld q.2).p Γ.hb q.1 ∧ ok q.2) :
    SrcX Γ (n + 1) s₀ a (runTr ufin step epi x₀ us).2 lo (runTr ufin step epi x₀ us).1 s' := by
  obtain ⟨V, hlo, ha₁, hst₁, hG₁, hfr₁⟩ := hab₁
  subst hlo
  have ha : Able Γ n u ufin V (us.map (·.1)) s := ha₁.later (g₁.weaken (fun b w k => by
    obtain ⟨⟨o₀, e₀⟩, o, e, hT⟩ := hW₁ b w
    rcases k with (k | ⟨_, o', T, e', c', l⟩) | k
    · rw [(hst₁ b (.inl k)).1] at e₀; cases e₀
    · rw [e] at e'; cases e'
      exact hT T c' l
    · rw [(hst₁ b (.inr k)).1] at e₀; cases e₀) fun j q => q.elim)
  have hst : ∀ b, V.st b ∨ V.kp b → s₀.heap.get? b = none ∧ ∃ o, s.heap.get? b = some o := fun b hb => by
    obtain ⟨p, o, e⟩ := hst₁ b hb
    obtain ⟨o', e', _⟩ := g₁.dom b o e
    exact ⟨p, o', e'⟩
  have hG : ∀ j, V.G j → j < s.gens.size := fun j hj => Nat.lt_of_lt_of_le (hG₁ j hj) g₁.gsz
  have hfr : ∀ b, V.st b → ∃ o, s.heap.get? b = some o ∧ o.cls = .type "frame" := fun b hb => by
    obtain ⟨o, e, c⟩ := hfr₁ b hb
    obtain ⟨o', e', c', _⟩ := g₁.dom b o e
    exact ⟨o', e', c'.trans c⟩
  have cV : ¬ V.st cc := fun h => by
    obtain ⟨_, o, e⟩ := hst₁ cc (.inl h)
    rw [cN] at e; cases e
  have ap : Apart Γ env V a g (fun b => b = cc) := by
    refine ⟨fun h => ?_, fun h => ?_, fun h => ?_, md.ne, fun h => ?_, h1, h2, h3, fun x c h => by rw [hcx x c h]; exact ⟨rfl, cV, cL⟩⟩
    · obtain ⟨_, o, e⟩ := hst _ (.inl h)
      rw [md.newL] at e; cases e
    · obtain ⟨_, o, e⟩ := hst _ (.inr h)
      rw [md.newL] at e; cases e
    · obtain ⟨_, o, e⟩ := hst _ (.inl h)
      rw [md.newA] at e; cases e
    · have := hG _ h
      rw [md.num] at this; exact Nat.lt_irrefl _ this
  have S := mkStage (rest := rest) (epi := epi) md.own hdr ap pu hσ turn epil
  have hLV : ∀ {s : Shared}, Act env s.heap → ¬ Keep Γ V s env.locals := fun ac k => by
    obtain ⟨o, e, c⟩ := ac.fr
    rcases k with k | k
    · exact ws_not ap.nL e c ap.lof k
    · exact ap.nLk k
  refine ⟨mkW V env.locals a g (fun b => b = cc), g, rfl, .inr (.inl rfl), md.isGen, stage_able (L₀ := fun s => Sat env s.heap σ₀) S hbody hfb hco hi hs (fun A s Q E tp o i ac hl hq => ?_) (fun A s Q E o i ac hl hq => ?_) (fun s s' ac hl gr => ?_) hus (ha.later md.grow.later) md.act md.sat md.gen md.isGen, fun b hb => ?_, fun j hj => ?_, fun b hb => ?_⟩
  · refine hpro A s Q E o i md.own.own ac hl fun s₁ i₁ g₁ a₁ t₁ => hq s₁ i₁ (g₁.weaken (fun b hb => .inl (.inr hb)) fun _ q => q.elim) (g₁.weaken (fun b hb k => ?_) fun _ q => q.elim) a₁ t₁
    exact hLV ac ((show b = env.locals from hb) ▸ k)
  · refine hit A s _ E o i hl fun v s₁ i₁ g₁ hv => ?_
    cases (show v = u from hv)
    exact hq s₁ i₁ g₁
  · have hL : ¬ ¬ Keep Γ (mkW V env.locals a g (fun b => b = cc)) s env.locals := fun w => w (.inl (.inl (.inr rfl)))
    exact ⟨ac.grow gr hL, sat_keep' hl pL gr hL fun c o e c' ⟨y, hy⟩ w => w (.inr (.inr (.inr (ap.nC y c hy).1)))⟩
  · have old : ∀ {b : Addr}, (s₀.heap.get? b = none ∧ ∃ o, s.heap.get? b = some o) → s₀.heap.get? b = none ∧ ∃ o, s'.heap.get? b = some o := fun ⟨p, o, q⟩ => ⟨p, let ⟨o', q', _⟩ := md.grow.dom _ _ q; ⟨o', q'⟩⟩
    rcases hb with (hb | rfl) | (hb | rfl | hb)
    · exact old (hst b (.inl hb))
    · obtain ⟨o, e, _⟩ := md.act.fr
      exact ⟨hd _ md.newL, o, e⟩
    · exact old (hst b (.inr hb))
    · obtain ⟨o, nm, qn, e, _⟩ := md.isGen
      exact ⟨hd _ md.newA, o, e⟩
    · rw [show b = cc from hb]; exact ⟨c0, cE⟩
  · rcases hj with hj | rfl
    · exact Nat.lt_of_lt_of_le (hG j hj) md.grow.gsz
    · exact (Array.getElem?_eq_some_iff.mp md.gen).1
  · rcases hb with hb | rfl
    · obtain ⟨o, e, c⟩ := hfr b hb
      obtain ⟨o', e', c', _⟩ := md.grow.dom b o e
      exact ⟨o', e', c'.trans c⟩
    · exact md.act.fr
end

-- Hm
open PySem PySem.W PyProof.Rows PySem.Calls PySem.SeqAt
set_option Elab.async false
set_option maxRecDepth 100000
set_option linter.unusedVariables false
set_option linter.unusedSimpArgs false
set_option maxHeartbeats 400000



noncomputable abbrev bPath : Bs := [58, 112, 97, 116, 104]
noncomputable abbrev innerPos : Pos := ⟨296, 4, 301, 24⟩
noncomputable abbrev innerQ : Str := "_check_path_header.<locals>.inner"
noncomputable def pathStep (_ : Unit) (f : Fld) : Option Unit := if f.1 == bPath && f.2.isEmpty then none else some ()
noncomputable def pathOut (skip ufin : Bool) (us : List (Value × Fld)) : List Value × Bool := if skip then (us.map (·.1), ufin) else runTr ufin pathStep (fun _ => true) () us
theorem chk_path {Γ : Cx} (hm : (259, 255) ∈ Γ.tabs) {fa : Addr} {cl tr rs pu : Bool} (hfa : FlagsAt Γ fa cl tr rs pu) {m n : Nat} {A : Around} {s s₀ : Shared} {a₁ : Addr} {lo : String → Prop} {ufin : Bool} {us : List (Value × Fld)} {Rr : Result → Shared → Prop}
    (o : Ok Γ (m + 3) A s.heap) (i : Inv Γ s) (i₀ : Inv Γ s₀) (hn : 3 ≤ n) (h1 : ¬ lo "frame") (h2 : ¬ lo "generator") (h3 : ¬ lo "cell") (src : SrcX Γ n s₀ a₁ ufin lo (us.map (·.1)) s) (hdm : Dom s₀ s) (hus : ∀ q ∈ us, (fld q.2).p Γ.hb q.1 ∧ okF q.2)
    (hT : TabGood s.heap 255 innerPos innerQ)
    (h : ∀ a s', Inv Γ s' → Grow (fun b => b = 255) noG s s' → TabGood s'.heap 255 innerPos innerQ → SrcX Γ (n + 1) s₀ a (pathOut (rs || tr) ufin us).2 lo (pathOut (rs || tr) ufin us).1 s' → Rr (.ok (.ret (.ref a))) s') : codeAny Γ.M A (.call (.ref 260) ⟨[.ref a₁, .ref fa], []⟩) Rr s := by
  refine' fn_enterC (x := "headers") (names := ["hdr_validation_flags"]) (P := .eq (.ref a₁)) (Ps := [.eq (.ref fa)]) ?hK ?hb ?hcode ?hbind ?hnd ?hxn ?hlen ?hloc ?hx ?hcs ?hps ?hcl ?hgl ?hbl ?hco ?hgen ?hk o i rfl ⟨rfl, trivial⟩ ?h
  (case hK => (show (KF (Cx.w _).params).lookup _ = _; k_is))
  (case hb => exact rfl)
  (case hcode => (show codeIn (KF (Cx.w _).params) _ _ = true; k_is))
  (case hcl => exact rfl)
  (case hgl => exact rfl)
  (case hbl => exact rfl)
  (case hco => exact rfl)
  (case hgen => exact rfl)
  (case hk => exact rfl)
  (case hnd => decide)
  (case hxn => decide)
  (case hlen => exact rfl)
  (case hloc => decide)
  (case hx => exact rfl)
  (case hcs => intro _; exact rfl)
  (case hps => intro _; exact rfl)
  (case hbind => intro v; exact len1 (fun _ => rfl))
  case' h => intro L s₁ hL hL1 ca g₁ o₁ i₁ own a₁' t₁
  dsimp only [List.zip, List.zipWith] at t₁
  refine wpAny_execs_cons (StD.doc (n := m + 2) rfl _ s₁ _ _ o₁ i₁ own.own a₁' t₁ fun s₂ i₂ g₂ a₂ t₂ => ?_)
  have o₂ := o₁.grow g₂
  have gg₂ : Grow0 s s₂ := (g₁.of0.trans g₂).drop fun b ob e w => by
    cases (show b = L from w)
    rw [hL] at e; cases e
  have hT₂ := hT.grow gg₂ (fun w => w) fun _ _ _ _ w => w
  refine wpAny_execs_cons (def_at rfl rfl rfl ?_)
  refine make_at (qual := innerQ) (c := 259) (P := 255) (q := ("headers", L + 1)) (r := []) rfl hm rfl ?hclos rfl i₂ hT₂ fun f fd s₃ i₃ g₃ fN fO F fp cc hT₃ => ?_
  case hclos => rfl
  have h255 : ∀ {b : Addr}, s.heap.get? b = none → b ≠ 255 := fun {b} hb e => by
    obtain ⟨ps, e1, _⟩ := hT
    rw [e, e1] at hb; cases hb
  have nL255 : ¬ L = 255 := h255 hL
  have gg₃ : Grow (fun b => b = 255) noG s s₃ := gg₂.of0.trans g₃
  have a₃ := a₂.grow g₃ (fun w => nL255 w)
  have t₃ := sat_keep' t₂ (pure_args (u := .ref a₁) (FL := .eq (.ref fa)) fun _ _ _ q => q) g₃ (fun w => nL255 w) fun c ob e cl' ⟨y, hy⟩ w => by
    have e2 : c = 255 := w
    rw [e2] at e
    obtain ⟨ps, e1, _⟩ := hT₂
    rw [e1] at e; cases e; cases cl'
  have o₃ := o₂.grow g₃
  refine store_at (P := .eq (.ref f)) own.own.ok own.own.new rfl a₃ i₃ own.own.tab t₃ rfl fun s₄ i₄ g₄ a₄ t₄ => ?_
  have o₄ := o₃.grow g₄
  refine wpAny_execs_cons (StD.assign (n := m + 2) (P := .bool (rs || tr)) (EvD.orB (EvD.response (EvD.name ⟨rfl, rfl, rfl⟩ rfl) hfa) fun _ => EvD.bone (EvD.trailer (EvD.name ⟨rfl, rfl, rfl⟩ rfl) hfa)) rfl rfl _ s₄ _ _ o₄ i₄ own.own a₄ t₄ fun s₅ i₅ g₅ a₅ t₅ => ?_)
  have o₅ := o₄.grow g₅
  refine wpAny_execs_cons (wpAny_If (TsD.val (n := m + 2) (b := rs || tr) (EvD.name ⟨rfl, rfl, rfl⟩ lookup_cons_eq) Tru.bool rfl _ s₅ _ _ o₅ i₅ t₅ fun s₆ i₆ g₆ => ?_))
  have o₆ := o₅.grow g₆
  have t₆ := t₅.grow0 g₆
  have g36 := (g₄.trans g₅).trans g₆.of0
  have gg : Grow (fun b => b = 255) noG s s₆ := by
    refine ((gg₃.weaken (W' := fun b => b = 255 ∨ b = L) (fun b w => .inl w) fun _ q => q).trans (g36.weaken (fun b w => .inr w) fun _ q => q)).drop fun b ob e w => ?_
    rcases w with w | w
    · exact w
    · rw [show b = L from w, hL] at e; cases e
  have src₆ := src.tab i₀ i (gg.weaken (fun b hb => ⟨_, hm, (show b = 255 from hb).symm⟩) fun _ q => q)
  have dm₆ : Dom s₀ s₆ := hdm.trans (.of gg)
  have nCode : ∀ b ob, s₃.heap.get? b = some ob → ob.cls = .type "code" → ¬ b = L := fun b ob e co w => by
    obtain ⟨oL, e', c'⟩ := a₃.fr
    have e'' : s₃.heap.get? L = some oL := e'
    rw [w, e''] at e; cases e
    rw [co] at c'; exact absurd (Value.type.inj c') (by decide)
  have hT₆ : TabGood s₆.heap 255 innerPos innerQ := hT₃.grow g36 (fun w => nL255 (show 255 = L from w).symm) nCode
  cases hsk : (rs || tr) with
  | true =>
    refine wpAny_execs_cons (wpAny_Return_some ?_)
    refine' gexp_made (m := m + 2) (n := n) (a₁ := a₁) ⟨rfl, rfl, rfl⟩ ?hc1 hm ?hco1 (closureFor_none (by decide)) (by decide) rfl rfl rfl (by decide) (fun _ => rfl) (EvD.name ⟨rfl, rfl, rfl⟩ rfl) o₆ i₆ i₀ dm₆ t₆ src₆ h1 h2 h3 fun a s' i' g' tk' src' => ?_
    case hc1 => exact rfl
    case hco1 => exact rfl
    refine h a s' i' (gg.trans g') (tk' _ _ (by decide) hT₆) ?_
    rw [hsk]; exact src'
  | false =>
    refine wpAny_execs_nil ?_
    refine wpAny_execs_cons (wpAny_Return_some ?_)
    show wpAny Γ.M _ (do callWith _ (← eval (.Name "inner" _) _) [] (backTo _ (starEach [] _)) []) _ _ s₆
    refine wpAny_bind (EvD.name (n := m + 2) (P := .eq (.ref f)) ⟨rfl, rfl, rfl⟩ rfl rfl _ s₆ _ _ o₆ i₆ t₆ fun v s₇ i₇ g₇ hv => ?_)
    cases (show v = .ref f from hv)
    have o₇ := o₆.grow g₇
    have gg₇ : Grow (fun b => b = 255) noG s s₇ := gg.trans g₇.of0
    have g37 := g36.trans g₇.of0
    have hfL : ¬ f = L := fun e => by
      obtain ⟨oL, e', _⟩ := a₂.fr
      have e'' : s₂.heap.get? L = some oL := e'
      rw [e, e''] at fN; cases fN
    have fO₇ := g37.get fO hfL (by intro h; exact absurd (Value.type.inj h) (by decide))
    have cc₇ := cc.grow g37 nCode
    have ca₇ : CellAt s₇.heap (L + 1) (.ref a₁) := by
      obtain ⟨oc, e1, c1, d1⟩ := ca
      have gL : Grow (fun b => b = 255 ∨ b = L) noG s₁ s₇ := ((g₂.weaken (fun b w => .inr w) fun _ q => q).trans (g₃.weaken (fun b w => .inl w) fun _ q => q)).trans (g37.weaken (fun b w => .inr w) fun _ q => q)
      refine ⟨oc, gL.get e1 (fun w => ?_) (by rw [c1]; intro h; exact absurd (Value.type.inj h) (by decide)), c1, d1⟩
      rcases w with w | w
      · exact h255 hL1 w
      · exact Nat.succ_ne_self L w
    refine callWith_function_kw (o := { cls := .type "function", data := .func fd }) (fd := fd) (evalArgs_nil3 ⟨⟨fO₇, rfl⟩, ?_⟩)
    refine wpAny_call ?_
    refine' gen_madeC (v := .ref a₁) (P := .eq (.ref a₁)) (qual := innerQ) (x := "headers") (c := L + 1) fO₇ ⟨F.qual, F.body, rfl, F.clos, F.glob, F.blt, F.defs, F.kwd⟩ ?hbind ?hcell ?hx (by decide) ?hco ?hgen ?hk cc₇ ca₇ rfl o₇ i₇ fun L' a s' md => ?_
    case hbind => unfold bindArgs; simp only [fp, F.defs, F.kwd, F.qual]; rfl
    case hcell => rw [F.scope]; decide
    case hx => rw [F.scope]; rfl
    case hco => rw [F.scope]
    case hgen => rw [F.scope]
    case hk => rw [F.scope]
    rw [F.scope] at md
    have hT' : TabGood s'.heap 255 innerPos innerQ := hT₆.grow (g₇.trans md.grow) (fun w => w) fun _ _ _ _ w => w
    refine h a s' md.inv (gg₇.trans md.grow.of0) hT' ?_
    rw [hsk]
    show SrcX Γ (n + 1) s₀ a (runTr ufin pathStep (fun _ => true) () us).2 lo (runTr ufin pathStep (fun _ => true) () us).1 s'
    have exL : ∃ o, s₇.heap.get? (L + 1) = some o := by
      obtain ⟨oc, e1, _⟩ := ca₇
      exact ⟨oc, e1⟩
    refine' stage_cell (pro := []) (rest := []) (pre := [_]) (ok := okF) (σ := fun _ => [("headers", .eq (.ref a₁))]) md (s₁ := s) (W₁ := fun b => b = 255) (cc := L + 1) src.able gg₇ ?hW ?hcx hL1 ?cL (hdm _ hL1) ?cE (hdm.trans (.of gg₇)) h1 h2 h3 ?pL rfl ?pu ?hσ ?hbody ?hfb rfl rfl ?hs ?hpro ?hit ?turn ?epil hus
    case hfb => exact rfl
    case hbody => exact rfl
    case hs => exact fun _ => rfl
    case hW =>
      intro b hb
      rw [show b = 255 from hb]
      obtain ⟨_, _, _, t₀⟩ := i₀.tabs _ hm
      obtain ⟨_, _, _, t⟩ := i.tabs _ hm
      exact ⟨⟨_, t₀⟩, _, t, fun T hT => by cases hT⟩
    case hcx =>
      intro x c hc
      change List.lookup x [(("headers" : Str), L + 1)] = some c at hc
      by_cases hxx : x = "headers"
      · subst hxx
        simp at hc
        exact hc.symm
      · have : (x == ("headers" : Str)) = false := by simpa using hxx
        simp [List.lookup, this] at hc
    case cL =>
      intro e
      obtain ⟨oc, e1⟩ := exL
      have := md.newL
      rw [show (newEnv _ L' _ _ _ _ _ _ _).locals = L' from rfl] at this
      rw [e] at e1
      have e2 : s₇.heap.get? L' = some oc := e1
      rw [this] at e2; cases e2
    case cE =>
      obtain ⟨oc, e1⟩ := exL
      obtain ⟨o', e', _⟩ := md.grow.dom _ _ e1
      exact ⟨o', e'⟩
    case pL =>
      intro x P hx
      by_cases h : x = "headers"
      · subst h; rw [lookup_cons_eq] at hx; cases hx; exact fun _ _ _ q => q
      · rw [lookup_cons_ne h] at hx; simp at hx
    case pu =>
      intro _ x P hx
      by_cases h : x = "headers"
      · subst h; rw [lookup_cons_eq] at hx; cases hx; exact fun _ _ _ q => q
      · rw [lookup_cons_ne h] at hx; simp at hx
    case hσ => exact fun _ => rfl
    case hpro => exact StsD.nil
    case hit => exact EvD.name ⟨rfl, rfl, rfl⟩ rfl
    case epil => exact fun _ => ⟨_, RunD.nil⟩
    case turn =>
      intro x v f hok
      have hs : pathStep x f = if (f.1 == bPath && (!(!f.2.isEmpty) && true)) = true then none else some () := by unfold pathStep; simp
      rw [hs]
      refine RunD.guard (b := f.1 == bPath && (!(!f.2.isEmpty) && true)) (TsD.bool (AllD.and (TsD.cmp (P₁ := .bytes f.1) (by walk_at "m h0") (by walk_at "m ev") op_eq_bytes) fun _ => AllD.and (TsD.not (TsD.val (P := .bytes f.2) (by walk_at "m h0") (Tru.bytes (by have := hok.2; omega)))) fun _ => AllD.and_nil)) (fun h => ?_) (fun h => ?_) (fun h => ?_)
      · exact RunD.cons (StD.assign (EvD.cstr (m := 100) (by decide)) rfl) (RunD.thrown (RnD.raise ⟨rfl, rfl, rfl⟩ rfl (by walk_at "m nm")))
      · rw [if_neg (by rw [h]; exact Bool.false_ne_true)]
        exact RunD.nil
      · rw [if_pos h]; rfl

-- Hn
open PySem PySem.W PyProof.Rows PySem.Calls PySem.SeqAt
set_option Elab.async false
set_option maxRecDepth 100000
set_option linter.unusedVariables false
set_option linter.unusedSimpArgs false
set_option maxHeartbeats 400000



/-- a set of bytes, with its answers and its size -/
theorem setOf_md {Γ : Cx} {h h' : Heap} (m : Md h h') {a : Addr} {S : Bs → Bool} {n : Nat} (x : h.SetOf (bytesKind Γ.prog Γ.w) a S n) : h'.SetOf (bytesKind Γ.prog Γ.w) a S n := by
  obtain ⟨o, es, ep, t, e, c, r⟩ := x
  exact ⟨o, es, ep, t, m _ _ e (by unfold solid; rw [c.1]; simp), c, r⟩
noncomputable def Pd.setB (Γ : Cx) (S : Bs → Bool) : Pd := ⟨fun h v => ∃ a n, v = .ref a ∧ h.SetOf (bytesKind Γ.prog Γ.w) a S n, by
  intro h h' v m ⟨a, n, e, x⟩; exact ⟨a, n, e, setOf_md m x⟩⟩

section
variable {Γ : Cx} {n : Nat} {env : Env} {σ : Sto}
theorem op_in_set {S : Bs → Bool} {k : Bs} : Op2 Γ n (compareOp .In) (.bytes k) (.setB Γ S) (.bool (S k)) := fun A s x y Q E o i ⟨t, hx⟩ ⟨a, m, hy, hS⟩ p => by
  subst hx hy
  exact wpAny_inSet_of (bytesKind_is _ _ k t) rfl hS (p.same i rfl)
theorem op_notin_set {S : Bs → Bool} {k : Bs} : Op2 Γ n (compareOp .NotIn) (.bytes k) (.setB Γ S) (.bool (!S k)) := fun A s x y Q E o i ⟨t, hx⟩ ⟨a, m, hy, hS⟩ p => by
  subst hx hy
  exact wpAny_notInSet_of (bytesKind_is _ _ k t) rfl hS (p.same i rfl)
theorem Tru.setB {S : Bs → Bool} {m : Nat} : True := trivial

/-- a def that may raise: ended (ok) or ProtocolError -/
noncomputable def FnX (Γ : Cx) (n : Nat) (f : Addr) (Ps : List Pd) (ok : Bool) : Prop :=
  ∀ (A : Around) (s : Shared) (vs : List Value) (Rr : Result → Shared → Prop), Ok Γ n A s.heap → Inv Γ s → All2 s.heap Ps vs → (∀ s', ok = true → Inv Γ s' → Grow0 s s' → Rr (.ok (.ret .none)) s') → (∀ e s', ok = false → Thrown Γ noW noG s e s' → Rr (.error (.ref e)) s') →
    codeAny Γ.M A (.call (.ref f) ⟨vs, []⟩) Rr s
end

-- Ho
open PySem PySem.W PyProof.Rows PySem.Calls PySem.SeqAt
set_option Elab.async false
set_option maxRecDepth 100000
set_option linter.unusedVariables false
set_option linter.unusedSimpArgs false
set_option maxHeartbeats 400000


theorem FnX.body {Γ : Cx} {n : Nat} {f : Addr} {oc : Value} {od : Option Addr} {sl : Array (Option Value)} {fd : FuncData} {body : List Stmt} {names : List Str} {Ps : List Pd}
    (hK : Γ.Kf.lookup f = some ⟨oc, od, .func fd, sl⟩) (hb : fd.body = .stmts body) (hcode : codeIn Γ.Kf fd.code fd.qualname = true)
    (hbind : ∀ vs : List Value, vs.length = Ps.length → bindArgs fd ⟨vs, []⟩ = pure (names.zip vs)) (hnd : names.Nodup) (hlen : names.length = Ps.length) (hloc : ∀ x ∈ names, fd.scope.names.lookup x = some .local) (hcell : ∀ x ∈ fd.scope.names, x.2 ≠ .cell)
    (hcl : fd.closure = []) (hgl : fd.globals = mainGlobals) (hbl : fd.builtins = builtinsNs) (hco : fd.scope.isCoroutine = false) (hgen : fd.scope.isGenerator = false) (hk : fd.scope.kind = .function)
    {ok : Bool} {τ : Sto} (h : ∀ L, RunD Γ n (callEnv fd L f) (names.zip Ps) body (if ok = true then some τ else none)) : FnX Γ (n + 1) f Ps ok := fun A s vs Rr o i q hk' hx' => by
  refine fn_enter hK hb hcode hbind hnd hlen hloc hcell hcl hgl hbl hco hgen hk o i q fun L s₁ hL g₁ o₁ i₁ own ac t => ?_
  obtain ⟨outer, hA, fr⟩ := o.frames
  have hfr : (A.deeper (callEnv fd L f)).frames = some (callEnv fd L f :: outer) := Around.frames_deeper hA
  obtain ⟨outer', hA', fr'⟩ := o₁.frames
  have e0 : outer' = callEnv fd L f :: outer := by rw [hfr] at hA'; cases hA'; rfl
  rw [e0] at fr'
  have dr : ∀ {G : Nat → Prop} {s' : Shared}, Grow (here (callEnv fd L f)) G s₁ s' → Grow noW G s s' := fun g => (g₁.of0.trans g).drop fun b ob e w => by
    rw [show b = L from w, hL] at e; cases e
  refine h L (A.deeper (callEnv fd L f)) s₁ _ _ ⟨⟨outer, hfr⟩, _, own.frame⟩ o₁ i₁ own.own ac t (fun σ' s' e i' g' a' t' => ?_) (fun e s' e' x' => ?_)
  · refine hk' s' ?_ i' (dr g')
    cases ok with
    | true => rfl
    | false => cases e
  · refine x'.leaving i₁ hfr fr' own.frame fun s₂ x₂ => ?_
    refine hx' e s₂ ?_ ⟨x₂.inv, dr x₂.grow, ((x₂.plain).back g₁.of0).exc⟩
    cases ok with
    | true => cases e'
    | false => rfl


-- Hp
open PySem PySem.W PyProof.Rows PySem.Calls PySem.SeqAt
set_option Elab.async false
set_option maxRecDepth 100000
set_option linter.unusedVariables false
set_option linter.unusedSimpArgs false
set_option maxHeartbeats 400000



section
variable {Γ : Cx} {n : Nat} {env : Env} {σ : Sto}
theorem RnD.callX {x : Str} {np pos cpos : Pos} {f : Addr} {e : Expr} {es : List Expr} {Ps : List Pd} {ok : Bool} (he : EnvOk env) (hx : env.kindOf x = some .globalImplicit) (hf : nsIn Γ.Kf mainGlobals x = some (some (.ref f))) (hk : keepIn Γ.Kf (.ref f) = true)
    (a : ArgsD Γ n env σ (e :: es) Ps) (h : FnX Γ n f Ps ok) (hi : interactive env = false) (hd : (x == ("__debug__" : Str)) = false := by decide) (hse : plainE e = true := by rfl) (hplain : es.all plainE = true := by rfl) :
    RnD Γ n env σ (.Expr (.Call (.Name x np) (e :: es) [] pos) cpos) (if ok = true then some σ else none) := fun A s Q E tp o i w ac t k l => by
  refine wpAny_Expr_any (ev_call he hx hf hk a o i t (fun vs s₁ i₁ g₁ q₁ => h A s₁ vs _ (o.grow g₁) i₁ q₁ (fun s' e i' g' => ?_) (fun e s' e' x' => ?_)) hd hse hplain) hi rfl
  · exact k σ s' (by rw [if_pos e]) i' (g₁.trans g').of0 (ac.grow0 (g₁.trans g')) (t.grow0 (g₁.trans g'))
  · exact l e s' (by rw [e']; rfl) ((x'.back g₁).weaken (fun _ q => q.elim) fun _ q => q.elim)

theorem assert_x {S : Bs → Bool} {b : Bs} (hb : b.length ≤ 2000) : FnX Γ 2 227 [.bytes b, .setB Γ S] (S b) := by
  refine' FnX.body (names := ["bytes_header", "header_set"]) (τ := []) ?hK ?hb ?hcode ?hbind ?hnd ?hlen ?hloc ?hcell ?hcl ?hgl ?hbl ?hco ?hgen ?hk ?h
  walk_at "m gen"
  case' h => intro L; dsimp only [List.zip, List.zipWith]
  refine RunD.cons (StD.doc rfl) ?_
  refine RunD.guard (b := !S b) (TsD.cmp (by walk_at "m nm") (by walk_at "m nm") op_notin_set) (fun h => ?_) (fun h => ?_) (fun h => ?_)
  · exact RunD.cons (StD.assign (EvD.fstr (JnD.cons (EvD.cstr (m := 100) (by decide)) (JnD.cons (EvD.fmtR (b := b) (by walk_at "m nm") hb) (JnD.cons (EvD.cstr (m := 100) (by decide)) JnD.nil))) (by decide)) rfl) (RunD.thrown (RnD.raise ⟨rfl, rfl, rfl⟩ rfl (by walk_at "m nm")))
  · rw [if_pos (by simpa using h)]
    exact RunD.sub RunD.nil fun _ t => sat_sel t fun q hq => by cases hq
  · rw [if_neg (by simpa using h)]
end

-- Hq
open PySem PySem.W PyProof.Rows PySem.Calls PySem.SeqAt
set_option Elab.async false
set_option maxRecDepth 100000
set_option linter.unusedVariables false
set_option linter.unusedSimpArgs false
set_option maxHeartbeats 400000


theorem FnX.bodyC {Γ : Cx} {n : Nat} {f : Addr} {oc : Value} {od : Option Addr} {sl : Array (Option Value)} {fd : FuncData} {body : List Stmt} {x : Str} {names : List Str} {P : Pd} {Ps : List Pd}
    (hK : Γ.Kf.lookup f = some ⟨oc, od, .func fd, sl⟩) (hb : fd.body = .stmts body) (hcode : codeIn Γ.Kf fd.code fd.qualname = true)
    (hbind : ∀ (v : Value) (vs : List Value), vs.length = Ps.length → bindArgs fd ⟨v :: vs, []⟩ = pure ((x, v) :: names.zip vs)) (hnd : names.Nodup) (hxn : x ∉ names) (hlen : names.length = Ps.length) (hloc : ∀ x ∈ names, fd.scope.names.lookup x = some .local)
    (hx : fd.scope.names.lookup x = some .cell) (hcs : ∀ n, cellsFrom n fd.scope.names [] = [(x, n)]) (hps : ∀ h : Heap, pushCells h fd.scope.names = h.push { cls := .type "cell", data := .cell none })
    (hcl : fd.closure = []) (hgl : fd.globals = mainGlobals) (hbl : fd.builtins = builtinsNs) (hco : fd.scope.isCoroutine = false) (hgen : fd.scope.isGenerator = false) (hk : fd.scope.kind = .function)
    {ok : Bool} {τ : Sto} (h : ∀ L, RunD Γ n (newEnv fd.scope L fd.globals [(x, L + 1)] (fd.qualname ++ ".<locals>.") (some f) fd.code none fd.builtins) ((x, P) :: names.zip Ps) body (if ok = true then some τ else none)) : FnX Γ (n + 1) f (P :: Ps) ok := fun A s vs Rr o i q hk' hx' => by
  obtain ⟨v, vs, rfl⟩ : ∃ v ws, vs = v :: ws := by
    cases vs with
    | nil => exact q.elim
    | cons v ws => exact ⟨v, ws, rfl⟩
  obtain ⟨qv, q⟩ := q
  refine fn_enterC hK hb hcode hbind hnd hxn hlen hloc hx hcs hps hcl hgl hbl hco hgen hk o i qv q fun L s₁ hL hL1 ca g₁ o₁ i₁ own ac t => ?_
  obtain ⟨outer, hA, fr⟩ := o.frames
  have hfr : (A.deeper (newEnv fd.scope L fd.globals [(x, L + 1)] (fd.qualname ++ ".<locals>.") (some f) fd.code none fd.builtins)).frames = some ((newEnv fd.scope L fd.globals [(x, L + 1)] (fd.qualname ++ ".<locals>.") (some f) fd.code none fd.builtins) :: outer) := Around.frames_deeper hA
  obtain ⟨outer', hA', fr'⟩ := o₁.frames
  have e0 : outer' = (newEnv fd.scope L fd.globals [(x, L + 1)] (fd.qualname ++ ".<locals>.") (some f) fd.code none fd.builtins) :: outer := by rw [hfr] at hA'; cases hA'; rfl
  rw [e0] at fr'
  have dr : ∀ {G : Nat → Prop} {s' : Shared}, Grow (here (newEnv fd.scope L fd.globals [(x, L + 1)] (fd.qualname ++ ".<locals>.") (some f) fd.code none fd.builtins)) G s₁ s' → Grow noW G s s' := fun g => (g₁.of0.trans g).drop fun b ob e w => by
    rw [show b = L from w, hL] at e; cases e
  refine h L (A.deeper (newEnv fd.scope L fd.globals [(x, L + 1)] (fd.qualname ++ ".<locals>.") (some f) fd.code none fd.builtins)) s₁ _ _ ⟨⟨outer, hfr⟩, _, own.frame⟩ o₁ i₁ own.own ac t (fun σ' s' e i' g' a' t' => ?_) (fun e s' e' x' => ?_)
  · refine hk' s' ?_ i' (dr g')
    cases ok with
    | true => rfl
    | false => cases e
  · refine x'.leaving i₁ hfr fr' own.frame fun s₂ x₂ => ?_
    refine hx' e s₂ ?_ ⟨x₂.inv, dr x₂.grow, ((x₂.plain).back g₁.of0).exc⟩
    cases ok with
    | true => cases e'
    | false => rfl


-- Hr
open PySem PySem.W PyProof.Rows PySem.Calls PySem.SeqAt
set_option Elab.async false
set_option maxRecDepth 100000
set_option linter.unusedVariables false
set_option linter.unusedSimpArgs false
set_option maxHeartbeats 400000



theorem noBool_set' : typeLookup (.type "set") "__bool__" = pure none := by rw [typeLookup_type, builtinLookup_eq_fast]; kernel_rfl
/-- a set of bytes, its answers, and whether it has any -/
noncomputable def Pd.setN (Γ : Cx) (S : Bs → Bool) (ne : Bool) : Pd := ⟨fun h v => ∃ a n, v = .ref a ∧ h.SetOf (bytesKind Γ.prog Γ.w) a S n ∧ (n != 0) = ne, by
  intro h h' v m ⟨a, n, e, x, y⟩; exact ⟨a, n, e, setOf_md m x, y⟩⟩
theorem setN_B {Γ : Cx} {S : Bs → Bool} {ne : Bool} : ∀ h v, (Pd.setN Γ S ne).p h v → (Pd.setB Γ S).p h v := fun h v ⟨a, n, e, x, _⟩ => ⟨a, n, e, x⟩
theorem Tru.setN {Γ : Cx} {n : Nat} {S : Bs → Bool} {ne : Bool} : Tru Γ n (.setN Γ S ne) ne := fun A s v Q E o i ⟨a, m, hv, hS, hn⟩ h => by
  subst hv
  have hT := hS.typeIs
  obtain ⟨ob, es, ep, t, ho, hex, hd, _, _, hlt, hf, hsz⟩ := (show _ from hS)
  have hfit : (es.size : Int) < 2 ^ 63 := by
    have : scanBound ≤ 2 ^ 62 := by decide +kernel
    omega
  have hne : ((es.size : Int) != 0) = ne := by
    rw [← hn, ← hsz]
    rcases Nat.eq_zero_or_pos es.size with e | e
    · rw [e]; rfl
    · have h1 : ((es.size : Int) != 0) = true := bne_iff_ne.mpr (by omega)
      have h2 : (es.size != 0) = true := bne_iff_ne.mpr (by omega)
      rw [h1, h2]
  have k0 : s.heap.StaysIn s.heap := fun _ _ e => e
  have hq : Q ne { s with toks := s.toks + 1 + 1 } := h _ (i.stays (s' := { s with toks := s.toks + 1 + 1 }) k0 rfl rfl) (.of_stays (s' := { s with toks := s.toks + 1 + 1 }) k0 rfl)
  have key : wpAny Γ.M A (runValue (.builtin "len" ⟨[.ref a], []⟩)) (fun r s' => r = .int es.size (s.toks + 1) ∧ Q ne s') E s := by
    refine wpAny_runValue (codeAny_builtin entry_len ?_)
    rw [Around.under_plainId plain_len _]
    exact wpAny_mono (wpAny_len_body_set (Q := fun r s' => r = .int es.size (s.toks + 1) ∧ Q ne s') ho hex hd hf hfit ⟨rfl, hq⟩)
      (fun fin s' h' => by obtain ⟨r, rfl, hq⟩ := h'; exact hq) fun _ _ e => e
  unfold truthy
  first
    | refine wpAny_bind (wpAny_callSpecial?_none (name := Str.ofString "__bool__") hT noBool_set' ?_)
    | refine wpAny_bind (wpAny_pure (wpAny_bind (wpAny_callSpecial?_none (name := Str.ofString "__bool__") hT noBool_set' ?_)))
  first
    | refine wpAny_bind (wpAny_specialOf (name := Str.ofString "__len__") hT F.slot_set_len.lookup ?_)
    | refine wpAny_bind (wpAny_pure (wpAny_bind (wpAny_specialOf (name := Str.ofString "__len__") hT F.slot_set_len.lookup ?_)))
  first
    | exact wpAny_bind (wpAny_mono key (fun r s' h' => by obtain ⟨rfl, hq⟩ := h'; exact wpAny_pure (by rw [hne]; exact hq)) fun _ _ e => e)
    | exact wpAny_bind (wpAny_pure (wpAny_bind (wpAny_mono key (fun r s' h' => by obtain ⟨rfl, hq⟩ := h'; exact wpAny_pure (by rw [hne]; exact hq)) fun _ _ e => e)))

-- Hs
open PySem PySem.W PyProof.Rows PySem.Calls PySem.SeqAt
set_option Elab.async false
set_option maxRecDepth 100000
set_option linter.unusedVariables false
set_option linter.unusedSimpArgs false
set_option maxHeartbeats 400000



theorem repr_bytes {prog : Program} {w : World} (b : Array UInt8) (t : Tok) (hb : b.size ≤ 2000) : ReprIs prog w (.bytes b t) (Builtin.Bytes.literal b) := fun n hn A E s Q h => by
  have hn' : n ≤ sizeLine := by omega
  rw [pyReprUnder_leaf (v := .bytes b t) hn' (fun _ e => nomatch e)]
  unfold pyRepr
  have hl := literal_len b
  refine wpAny_bind (wpAny_pyReprObj_gives (typeIs_bytes _ _ _) bs_slot_repr bs_entry_repr (bs_args_repr _) (gives_repr _ _ (by omega)) ?_ rfl (by rw [sizeLine_eq]; omega))
  exact wpAny_pure (h _)

-- Ht
open PySem PySem.W PyProof.Rows PySem.Calls PySem.SeqAt
set_option Elab.async false
set_option maxRecDepth 100000
set_option linter.unusedVariables false
set_option linter.unusedSimpArgs false
set_option maxHeartbeats 400000



theorem textFrom_le : ∀ (ts : List Str) (k : Nat) (acc : Str), (textFrom k acc ts).length ≤ acc.length + piled ts
  | [], k, acc => by show acc.length ≤ acc.length + _; omega
  | t :: r, k, acc => by
    have h := textFrom_le r (k + 1) (acc ++ (if k > 0 then ", " else "" : String) ++ t)
    rw [strLen_append, strLen_append] at h
    rw [piled_cons]
    have h2 : (Str.ofString (if k > 0 then ", " else "" : String)).length ≤ 2 := by split <;> decide
    show (textFrom (k + 1) (acc ++ (if k > 0 then ", " else "" : String) ++ t) r).length ≤ _
    omega
theorem listText_le (ts : List Str) : (listText ts).length ≤ piled ts + 2 := by
  unfold listText
  rw [strLen_append]
  have h := textFrom_le ts 0 "["
  have h1 : (Str.ofString "[").length = 1 := by decide
  have h2 : (Str.ofString "]").length = 1 := by decide
  omega
theorem piled_lit : ∀ (cs : List Bs), (∀ b ∈ cs, b.length ≤ 100) → piled (cs.map fun b => Builtin.Bytes.literal b.toArray) ≤ 405 * cs.length
  | [], _ => by simp [piled]
  | b :: r, h => by
    rw [List.map_cons, piled_cons]
    have h1 := piled_lit r fun x hx => h x (.tail _ hx)
    have h2 := literal_len b.toArray
    have h3 := h b (.head _)
    simp only [List.size_toArray] at h2
    simp only [List.length_cons]
    omega

-- Hu
open PySem PySem.W PyProof.Rows PySem.Calls PySem.SeqAt
set_option Elab.async false
set_option maxRecDepth 100000
set_option linter.unusedVariables false
set_option linter.unusedSimpArgs false
set_option maxHeartbeats 400000



section
variable {Γ : Cx} {n : Nat} {env : Env} {σ : Sto}
theorem lits {h : Heap} : ∀ {cs : List Bs} {vs : List Value}, All2 h (cs.map Pd.bytes) vs → vs.length = cs.length ∧ ∀ (i : Nat) (y : Value), vs[i]? = some y → ∃ b t, cs[i]? = some b ∧ y = .bytes b.toArray t
  | [], [], _ => ⟨rfl, fun i y e => by simp at e⟩
  | b :: cs, v :: vs, ⟨⟨t, hv⟩, r⟩ => by
    obtain ⟨h1, h2⟩ := lits r
    refine ⟨by simp [h1], fun i y e => ?_⟩
    cases i with
    | zero => simp at e; subst e; exact ⟨b, t, rfl, hv⟩
    | succ i => exact h2 i y (by simpa using e)

theorem EvD.fmtL {v : Expr} {pos : Pos} {cs : List Bs} (x : EvD Γ n env σ v (lstB cs)) (hne : cs ≠ []) (hc : ∀ b ∈ cs, b.length ≤ 100) (hl : cs.length ≤ 10) : EvD Γ n env σ (.FormattedValue v (-1) none pos) (.text 5000) := fun A s Q E o i t p => by
  refine wpAny_FormattedValue_plain (x A s _ E o i t fun u s₁ i₁ g₁ ⟨a, vs, hu, ⟨oa, ha, hcl, na, hda⟩, hr⟩ => ?_)
  subst hu
  obtain ⟨h1, h2⟩ := lits hr
  have hle : (listText (cs.map fun b => Builtin.Bytes.literal b.toArray)).length ≤ 5000 := by
    have e1 := listText_le (cs.map fun b => Builtin.Bytes.literal b.toArray)
    have e2 := piled_lit cs hc
    omega
  have o₁ := o.grow g₁
  have hu := o₁.units
  obtain ⟨v₀, vs', rfl⟩ : ∃ v₀ vs', vs = v₀ :: vs' := by
    cases vs with
    | nil => cases cs with
      | nil => exact absurd rfl hne
      | cons b r => simp at h1
    | cons v₀ vs' => exact ⟨v₀, vs', rfl⟩
  refine wpAny_formatField_slot (fun _ _ => nofun) (by omega) ⟨oa, ha, hcl⟩ F.slot_list_format F.slot_list_str F.slot_list_repr.toG ?_
  refine call_list_reprK (as := []) (h₀ := s₁.heap) (d := 0) (ts := cs.map fun b => Builtin.Bytes.literal b.toArray) (g := []) ha hcl hda (by simp) (by simp [← h1]) (fun j y e => ?_) o₁.guards (fun b _ => Clear.nil b) (by show A.units + 1 + 1 + 1 < cLine; omega) (fun _ _ e => e) (fun h' u tk hk => ?_) (by rw [sizeLine_eq]; omega)
  · obtain ⟨b, tb, eb, ey⟩ := h2 j y (by simpa using e)
    refine ⟨_, by rw [List.getElem?_map, eb]; rfl, ?_⟩
    subst ey
    have hb := hc b (List.mem_of_getElem? eb)
    exact ReprK.of_is (repr_bytes b.toArray tb (by simp; omega)) _ _ _
  · exact ⟨_, _, rfl, p _ _ (i₁.stays (s' := { s₁ with heap := h', toks := tk }) hk rfl rfl) (g₁.trans (.of_stays (s' := { s₁ with heap := h', toks := tk }) hk rfl)) ⟨_, _, rfl, hle⟩⟩
end

-- Hv
open PySem PySem.W PyProof.Rows PySem.Calls PySem.SeqAt
set_option Elab.async false
set_option maxRecDepth 100000
set_option linter.unusedVariables false
set_option linter.unusedSimpArgs false
set_option maxHeartbeats 400000


section
variable {Γ : Cx} {n : Nat} {env : Env} {σ : Sto}
theorem EvD.fmtLR {v : Expr} {pos : Pos} {cs : List Bs} (x : EvD Γ n env σ v (lstB cs)) (hne : cs ≠ []) (hc : ∀ b ∈ cs, b.length ≤ 100) (hl : cs.length ≤ 10) : EvD Γ n env σ (.FormattedValue v 114 none pos) (.text 5000) := fun A s Q E o i t p => by
  refine wpAny_FormattedValue_repr (x A s _ E o i t fun u s₁ i₁ g₁ ⟨a, vs, hu, ⟨oa, ha, hcl, na, hda⟩, hr⟩ => ?_)
  subst hu
  obtain ⟨h1, h2⟩ := lits hr
  have hle : (listText (cs.map fun b => Builtin.Bytes.literal b.toArray)).length ≤ 5000 := by
    have e1 := listText_le (cs.map fun b => Builtin.Bytes.literal b.toArray)
    have e2 := piled_lit cs hc
    omega
  have o₁ := o.grow g₁
  have hu := o₁.units
  obtain ⟨v₀, vs', rfl⟩ : ∃ v₀ vs', vs = v₀ :: vs' := by
    cases vs with
    | nil => cases cs with
      | nil => exact absurd rfl hne
      | cons b r => simp at h1
    | cons v₀ vs' => exact ⟨v₀, vs', rfl⟩
  refine wpAny_pyReprObj_listK (as := []) (h₀ := s₁.heap) (d := 0) (ts := cs.map fun b => Builtin.Bytes.literal b.toArray) (g := []) ha hcl hda (by simp) (by simp [← h1]) (fun j y e => ?_) o₁.guards (fun b _ => Clear.nil b) (by omega) (fun _ _ e => e) (fun h' u tk hk => ?_) (by rw [sizeLine_eq]; omega)
  · obtain ⟨b, tb, eb, ey⟩ := h2 j y (by simpa using e)
    refine ⟨_, by rw [List.getElem?_map, eb]; rfl, ?_⟩
    subst ey
    have hb := hc b (List.mem_of_getElem? eb)
    exact ReprK.of_is (repr_bytes b.toArray tb (by simp; omega)) _ _ _
  · have i₂ : Inv Γ { s₁ with heap := h', toks := tk } := i₁.stays (s' := { s₁ with heap := h', toks := tk }) hk rfl rfl
    have q := p.grow (g₁.trans (.of_stays (s' := { s₁ with heap := h', toks := tk }) hk rfl))
    exact wpAny_formatField_str (q.same i₂ ⟨_, _, rfl, hle⟩) (q.same i₂ ⟨_, _, rfl, hle⟩) (by rw [sizeLine_eq]; omega)
end

-- Hw
open PySem PySem.W PyProof.Rows PySem.Calls PySem.SeqAt
set_option Elab.async false
set_option maxRecDepth 100000
set_option linter.unusedVariables false
set_option linter.unusedSimpArgs false
set_option maxHeartbeats 400000



noncomputable abbrev bStatus : Bs := [58, 115, 116, 97, 116, 117, 115]
noncomputable abbrev bMethod : Bs := [58, 109, 101, 116, 104, 111, 100]
noncomputable abbrev bScheme : Bs := [58, 115, 99, 104, 101, 109, 101]
noncomputable abbrev bProto : Bs := [58, 112, 114, 111, 116, 111, 99, 111, 108]
noncomputable abbrev bCONNECT : Bs := [67, 79, 78, 78, 69, 67, 84]
noncomputable abbrev reqOnly : List Bs := [bScheme, bPath, bAuth, bMethod, bProto]
noncomputable abbrev respOnly : List Bs := [bStatus]
noncomputable abbrev connOnly : List Bs := [bProto]
section
variable {Γ : Cx} {n : Nat} {env : Env} {σ : Sto}
theorem Tru.lst {ps : List Pd} (hs : ps.length ≤ 100000) : Tru Γ n (.lst ps) (!ps.isEmpty) := fun A s v Q E o i ⟨a, vs, hv, hl, hr⟩ h => by
  subst hv
  have e : vs.toArray.isEmpty = ps.isEmpty := by
    have := hr.length
    cases vs <;> cases ps <;> simp_all
  have k0 : s.heap.StaysIn s.heap := fun _ _ e => e
  exact wpAny_truthy_list hl (by have := hr.length; simp; omega) (by rw [e]; exact h _ (i.stays (s' := { s with toks := s.toks + 1 + 1 }) k0 rfl rfl) (.of_stays (s' := { s with toks := s.toks + 1 + 1 }) k0 rfl))
end

-- Hx
open PySem PySem.W PyProof.Rows PySem.Calls PySem.SeqAt
set_option Elab.async false
set_option maxRecDepth 100000
set_option linter.unusedVariables false
set_option linter.unusedSimpArgs false
set_option maxHeartbeats 400000



noncomputable def pseudoOk (tr rs : Bool) (S : Bs → Bool) (ne isC : Bool) : Bool :=
  if tr && (ne && true) then false
  else if rs then S bStatus && (reqOnly.filter S).isEmpty
  else if !rs && (!tr && true) then
    S bMethod && ((if isC && (!(isC && S bProto) && true) then !(S bScheme || (S bPath || false)) else S bScheme && S bPath) && ((respOnly.filter S).isEmpty && (isC || (connOnly.filter S).isEmpty)))
  else true
theorem FnX.le {Γ : Cx} {n m : Nat} {f : Addr} {Ps : List Pd} {ok : Bool} (x : FnX Γ n f Ps ok) (l : n ≤ m) : FnX Γ m f Ps ok := fun A s vs Rr o i q p r => x A s vs Rr (o.le l) i q p r
theorem assert_n {Γ : Cx} {n : Nat} {S : Bs → Bool} {b : Bs} (hb : b.length ≤ 2000) : FnX Γ (n + 2) 227 [.bytes b, .setB Γ S] (S b) := (assert_x hb).le (Nat.le_add_left 2 n)
section
variable {Γ : Cx} {n : Nat} {env : Env} {σ : Sto} {r : Option Sto}
theorem RunD.seqX {st : Stmt} {ss : List Stmt} {b : Bool} (x : RnD Γ n env σ st (if b = true then some σ else none)) (y : b = true → RunD Γ n env σ ss r) (hn : b = false → r = none) : RunD Γ n env σ (st :: ss) r := by
  cases b with
  | true => exact RunD.seq x (fun _ e => by cases e; exact y rfl) (fun e => by cases e)
  | false => rw [hn rfl]; exact RunD.thrown x
theorem RunD.guardX {t : Expr} {b : Bool} {body ss : List Stmt} {pos : Pos} (x : TsD Γ n env σ t b) (y : b = true → RunD Γ n env σ body none) (z : b = false → RunD Γ n env σ ss r) (hr : b = true → r = none) : RunD Γ n env σ (.If t body [] pos :: ss) r := RunD.guard x y z hr
theorem filt_len {cs : List Bs} {S : Bs → Bool} {k : Nat} (h : cs.length ≤ k) : (cs.filter S).length ≤ k := Nat.le_trans (List.length_filter_le _ _) h
theorem filt_sz {cs : List Bs} {S : Bs → Bool} (h : ∀ b ∈ cs, b.length ≤ 100) : ∀ b ∈ cs.filter S, b.length ≤ 100 := fun b hb => h b (List.mem_filter.mp hb).1
theorem filt_ne {cs : List Bs} {S : Bs → Bool} (h : (!((cs.filter S).map Pd.bytes).isEmpty) = true) : cs.filter S ≠ [] := fun e => by rw [e] at h; cases h
theorem none_of {c : Bool} {τ : Sto} (h : c = false) : (if c = true then some τ else none) = none := by rw [h]; rfl
theorem some_of {c : Bool} {τ : Sto} (h : c = true) : (if c = true then some τ else none) = some τ := by rw [h]; rfl
end
theorem check_x {Γ : Cx} {fa : Addr} {cl tr rs pu : Bool} (hfa : FlagsAt Γ fa cl tr rs pu) {S : Bs → Bool} {ne : Bool} {m : Option Bs} (hm : S bMethod = true → m.isSome = true) : FnX Γ 4 239 [.setN Γ S ne, optB m, .eq (.ref fa)] (pseudoOk tr rs S ne (m == some bCONNECT)) := by
  refine' FnX.bodyC (x := "pseudo_headers") (names := ["method", "hdr_validation_flags"]) (τ := []) ?hK ?hb ?hcode ?hbind ?hnd ?hxn ?hlen ?hloc ?hx ?hcs ?hps ?hcl ?hgl ?hbl ?hco ?hgen ?hk ?h
  (case hK => (show (KF (Cx.w _).params).lookup _ = _; k_is))
  (case hb => exact rfl)
  (case hcode => (show codeIn (KF (Cx.w _).params) _ _ = true; k_is))
  (case hcl => exact rfl)
  (case hgl => exact rfl)
  (case hbl => exact rfl)
  (case hco => exact rfl)
  (case hgen => exact rfl)
  (case hk => exact rfl)
  (case hnd => decide)
  (case hxn => decide)
  (case hlen => exact rfl)
  (case hloc => decide)
  (case hx => exact rfl)
  (case hcs => intro _; exact rfl)
  (case hps => intro _; exact rfl)
  (case hbind => intro v; exact len2 (fun _ _ => rfl))
  case' h => intro L; dsimp only [List.zip, List.zipWith]
  refine RunD.cons (StD.doc rfl) ?_
  refine RunD.guard (b := tr && (ne && true)) (TsD.bool (AllD.and (TsD.val (EvD.trailer (by walk_at "m nm") hfa) Tru.bool) fun _ => AllD.and (TsD.val (by walk_at "m nm") Tru.setN) fun _ => AllD.and_nil)) (fun h => ?_) (fun h => ?_) (fun h => ?_)
  · exact RunD.cons (StD.assign (EvD.cstr (m := 100) (by decide)) rfl) (RunD.thrown (RnD.raise ⟨rfl, rfl, rfl⟩ rfl (by walk_at "m nm")))
  · refine RunD.one (RnD.ite (b := rs) (TsD.val (EvD.response (by walk_at "m nm") hfa) Tru.bool) (fun hr => ?_) (fun hr => ?_))
    · have e0 : pseudoOk tr rs S ne (m == some bCONNECT) = (S bStatus && (reqOnly.filter S).isEmpty) := by unfold pseudoOk; rw [if_neg (by rw [h]; exact Bool.false_ne_true), if_pos hr]
      rw [e0]
      refine RunD.seqX (b := S bStatus) (RnD.callX (f := 227) (Ps := [.bytes bStatus, .setB Γ S]) ⟨rfl, rfl, rfl⟩ rfl (by walk_at "m glob") (by walk_at "m keep") (ArgsD.cons (by walk_at "m ev") (ArgsD.cons (EvD.imp (P := .setN Γ S ne) (by walk_at "m nm") setN_B) ArgsD.nil)) (assert_n (b := bStatus) (by decide)) rfl) (fun h1 => ?_) (fun h1 => none_of (by rw [h1]; rfl))
      refine' RunD.cons (StD.assignComp (items := reqOnly) (P := Pd.bytes) (R := Pd.bytes) (b := S) (τ := fun c => [("name", .bytes c)]) (φ := [("pseudo_headers", .setN Γ S ne)]) (cl := [("pseudo_headers", L + 1)]) (ItD.tuple (EvD.globT (cs := reqOnly) (a := 106) ⟨rfl, rfl, rfl⟩ rfl ?g1 ?g2 ?g3)) rfl (by decide) rfl (by decide) (fun h C t => CellsAt.one t rfl rfl rfl rfl) ⟨fun C x _ => TgC.name rfl rfl, fun C x hx => TstsD.one (TsD.cmp (P₁ := .bytes x) (by walk_at "m nm") (EvD.imp (P := .setN Γ S ne) (by walk_at "m nm") setN_B) op_in_set)⟩ (fun C x _ _ => by walk_at "m nm") (fun _ => pure_bytes) (by decide) rfl) ?_
      case g1 => walk_at "m glob"
      case g2 => walk_at "m look"
      case g3 => exact fun h => ⟨⟨_, rfl⟩, ⟨_, rfl⟩, ⟨_, rfl⟩, ⟨_, rfl⟩, ⟨_, rfl⟩, trivial⟩
      refine RunD.guard (b := !((reqOnly.filter S).map Pd.bytes).isEmpty) (TsD.val (by walk_at "m nm") (Tru.lst (by rw [List.length_map]; exact filt_len (by decide)))) (fun h2 => ?_) (fun h2 => ?_) (fun h2 => ?_)
      · exact RunD.cons (StD.assign (EvD.fstr (JnD.cons (EvD.cstr (m := 100) (by decide)) (JnD.cons (EvD.fmtL (cs := reqOnly.filter S) (by walk_at "m nm") (filt_ne h2) (filt_sz (by decide)) (filt_len (by decide))) JnD.nil)) (by decide)) rfl) (RunD.thrown (RnD.raise ⟨rfl, rfl, rfl⟩ rfl (by walk_at "m nm")))
      · rw [some_of (by rw [h1]; rw [List.isEmpty_map, Bool.not_eq_false'] at h2; rw [h2]; rfl)]
        exact RunD.sub RunD.nil fun _ t => sat_sel t fun q hq => by cases hq
      · exact none_of (by rw [List.isEmpty_map, Bool.not_eq_true'] at h2; rw [h2, Bool.and_false])
    · refine RunD.one (RnD.ite (b := !rs && (!tr && true)) (TsD.bool (AllD.and (TsD.not (TsD.val (EvD.response (by walk_at "m nm") hfa) Tru.bool)) fun _ => AllD.and (TsD.not (TsD.val (EvD.trailer (by walk_at "m nm") hfa) Tru.bool)) fun _ => AllD.and_nil)) (fun hq => ?_) (fun hq => ?_))
      · have e0 : pseudoOk tr rs S ne (m == some bCONNECT) = (S bMethod && ((if (m == some bCONNECT) && (!((m == some bCONNECT) && S bProto) && true) then !(S bScheme || (S bPath || false)) else S bScheme && S bPath) && ((respOnly.filter S).isEmpty && ((m == some bCONNECT) || (connOnly.filter S).isEmpty)))) := by
          unfold pseudoOk; rw [if_neg (by rw [h]; exact Bool.false_ne_true), if_neg (by rw [hr]; exact Bool.false_ne_true), if_pos hq]
        rw [e0]
        refine RunD.seqX (b := S bMethod) (RnD.callX (f := 227) (Ps := [.bytes bMethod, .setB Γ S]) ⟨rfl, rfl, rfl⟩ rfl (by walk_at "m glob") (by walk_at "m keep") (ArgsD.cons (by walk_at "m ev") (ArgsD.cons (EvD.imp (P := .setN Γ S ne) (by walk_at "m nm") setN_B) ArgsD.nil)) (assert_n (b := bMethod) (by decide)) rfl) (fun h1 => ?_) (fun h1 => none_of (by rw [h1]; rfl))
        obtain ⟨mb, rfl⟩ := Option.isSome_iff_exists.mp (hm h1)
        rw [show ((some mb : Option Bs) == some bCONNECT) = (mb == bCONNECT) from rfl, h1, Bool.true_and]
        refine RunD.cons (StD.assign (P := .bool (mb == bCONNECT)) (EvD.compare (P₁ := .bytes mb) (EvD.imp (P := optB (some mb)) (by walk_at "m nm") fun _ _ q => q.1) (by walk_at "m ev") op_eq_bytes) rfl) ?_
        generalize (mb == bCONNECT) = isC
        refine RunD.cons (StD.assign (P := .bool (isC && S bProto)) (EvD.andB (by walk_at "m nm") fun _ => EvD.bone (EvD.compare (P₁ := .bytes bProto) (by walk_at "m ev") (EvD.imp (P := .setN Γ S ne) (by walk_at "m nm") setN_B) op_in_set)) rfl) ?_
        generalize hx : (if isC && (!(isC && S bProto) && true) then !(S bScheme || (S bPath || false)) else S bScheme && S bPath) = c4
        refine RunD.seqX (b := c4) (RnD.ite (b := isC && (!(isC && S bProto) && true)) (TsD.bool (AllD.and (TsD.val (by walk_at "m nm") Tru.bool) fun _ => AllD.and (TsD.not (TsD.val (by walk_at "m nm") Tru.bool)) fun _ => AllD.and_nil)) (fun ha => ?_) (fun ha => ?_)) (fun h4 => ?_) (fun h4 => none_of (by rw [h4]; rfl))
        · rw [if_pos ha] at hx
          refine RunD.guard (b := S bScheme || (S bPath || false)) (TsD.bool (AllD.or (TsD.cmp (P₁ := .bytes bScheme) (by walk_at "m ev") (EvD.imp (P := .setN Γ S ne) (by walk_at "m nm") setN_B) op_in_set) fun _ => AllD.or (TsD.cmp (P₁ := .bytes bPath) (by walk_at "m ev") (EvD.imp (P := .setN Γ S ne) (by walk_at "m nm") setN_B) op_in_set) fun _ => AllD.or_nil)) (fun hb => ?_) (fun hb => ?_) (fun hb => ?_)
          · exact RunD.cons (StD.assign (EvD.cstr (m := 100) (by decide)) rfl) (RunD.thrown (RnD.raise ⟨rfl, rfl, rfl⟩ rfl (by walk_at "m nm")))
          · rw [some_of (by rw [← hx, hb]; rfl)]; exact RunD.nil
          · exact none_of (by rw [← hx, hb]; rfl)
        · rw [if_neg (by rw [ha]; exact Bool.false_ne_true)] at hx
          refine RunD.one (RnD.ite (b := isC && S bProto) (TsD.val (by walk_at "m nm") Tru.bool) (fun hb => ?_) (fun hb => ?_))
          all_goals
            refine RunD.seqX (b := S bScheme) (RnD.callX (f := 227) (Ps := [.bytes bScheme, .setB Γ S]) ⟨rfl, rfl, rfl⟩ rfl (by walk_at "m glob") (by walk_at "m keep") (ArgsD.cons (by walk_at "m ev") (ArgsD.cons (EvD.imp (P := .setN Γ S ne) (by walk_at "m nm") setN_B) ArgsD.nil)) (assert_n (b := bScheme) (by decide)) rfl) (fun h5 => ?_) (fun h5 => none_of (by rw [← hx, h5]; rfl))
            refine RunD.seqX (b := S bPath) (RnD.callX (f := 227) (Ps := [.bytes bPath, .setB Γ S]) ⟨rfl, rfl, rfl⟩ rfl (by walk_at "m glob") (by walk_at "m keep") (ArgsD.cons (by walk_at "m ev") (ArgsD.cons (EvD.imp (P := .setN Γ S ne) (by walk_at "m nm") setN_B) ArgsD.nil)) (assert_n (b := bPath) (by decide)) rfl) (fun h6 => ?_) (fun h6 => none_of (by rw [← hx, h6, Bool.and_false]))
            rw [some_of (by rw [← hx, h5, h6]; rfl)]; exact RunD.nil
        rw [h4, Bool.true_and]
        refine' RunD.cons (StD.assignComp (items := respOnly) (P := Pd.bytes) (R := Pd.bytes) (b := S) (τ := fun c => [("name", .bytes c)]) (φ := [("pseudo_headers", .setN Γ S ne)]) (cl := [("pseudo_headers", L + 1)]) (ItD.tuple (EvD.globT (cs := respOnly) (a := 107) ⟨rfl, rfl, rfl⟩ rfl ?g1 ?g2 ?g3)) rfl (by decide) rfl (by decide) (fun h C t => CellsAt.one t rfl rfl rfl rfl) ⟨fun C x _ => TgC.name rfl rfl, fun C x hx => TstsD.one (TsD.cmp (P₁ := .bytes x) (by walk_at "m nm") (EvD.imp (P := .setN Γ S ne) (by walk_at "m nm") setN_B) op_in_set)⟩ (fun C x _ _ => by walk_at "m nm") (fun _ => pure_bytes) (by decide) rfl) ?_
        case g1 => walk_at "m glob"
        case g2 => walk_at "m look"
        case g3 => exact fun h => ⟨⟨_, rfl⟩, trivial⟩
        refine RunD.guard (b := !((respOnly.filter S).map Pd.bytes).isEmpty) (TsD.val (by walk_at "m nm") (Tru.lst (by rw [List.length_map]; exact filt_len (by decide)))) (fun h2 => ?_) (fun h2 => ?_) (fun h2 => ?_)
        · exact RunD.cons (StD.assign (EvD.fstr (JnD.cons (EvD.cstr (m := 100) (by decide)) (JnD.cons (EvD.fmtL (cs := respOnly.filter S) (by walk_at "m nm") (filt_ne h2) (filt_sz (by decide)) (filt_len (by decide))) JnD.nil)) (by decide)) rfl) (RunD.thrown (RnD.raise ⟨rfl, rfl, rfl⟩ rfl (by walk_at "m nm")))
        · rw [List.isEmpty_map, Bool.not_eq_false'] at h2
          rw [h2, Bool.true_and]
          refine RunD.one (RnD.ite (b := !isC) (TsD.not (TsD.val (by walk_at "m nm") Tru.bool)) (fun h7 => ?_) (fun h7 => ?_))
          · rw [Bool.not_eq_true'] at h7
            rw [h7, Bool.false_or]
            refine' RunD.cons (StD.assignComp (items := connOnly) (P := Pd.bytes) (R := Pd.bytes) (b := S) (τ := fun c => [("name", .bytes c)]) (φ := [("pseudo_headers", .setN Γ S ne)]) (cl := [("pseudo_headers", L + 1)]) (ItD.tuple (EvD.globT (cs := connOnly) (a := 108) ⟨rfl, rfl, rfl⟩ rfl ?g1 ?g2 ?g3)) rfl (by decide) rfl (by decide) (fun h C t => CellsAt.one t rfl rfl rfl rfl) ⟨fun C x _ => TgC.name rfl rfl, fun C x hx => TstsD.one (TsD.cmp (P₁ := .bytes x) (by walk_at "m nm") (EvD.imp (P := .setN Γ S ne) (by walk_at "m nm") setN_B) op_in_set)⟩ (fun C x _ _ => by walk_at "m nm") (fun _ => pure_bytes) (by decide) rfl) ?_
            case g1 => walk_at "m glob"
            case g2 => walk_at "m look"
            case g3 => exact fun h => ⟨⟨_, rfl⟩, trivial⟩
            refine RunD.guard (b := !((connOnly.filter S).map Pd.bytes).isEmpty) (TsD.val (by walk_at "m nm") (Tru.lst (by rw [List.length_map]; exact filt_len (by decide)))) (fun h8 => ?_) (fun h8 => ?_) (fun h8 => ?_)
            · exact RunD.cons (StD.assign (EvD.fstr (JnD.cons (EvD.cstr (m := 100) (by decide)) (JnD.cons (EvD.fmtLR (cs := connOnly.filter S) (by walk_at "m nm") (filt_ne h8) (filt_sz (by decide)) (filt_len (by decide))) JnD.nil)) (by decide)) rfl) (RunD.thrown (RnD.raise ⟨rfl, rfl, rfl⟩ rfl (by walk_at "m nm")))
            · rw [some_of (by rw [List.isEmpty_map, Bool.not_eq_false'] at h8; exact h8)]
              exact RunD.sub RunD.nil fun _ t => sat_sel t fun q hq => by cases hq
            · exact none_of (by rw [List.isEmpty_map, Bool.not_eq_true'] at h8; exact h8)
          · rw [Bool.not_eq_false'] at h7
            rw [some_of (by rw [h7]; rfl)]
            exact RunD.sub RunD.nil fun _ t => sat_sel t fun q hq => by cases hq
        · exact none_of (by rw [List.isEmpty_map, Bool.not_eq_true'] at h2; rw [h2]; rfl)
      · have e0 : pseudoOk tr rs S ne (m == some bCONNECT) = true := by
          unfold pseudoOk; rw [if_neg (by rw [h]; exact Bool.false_ne_true), if_neg (by rw [hr]; exact Bool.false_ne_true), if_neg (by rw [hq]; exact Bool.false_ne_true)]
        rw [some_of e0]
        exact RunD.sub RunD.nil fun _ t => sat_sel t fun q hq => by cases hq
  · rw [if_neg (by unfold pseudoOk; rw [if_pos h]; exact Bool.false_ne_true)]

-- Hy
open PySem PySem.W PyProof.Rows PySem.Calls PySem.SeqAt
set_option Elab.async false
set_option maxRecDepth 100000
set_option linter.unusedVariables false
set_option linter.unusedSimpArgs false
set_option maxHeartbeats 400000

/- ---------- a set of bytes that a frame fills ---------- -/
noncomputable def Pd.setD (Γ : Cx) (d : Addr) (S : Bs → Bool) (n : Nat) : Pd := ⟨fun h v => v = .ref d ∧ h.SetOf (bytesKind Γ.prog Γ.w) d S n, by intro h h' v m ⟨e, x⟩; exact ⟨e, setOf_md m x⟩⟩
theorem setD_B {Γ : Cx} {d : Addr} {S : Bs → Bool} {n : Nat} : ∀ h v, (Pd.setD Γ d S n).p h v → (Pd.setB Γ S).p h v := fun h v ⟨e, x⟩ => ⟨d, n, e, x⟩
theorem setD_N {Γ : Cx} {d : Addr} {S : Bs → Bool} {n : Nat} : ∀ h v, (Pd.setD Γ d S n).p h v → (Pd.setN Γ S (n != 0)).p h v := fun h v ⟨e, x⟩ => ⟨d, n, e, x, rfl⟩
theorem EvD.base {Γ : Cx} {n : Nat} {env : Env} {σ : Sto} {e : Expr} {v : Value} {P : Pd} (x : EvD Γ n env σ e (.eq v)) (h : P.p Γ.hb v) : EvD Γ n env σ e P := fun A s Q E o i t p => x A s Q E o i t fun u s' i' g' q => by
  cases (show u = v from q)
  exact p _ s' i' g' (P.mono (.of_stays i'.base) h)

noncomputable abbrev hereD (env : Env) (d : Addr) : Addr → Prop := fun b => b = env.locals ∨ b = d
/-- statements that end next or raise, and may fill the set d -/
noncomputable def RunW (Γ : Cx) (n : Nat) (env : Env) (d : Addr) (σ : Sto) (ss : List Stmt) (r : Option Sto) : Prop :=
  ∀ (A : Around) (s : Shared) (Q : Flow → Shared → Prop) (E : Value → Shared → Prop), TopOf A env → Ok Γ n A s.heap → Inv Γ s → Own Γ env → Γ.hb.get? d = none → (∀ q ∈ Γ.tabs, q.1 ≠ d ∧ q.2 ≠ d) → Act env s.heap → Sat env s.heap σ →
    (∀ σ' s', r = some σ' → Inv Γ s' → Grow (hereD env d) noG s s' → Act env s'.heap → Sat env s'.heap σ' → Q .next s') →
    (∀ e s', r = none → Thrown Γ (hereD env d) noG s e s' → E (.ref e) s') → wpAny Γ.M A (execs ss env) Q E s

section
variable {Γ : Cx} {n : Nat} {env : Env} {d : Addr} {σ σ' : Sto} {r : Option Sto}
theorem growL_d {s s' : Shared} (g : GrowL env s s') : Grow (hereD env d) noG s s' := g.weaken (fun b w => .inl w) fun _ q => q
theorem RunW.of {ss : List Stmt} (x : RunD Γ n env σ ss r) : RunW Γ n env d σ ss r := fun A s Q E tp o i w _ _ a t h k =>
  x A s Q E tp o i w a t (fun σ' s' e i' g' a' t' => h σ' s' e i' (growL_d g') a' t') fun e s' e' x' => k e s' e' (x'.weaken (fun b w => .inl w) fun _ q => q)
theorem RunW.seqX {st : Stmt} {ss : List Stmt} {b : Bool} (x : RnD Γ n env σ st (if b = true then some σ else none)) (y : b = true → RunW Γ n env d σ ss r) (hn : b = false → r = none) : RunW Γ n env d σ (st :: ss) r := fun A s Q E tp o i w hd ht a t h k => by
  refine wpAny_execs_cons (x A s _ E tp o i w a t (fun σ₁ s₁ e₁ i₁ g₁ a₁ t₁ => ?_) (fun e s₁ e₁ x₁ => ?_))
  · cases b with
    | false => cases e₁
    | true =>
      cases e₁
      exact y rfl A s₁ Q E tp (o.grow g₁) i₁ w hd ht a₁ t₁ (fun σ₂ s₂ e₂ i₂ g₂ a₂ t₂ => h σ₂ s₂ e₂ i₂ ((growL_d g₁).trans g₂) a₂ t₂) fun e s₂ e₂ x₂ => k e s₂ e₂ (x₂.back (growL_d g₁))
  · cases b with
    | true => cases e₁
    | false => exact k e s₁ (hn rfl) (x₁.weaken (fun b w => .inl w) fun _ q => q)
theorem RunW.guard {t : Expr} {b : Bool} {body ss : List Stmt} {pos : Pos} (x : TsD Γ n env σ t b) (y : b = true → RunD Γ n env σ body none) (z : b = false → RunW Γ n env d σ ss r) (hr : b = true → r = none) : RunW Γ n env d σ (.If t body [] pos :: ss) r := by
  refine RunW.seqX (b := !b) (RnD.ite (b := b) x (fun h => ?_) fun h => ?_) (fun h => z (by simpa using h)) fun h => hr (by simpa using h)
  · rw [if_neg (by rw [h]; decide)]; exact y h
  · rw [if_pos (by rw [h]; rfl)]; exact RunD.nil
theorem RunW.ite {t : Expr} {b : Bool} {body orelse : List Stmt} {pos : Pos} (x : TsD Γ n env σ t b) (y : b = true → RunW Γ n env d σ body r) (z : b = false → RunW Γ n env d σ orelse r) : RunW Γ n env d σ [.If t body orelse pos] r := fun A s Q E tp o i w hd ht a tt h k => by
  refine wpAny_execs_cons (wpAny_If (x A s _ E o i tt fun s' i' g => ?_))
  have kk : ∀ (fl : Flow) (s'' : Shared), Q fl s'' → (match fl with | .next => wpAny Γ.M A (execs [] env) Q E s'' | fl => Q fl s'') := fun fl s'' hq => by
    cases fl with
    | next => exact wpAny_execs_nil hq
    | _ => exact hq
  cases b with
  | true => exact wpAny_mono (y rfl A s' Q E tp (o.grow g) i' w hd ht (a.grow0 g) (tt.grow0 g) (fun σ' s₂ e₂ i₂ g₂ a₂ t₂ => h σ' s₂ e₂ i₂ (g.of0.trans g₂) a₂ t₂) fun e s₂ e₂ x₂ => k e s₂ e₂ (x₂.back g.of0)) kk fun _ _ e => e
  | false => exact wpAny_mono (z rfl A s' Q E tp (o.grow g) i' w hd ht (a.grow0 g) (tt.grow0 g) (fun σ' s₂ e₂ i₂ g₂ a₂ t₂ => h σ' s₂ e₂ i₂ (g.of0.trans g₂) a₂ t₂) fun e s₂ e₂ x₂ => k e s₂ e₂ (x₂.back g.of0)) kk fun _ _ e => e

theorem set_cls {s : Shared} {S : Bs → Bool} {m : Nat} (hS : s.heap.SetOf (bytesKind Γ.prog Γ.w) d S m) : ∃ o, s.heap.get? d = some o ∧ o.cls = .type "set" ∧ ¬ IsDct o := by
  obtain ⟨o, es, ep, t, e, c, hd, _⟩ := hS
  exact ⟨o, e, c.1, fun ⟨es', n', q⟩ => by rw [hd] at q; cases q⟩

/-- d.add(item) as a statement -/
theorem RunW.add {x : Str} {np apos cpos epos : Pos} {e : Expr} {k : Bs} {S : Bs → Bool} {m : Nat} {ss : List Stmt} {pl : Sem Bool} (hx : EvD Γ n env ((x, .setD Γ d S m) :: σ) (.Name x np) (.setD Γ d S m)) (y : EvD Γ n env ((x, .setD Γ d S m) :: σ) e (.bytes k)) (pu : PureS σ) (hm : m + 1 < 4096) (hk : S k = false) (hi : interactive env = false)
    (zz : RunW Γ n env d ((x, .setD Γ d (fun k' => S k' || decide (k' = k)) (m + 1)) :: σ) ss r) (h1 : plainE e = true := by rfl)
    (he : eval (.Call (.Attribute (.Name x np) "add" apos) [e] [] cpos) env = (do
      let ov ← eval (.Name x np) env
      standAt apos.atName
      let (f, first) ← holding [ov] (getMethod ov "add" pl)
      callWith cpos f first (backTo cpos (starEach [e] env)) []) := by rfl) : RunW Γ n env d ((x, .setD Γ d S m) :: σ) (.Expr (.Call (.Attribute (.Name x np) "add" apos) [e] [] cpos) epos :: ss) r := fun A s Q E tp o i w hd ht a t h kk => by
  refine wpAny_execs_cons (wpAny_Expr_any (MethodCall_ (pl := pl) (hx A s _ E o i t fun v s₁ i₁ g₁ ⟨hv, hS₁⟩ => ?_) he) hi rfl)
  subst hv
  refine getMethod_set_add hS₁ ?_
  have t₁ := t.grow0 g₁
  have a₁ := a.grow0 g₁
  have key := ArgsD.cons y ArgsD.nil h1 A s₁ cpos (fun vs s₂ => wpAny Γ.M A (PySem.call (.builtin "set.add") ([.ref d] ++ vs)) (fun _ s' => wpAny Γ.M A (execs ss env) Q E s') E s₂) E (o.grow g₁) i₁ t₁ fun vs s₂ i₂ g₂ q₂ => ?_
  · rw [starEach_cons e [] env h1] at key ⊢
    exact Calls.callWith_builtin rfl (Calls.evalArgs_plain key)
  · obtain ⟨u, rfl, tu, hu⟩ := q₂.one
    subst hu
    have hS₂ := setOf_md g₂.md0 hS₁
    have t₂ := t₁.grow0 g₂
    have a₂ := a₁.grow0 g₂
    refine call_set_add (bytesKind_is _ _ k tu) rfl hS₂ (by unfold scanBound; omega) fun h' sb hS' => ?_
    rw [hk, if_neg Bool.false_ne_true] at hS'
    obtain ⟨o₁, e₁, c₁, d₁⟩ := set_cls hS₂
    obtain ⟨o₂, e₂, c₂, d₂⟩ := set_cls (s := { s₂ with heap := h' }) hS'
    have hdL : d ≠ env.locals := fun q => by
      obtain ⟨oL, eL, cL⟩ := a₂.fr
      rw [q, eL] at e₁; cases e₁
      rw [cL] at c₁; exact absurd (Value.type.inj c₁) (by decide)
    have gS : Grow (fun b => b = d) noG s₂ { s₂ with heap := h', toks := s₂.toks + 1 } := by
      refine ⟨fun b ob e hw => ⟨ob, (sb.2 b hw).trans e, .inl rfl⟩, fun b ob e => ?_, fun _ _ e _ => e, Nat.le_refl _⟩
      by_cases hb : b = d
      · subst hb
        rw [e₁] at e; cases e
        exact ⟨o₂, e₂, c₂.trans c₁.symm, fun q => (d₁ q).elim⟩
      · exact ⟨ob, (sb.2 b hb).trans e, rfl, fun q => q⟩
    have i₃ : Inv Γ { s₂ with heap := h', toks := s₂.toks + 1 } := i₂.but (W := fun b => b = d) (fun b q => by rw [q]; exact hd) (fun q mq => ht q mq) fun b ob hb e => (sb.2 b hb).trans e
    have gg := g₁.trans g₂
    have a₃ : Act env h' := a₂.grow gS (fun q => hdL q.symm)
    have t₃ : Sat env h' ((x, .setD Γ d (fun k' => S k' || decide (k' = k)) (m + 1)) :: σ) := fun z R hz => by
      have hl : ∀ {v : Value}, Loads env s₂.heap z v → Loads env h' z v := fun l => by
        rcases l with ⟨kk, m', nn, e⟩ | ⟨kk, c, e, oc, e1, q1, q2⟩
        · exact .inl ⟨kk, m', gS.ns nn (fun q => hdL q.symm), e⟩
        · refine .inr ⟨kk, c, e, oc, gS.get e1 (fun q => ?_) (by rw [q1]; decide), q1, q2⟩
          rw [show c = d from q, e₁] at e1; cases e1
          rw [c₁] at q1; exact absurd (Value.type.inj q1) (by decide)
      by_cases hzx : z = x
      · subst hzx
        rw [lookup_cons_eq] at hz; cases hz
        obtain ⟨v, l, hv, _⟩ := t₂ _ _ lookup_cons_eq
        subst hv
        exact ⟨.ref d, hl l, rfl, hS'⟩
      · rw [lookup_cons_ne hzx] at hz
        obtain ⟨v, l, q⟩ := t₂ z R (by rw [lookup_cons_ne hzx]; exact hz)
        exact ⟨v, hl l, pu z R hz _ _ _ q⟩
    have gd : Grow (hereD env d) noG s { s₂ with heap := h', toks := s₂.toks + 1 } := gg.of0.trans (gS.weaken (fun b q => .inr q) fun _ q => q)
    exact zz A { s₂ with heap := h', toks := s₂.toks + 1 } Q E tp (o.grow gd) i₃ w hd ht a₃ t₃ (fun σ' s₄ e₄ i₄ g₄ a₄ t₄ => h σ' s₄ e₄ i₄ (gd.trans g₄) a₄ t₄) fun e s₄ e₄ x₄ => kk e s₄ e₄ (x₄.back gd)

theorem RunW.sub {ss : List Stmt} {σ' σ'' : Sto} (x : RunW Γ n env d σ ss (some σ')) (h : ∀ h, Sat env h σ' → Sat env h σ'') : RunW Γ n env d σ ss (some σ'') := fun A s Q E tp o i w hd ht a t k l => x A s Q E tp o i w hd ht a t (fun τ s' e i' g' a' t' => by cases e; exact k σ'' s' rfl i' g' a' (h _ t')) fun e s' e' => by cases e'

/-- set() -/
theorem set0_at {A : Around} {s : Shared} {np pos : Pos} {Q E : Value → Shared → Prop} (he : EnvOk env) (hx : env.kindOf "set" = some .globalImplicit) (o : Ok Γ n A s.heap) (i : Inv Γ s) (t : Sat env s.heap σ)
    (h : ∀ (s' : Shared) (d : Addr), Inv Γ s' → Grow0 s s' → s.heap.get? d = none → s'.heap.SetOf (bytesKind Γ.prog Γ.w) d (fun _ => false) 0 → Q (.ref d) s') : wpAny Γ.M A (eval (.Call (.Name "set" np) [] [] pos) env) Q E s := by
  show wpAny Γ.M A (do callWith pos (← eval (.Name "set" np) env) [] (backTo pos (starEach [] env)) []) Q E s
  refine wpAny_bind (EvD.builtin (Γ := Γ) (n := n) (σ := σ) (v := .type "set") he hx (by decide) rfl (by decide) (by decide) A s _ E o i t fun v s₁ i₁ g₁ q₁ => ?_)
  cases (show v = .type "set" from q₁)
  refine PyProof.Rows.callWith_type0 (call_set_0 fun led => ?_)
  have k := stays_push s₁.heap { cls := .type "set", dict := none, data := .set #[] 0 (.fresh 0 0 led) }
  refine h _ _ (i₁.stays (s' := { s₁ with heap := s₁.heap.push { cls := .type "set", dict := none, data := .set #[] 0 (.fresh 0 0 led) } }) k rfl rfl) (g₁.trans (.of_stays (s' := { s₁ with heap := s₁.heap.push { cls := .type "set", dict := none, data := .set #[] 0 (.fresh 0 0 led) } }) k rfl)) (News.back g₁ (get_size _)) ?_
  exact (setObjOf_fresh (knd := bytesKind Γ.prog Γ.w) led).setOf (Heap.get?_push_size _ rfl) (by unfold scanBound; omega)
end

-- Hz
open PySem PySem.W PyProof.Rows PySem.Calls PySem.SeqAt
set_option Elab.async false
set_option maxRecDepth 100000
set_option linter.unusedVariables false
set_option linter.unusedSimpArgs false
set_option maxHeartbeats 400000

local macro_rules | `(tactic| walk_at "m hb") => `(tactic| exact EvD.item (P₁ := fld _) (EvD.base (EvD.name ⟨rfl, rfl, rfl⟩ rfl) (by assumption)) EvD.cint (sub_tup (P := .bytes _) (by decide) (by simp) rfl))

noncomputable abbrev kSeen : Str := "seen_pseudo_header_fields"
structure PSt where
  seen : List Bs
  reg : Bool
  meth : Option Bs
noncomputable abbrev pS (u : Value) (fa : Addr) (x : PSt) : Sto := [("method", optB x.meth), ("seen_regular_header", .bool x.reg), ("headers", .eq u), ("hdr_validation_flags", .eq (.ref fa))]
noncomputable abbrev pD (Γ : Cx) (d : Addr) (x : PSt) : Pd := .setD Γ d (fun b => x.seen.contains b) x.seen.length
noncomputable abbrev allowedL : List Bs := [bMethod, bScheme, bAuth, bPath, bStatus, bProto]
noncomputable def pStep (x : PSt) (f : Fld) : Option PSt :=
  if isPs f.1 then
    if x.seen.contains f.1 then none
    else if x.reg then none
    else if !(allowedL.any (· == f.1)) then none
    else some ⟨f.1 :: x.seen, x.reg, if f.1 == bMethod then some f.2 else x.meth⟩
  else some ⟨x.seen, true, x.meth⟩
structure PInv (x : PSt) : Prop where
  nd : x.seen.Nodup
  al : ∀ b ∈ x.seen, b ∈ allowedL
  me : x.seen.contains bMethod = true → x.meth.isSome = true
theorem len_sub : ∀ (l m : List Bs), l.Nodup → (∀ b ∈ l, b ∈ m) → l.length ≤ m.length
  | [], _, _, _ => Nat.zero_le _
  | a :: l, m, nd, h => by
    obtain ⟨h1, h2⟩ := List.nodup_cons.mp nd
    have hm : a ∈ m := h a (.head _)
    have := len_sub l (m.erase a) h2 fun b hb => (List.mem_erase_of_ne (fun e : b = a => h1 (e ▸ hb))).mpr (h b (.tail _ hb))
    rw [List.length_erase_of_mem hm] at this
    have := List.length_pos_of_mem hm
    simp only [List.length_cons]; omega
theorem PInv.len {x : PSt} (h : PInv x) : x.seen.length ≤ 6 := len_sub _ allowedL h.nd h.al
theorem PInv.step {x x' : PSt} {f : Fld} (h : PInv x) (e : pStep x f = some x') : PInv x' := by
  unfold pStep at e
  split at e
  · split at e
    · cases e
    · rename_i hn
      split at e
      · cases e
      · split at e
        · cases e
        · rename_i ha
          cases e
          refine ⟨List.nodup_cons.mpr ⟨fun hm => hn (List.contains_iff_mem.mpr hm), h.nd⟩, fun b hb => ?_, fun hb => ?_⟩
          · rcases List.mem_cons.mp hb with rfl | hb
            · simp only [Bool.not_eq_true', Bool.not_eq_false] at ha
              obtain ⟨y, hy, e⟩ := List.any_eq_true.mp ha
              rw [← eq_of_beq e]; exact hy
            · exact h.al b hb
          · by_cases hf : (f.1 == bMethod) = true
            · rw [if_pos hf]; rfl
            · rw [if_neg hf]
              refine h.me ?_
              have hb' : (bMethod == f.1 || x.seen.contains bMethod) = true := hb
              rcases Bool.or_eq_true_iff.mp hb' with q | q
              · exact absurd (beq_iff_eq.mpr (eq_of_beq q).symm) hf
              · exact q
  · cases e; exact ⟨h.nd, h.al, h.me⟩

section
variable {Γ : Cx} {n : Nat} {env : Env} {d : Addr} {σ : Sto}
theorem sat_keepD {x : Str} {S : Bs → Bool} {m : Nat} {s s' : Shared} {W' : Addr → Prop} {G' : Nat → Prop} (t : Sat env s.heap ((x, .setD Γ d S m) :: σ)) (pu : PureS σ) (g : Grow W' G' s s') (hL : ¬ W' env.locals) (hd : ¬ W' d) (hc : env.cells = []) : Sat env s'.heap ((x, .setD Γ d S m) :: σ) := fun z R hz => by
  obtain ⟨v, l, q⟩ := t z R hz
  refine ⟨v, ?_, ?_⟩
  · rcases l with ⟨kk, m', nn, e⟩ | ⟨kk, c, e, _⟩
    · exact .inl ⟨kk, m', g.ns nn hL, e⟩
    · rw [hc] at e; simp at e
  · by_cases hzx : z = x
    · subst hzx
      rw [lookup_cons_eq] at hz; cases hz
      obtain ⟨hv, o, es, ep, t, e, c, r⟩ := q
      exact ⟨hv, o, es, ep, t, g.get e hd (by rw [c.1]; decide), c, r⟩
    · rw [lookup_cons_ne hzx] at hz
      exact pu z R hz _ _ _ q
theorem pure_pS (u : Value) (fa : Addr) (x : PSt) : PureS (pS u fa x) := fun y P hy => by
  have hm := mem_of_lookup hy
  simp only [List.mem_cons, List.not_mem_nil, or_false, Prod.mk.injEq] at hm
  rcases hm with ⟨_, rfl⟩ | ⟨_, rfl⟩ | ⟨_, rfl⟩ | ⟨_, rfl⟩
  · exact pure_optB _
  · exact fun _ _ _ q => q
  · exact fun _ _ _ q => q
  · exact fun _ _ _ q => q
theorem pure_hS (v : Value) (u : Value) (fa : Addr) (x : PSt) : PureS (("header", .eq v) :: pS u fa x) := fun y P hy => by
  by_cases h : y = "header"
  · subst h; rw [lookup_cons_eq] at hy; cases hy; exact fun _ _ _ q => q
  · rw [lookup_cons_ne h] at hy; exact pure_pS u fa x y P hy
theorem seen_cons {x : PSt} {b : Bs} : (fun k' => x.seen.contains k' || decide (k' = b)) = fun k' => (b :: x.seen).contains k' := funext fun k' => by
  show _ = (k' == b || x.seen.contains k')
  rw [Bool.or_comm]; congr 1
  rw [Bool.eq_iff_iff]; simp

noncomputable abbrev mkWs (V : Wd) (L a g : Nat) : Wd := ⟨fun b => V.st b ∨ b = L, fun T => V.lo T ∨ T = "set", fun b => V.kp b ∨ b = a, fun j => V.G j ∨ j = g⟩
noncomputable def LpS (Γ : Cx) (env : Env) (V : Wd) (u : Value) (fa : Addr) (x : PSt) (s : Shared) : Prop :=
  ∃ d, PInv x ∧ Γ.hb.get? d = none ∧ ¬ V.st d ∧ ¬ V.kp d ∧ (∀ q ∈ Γ.tabs, q.1 ≠ d ∧ q.2 ≠ d) ∧ Sat env s.heap ((kSeen, pD Γ d x) :: pS u fa x)

theorem LpS.cls {V : Wd} {u : Value} {fa : Addr} {x : PSt} {s : Shared} (t : Sat env s.heap ((kSeen, pD Γ d x) :: pS u fa x)) : ∃ o, s.heap.get? d = some o ∧ o.cls = .type "set" := by
  obtain ⟨v, _, hv, hS⟩ := t kSeen _ lookup_cons_eq
  obtain ⟨o, e, c, _⟩ := set_cls hS
  exact ⟨o, e, c⟩

theorem mkStageS {V : Wd} {a g : Nat} {u : Value} {fa : Addr} {ok : Fld → Prop} {epi : PSt → Bool} {pre rest : List Stmt} (own : Own2 Γ env) (hdr : env.kindOf "header" = some .local) (ap : Apart Γ env V a g (fun _ => False)) (hc : env.cells = []) (h4 : ¬ V.lo "set")
    (turn : ∀ d x v f, PInv x → ok f → (fld f).p Γ.hb v → RunW Γ n env d ((kSeen, pD Γ d x) :: ("header", .eq v) :: pS u fa x) pre ((pStep x f).map fun x' => (kSeen, pD Γ d x') :: ("header", .eq v) :: pS u fa x'))
    (epil : ∀ d x, PInv x → ∃ τ, RunD Γ n env ((kSeen, pD Γ d x) :: pS u fa x) rest (if epi x = true then some τ else none)) : Stage Γ n env a g V (mkWs V env.locals a g) PSt pStep epi (LpS Γ env V u fa) ok pre rest := by
  have hLV : ∀ {s : Shared}, Act env s.heap → ¬ Keep Γ V s env.locals := fun ac k => by
    obtain ⟨o, e, c⟩ := ac.fr
    rcases k with k | k
    · exact ws_not ap.nL e c ap.lof k
    · exact ap.nLk k
  refine
    { own := own
      le := ⟨fun _ h => .inl h, fun _ h => .inl h, fun _ h => .inl h, fun _ h => .inl h⟩
      ga := .inr rfl
      gu := ap.ng
      wg := fun j h => h.symm
      ak := .inr rfl
      an := fun h => h.elim ap.na ap.haL
      ag := fun h => h.elim ap.log (fun e => absurd e (by decide))
      hdr := hdr
      up := fun x s s' ac hl gg => ?_
      down := fun x s s' ac hl gg => ?_
      turn := fun A s x v f Q E tp o i ac hl hv hok hq he px => ?_
      epil := fun A s x Q E tp o i ac hl hq he => ?_ }
  · obtain ⟨d, pi, d1, d2, d3, d4, t⟩ := hl
    have hL : ¬ Ws Γ V s env.locals := fun w => hLV ac (.inl w)
    obtain ⟨o, e, c⟩ := LpS.cls (V := V) t
    exact ⟨ac.grow gg hL, d, pi, d1, d2, d3, d4, sat_keepD t (pure_pS u fa x) gg hL (ws_not d2 e c h4) hc⟩
  · obtain ⟨d, pi, d1, d2, d3, d4, t⟩ := hl
    have hL : ¬ ¬ Keep Γ (mkWs V env.locals a g) s env.locals := fun w => w (.inl (.inl (.inr rfl)))
    obtain ⟨o, e, c⟩ := LpS.cls (V := V) t
    exact ⟨ac.grow gg hL, d, pi, d1, d2, d3, d4, sat_keepD t (pure_pS u fa x) gg hL (fun w => w (.inl (.inr ⟨d1, o, "set", e, c, .inr rfl⟩))) hc⟩
  · obtain ⟨d, pi, d1, d2, d3, d4, t⟩ := hl
    obtain ⟨od, ed, cd⟩ := LpS.cls (V := V) t
    have toW : ∀ {s' : Shared}, Grow (hereD env d) noG s s' → GrowX Γ (mkWs V env.locals a g) s s' := fun gg => gg.weaken (fun b hb => hb.elim (fun h => .inl (.inr h)) fun h => .inr (by rw [h]; exact ⟨d1, od, "set", ed, cd, .inr rfl⟩)) (fun _ q => q.elim)
    refine wpAny_assign_Name (store_at (P := .eq v) own.own.ok own.own.new hdr ac i own.own.tab t rfl fun s₁ i₁ g₁ a₁ t₁ => ?_)
    have t₁' : Sat env s₁.heap ((kSeen, pD Γ d x) :: ("header", .eq v) :: pS u fa x) := sat_sel t₁ fun q hq => by
      simp only [List.mem_cons, List.not_mem_nil, or_false] at hq
      rcases hq with rfl | rfl | rfl | rfl | rfl | rfl <;> rfl
    refine turn d x v f pi hok hv A s₁ Q E tp (o.grow g₁) i₁ own.own d1 d4 a₁ t₁' (fun σ' s₂ hs i₂ g₂ a₂ t₂ => ?_) fun e s₂ hs x₂ => ?_
    · cases hst : pStep x f with
      | none => rw [hst] at hs; cases hs
      | some x' =>
        rw [hst] at hs; cases hs
        have gg := (growL_d (d := d) g₁).trans g₂
        obtain ⟨w, lw, hw⟩ := t₂ ("header" : Str) (.eq v) rfl
        cases (show w = v from hw)
        refine hq x' s₂ hst i₂ (toW gg) (gg.weaken (fun b hb k => ?_) fun _ q => q.elim) a₂ ⟨d, pi.step hst, d1, d2, d3, d4, sat_sel t₂ fun q hq => ?_⟩ lw
        · rcases hb with hb | hb
          · exact hLV ac (hb ▸ k)
          · rw [hb] at k
            rcases k with k | k
            · exact ws_not d2 ed cd h4 k
            · exact d3 k
        · simp only [List.mem_cons, List.not_mem_nil, or_false] at hq
          rcases hq with rfl | rfl | rfl | rfl | rfl <;> rfl
    · cases hst : pStep x f with
      | some x' => rw [hst] at hs; cases hs
      | none => exact he e s₂ hst ((x₂.back (growL_d (d := d) g₁)).weaken (fun b hb => hb.elim (fun h => .inl (.inr h)) fun h => .inr (by rw [h]; exact ⟨d1, od, "set", ed, cd, .inr rfl⟩)) fun _ q => q.elim)
  · obtain ⟨d, pi, d1, d2, d3, d4, t⟩ := hl
    obtain ⟨τ, hr⟩ := epil d x pi
    refine hr A s Q E tp o i own.own ac t (fun σ' s₂ hs i₂ g₂ a₂ t₂ => ?_) fun e s₂ hs x₂ => ?_
    · cases he' : epi x with
      | false => rw [he'] at hs; cases hs
      | true => exact hq s₂ he' i₂ (g₂.weaken (fun b hb => .inl (.inr hb)) fun _ q => q.elim)
    · cases he' : epi x with
      | true => rw [he'] at hs; cases hs
      | false => exact he e s₂ he' (x₂.weaken (fun b hb => .inl (.inr hb)) fun _ q => q.elim)
end

-- Ia
open PySem PySem.W PyProof.Rows PySem.Calls PySem.SeqAt
set_option Elab.async false
set_option maxRecDepth 100000
set_option linter.unusedVariables false
set_option linter.unusedSimpArgs false
set_option maxHeartbeats 400000


noncomputable def pEpi (tr rs : Bool) (x : PSt) : Bool := pseudoOk tr rs (fun b => x.seen.contains b) (x.seen.length != 0) (x.meth == some bCONNECT)
noncomputable abbrev okP : Fld → Prop := fun f => okF f ∧ f.1 ≠ []
theorem sig_of {K : Frag} {tk : Tok} (h : nsIn K mainGlobals "SIGIL" = some (some (.int 58 tk))) : ∃ tk, nsIn K mainGlobals "SIGIL" = some (some (.int 58 tk)) := ⟨tk, h⟩
theorem sigil_at (Γ : Cx) : ∃ tk, nsIn Γ.Kf mainGlobals "SIGIL" = some (some (.int 58 tk)) := by
  refine' sig_of ?h
  case h => walk_at "m glob"

theorem pseudo_g {Γ : Cx} {fa : Addr} {cl tr rs pu : Bool} (hfa : FlagsAt Γ fa cl tr rs pu) {m n : Nat} {A : Around} {s s₀ : Shared} {u : Value} {lo : String → Prop} {ufin : Bool} {us : List (Value × Fld)} {Rr : Result → Shared → Prop}
    (o : Ok Γ m A s.heap) (i : Inv Γ s) (hn : 4 ≤ n) (h1 : ¬ lo "frame") (h2 : ¬ lo "generator") (h3 : ¬ lo "cell") (h4 : ¬ lo "set") (hab : AbleX Γ n s₀ u ufin lo (us.map (·.1)) s) (hdm : Dom s₀ s) (hus : ∀ q ∈ us, (fld q.2).p Γ.hb q.1 ∧ okP q.2)
    (h : ∀ a s', Inv Γ s' → Grow0 s s' → SrcX Γ (n + 1) s₀ a (runTr ufin pStep (pEpi tr rs) ⟨[], false, none⟩ us).2 (fun T => lo T ∨ T = "set") (runTr ufin pStep (pEpi tr rs) ⟨[], false, none⟩ us).1 s' → Rr (.ok (.ret (.ref a))) s') : codeAny Γ.M A (.call (.ref 234) ⟨[u, .ref fa], []⟩) Rr s := by
  refine' gen_made (names := ["headers", "hdr_validation_flags"]) (Ps := [.eq u, .eq (.ref fa)]) ?hK ?hb ?hcode ?hbind ?hnd ?hlen ?hloc ?hcell ?hcl ?hgl ?hbl ?hco ?hgen ?hk o i ⟨rfl, rfl, trivial⟩ ?h
  walk_at "m gen"
  case' h => intro L a s' md
  refine h a s' md.inv md.grow ?_
  dsimp only [List.zip, List.zipWith] at md
  obtain ⟨V, hlo, ha, hst, hG, hfr⟩ := hab
  subst hlo
  have ap := apart_of md rfl hst hG h1 h2 h3
  have dom' : ∀ b, V.st b ∨ V.kp b → ∃ o, s'.heap.get? b = some o := fun b hb => by
    obtain ⟨_, o, e⟩ := hst b hb
    obtain ⟨o', e', _⟩ := md.grow.dom b o e
    exact ⟨o', e'⟩
  obtain ⟨sk, hsk⟩ := sigil_at Γ
  have hLV : ∀ {s : Shared}, Act (callEnv _ L 234) s.heap → ¬ Keep Γ V s L := fun ac k => by
    obtain ⟨o, e, c⟩ := ac.fr
    rcases k with k | k
    · exact ws_not ap.nL e c ap.lof k
    · exact ap.nLk k
  refine' ⟨mkWs V L a s.gens.size, s.gens.size, rfl, .inr rfl, md.isGen, stage_able (V := V) (L₀ := fun s => Sat _ s.heap [("headers", .eq u), ("hdr_validation_flags", .eq (.ref fa))] ∧ ∀ b, V.st b ∨ V.kp b → ∃ o, s.heap.get? b = some o) (x₀ := ⟨[], false, none⟩) (ok := okP) (pro := [_, _, _, _]) (pre := [_]) (rest := [_]) (mkStageS (u := u) (fa := fa) md.own rfl ap rfl h4 ?turn ?epil) ?hbody ?hfb rfl rfl ?hs ?hpro ?hit ?hdown hus (ha.later md.grow.later) md.act ⟨md.sat, dom'⟩ md.gen md.isGen, ?f1, ?f2, ?f3⟩
  case hfb => exact rfl
  case hbody => exact rfl
  case hs => exact fun _ => rfl
  case epil =>
    intro d x pi
    refine ⟨_, RunD.one (RnD.callX (f := 239) (Ps := [.setN Γ (fun b => x.seen.contains b) (x.seen.length != 0), optB x.meth, .eq (.ref fa)]) ⟨rfl, rfl, rfl⟩ rfl (by walk_at "m glob") (by walk_at "m keep") (ArgsD.cons (EvD.imp (P := pD Γ d x) (by walk_at "m nm") setD_N) (ArgsD.cons (by walk_at "m nm") (ArgsD.cons (by walk_at "m nm") ArgsD.nil))) ((check_x hfa (fun hm => pi.me hm)).le hn) rfl)⟩
  case turn =>
    intro d x v f pi hok hv
    have hne : 0 < f.1.length := List.length_pos_iff.mpr hok.2
    have hl1 := hok.1.1
    have hl2 := hok.1.2
    refine RunW.ite (b := isPs f.1) (TsD.cmp (P₂ := .int 58) (EvD.item (P₁ := .bytes f.1) (by walk_at "m hb") EvD.cint (sub_bytes (c := f.1.getD 0 0) (by omega) (by decide) ?_)) (EvD.imp (EvD.global ⟨rfl, rfl, rfl⟩ rfl (keepGlob hsk)) fun _ w q => ⟨sk, q⟩) op_eq_int) (fun hp => ?_) (fun hp => ?_)
    · show f.1[0]? = some (f.1.getD 0 0)
      rw [List.getD_eq_getElem?_getD, List.getElem?_eq_getElem hne]; rfl
    · refine RunW.guard (b := x.seen.contains f.1) (TsD.cmp (P₁ := .bytes f.1) (P₂ := .setB Γ fun b => x.seen.contains b) (by walk_at "m hb") (EvD.imp (P := pD Γ d x) (by walk_at "m nm") setD_B) op_in_set) (fun hc => ?_) (fun hc => ?_) (fun hc => ?_)
      · exact RunD.cons (StD.assign (EvD.fstr (JnD.cons (EvD.cstr (m := 100) (by decide)) (JnD.cons (EvD.fmtR (b := f.1) (by walk_at "m hb") (by omega)) JnD.nil)) (by decide)) rfl) (RunD.thrown (RnD.raise ⟨rfl, rfl, rfl⟩ rfl (by walk_at "m nm")))
      · have pl := pi.len
        refine RunW.add (k := f.1) (by walk_at "m nm") (by walk_at "m hb") (pure_hS v u fa x) (by omega) hc rfl ?_
        rw [seen_cons]
        refine RunW.of (RunD.guard (b := x.reg) (TsD.val (by walk_at "m nm") Tru.bool) (fun hr => ?_) (fun hr => ?_) (fun hr => ?_))
        · exact RunD.cons (StD.assign (EvD.fstr (JnD.cons (EvD.cstr (m := 100) (by decide)) (JnD.cons (EvD.fmtR (b := f.1) (by walk_at "m hb") (by omega)) JnD.nil)) (by decide)) rfl) (RunD.thrown (RnD.raise ⟨rfl, rfl, rfl⟩ rfl (by walk_at "m nm")))
        · refine' RunD.guard (b := !(allowedL.any (· == f.1))) (TsD.cmp (P₁ := .bytes f.1) (P₂ := tupB allowedL) (by walk_at "m hb") (EvD.globT (a := 105) ⟨rfl, rfl, rfl⟩ rfl ?g1 ?g2 ?g3) op_notin_bs) (fun hq => ?a) (fun hq => ?b) (fun hq => ?c)
          case g1 => walk_at "m glob"
          case g2 => walk_at "m look"
          case g3 => exact fun h => ⟨⟨_, rfl⟩, ⟨_, rfl⟩, ⟨_, rfl⟩, ⟨_, rfl⟩, ⟨_, rfl⟩, ⟨_, rfl⟩, trivial⟩
          case a => exact RunD.cons (StD.assign (EvD.fstr (JnD.cons (EvD.cstr (m := 100) (by decide)) (JnD.cons (EvD.fmtR (b := f.1) (by walk_at "m hb") (by omega)) JnD.nil)) (by decide)) rfl) (RunD.thrown (RnD.raise ⟨rfl, rfl, rfl⟩ rfl (by walk_at "m nm")))
          case c =>
            have e : pStep x f = none := by unfold pStep; rw [if_pos hp, if_neg (by rw [hc]; exact Bool.false_ne_true), if_neg (by rw [hr]; exact Bool.false_ne_true), if_pos hq]
            rw [e]; rfl
          case b =>
            have e : pStep x f = some ⟨f.1 :: x.seen, x.reg, if f.1 == bMethod then some f.2 else x.meth⟩ := by unfold pStep; rw [if_pos hp, if_neg (by rw [hc]; exact Bool.false_ne_true), if_neg (by rw [hr]; exact Bool.false_ne_true), if_neg (by rw [hq]; exact Bool.false_ne_true)]
            rw [e]
            refine RunD.one (RnD.ite (b := f.1 == bMethod) (TsD.cmp (P₁ := .bytes f.1) (by walk_at "m hb") (by walk_at "m ev") op_eq_bytes) (fun hm => ?_) (fun hm => ?_))
            · rw [if_pos hm]
              refine RunD.cons (StD.assign (P := optB (some f.2)) (EvD.imp (P := .bytes f.2) (by walk_at "m hb") fun _ _ q => ⟨q, hok.1.2⟩) rfl) (RunD.sub RunD.nil fun _ t => sat_sel t fun q hq => ?_)
              simp only [List.mem_cons, List.not_mem_nil, or_false] at hq
              rcases hq with rfl | rfl | rfl | rfl | rfl | rfl <;> rfl
            · rw [if_neg (by rw [hm]; exact Bool.false_ne_true)]
              refine RunD.sub RunD.nil fun _ t => sat_sel t fun q hq => ?_
              simp only [List.mem_cons, List.not_mem_nil, or_false] at hq
              rcases hq with rfl | rfl | rfl | rfl | rfl | rfl <;> rfl
        · have e : pStep x f = none := by unfold pStep; rw [if_pos hp, if_neg (by rw [hc]; exact Bool.false_ne_true), if_pos hr]
          rw [e]; rfl
      · have e : pStep x f = none := by unfold pStep; rw [if_pos hp, if_pos hc]
        rw [e]; rfl
    · have e : pStep x f = some ⟨x.seen, true, x.meth⟩ := by unfold pStep; rw [if_neg (by rw [hp]; exact Bool.false_ne_true)]
      rw [e]
      refine RunW.of (RunD.cons (StD.assign (P := .bool true) (by walk_at "m ev") rfl) (RunD.sub RunD.nil fun _ t => sat_sel t fun q hq => ?_))
      simp only [List.mem_cons, List.not_mem_nil, or_false] at hq
      rcases hq with rfl | rfl | rfl | rfl | rfl | rfl <;> rfl
  case hit =>
    intro A s Q E o i ac hl hq
    obtain ⟨d, _, _, _, _, _, t⟩ := hl
    refine EvD.name (P := .eq u) ⟨rfl, rfl, rfl⟩ rfl rfl A s _ E o i t fun v s₁ i₁ g₁ hv => ?_
    cases (show v = u from hv)
    exact hq s₁ i₁ g₁
  case hdown =>
    intro sa sb ac hl gr
    have hL : ¬ ¬ Keep Γ (mkWs V L a s.gens.size) sa L := fun w => w (.inl (.inl (.inr rfl)))
    refine ⟨ac.grow gr hL, sat_keep' hl.1 (pure_args fun _ _ _ q => q) gr hL fun c o e c' ⟨y, hy⟩ => (by cases (show (none : Option Addr) = some c from hy)), fun b hb => ?_⟩
    obtain ⟨o, e⟩ := hl.2 b hb
    obtain ⟨o', e', _⟩ := gr.dom b o e
    exact ⟨o', e'⟩
  case hpro =>
    intro A s Q E tp o i ac hl hq
    obtain ⟨t, hdm'⟩ := hl
    refine wpAny_execs_cons (StD.doc (n := n) rfl A s _ E o i md.own.own ac t fun s₁ i₁ g₁ a₁ t₁ => ?_)
    have o₁ := o.grow g₁
    refine wpAny_execs_cons (wpAny_Assign_Name (set0_at (n := n) ⟨rfl, rfl, rfl⟩ rfl o₁ i₁ t₁ fun s₂ d i₂ g₂ dn dS => ?_) rfl)
    have o₂ := o₁.grow g₂
    have dN : s.heap.get? d = none := News.back g₁ dn
    have d1 : Γ.hb.get? d = none := by
      cases e : Γ.hb.get? d with
      | none => rfl
      | some ob => have := i.base d ob e; rw [dN] at this; cases this
    have d2 : ∀ b, V.st b ∨ V.kp b → b ≠ d := fun b hb e => by
      obtain ⟨ob, e'⟩ := hdm' b hb
      rw [e, dN] at e'; cases e'
    have d4 : ∀ q ∈ Γ.tabs, q.1 ≠ d ∧ q.2 ≠ d := fun q mq => by
      obtain ⟨ps, c, ⟨ob, vs, e1, _⟩, e2⟩ := i.tabs q mq
      refine ⟨fun e => ?_, fun e => ?_⟩
      · rw [e, dN] at e1; cases e1
      · rw [e, dN] at e2; cases e2
    refine store_at (P := pD Γ d ⟨[], false, none⟩) ⟨rfl, rfl, rfl⟩ md.own.own.new rfl (a₁.grow0 g₂) i₂ md.own.own.tab (t₁.grow0 g₂) ⟨rfl, dS⟩ fun s₃ i₃ g₃ a₃ t₃ => ?_
    have o₃ := o₂.grow g₃
    refine wpAny_execs_cons (StD.assign (n := n) (P := .bool false) EvD.cbool rfl rfl A s₃ _ E o₃ i₃ md.own.own a₃ t₃ fun s₄ i₄ g₄ a₄ t₄ => ?_)
    have o₄ := o₃.grow g₄
    refine wpAny_execs_cons (StD.assign (n := n) (P := .none) EvD.cnone rfl rfl A s₄ _ E o₄ i₄ md.own.own a₄ t₄ fun s₅ i₅ g₅ a₅ t₅ => wpAny_execs_nil ?_)
    have gg : GrowL _ s s₅ := (g₁.trans (g₂.of0.trans g₃)).trans (g₄.trans g₅)
    refine hq s₅ i₅ (gg.weaken (fun b hb => .inl (.inr hb)) fun _ q => q.elim) (gg.weaken (fun b hb k => ?_) fun _ q => q.elim) a₅ ⟨d, ⟨List.nodup_nil, fun b hb => absurd hb List.not_mem_nil, fun hb => absurd hb (by decide)⟩, d1, fun k => d2 d (.inl k) rfl, fun k => d2 d (.inr k) rfl, d4, sat_sel t₅ fun q hq => ?_⟩
    · exact hLV ac ((show b = L from hb) ▸ k)
    · simp only [List.mem_cons, List.not_mem_nil, or_false] at hq
      rcases hq with rfl | rfl | rfl | rfl | rfl <;> rfl
  case f1 =>
    intro b hb
    have old : ∀ {b : Addr}, (s₀.heap.get? b = none ∧ ∃ o, s.heap.get? b = some o) → s₀.heap.get? b = none ∧ ∃ o, s'.heap.get? b = some o := fun ⟨p, o, q⟩ => ⟨p, let ⟨o', q', _⟩ := md.grow.dom _ _ q; ⟨o', q'⟩⟩
    rcases hb with (hb | rfl) | (hb | rfl)
    · exact old (hst b (.inl hb))
    · obtain ⟨o, e, _⟩ := md.act.fr
      exact ⟨hdm _ md.newL, o, e⟩
    · exact old (hst b (.inr hb))
    · obtain ⟨o, nm, qn, e, _⟩ := md.isGen
      exact ⟨hdm _ md.newA, o, e⟩
  case f2 =>
    intro j hj
    rcases hj with hj | rfl
    · exact Nat.lt_of_lt_of_le (hG j hj) md.grow.gsz
    · exact (Array.getElem?_eq_some_iff.mp md.gen).1
  case f3 =>
    intro b hb
    rcases hb with hb | rfl
    · obtain ⟨o, e, c⟩ := hfr b hb
      obtain ⟨o', e', c', _⟩ := md.grow.dom b o e
      exact ⟨o', e', c'.trans c⟩
    · exact md.act.fr

-- Ib
open PySem PySem.W PyProof.Rows PySem.Calls PySem.SeqAt
set_option Elab.async false
set_option maxRecDepth 100000
set_option linter.unusedVariables false
set_option linter.unusedSimpArgs false
set_option maxHeartbeats 400000

/- ---------- a list of the base, iterated ---------- -/
theorem list_next_end {Γ : Cx} {A : Around} {E : Value → Shared → Prop} {s : Shared} {I l : Addr} {k : Nat} {items : Array Value} {Q : Option Value → Shared → Prop} (hh : A.handled = none) (hit : s.heap.IsListIter I l k) (hl : s.heap.IsList l items) (hx : items[k]? = none)
    (hQ : ∀ h', (∀ b o, b ≠ I → s.heap.get? b = some o → h'.get? b = some o) → (∃ o', h'.get? I = some o' ∧ o'.cls = .type "list_iterator") → Q none { s with heap := h' }) : wpAny Γ.M A (pyNext (.ref I)) Q E s := by
  obtain ⟨⟨cI, dI, dt, sl⟩, hI, hc, hd⟩ := id hit
  obtain ⟨ol, hol, _, nl, hdl⟩ := hl
  simp only at hc hd
  subst hc hd
  unfold pyNext
  refine wpAny_bind (wpAny_attempt (wpAny_callSpecial?_slot (name := Str.ofString "__next__") hit.typeIs slot_listiter_next (wpAny_call_entry slot_listiter_next hit.typeIs entry_listiter_next ?_ (args_listiter_next _))))
  show wpAny _ _ (field (.ref I) 0 >>= _) _ _ s
  refine wpAny_bind (wpAny_field hI rfl (x := .ref l) rfl ?_)
  show wpAny _ _ (if (Value.ref l == Value.none) = true then _ else _) _ _ s
  rw [if_neg (show ¬ ((Value.ref l == Value.none) = true) from Bool.false_ne_true)]
  show wpAny _ _ (field (.ref I) 1 >>= _) _ _ s
  refine wpAny_bind (wpAny_field hI rfl (x := .int k 0) rfl ?_)
  show wpAny _ _ (seqItems? (.ref l) >>= _) _ _ s
  refine wpAny_bind (wpAny_seqItems hol hdl ?_)
  simp only [Int.toNat_natCast, hx]
  refine wpAny_bind (wpAny_rule (wpAny_bind (wpAny_setField hI rfl (by simp) ?_)))
  generalize hH : s.heap.update I (Obj.mapFields (·.setIfInBounds 0 .none)) = H
  have h1 : ∀ b o, b ≠ I → s.heap.get? b = some o → H.get? b = some o := fun b o hb e => by rw [← hH, Heap.get?_update_other _ _ (Ne.symm hb)]; exact e
  have h2 : ∃ o', H.get? I = some o' ∧ o'.cls = .type "list_iterator" := ⟨_, by rw [← hH]; exact Heap.get?_update_self _ hI rfl, rfl⟩
  show wpAny _ _ (newExc (.type "StopIteration") [] >>= _) _ _ _
  refine wpAny_bind ?_
  simp only [newExc, newTuple]
  refine wpAny_bind (wpAny_newObj_type ?_ (by size_fits))
  refine wpAny_bind (m := firstArgMember _ _) (wpAny_of_eq (a := Value.none) (by first | rfl | (simp only [firstArgMember]; rfl)) ?_)
  refine wpAny_newObj_type ?_ (by size_fits)
  simp only [raiseNew]
  refine wpAny_bind (wpAny_handled ?_)
  rw [show A.in1.handled = none from hh]
  refine wpAny_bind (wpAny_pure (wpAny_throw ?_))
  refine wpAny_bind (wpAny_isInstance (T := "StopIteration") (b := true) ⟨_, Heap.get?_push_size _ rfl, rfl⟩ isSubtype_stop ?_)
  refine wpAny_pure (hQ _ (fun b o hb e => Heap.get?_push_of_some _ (Heap.get?_push_of_some _ (h1 b o hb e))) ?_)
  obtain ⟨o', e', c'⟩ := h2
  exact ⟨o', Heap.get?_push_of_some _ (Heap.get?_push_of_some _ e'), c'⟩

noncomputable abbrev loI : String → Prop := fun T => T = "list_iterator"
noncomputable abbrev Wl : Wd := ⟨fun _ => False, loI, fun _ => False, fun _ => False⟩
theorem ws_iter {Γ : Cx} {s : Shared} {I l : Addr} {k : Nat} (hb : Γ.hb.get? I = none) (h : s.heap.IsListIter I l k) : Ws Γ Wl s I := let ⟨o, e, c, _⟩ := h; .inr ⟨hb, o, _, e, c, rfl⟩
theorem iter_grow {Γ : Cx} {s : Shared} {h' : Heap} {I l : Addr} {k : Nat} (hb : Γ.hb.get? I = none) (h : s.heap.IsListIter I l k) (h1 : ∀ b o, b ≠ I → s.heap.get? b = some o → h'.get? b = some o) (h2 : ∃ o', h'.get? I = some o' ∧ o'.cls = .type "list_iterator") : GrowX Γ Wl s { s with heap := h' } := by
  refine ⟨fun b o e w => ⟨o, h1 b o (fun q => w (by rw [q]; exact ws_iter hb h)) e, .inl rfl⟩, fun b o e => ?_, fun _ _ e _ => e, Nat.le_refl _⟩
  by_cases q : b = I
  · subst q
    obtain ⟨o₁, e₁, c₁, d₁⟩ := h
    obtain ⟨o₂, e₂, c₂⟩ := h2
    rw [e₁] at e; cases e
    exact ⟨o₂, e₂, c₂.trans c₁.symm, fun ⟨es, n, z⟩ => by rw [d₁] at z; cases z⟩
  · exact ⟨o, h1 b o q e, rfl, fun z => z⟩
theorem feeds_list {Γ : Cx} {n : Nat} {A : Around} (hh : A.handled = none) {I b : Addr} {vs : List Value} (hl : Γ.hb.IsList b vs.toArray) (hI : Γ.hb.get? I = none) (ht : ∀ q ∈ Γ.tabs, q.1 ≠ I ∧ q.2 ≠ I) :
    ∀ (rest pr : List Value) (s : Shared), vs = pr ++ rest → s.heap.IsListIter I b pr.length → Feeds Γ n A I true Wl rest s := by
  have hne : b ≠ I := fun e => by obtain ⟨o, e', _⟩ := hl; rw [e, hI] at e'; cases e'
  have base : ∀ {s : Shared}, Inv Γ s → s.heap.IsList b vs.toArray := fun i => by obtain ⟨o, e, r⟩ := hl; exact ⟨o, i.base _ _ e, r⟩
  have keep : ∀ {s s' : Shared} {k : Nat}, s.heap.IsListIter I b k → LaterX Γ Wl s s' → s'.heap.IsListIter I b k := fun h lt => by
    obtain ⟨o, e, c, d⟩ := id h
    exact ⟨o, lt.get e (fun q => q (.inl (ws_iter hI h))) (by rw [c]; decide), c, d⟩
  have inv : ∀ {s : Shared} {h' : Heap}, Inv Γ s → (∀ b o, b ≠ I → s.heap.get? b = some o → h'.get? b = some o) → Inv Γ { s with heap := h' } := fun {s h'} i h1 => i.but (tk := s.toks) (W := fun b => b = I) (fun b q => by rw [q]; exact hI) (fun q mq => ht q mq) h1
  intro rest
  induction rest with
  | nil =>
    intro pr s hv hit s' Q E lt o i hq he
    have hit' := keep hit lt
    refine list_next_end hh hit' (base i) (by rw [hv]; simp) fun h' h1 h2 => ?_
    exact hq _ rfl (inv i h1) (iter_grow hI hit' h1 h2)
  | cons v rest ih =>
    intro pr s hv hit s' Q E lt o i hq
    have hit' := keep hit lt
    refine wpAny_pyNext_list_item hit' (base i) (x := v) (by rw [hv]; simp) fun h' hi' sb => ?_
    have h1 : ∀ b o, b ≠ I → s'.heap.get? b = some o → h'.get? b = some o := fun b o hb e => (sb.2 b hb).trans e
    refine hq { s' with heap := h' } (inv i h1) (iter_grow hI hit' h1 (let ⟨o', e', c', _⟩ := hi'; ⟨o', e', c'⟩)) (ih (pr ++ [v]) _ (by rw [hv]; simp) ?_)
    rw [List.length_append]; exact hi'
theorem able_list {Γ : Cx} {n : Nat} {s₀ s : Shared} {b : Addr} {vs : List Value} (hl : Γ.hb.IsList b vs.toArray) : AbleX Γ n s₀ (.ref b) true loI vs s := by
  refine ⟨Wl, rfl, fun A s' Q E lt o i hq => ?_, fun b hb => hb.elim False.elim False.elim, fun j hj => hj.elim, fun b hb => hb.elim⟩
  have hl' : s'.heap.IsList b vs.toArray := by obtain ⟨o, e, r⟩ := hl; exact ⟨o, i.base _ _ e, r⟩
  refine wpAny_pyIter_list hl' ?_
  have k := stays_push s'.heap { cls := .type "list_iterator", data := .fields #[.ref b, .int 0 0] }
  refine hq s'.heap.objs.size _ (i.stays (s' := { s' with heap := s'.heap.push { cls := .type "list_iterator", data := .fields #[.ref b, .int 0 0] } }) k rfl rfl) (.of_stays (s' := { s' with heap := s'.heap.push { cls := .type "list_iterator", data := .fields #[.ref b, .int 0 0] } }) k rfl) ?_
  exact feeds_list o.handled hl (fresh_of i (Nat.le_refl _)) (fun q mq => ⟨Nat.ne_of_lt (tab_lt i q mq).1, Nat.ne_of_lt (tab_lt i q mq).2⟩) vs [] _ rfl ⟨_, Heap.get?_push_size _ rfl, rfl, rfl⟩

/- ---------- list(generator) ---------- -/
noncomputable abbrev plusS (W : Wd) (S : Addr) : Wd := ⟨fun b => W.st b ∨ b = S, W.lo, W.kp, W.G⟩
theorem le_plusS (W : Wd) (S : Addr) : W.Le (plusS W S) := ⟨fun _ h => .inl h, fun _ h => h, fun _ h => h, fun _ h => h⟩
theorem upd_grow {Γ : Cx} {W : Wd} {S : Addr} {s : Shared} {o o' : Obj} {f : Obj → Obj} (e : s.heap.get? S = some o) (ho : f o = o') (hc : o'.cls = o.cls) (hd : ¬ IsDct o) (hf : o'.isFreed = false) : GrowX Γ (plusS W S) s { s with heap := s.heap.update S f } := by
  refine ⟨fun b ob eb w => ⟨ob, (Heap.get?_update_other _ _ (fun q : S = b => w (.inl (.inr q.symm)))).trans eb, .inl rfl⟩, fun b ob eb => ?_, fun _ _ e _ => e, Nat.le_refl _⟩
  by_cases q : b = S
  · subst q
    rw [e] at eb; cases eb
    exact ⟨o', by rw [← ho]; exact Heap.get?_update_self _ e (by rw [ho]; exact hf), hc, fun z => (hd z).elim⟩
  · exact ⟨ob, (Heap.get?_update_other _ _ (Ne.symm q)).trans eb, rfl, fun z => z⟩
theorem upd_inv {Γ : Cx} {S : Addr} {s : Shared} {f : Obj → Obj} (i : Inv Γ s) (hS : Γ.hb.get? S = none) (ht : ∀ q ∈ Γ.tabs, q.1 ≠ S ∧ q.2 ≠ S) : Inv Γ { s with heap := s.heap.update S f } :=
  i.but (tk := s.toks) (W := fun b => b = S) (fun b q => by rw [q]; exact hS) (fun q mq => ht q mq) fun b o hb e => (Heap.get?_update_other _ _ (Ne.symm hb)).trans e
theorem upd_later {Γ : Cx} {W : Wd} {S : Addr} {s : Shared} {o o' : Obj} {f : Obj → Obj} (e : s.heap.get? S = some o) (ho : f o = o') (hc : o'.cls = o.cls) (hd : ¬ IsDct o) (hf : o'.isFreed = false) (hk : ¬ Keep Γ W s S) : LaterX Γ W s { s with heap := s.heap.update S f } := by
  have g := upd_grow (Γ := Γ) (W := ⟨fun _ => False, fun _ => False, fun _ => False, fun _ => False⟩) e ho hc hd hf
  refine g.weaken (fun b w k => ?_) fun _ q => q.elim
  rcases w with (w | w) | ⟨_, _, _, _, _, w⟩
  · exact w
  · exact hk (w ▸ k)
  · exact w
noncomputable abbrev lobj (acc : Array Value) (c : Nat) : Obj := { cls := .type "list", dict := none, data := .seq acc c, slots := #[] }
theorem not_dct_list {acc : Array Value} {c : Nat} : ¬ IsDct (lobj acc c) := fun ⟨es, n, z⟩ => by cases z
theorem keep_list {Γ : Cx} {W : Wd} {S : Addr} {s : Shared} {acc : Array Value} {c : Nat} (e : s.heap.get? S = some (lobj acc c)) (h1 : ¬ W.st S) (h2 : ¬ W.kp S) (h3 : ¬ W.lo "list") : ¬ Keep Γ W s S := fun k => k.elim (ws_not h1 e rfl h3) h2

theorem loop_feeds {Γ : Cx} {n : Nat} {A : Around} {I S : Addr} {fin : Bool} {W : Wd} {res : Value} {R : Result → Shared → Prop} (h1 : ¬ W.st S) (h2 : ¬ W.kp S) (h3 : ¬ W.lo "list") (hS : Γ.hb.get? S = none) (ht : ∀ q ∈ Γ.tabs, q.1 ≠ S ∧ q.2 ≠ S) {s₀ : Shared} (hR : ∀ e s', fin = false → ThrownX Γ (plusS W S) s₀ e s' → R (.error (.ref e)) s') :
    ∀ (vs : List Value) (s : Shared) (acc : Array Value) (c : Nat), Feeds Γ n A.in1 I fin W vs s → Ok Γ n A.in1 s.heap → Inv Γ s → s.heap.get? S = some (lobj acc c) → acc.size + vs.length ≤ 100000 → GrowX Γ (plusS W S) s₀ s →
      (∀ s' c', fin = true → Inv Γ s' → GrowX Γ (plusS W S) s₀ s' → s'.heap.get? S = some (lobj (acc ++ vs.toArray) c') → R (.ok (.ret res)) s') →
      codeAny Γ.M A (.builtin "list.extend.loop" ⟨[.ref S, .ref I, res], []⟩) R s := by
  intro vs
  induction vs with
  | nil =>
    intro s acc c Fd o i eS hz g k
    refine codeAny_builtin F.entry_extend_loop ?_
    rw [Around.under_plainId F.plain_extend_loop _]
    show wpAny _ A.in1 (pyNext (.ref I) >>= _) _ _ s
    refine wpAny_bind (Fd s _ _ (.refl _ _ _) o i (fun s' hf i' g' => ?_) fun e s' hf x => hR e s' hf ((x.mono (le_plusS W S)).back g))
    refine wpAny_pure (k s' c hf i' (g.trans (g'.mono (le_plusS W S))) ?_)
    rw [g'.get eS (ws_not h1 eS rfl h3) (by intro h; exact absurd (Value.type.inj h) (by decide))]; simp
  | cons v vs ih =>
    intro s acc c Fd o i eS hz g k
    refine codeAny_builtin F.entry_extend_loop ?_
    rw [Around.under_plainId F.plain_extend_loop _]
    show wpAny _ A.in1 (pyNext (.ref I) >>= _) _ _ s
    refine wpAny_bind (Fd s _ _ (.refl _ _ _) o i fun s' i' g' Fd' => ?_)
    have eS' : s'.heap.get? S = some (lobj acc c) := g'.get eS (ws_not h1 eS rfl h3) (by intro h; exact absurd (Value.type.inj h) (by decide))
    show wpAny _ A.in1 (updateSeq S (·.push v) >>= _) _ _ _
    simp only [List.length_cons] at hz
    refine wpAny_bind (wpAny_updateSeq eS' rfl ?_ (by rw [sizeLine_eq]; omega) (by rw [sizeLine_eq, Array.size_push]; omega))
    have gU : GrowX Γ (plusS W S) s' { s' with heap := s'.heap.update S (Obj.mapSeq (·.push v)) } := upd_grow eS' rfl rfl not_dct_list rfl
    have gg := (g'.mono (le_plusS W S)).trans gU
    refine wpAny_pure ⟨plainId_quiet F.plain_extend_loop _, ih _ (acc.push v) _ (Fd'.later (upd_later eS' rfl rfl not_dct_list rfl (keep_list eS' h1 h2 h3))) (o.grow gg) (upd_inv i' hS ht) (Heap.get?_update_self _ eS' rfl) (by rw [Array.size_push]; omega) (g.trans gg) fun s'' c' hf i'' g'' e'' => ?_⟩
    refine k s'' c' hf i'' g'' ?_
    rw [e'']; simp

theorem list_call {Γ : Cx} {n : Nat} {A : Around} {s s₀ : Shared} {a : Addr} {fin : Bool} {lo : String → Prop} {vs : List Value} {Q E : Value → Shared → Prop} (src : SrcX Γ n s₀ a fin lo vs s) (h3 : ¬ lo "list") (hz : vs.length ≤ 100000) (o : Ok Γ (n + 2) A s.heap) (i : Inv Γ s)
    (hq : ∀ S W s', fin = true → W.lo = lo → (∀ b, W.st b → s₀.heap.get? b = none ∧ ∃ o, s.heap.get? b = some o ∧ o.cls = .type "frame") → s.heap.get? S = none → Inv Γ s' → GrowX Γ (plusS W S) s s' → s'.heap.IsList S vs.toArray → Q (.ref S) s')
    (he : ∀ S W e s', fin = false → W.lo = lo → (∀ b, W.st b → s₀.heap.get? b = none ∧ ∃ o, s.heap.get? b = some o ∧ o.cls = .type "frame") → s.heap.get? S = none → ThrownX Γ (plusS W S) s e s' → E (.ref e) s') : wpAny Γ.M A (PySem.call (.type "list") [.ref a]) Q E s := by
  obtain ⟨W, g, hlo, hk, hI, hF, hst, hG, hfr⟩ := src
  subst hlo
  have o1 : Ok Γ n A.in1.in1 s.heap := (show Ok Γ (n + 1) A.in1 s.heap from Ok.in1 o).in1
  generalize hSz : s.heap.objs.size = S
  have hSn : s.heap.get? S = none := by rw [← hSz]; exact get_size _
  have k0 := stays_push s.heap { cls := .type "list", data := .seq #[] }
  have g0 : Grow0 s { s with heap := s.heap.push { cls := .type "list", data := .seq #[] } } := .of_stays (s' := { s with heap := s.heap.push { cls := .type "list", data := .seq #[] } }) k0 rfl
  have i0 : Inv Γ { s with heap := s.heap.push { cls := .type "list", data := .seq #[] } } := i.stays (s' := { s with heap := s.heap.push { cls := .type "list", data := .seq #[] } }) k0 rfl rfl
  have eS0 : (s.heap.push { cls := .type "list", data := .seq #[] }).get? S = some (lobj #[] 0) := by rw [← hSz]; exact Heap.get?_push_size _ rfl
  have ex : ∀ b, W.st b ∨ W.kp b → b ≠ S := fun b hb e => by
    obtain ⟨_, ob, e'⟩ := hst b hb
    rw [e, hSn] at e'; cases e'
  have w1 : ¬ W.st S := fun h => ex S (.inl h) rfl
  have w2 : ¬ W.kp S := fun h => ex S (.inr h) rfl
  have hSb : Γ.hb.get? S = none := by rw [← hSz]; exact fresh_of i (Nat.le_refl _)
  have ht : ∀ q ∈ Γ.tabs, q.1 ≠ S ∧ q.2 ≠ S := fun q mq => by rw [← hSz]; exact ⟨Nat.ne_of_lt (tab_lt i q mq).1, Nat.ne_of_lt (tab_lt i q mq).2⟩
  have aS : a ≠ S := ex a (.inr hk)
  refine callType_codes (Q₁ := fun obj s₁ => obj = .ref S ∧ s₁ = { s with heap := s.heap.push { cls := .type "list", data := .seq #[] } }) F.called_list (F.typeCall_list_1 _) F.entry_list_init (code_list_new _ ⟨by rw [hSz], rfl⟩) fun obj s₁ h₁ => ?_
  obtain ⟨rfl, rfl⟩ := h₁
  refine ⟨⟨_, eS0, rfl⟩, F.args_list_init_2 _ _, ?_⟩
  show wpAny _ A.in1.in1 (do let old ← Builtin.List.listItems (.ref S); Builtin.List.listUpdate (.ref S) (fun _ => #[]); letGo old.toList.reverse; Builtin.List.listExtendWith (.ref S) (.ref a) .none) _ _ _
  refine wpAny_bind ?_
  unfold Builtin.List.listItems
  refine wpAny_bind (wpAny_seqItems eS0 rfl (wpAny_pure ?_))
  show wpAny _ A.in1.in1 (updateSeq S (fun _ => #[]) >>= fun _ => letGo (#[] : Array Value).toList.reverse >>= fun _ => Builtin.List.listExtendWith (.ref S) (.ref a) .none) _ _ _
  refine wpAny_bind (wpAny_updateSeq eS0 rfl ?_)
  have upd : ∀ {s : Shared} {acc : Array Value} {c : Nat} (f : Array Value → Array Value), Inv Γ s → s.heap.get? S = some (lobj acc c) → Inv Γ { s with heap := s.heap.update S (Obj.mapSeq f) } ∧ GrowX Γ (plusS W S) s { s with heap := s.heap.update S (Obj.mapSeq f) } ∧ LaterX Γ W s { s with heap := s.heap.update S (Obj.mapSeq f) } ∧ ∃ c', (s.heap.update S (Obj.mapSeq f)).get? S = some (lobj (f acc) c') :=
    fun {s acc c} f i e => ⟨upd_inv i hSb ht, upd_grow e rfl rfl not_dct_list rfl, upd_later e rfl rfl not_dct_list rfl (keep_list e w1 w2 h3), _, Heap.get?_update_self _ e rfl⟩
  obtain ⟨i1, g1, l1, c1, e1⟩ := upd (fun _ => #[]) i0 eS0
  refine wpAny_bind (wpAny_letGo ?_)
  have hI1 : ((s.heap.push { cls := .type "list", data := .seq #[] }).update S (Obj.mapSeq fun _ => #[])).IsGen a g := by
    obtain ⟨oa, nm, qn, ea, r⟩ := hI
    exact ⟨oa, nm, qn, (Heap.get?_update_other _ _ (Ne.symm aS)).trans (k0 _ _ ea), r⟩
  generalize hs1 : ({ s with heap := (s.heap.push { cls := .type "list", data := .seq #[] }).update S (Obj.mapSeq fun _ => #[]) } : Shared) = s1 at i1 g1 l1
  have e1' : s1.heap.get? S = some (lobj #[] c1) := by rw [← hs1]; exact e1
  have hI1' : s1.heap.IsGen a g := by rw [← hs1]; exact hI1
  unfold Builtin.List.listExtendWith
  refine wpAny_bind (wpAny_typeOf hI1'.typeIs ?_)
  have c1' : Builtin.List.listSameRef (.ref S) (.ref a) = false := by simp [Builtin.List.listSameRef, Ne.symm aS]
  have c2 : (Value.type "generator" == Value.type "list") = false := by decide
  have c3 : (Value.type "generator" == Value.type "tuple") = false := by decide
  simp only [c1', c2, c3, Bool.or_false, Bool.false_eq_true, if_false]
  refine wpAny_bind (wpAny_pyIter_gen hI1' ?_)
  refine wpAny_bind (wpAny_holding ?_)
  unfold Builtin.List.listLengthHint
  refine wpAny_bind (wpAny_specialOf hI1'.typeIs F.gen_no_len ?_)
  show wpAny _ _ (specialOf (Value.ref a) (Str.ofString "__length_hint__") >>= _) _ _ _
  refine wpAny_bind (wpAny_specialOf hI1'.typeIs F.gen_no_hint ?_)
  refine wpAny_pure ?_
  show wpAny _ _ (rule "list.extend.makes-room" >>= fun _ => Builtin.List.listTouch (.ref S) >>= fun _ => again (.builtin "list.extend.loop" ⟨[.ref S, .ref a, .none], []⟩)) _ _ _
  refine wpAny_bind (wpAny_rule ?_)
  refine wpAny_bind ?_
  show wpAny _ _ (updateSeq S (·.push .none) >>= fun _ => updateSeq S (·.pop)) _ _ _
  obtain ⟨i2, g2, l2, c2', e2⟩ := upd (·.push .none) i1 e1'
  refine wpAny_bind (wpAny_updateSeq e1' rfl ?_)
  obtain ⟨i3, g3, l3, c3', e3⟩ := upd (s := { s1 with heap := s1.heap.update S (Obj.mapSeq (·.push .none)) }) (·.pop) i2 e2
  refine wpAny_updateSeq (hz := by seq_fits) e2 rfl ?_
  have gA : GrowX Γ (plusS W S) s _ := (Grow0.x g0).trans (g1.trans (g2.trans g3))
  have lA : LaterX Γ W s _ := (Grow0.later g0).trans (l1.trans (l2.trans l3))
  refine wpAny_pure ⟨plainId_quiet F.plain_extend_loop _, ?_⟩
  have ok2 : Ok Γ n A.in1.in1 _ := o1.grow gA
  refine loop_feeds (Γ := Γ) (n := n) (W := W) (fin := fin) w1 w2 h3 hSb ht (s₀ := s) (fun e s' hf x => he S W e s' hf rfl (fun b hb => ⟨(hst b (.inl hb)).1, hfr b hb⟩) hSn x) vs _ _ c3' ((hF _ o1.handled).later lA) ok2 i3 e3 (by simpa using hz) gA fun s' c' hf i' g' e' => ?_
  refine ⟨rfl, hq S W s' hf rfl (fun b hb => ⟨(hst b (.inl hb)).1, hfr b hb⟩) hSn i' g' ?_⟩
  have e'' : s'.heap.get? S = some (lobj vs.toArray c') := by rw [e']; simp
  exact ⟨_, e'', rfl, c', rfl⟩

-- Ic
open PySem PySem.W PyProof.Rows PySem.Calls PySem.SeqAt
set_option Elab.async false
set_option maxRecDepth 100000
set_option linter.unusedVariables false
set_option linter.unusedSimpArgs false
set_option maxHeartbeats 400000


/- ---------- traces and lists of fields ---------- -/
noncomputable def passes {χ : Type} (step : χ → Fld → Option χ) (epi : χ → Bool) : χ → List Fld → Bool
  | x, [] => epi x
  | x, f :: fs => match step x f with
    | none => false
    | some x' => passes step epi x' fs
noncomputable def runF {χ : Type} (step : χ → Fld → Option χ) : χ → List (Value × Fld) → List (Value × Fld)
  | _, [] => []
  | x, q :: us => match step x q.2 with
    | none => []
    | some x' => q :: runF step x' us
section
variable {χ : Type} {step : χ → Fld → Option χ} {epi : χ → Bool}
theorem runTr_fst {fin : Bool} : ∀ (us : List (Value × Fld)) (x : χ), (runTr fin step epi x us).1 = (runF step x us).map (·.1)
  | [], _ => rfl
  | (v, f) :: us, x => by
    unfold runTr runF
    cases h : step x f with
    | none => rfl
    | some x' => simp only [List.map_cons]; rw [runTr_fst us x']
theorem runTr_snd {fin : Bool} : ∀ (us : List (Value × Fld)) (x : χ), (runTr fin step epi x us).2 = (fin && passes step epi x (us.map (·.2)))
  | [], _ => rfl
  | (v, f) :: us, x => by
    rw [List.map_cons]
    unfold runTr passes
    cases h : step x f with
    | none => simp
    | some x' => exact runTr_snd us x'
theorem runF_all : ∀ (us : List (Value × Fld)) (x : χ), passes step epi x (us.map (·.2)) = true → runF step x us = us
  | [], _, _ => rfl
  | (v, f) :: us, x, h => by
    rw [List.map_cons] at h
    unfold passes at h
    unfold runF
    dsimp only at h ⊢
    cases hs : step x f with
    | none => rw [hs] at h; cases h
    | some x' => rw [hs] at h; dsimp only at h ⊢; rw [runF_all us x' h]
theorem runF_mem : ∀ (us : List (Value × Fld)) (x : χ) (q : Value × Fld), q ∈ runF step x us → q ∈ us ∧ ∃ y z, step y q.2 = some z
  | [], _, q, h => by cases h
  | p :: us, x, q, h => by
    unfold runF at h
    cases hs : step x p.2 with
    | none => rw [hs] at h; cases h
    | some x' =>
      rw [hs] at h
      rcases List.mem_cons.mp h with rfl | h
      · exact ⟨.head _, x, x', hs⟩
      · obtain ⟨a, b⟩ := runF_mem us x' q h
        exact ⟨.tail _ a, b⟩
theorem runF_len : ∀ (us : List (Value × Fld)) (x : χ), (runF step x us).length ≤ us.length
  | [], _ => Nat.le_refl _
  | p :: us, x => by
    unfold runF
    cases hs : step x p.2 with
    | none => exact Nat.zero_le _
    | some x' => have := runF_len us x'; simp only [List.length_cons]; omega
/-- where a chain of stages stands -/
structure At (us₀ us : List (Value × Fld)) (fin : Bool) : Prop where
  all : fin = true → us = us₀
  sub : ∀ q ∈ us, q ∈ us₀
  len : us.length ≤ us₀.length
theorem At.next {us₀ us : List (Value × Fld)} {fin : Bool} (h : At us₀ us fin) (x : χ) : At us₀ (runF step x us) (fin && passes step epi x (us₀.map (·.2))) := by
  refine ⟨fun e => ?_, fun q hq => h.sub q (runF_mem us x q hq).1, Nat.le_trans (runF_len us x) h.len⟩
  rw [Bool.and_eq_true] at e
  have := h.all e.1
  subst this
  exact runF_all us x e.2
theorem At.snd {us₀ us : List (Value × Fld)} {fin : Bool} (h : At us₀ us fin) (x : χ) : (runTr fin step epi x us).2 = (fin && passes step epi x (us₀.map (·.2))) := by
  rw [runTr_snd]
  cases fin with
  | false => rfl
  | true => rw [h.all rfl]
end

section
variable {Γ : Cx} {env : Env}
/-- headers = stage(headers, flags) -/
theorem call_st {m : Nat} {A : Around} {s : Shared} {u fl : Value} {W' : Addr → Prop} {X : Addr → Shared → Prop} {f : Addr} {name : Str} {p1 np p2 p3 cp ap : Pos} {Q : Flow → Shared → Prop} {E : Value → Shared → Prop} (he : EnvOk env) (hx : env.kindOf name = some .globalImplicit) (hf : nsIn Γ.Kf mainGlobals name = some (some (.ref f))) (hk : keepIn Γ.Kf (.ref f) = true)
    (k1 : env.kindOf "headers" = some .local) (k2 : env.kindOf "hdr_validation_flags" = some .local) (hc : env.cells = []) (o : Ok Γ m A s.heap) (i : Inv Γ s) (w : Own Γ env) (ac : Act env s.heap) (t : Sat env s.heap [("headers", .eq u), ("hdr_validation_flags", .eq fl)]) (nW : ¬ W' env.locals)
    (call : ∀ s₁ (Rr : Result → Shared → Prop), Ok Γ m A s₁.heap → Inv Γ s₁ → Grow0 s s₁ → (∀ a s', Inv Γ s' → Grow W' noG s₁ s' → X a s' → Rr (.ok (.ret (.ref a))) s') → codeAny Γ.M A (.call (.ref f) ⟨[u, fl], []⟩) Rr s₁)
    (keep : ∀ a s' s'', Act env s'.heap → X a s' → GrowL env s' s'' → X a s'')
    (h : ∀ a s', Inv Γ s' → Grow (fun b => b = env.locals ∨ W' b) noG s s' → Act env s'.heap → Sat env s'.heap [("headers", .eq (.ref a)), ("hdr_validation_flags", .eq fl)] → X a s' → Q .next s')
    (hd : (name == ("__debug__" : Str)) = false := by decide) (hs : swapsWith (.Call (.Name name np) [.Name "headers" p2, .Name "hdr_validation_flags" p3] [] cp) (some (.Name "headers" p1)) ap.line env = pure false := by rfl) :
    wpAny Γ.M A (exec (.Assign [.Name "headers" p1] (.Call (.Name name np) [.Name "headers" p2, .Name "hdr_validation_flags" p3] [] cp) ap) env) Q E s := by
  have e1 : EvD Γ m env [("headers", .eq u), ("hdr_validation_flags", .eq fl)] (.Name "headers" p2) (.eq u) := EvD.name he rfl
  have e2 : EvD Γ m env [("headers", .eq u), ("hdr_validation_flags", .eq fl)] (.Name "hdr_validation_flags" p3) (.eq fl) := EvD.name he rfl
  refine wpAny_Assign_Name (ev_call (Ps := [.eq u, .eq fl]) he hx hf hk (ArgsD.cons e1 (ArgsD.cons e2 ArgsD.nil)) o i t (fun vs s₁ i₁ g₁ q₁ => ?_) hd) hs
  obtain ⟨v₁, v₂, rfl, hv₁, hv₂⟩ := q₁.two
  cases (show v₁ = u from hv₁); cases (show v₂ = fl from hv₂)
  refine call s₁ _ (o.grow g₁) i₁ g₁ fun a s' i' g' x' => ?_
  have gg : Grow W' noG s s' := g₁.of0.trans g'
  have ac' := ac.grow gg nW
  have t' : Sat env s'.heap [("headers", .eq u), ("hdr_validation_flags", .eq fl)] := sat_keep' t (pure_args fun _ _ _ q => q) gg nW fun c ob e cl ⟨y, hy⟩ => by rw [hc] at hy; simp at hy
  refine store_at (P := .eq (.ref a)) he w.new k1 ac' i' w.tab t' rfl fun s₂ i₂ g₂ a₂ t₂ => ?_
  refine h a s₂ i₂ ((gg.weaken (fun b q => .inr q) fun _ q => q).trans (g₂.weaken (fun b q => .inl q) fun _ q => q)) a₂ (sat_sel t₂ fun q hq => ?_) (keep a s' s₂ ac' x' g₂)
  simp only [List.mem_cons, List.not_mem_nil, or_false] at hq
  rcases hq with rfl | rfl <;> rfl
theorem src_store {n : Nat} {s₀ s s' : Shared} {a : Addr} {fin : Bool} {lo : String → Prop} {vs : List Value} (L0 : ∃ o, s₀.heap.get? env.locals = some o) (h1 : ¬ lo "frame") (ac : Act env s.heap) (x : SrcX Γ n s₀ a fin lo vs s) (g : GrowL env s s') : SrcX Γ n s₀ a fin lo vs s' :=
  x.grow g (fun b hb => by
    rw [show b = env.locals from hb]
    obtain ⟨o, e, c⟩ := ac.fr
    exact ⟨L0, o, e, fun T hT => by rw [c] at hT; cases hT; exact h1⟩) fun _ q => q
end

-- Id
open PySem PySem.W PyProof.Rows PySem.Calls PySem.SeqAt
set_option Elab.async false
set_option maxRecDepth 100000
set_option linter.unusedVariables false
set_option linter.unusedSimpArgs false
set_option maxHeartbeats 400000

noncomputable def sIll (_ : Unit) (f : Fld) : Option Unit := if legal f then some () else none
noncomputable def sEmp (_ : Unit) (f : Fld) : Option Unit := if ((f.1.length : Int) == 0) then none else some ()
noncomputable def sTe (_ : Unit) (f : Fld) : Option Unit := if badTe f then none else some ()
noncomputable def sConn (_ : Unit) (f : Fld) : Option Unit := if badConn f then none else some ()
noncomputable abbrev eT : Unit → Bool := fun _ => true
noncomputable abbrev p0 : PSt := ⟨[], false, none⟩
noncomputable def accB (tr rs : Bool) (fs : List Fld) : Bool :=
  ((((((true && passes sIll eT () fs) && passes sEmp eT () fs) && passes sTe eT () fs) && passes sConn eT () fs) && passes pStep (pEpi tr rs) p0 fs) && ((rs || tr) || passes hostStep hostEpi (none, none) fs)) && ((rs || tr) || passes pathStep eT () fs)
noncomputable abbrev lo5 : String → Prop := fun T => loI T ∨ T = "set"

theorem At.host {us₀ us : List (Value × Fld)} {fin : Bool} (h : At us₀ us fin) (sk : Bool) : ∃ us', (hostOut sk fin us).1 = us'.map (·.1) ∧ At us₀ us' (fin && (sk || passes hostStep hostEpi (none, none) (us₀.map (·.2)))) ∧ (hostOut sk fin us).2 = (fin && (sk || passes hostStep hostEpi (none, none) (us₀.map (·.2)))) ∧ ∀ q ∈ us', q ∈ us := by
  unfold hostOut
  cases sk with
  | true => refine ⟨us, rfl, ?_, by simp, fun q hq => hq⟩; simpa using h
  | false =>
    refine ⟨runF hostStep (none, none) us, runTr_fst us _, ?_, ?_, fun q hq => (runF_mem us _ q hq).1⟩
    · rw [Bool.false_or]; exact h.next (none, none)
    · rw [Bool.false_or]; exact h.snd (none, none)
theorem At.path {us₀ us : List (Value × Fld)} {fin : Bool} (h : At us₀ us fin) (sk : Bool) : ∃ us', (pathOut sk fin us).1 = us'.map (·.1) ∧ At us₀ us' (fin && (sk || passes pathStep eT () (us₀.map (·.2)))) ∧ (pathOut sk fin us).2 = (fin && (sk || passes pathStep eT () (us₀.map (·.2)))) ∧ ∀ q ∈ us', q ∈ us := by
  unfold pathOut
  cases sk with
  | true => refine ⟨us, rfl, ?_, by simp, fun q hq => hq⟩; simpa using h
  | false =>
    refine ⟨runF pathStep () us, runTr_fst us _, ?_, ?_, fun q hq => (runF_mem us _ q hq).1⟩
    · rw [Bool.false_or]; exact h.next ()
    · rw [Bool.false_or]; exact h.snd ()

theorem valid_x {Γ : Cx} {P : Addr} (hm : (252, P) ∈ Γ.tabs) (hm2 : (259, 255) ∈ Γ.tabs) {fa : Addr} {cl tr rs pu : Bool} (hfa : FlagsAt Γ fa cl tr rs pu) {m : Nat} {A : Around} {s : Shared} {b : Addr} {us : List (Value × Fld)} {Rr : Result → Shared → Prop}
    (o : Ok Γ (m + 4) A s.heap) (i : Inv Γ s) (hl : Γ.hb.IsList b (us.map (·.1)).toArray) (hus : ∀ q ∈ us, (fld q.2).p Γ.hb q.1 ∧ okF q.2) (hT : TabGood s.heap 255 innerPos innerQ)
    (h : ∀ a z s' us', Inv Γ s' → Grow0 s z → Dom z s' → Grow (TabW Γ) noG s s' → TabGood s'.heap 255 innerPos innerQ → SrcX Γ 11 z a (accB tr rs (us.map (·.2))) lo5 (us'.map (·.1)) s' → At us us' (accB tr rs (us.map (·.2))) → Rr (.ok (.ret (.ref a))) s') :
    codeAny Γ.M A (.call (.ref 192) ⟨[.ref b, .ref fa], []⟩) Rr s := by
  refine' fn_enter (names := ["headers", "hdr_validation_flags"]) (Ps := [.eq (.ref b), .eq (.ref fa)]) ?hK ?hb ?hcode ?hbind ?hnd ?hlen ?hloc ?hcell ?hcl ?hgl ?hbl ?hco ?hgen ?hk o i ⟨rfl, rfl, trivial⟩ ?h
  walk_at "m gen"
  case' h => intro L z hL g₁ o₁ i₁ own a₁ t₁
  dsimp only [List.zip, List.zipWith] at t₁
  have pe : Pure (Pd.eq (.ref fa)) := fun _ _ _ q => q
  have L0 : ∃ ob, z.heap.get? L = some ob := by obtain ⟨ob, e, _⟩ := a₁.fr; exact ⟨ob, e⟩
  have n1 : ¬ loI "frame" := by decide
  have n2 : ¬ loI "generator" := by decide
  have n3 : ¬ loI "cell" := by decide
  have n4 : ¬ loI "set" := by decide
  have m1 : ¬ lo5 "frame" := by decide
  have m2 : ¬ lo5 "generator" := by decide
  have m3 : ¬ lo5 "cell" := by decide
  have iz := i₁
  have aZ := a₁
  have D : ∀ {W : Addr → Prop} {G : Nat → Prop} {s' : Shared}, Grow W G z s' → Dom z s' := fun g => .of g
  refine wpAny_execs_cons (StD.doc (n := m + 3) rfl _ z _ _ o₁ i₁ own.own a₁ t₁ fun s₁ i₁ g₁' a₁ t₁ => ?_)
  have oz := o₁
  have oA := oz.grow g₁'
  have at0 : At us us true := ⟨fun _ => rfl, fun _ h => h, Nat.le_refl _⟩
  have wL : ∀ {G : Nat → Prop} {s s' : Shared}, Grow (fun b => b = L ∨ noW b) G s s' → Grow (fun b => b = L ∨ b = P) G s s' := fun g => g.weaken (fun b q => q.imp id False.elim) fun _ q => q
  have G1 : Grow (fun b => b = L ∨ b = P) noG z s₁ := g₁'.weaken (fun b q => .inl q) fun _ q => q
  -- 1
  refine wpAny_execs_cons (call_st (m := m + 3) (f := 199) (W' := noW) (X := fun a s' => SrcX Γ 5 z a (runTr true sIll eT () us).2 loI (runTr true sIll eT () us).1 s') ⟨rfl, rfl, rfl⟩ rfl (by walk_at "m glob") (by walk_at "m keep") rfl rfl rfl oA i₁ own.own a₁ t₁ (fun f => f)
    (fun s₂ Rr o₂ i₂ g₂ k => illegal_g (m + 3) 4 _ s₂ z (.ref b) (.ref fa) (.eq (.ref fa)) loI true us Rr o₂ i₂ (by decide) pe rfl n1 n2 n3 (able_list hl) (D (G1.trans g₂.of0)) hus k) (fun a s' s'' ac x g => src_store L0 n1 ac x g) fun c₁ s₂ i₂ g₂ a₂ t₂ src₁ => ?_)
  have at1 := at0.next (step := sIll) (epi := eT) ()
  rw [runTr_fst, at0.snd] at src₁
  generalize runF sIll () us = us₁ at at1 src₁
  generalize hf1 : (true && passes sIll eT () (us.map (·.2))) = f1 at at1 src₁
  have oB := oA.grow g₂
  have G2 := G1.trans (wL g₂)
  -- 2
  refine wpAny_execs_cons (call_st (m := m + 3) (f := 206) (W' := noW) (X := fun a s' => SrcX Γ 6 z a (runTr f1 sEmp eT () us₁).2 loI (runTr f1 sEmp eT () us₁).1 s') ⟨rfl, rfl, rfl⟩ rfl (by walk_at "m glob") (by walk_at "m keep") rfl rfl rfl oB i₂ own.own a₂ t₂ (fun f => f)
    (fun s₃ Rr o₃ i₃ g₃ k => empty_g (m + 3) 5 _ s₃ z (.ref c₁) (.ref fa) (.eq (.ref fa)) loI f1 us₁ Rr o₃ i₃ (by decide) pe rfl n1 n2 n3 (src₁.grow0 g₃).able (D (G2.trans g₃.of0)) (fun q hq => ⟨(hus q (at1.sub q hq)).1, by have := (hus q (at1.sub q hq)).2.1; omega⟩) k) (fun a s' s'' ac x g => src_store L0 n1 ac x g) fun c₂ s₃ i₃ g₃ a₃ t₃ src₂ => ?_)
  have at2 := at1.next (step := sEmp) (epi := eT) ()
  rw [runTr_fst, at1.snd] at src₂
  have hne2 : ∀ q ∈ runF sEmp () us₁, q.2.1 ≠ [] := fun q hq e => by
    obtain ⟨_, y, w, hst⟩ := runF_mem us₁ () q hq
    unfold sEmp at hst
    rw [e] at hst
    rw [if_pos (by decide)] at hst; cases hst
  generalize runF sEmp () us₁ = us₂ at at2 src₂ hne2
  generalize hf2 : (f1 && passes sEmp eT () (us.map (·.2))) = f2 at at2 src₂
  have oC := oB.grow g₃
  have G3 := G2.trans (wL g₃)
  -- 3
  refine wpAny_execs_cons (call_st (m := m + 3) (f := 213) (W' := noW) (X := fun a s' => SrcX Γ 7 z a (runTr f2 sTe eT () us₂).2 loI (runTr f2 sTe eT () us₂).1 s') ⟨rfl, rfl, rfl⟩ rfl (by walk_at "m glob") (by walk_at "m keep") rfl rfl rfl oC i₃ own.own a₃ t₃ (fun f => f)
    (fun s₄ Rr o₄ i₄ g₄ k => te_g (m + 3) 6 _ s₄ z (.ref c₂) (.ref fa) (.eq (.ref fa)) loI f2 us₂ Rr o₄ i₄ (by decide) pe rfl n1 n2 n3 (src₂.grow0 g₄).able (D (G3.trans g₄.of0)) (fun q hq => hus q (at2.sub q hq)) k) (fun a s' s'' ac x g => src_store L0 n1 ac x g) fun c₃ s₄ i₄ g₄ a₄ t₄ src₃ => ?_)
  have at3 := at2.next (step := sTe) (epi := eT) ()
  rw [runTr_fst, at2.snd] at src₃
  have hne3 : ∀ q ∈ runF sTe () us₂, q.2.1 ≠ [] := fun q hq => hne2 q (runF_mem us₂ () q hq).1
  generalize runF sTe () us₂ = us₃ at at3 src₃ hne3
  generalize hf3 : (f2 && passes sTe eT () (us.map (·.2))) = f3 at at3 src₃
  have oD := oC.grow g₄
  have G4 := G3.trans (wL g₄)
  -- 4
  refine wpAny_execs_cons (call_st (m := m + 3) (f := 220) (W' := noW) (X := fun a s' => SrcX Γ 8 z a (runTr f3 sConn eT () us₃).2 loI (runTr f3 sConn eT () us₃).1 s') ⟨rfl, rfl, rfl⟩ rfl (by walk_at "m glob") (by walk_at "m keep") rfl rfl rfl oD i₄ own.own a₄ t₄ (fun f => f)
    (fun s₅ Rr o₅ i₅ g₅ k => conn_g (m + 3) 7 _ s₅ z (.ref c₃) (.ref fa) (.eq (.ref fa)) loI f3 us₃ Rr o₅ i₅ (by decide) pe rfl n1 n2 n3 (src₃.grow0 g₅).able (D (G4.trans g₅.of0)) (fun q hq => hus q (at3.sub q hq)) k) (fun a s' s'' ac x g => src_store L0 n1 ac x g) fun c₄ s₅ i₅ g₅ a₅ t₅ src₄ => ?_)
  have at4 := at3.next (step := sConn) (epi := eT) ()
  rw [runTr_fst, at3.snd] at src₄
  have hne4 : ∀ q ∈ runF sConn () us₃, q.2.1 ≠ [] := fun q hq => hne3 q (runF_mem us₃ () q hq).1
  generalize runF sConn () us₃ = us₄ at at4 src₄ hne4
  generalize hf4 : (f3 && passes sConn eT () (us.map (·.2))) = f4 at at4 src₄
  have oE := oD.grow g₅
  have G5 := G4.trans (wL g₅)
  -- 5
  refine wpAny_execs_cons (call_st (m := m + 3) (f := 234) (W' := noW) (X := fun a s' => SrcX Γ 9 z a (runTr f4 pStep (pEpi tr rs) p0 us₄).2 lo5 (runTr f4 pStep (pEpi tr rs) p0 us₄).1 s') ⟨rfl, rfl, rfl⟩ rfl (by walk_at "m glob") (by walk_at "m keep") rfl rfl rfl oE i₅ own.own a₅ t₅ (fun f => f)
    (fun s₆ Rr o₆ i₆ g₆ k => pseudo_g hfa (n := 8) o₆ i₆ (by decide) n1 n2 n3 n4 (src₄.grow0 g₆).able (D (G5.trans g₆.of0)) (fun q hq => ⟨(hus q (at4.sub q hq)).1, (hus q (at4.sub q hq)).2, hne4 q hq⟩) k) (fun a s' s'' ac x g => src_store L0 m1 ac x g) fun c₅ s₆ i₆ g₆ a₆ t₆ src₅ => ?_)
  have at5 := at4.next (step := pStep) (epi := pEpi tr rs) p0
  rw [runTr_fst, at4.snd] at src₅
  generalize runF pStep p0 us₄ = us₅ at at5 src₅
  generalize hf5 : (f4 && passes pStep (pEpi tr rs) p0 (us.map (·.2))) = f5 at at5 src₅
  have oF := oE.grow g₆
  have G6 := G5.trans (wL g₆)
  -- 6
  refine wpAny_execs_cons (call_st (m := m + 3) (f := 253) (W' := fun b => b = P) (X := fun a s' => SrcX Γ 10 z a (hostOut (rs || tr) f5 us₅).2 lo5 (hostOut (rs || tr) f5 us₅).1 s') ⟨rfl, rfl, rfl⟩ rfl (by walk_at "m glob") (by walk_at "m keep") rfl rfl rfl oF i₆ own.own a₆ t₆ (fun e => (own.own.tab _ hm).2 e.symm)
    (fun s₇ Rr o₇ i₇ g₇ k => chk_host hm hfa (m := m) (n := 9) o₇ i₇ iz (by decide) m1 m2 m3 (src₅.grow0 g₇) (D (G6.trans g₇.of0)) (fun q hq => hus q (at5.sub q hq)) k) (fun a s' s'' ac x g => src_store L0 m1 ac x g) fun c₆ s₇ i₇ g₇ a₇ t₇ src₆ => ?_)
  obtain ⟨us₆, e6, at6, f6e, _⟩ := at5.host (rs || tr)
  rw [e6, f6e] at src₆
  generalize hf6 : (f5 && ((rs || tr) || passes hostStep hostEpi (none, none) (us.map (·.2)))) = f6 at at6 src₆
  have oG := oF.grow g₇
  have G7 : Grow (fun b => b = L ∨ b = P) noG z s₇ := G6.trans g₇
  -- 7
  have hTz : TabGood z.heap 255 innerPos innerQ := hT.grow g₁ (fun w => w) fun _ _ _ _ w => w
  have hT7 : TabGood s₇.heap 255 innerPos innerQ := by
    refine hTz.grow G7 (fun w => ?_) fun b ob e c w => ?_
    · rcases w with w | w
      · exact (own.own.tab _ hm2).2 w
      · have := Γ.tabU _ hm _ hm2 w.symm
        exact absurd this (by show ¬ ((252 : Nat) = 259); decide)
    · rcases w with w | w
      · obtain ⟨oL, eL, cL⟩ := aZ.fr
        rw [w] at e
        have eL' : z.heap.get? L = some oL := eL
        rw [eL'] at e; cases e
        rw [cL] at c; exact absurd (Value.type.inj c) (by decide)
      · obtain ⟨_, _, _, tb⟩ := iz.tabs _ hm
        rw [w, tb] at e; cases e; cases c
  refine wpAny_execs_cons (wpAny_Return_some (ev_call (n := m + 3) (f := 260) (Ps := [.eq (.ref c₆), .eq (.ref fa)]) ⟨rfl, rfl, rfl⟩ rfl (by walk_at "m glob") (by walk_at "m keep") (ArgsD.cons (EvD.name ⟨rfl, rfl, rfl⟩ rfl) (ArgsD.cons (EvD.name ⟨rfl, rfl, rfl⟩ rfl) ArgsD.nil)) oG i₇ t₇ fun vs s₈ i₈ g₈ q₈ => ?_))
  obtain ⟨v₁, v₂, rfl, hv₁, hv₂⟩ := q₈.two
  cases (show v₁ = .ref c₆ from hv₁); cases (show v₂ = .ref fa from hv₂)
  refine chk_path hm2 hfa (m := m) (n := 10) (oG.grow g₈) i₈ iz (by decide) m1 m2 m3 (src₆.grow0 g₈) (D (G7.trans g₈.of0)) (fun q hq => hus q (at6.sub q hq)) (hT7.grow g₈ (fun w => w) fun _ _ _ _ w => w) fun a s' i' g' hT' src' => ?_
  obtain ⟨us₇, e7, at7, f7e, _⟩ := at6.path (rs || tr)
  rw [e7, f7e] at src'
  have eA : (f6 && ((rs || tr) || passes pathStep eT () (us.map (·.2)))) = accB tr rs (us.map (·.2)) := by rw [← hf6, ← hf5, ← hf4, ← hf3, ← hf2, ← hf1]; rfl
  have gall : Grow (fun b => b = L ∨ TabW Γ b) noG s s' := by
    refine (g₁.of0.trans ((G7.weaken (fun b w => ?_) fun _ q => q).trans (g₈.of0.trans (g'.weaken (fun b w => ?_) fun _ q => q))))
    · exact w.imp id fun e => ⟨_, hm, e.symm⟩
    · exact .inr ⟨_, hm2, (show b = 255 from w).symm⟩
  refine h a z s' us₇ i' g₁ (D ((G7.weaken (W' := fun _ => True) (fun _ _ => trivial) fun _ q => q).trans (g₈.of0.trans (g'.weaken (fun _ _ => trivial) fun _ q => q)))) (gall.drop fun b ob e w => ?_) hT' ?_ ?_
  · rcases w with w | w
    · rw [w, hL] at e; cases e
    · exact w
  · rw [← eA]; exact src'
  · rw [← eA]; exact at7

-- Ie
open PySem PySem.W PyProof.Rows PySem.Calls PySem.SeqAt
set_option Elab.async false
set_option maxRecDepth 100000
set_option linter.unusedVariables false
set_option linter.unusedSimpArgs false
set_option maxHeartbeats 400000

/- ---------- the context at a call ---------- -/
noncomputable def Cx.now (Γ : Cx) (h : Heap) (hid : List Addr) (st : Γ.hb.StaysIn (hideAll h hid)) (tn : ∀ q ∈ Γ.tabs, q.2 ∈ hid) : Cx where
  prog := Γ.prog
  w := Γ.w
  hb := hideAll h hid
  os := Γ.os
  mg := Γ.mg
  mb := Γ.mb
  K := Γ.K.keeps st
  g := Γ.g.keeps st
  b := Γ.b.keeps st
  nolimit := Γ.nolimit.keeps st
  free := Γ.free
  builtins := Γ.builtins
  tabs := Γ.tabs
  top := let ⟨p, loose, T⟩ := Γ.top; ⟨p, loose, T.keeps st⟩
  bim := let ⟨bm, o, h1, h2, h3, h4⟩ := Γ.bim; ⟨bm, o, h1, h2, st _ _ h3, h4⟩
  tabN := fun q mq => hideAll_none _ (tn q mq)
  tabU := Γ.tabU

/-- what the change of contexts gives -/
structure Sw (Γ Γ' : Cx) (n : Nat) (A : Around) (s : Shared) : Prop where
  prog : Γ'.prog = Γ.prog
  w : Γ'.w = Γ.w
  tabs : Γ'.tabs = Γ.tabs
  inv : Inv Γ' s
  ok : Ok Γ' n A s.heap
  md : Md s.heap Γ'.hb
  back : ∀ s', Inv Γ' s' → Inv Γ s'
  all : ∀ b o T, s.heap.get? b = some o → o.cls = .type T → T ≠ "frame" → Γ'.hb.get? b = some o
  fr : ∀ env outer L, A.frames = some (env :: outer) → env.frame = some L → Γ'.hb.get? L = none
theorem switch {Γ : Cx} {n : Nat} {A : Around} {s : Shared} (o : Ok Γ n A s.heap) (i : Inv Γ s) : ∃ hid st tn, Sw Γ (Γ.now s.heap hid st tn) n A s := by
  obtain ⟨outer, hA, f1, f2⟩ := o.frames
  have hfr : ∀ b, b ∈ outer.filterMap (·.frame) → Γ.hb.get? b = none ∧ ∃ ob, s.heap.get? b = some ob ∧ ob.cls = .type "frame" := fun b hb => by
    obtain ⟨env, he, hf⟩ := List.mem_filterMap.mp hb
    obtain ⟨ob, e, c, _⟩ := f2 env he b hf
    exact ⟨(f1.mem hb).1, ob, e, c⟩
  have htb : ∀ b, b ∈ Γ.tabs.map (·.2) → Γ.hb.get? b = none ∧ ∃ ob, s.heap.get? b = some ob ∧ ob.cls = .none := fun b hb => by
    obtain ⟨q, mq, rfl⟩ := List.mem_map.mp hb
    obtain ⟨ps, _, _, e⟩ := i.tabs q mq
    exact ⟨Γ.tabN q mq, _, e, rfl⟩
  have hhid : ∀ b, b ∈ outer.filterMap (·.frame) ++ Γ.tabs.map (·.2) → Γ.hb.get? b = none ∧ ∃ ob, s.heap.get? b = some ob ∧ (ob.cls = .type "frame" ∨ ob.cls = .none) := fun b hb => by
    rcases List.mem_append.mp hb with hb | hb
    · obtain ⟨a, ob, e, c⟩ := hfr b hb; exact ⟨a, ob, e, .inl c⟩
    · obtain ⟨a, ob, e, c⟩ := htb b hb; exact ⟨a, ob, e, .inr c⟩
  have vis : ∀ b ob, s.heap.get? b = some ob → ob.cls ≠ .type "frame" → ob.cls ≠ .none → (hideAll s.heap (outer.filterMap (·.frame) ++ Γ.tabs.map (·.2))).get? b = some ob := fun b ob e c1 c2 => hideAll_get _ e fun hb => by
    obtain ⟨_, ob', e', c'⟩ := hhid b hb
    rw [e] at e'; cases e'
    exact c'.elim c1 c2
  have st : Γ.hb.StaysIn (hideAll s.heap (outer.filterMap (·.frame) ++ Γ.tabs.map (·.2))) := fun b ob e => hideAll_get _ (i.base b ob e) fun hb => by rw [(hhid b hb).1] at e; cases e
  refine ⟨outer.filterMap (·.frame) ++ Γ.tabs.map (·.2), st, fun q mq => List.mem_append_right _ (List.mem_map_of_mem mq), rfl, rfl, rfl, ⟨fun b ob e => of_hideAll _ e, i.tabs, i.os, i.bare⟩, ⟨o.handled, o.depth, o.units, o.guards, outer, hA, ?_, f2⟩, fun b ob e sl => vis b ob e (fun c => ?_) (fun c => ?_), fun s' i' => ⟨fun b ob e => i'.base b ob (st b ob e), i'.tabs, i'.os, i'.bare⟩, fun b ob T e c hT => vis b ob e (by rw [c]; intro q; exact hT (Value.type.inj q)) (by rw [c]; intro q; cases q), fun env outer' L hA' hf => ?_⟩
  · exact funFrames_hide f1 fun env he a ha => List.mem_append_left _ (List.mem_filterMap.mpr ⟨env, he, ha⟩)
  · exact not_solid c (by decide) sl
  · unfold solid at sl
    rw [c] at sl
    rcases sl with q | q | q | q | q | q | ⟨a, q⟩ <;> cases q
  · rw [hA] at hA'; cases hA'
    exact hideAll_none _ (List.mem_append_left _ (List.mem_filterMap.mpr ⟨env, .head _, hf⟩))

/-- except ProtocolError -/
theorem handle_pe {Γ : Cx} {A : Around} {s s₀ : Shared} {W : Addr → Prop} {G : Nat → Prop} {env : Env} {e : Addr} {np pos : Pos} {b₀ : Stmt} {suite : List Stmt} {rest : List ExceptHandler} {Q : Flow → Shared → Prop} {E : Value → Shared → Prop} (he : EnvOk env) (hx : env.kindOf "ProtocolError" = some .globalImplicit) (i₀ : Inv Γ s₀) (x : ThrownT Γ W G s₀ e s)
    (h : ∀ s', ThrownT Γ W G s₀ e s' → wpAny Γ.M (A.mark (some (.ref e))) (execs (b₀ :: suite) env) Q (notedBy Γ.M (A.mark (some (.ref e))) env (cameBackBy Γ.M A env E)) s') :
    wpAny Γ.M A (handleBy (.ref e) env (.ExceptHandler (some (.Name "ProtocolError" np)) none (b₀ :: suite) pos :: rest)) Q E s := by
  have O := own_pe Γ
  refine wpAny_handleBy_cons (codeAny_handlers_test (Name_function_global he.kind hx (loadGlobal_global (mg := Γ.mg) (by rw [he.glob]; exact Γ.g.keeps x.inv.base) O.bound ?_) (by decide))) (by intro q; cases q)
  obtain ⟨bm, N, nm, q, bs, hdct, sn, sub, ab, col, dd, k0, k1, k2, k3, k5, mN, hC, hN, hq, T⟩ := (O.keeps x.inv.base).obj
  obtain ⟨_, oe, vs, ee, hcls, _⟩ := x.exc
  refine wpAny_excMatches_sub_self hC ee hcls (T.hasType (by decide)) (codeAny_handlers_suite ?_)
  exact x.flight i₀ h

-- If
open PySem PySem.W PyProof.Rows PySem.Calls PySem.SeqAt
set_option Elab.async false
set_option maxRecDepth 100000
set_option linter.unusedVariables false
set_option linter.unusedSimpArgs false
set_option maxHeartbeats 400000

noncomputable abbrev anyG : Nat → Prop := fun _ => True
theorem All2.at {h : Heap} : ∀ {fs : List Fld} {vs : List Value}, All2 h (fs.map fld) vs → ∀ q ∈ vs.zip fs, (fld q.2).p h q.1
  | [], [], _, q, hq => by cases hq
  | f :: fs, v :: vs, ⟨a, r⟩, q, hq => by
    rcases List.mem_cons.mp hq with rfl | hq
    · exact a
    · exact All2.at r q hq
theorem zip_maps {fs : List Fld} {vs : List Value} (h : vs.length = fs.length) : (vs.zip fs).map (·.1) = vs ∧ (vs.zip fs).map (·.2) = fs := ⟨List.map_fst_zip (by omega), List.map_snd_zip (by omega)⟩

/-- writes of the chain are new since the call -/
theorem grow_told {Γ Γ' : Cx} {n : Nat} {A : Around} {s z s₂ s₃ : Shared} {W : Wd} {S : Addr} {G : Nat → Prop} (sw : Sw Γ Γ' n A s) (g₁ : Grow0 s z) (g₂ : Grow (TabW Γ) noG s s₂) (g₃ : Grow (Ws Γ' (plusS W S) s₂) G s₂ s₃) (hlo : W.lo = lo5) (hst : ∀ b, W.st b → z.heap.get? b = none ∧ ∃ o, s₂.heap.get? b = some o ∧ o.cls = .type "frame") (hS : s₂.heap.get? S = none) : Grow (TabW Γ) anyG s s₃ := by
  refine Grow.drop (W := fun b => TabW Γ b ∨ Ws Γ' (plusS W S) s₂ b) ((g₂.weaken (fun b w => .inl w) fun _ _ => trivial).trans (g₃.weaken (fun b w => .inr w) fun _ _ => trivial)) fun b ob e w => ?_
  rcases w with w | w
  · exact w
  · rcases w with (w | w) | ⟨hb, o', T, e', c, l⟩
    · rw [News.back g₁ (hst b w).1] at e; cases e
    · rw [w, News.back g₂ hS] at e; cases e
    · obtain ⟨o'', e'', c'', _⟩ := g₂.dom b ob e
      rw [e''] at e'; cases e'
      have hT : T ≠ "frame" := by
        rw [show (plusS W S).lo = lo5 from hlo] at l
        rcases l with l | l
        · rw [show T = "list_iterator" from l]; decide
        · rw [l]; decide
      rw [sw.all b ob T e (c''.symm.trans c) hT] at hb; cases hb

theorem frs_of {Γ Γ' : Cx} {n m : Nat} {A : Around} {env : Env} {h h' : Heap} (o₁ : Ok Γ n (A.deeper env) h) (o : Ok Γ' m A h') : ∃ out, (A.deeper env).frames = some (env :: out) ∧ Frs Γ.hb h (env :: out) := by
  obtain ⟨out, hA, _⟩ := o.frames
  have hA₂ : (A.deeper env).frames = some (env :: out) := Around.frames_deeper hA
  obtain ⟨out', hA', fr⟩ := o₁.frames
  rw [hA₂] at hA'; cases hA'
  exact ⟨out, hA₂, fr⟩

theorem told_x {Γ : Cx} {P : Addr} (hm : (252, P) ∈ Γ.tabs) (hm2 : (259, 255) ∈ Γ.tabs) {fa : Addr} {cl tr rs pu : Bool} {kf : Nat} {df : Addr} {odf : Obj} {m : Nat} {A : Around} {s : Shared} {b : Addr} {vs : List Value} {fs : List Fld} {Rr : Result → Shared → Prop}
    (o : Ok Γ (m + 14) A s.heap) (i : Inv Γ s) (hl : s.heap.IsList b vs.toArray) (ha : All2 s.heap (fs.map fld) vs) (hz : Sz 1000 fs) (hfa : s.heap.get? fa = some (flagsObj cl tr rs pu kf df)) (hdf : s.heap.get? df = some odf) (hdc : odf.cls = .type "dict") (hT : TabGood s.heap 255 innerPos innerQ)
    (h : ∀ v s', Inv Γ s' → Grow (TabW Γ) anyG s s' → TabGood s'.heap 255 innerPos innerQ → (accB tr rs fs = true → ∃ S, v = .ref S ∧ s'.heap.IsList S vs.toArray) → (accB tr rs fs = false → v = .none) → Rr (.ok (.ret v)) s') : codeAny Γ.M A (.call (.ref 339) ⟨[.ref b, .ref fa], []⟩) Rr s := by
  refine' fn_enter (names := ["block", "flags"]) (Ps := [.eq (.ref b), .eq (.ref fa)]) ?hK ?hb ?hcode ?hbind ?hnd ?hlen ?hloc ?hcell ?hcl ?hgl ?hbl ?hco ?hgen ?hk o i ⟨rfl, rfl, trivial⟩ ?h
  walk_at "m gen"
  case' h => intro L z hL g₁ o₁ i₁ own a₁ t₁
  dsimp only [List.zip, List.zipWith] at t₁
  obtain ⟨hid, st, tn, sw⟩ := switch o₁ i₁
  have hzl : vs.length = fs.length := by have := ha.length; simpa using this
  have ezip := zip_maps hzl
  have hl' : (Γ.now z.heap hid st tn).hb.IsList b ((vs.zip fs).map (·.1)).toArray := by
    rw [ezip.1]
    obtain ⟨ob, e, c, r⟩ := hl
    exact ⟨ob, sw.all b ob _ (g₁.get e (fun w => w) (by rw [c]; decide)) c (by decide), c, r⟩
  have hfa' : FlagsAt (Γ.now z.heap hid st tn) fa cl tr rs pu := ⟨kf, df, odf, sw.md _ _ (g₁.md0 _ _ hfa (.inr (.inr (.inr (.inr (.inr (.inr ⟨182, rfl⟩))))))) (.inr (.inr (.inr (.inr (.inr (.inr ⟨182, rfl⟩)))))), sw.md _ _ (g₁.md0 _ _ hdf (.inr (.inr (.inr (.inr (.inl hdc)))))) (.inr (.inr (.inr (.inr (.inl hdc)))))⟩
  have hus : ∀ q ∈ vs.zip fs, (fld q.2).p (Γ.now z.heap hid st tn).hb q.1 ∧ okF q.2 := fun q hq => by
    have hm := hz.2 q.2 (List.of_mem_zip (show (q.1, q.2) ∈ vs.zip fs from hq)).2
    exact ⟨(fld q.2).mono sw.md ((ha.mono g₁.md0).at q hq), by have := hm.1; show q.2.1.length ≤ 1100; omega, by have := hm.2; show q.2.2.length ≤ 1100; omega⟩
  have hTz : TabGood z.heap 255 innerPos innerQ := hT.grow g₁ (fun w => w) fun _ _ _ _ w => w
  have t₁' := t₁
  refine wpAny_execs_cons (wpAny_Try_except (wpAny_execs_cons (wpAny_Return_some ?_)))
  show wpAny Γ.M _ (do callWith _ (← eval (.Name "list" _) _) [] (backTo _ (starEach [_] _)) []) _ _ z
  refine wpAny_bind (EvD.builtin (Γ := Γ.now z.heap hid st tn) (n := m + 13) (σ := [("block", .eq (.ref b)), ("flags", .eq (.ref fa))]) (v := .type "list") ⟨rfl, rfl, rfl⟩ rfl (by decide) rfl (by decide) (by decide) _ z _ _ sw.ok sw.inv t₁' fun v s₁ i₁' g₁' q₁ => ?_)
  cases (show v = .type "list" from q₁)
  refine PyProof.Rows.callWith_type1 ?_ (starEach_cons _ [] _ rfl) rfl
  have o₂ := sw.ok.grow g₁'
  have t₂ := t₁'.grow0 g₁'
  have hT₁ : TabGood s₁.heap 255 innerPos innerQ := hTz.grow g₁' (fun w => w) fun _ _ _ _ w => w
  refine args_cons (ev_call (Γ := Γ.now z.heap hid st tn) (n := m + 13) (f := 192) (Ps := [.eq (.ref b), .eq (.ref fa)]) ⟨rfl, rfl, rfl⟩ rfl (by walk_at "m glob") (by walk_at "m keep") (ArgsD.cons (EvD.name ⟨rfl, rfl, rfl⟩ rfl) (ArgsD.cons (EvD.name ⟨rfl, rfl, rfl⟩ rfl) ArgsD.nil)) o₂ i₁' t₂ fun ws s₂ i₂ g₂ q₂ => ?_) (starEach_cons _ [] _ rfl)
  obtain ⟨v₁, v₂, rfl, hv₁, hv₂⟩ := q₂.two
  cases (show v₁ = .ref b from hv₁); cases (show v₂ = .ref fa from hv₂)
  obtain ⟨out, hA₂, fr₂⟩ := frs_of sw.ok o
  have hT₂ : TabGood s₂.heap 255 innerPos innerQ := hT₁.grow g₂ (fun w => w) fun _ _ _ _ w => w
  refine valid_x (Γ := Γ.now z.heap hid st tn) (m := m + 9) hm hm2 hfa' (o₂.grow g₂) i₂ hl' hus hT₂ fun a z' s₃ us' i₃ gz' dz' g₃ hT₃ src at₃ => ?_
  refine args_nil ?_
  have gA : Grow (TabW Γ) noG z s₃ := (g₁'.trans g₂).of0.trans g₃
  have o₃ := (o₂.grow g₂).grow g₃
  have hlen : (us'.map (·.1)).length ≤ 100000 := by
    have h1 := at₃.len
    have h2 := hz.1
    have h3 : (vs.zip fs).length ≤ fs.length := by rw [List.length_zip]; omega
    rw [List.length_map]; omega
  have dropL : ∀ {G : Nat → Prop} {s' : Shared}, Grow (TabW Γ) G z s' → Grow (TabW Γ) G s s' := fun g => (g₁.of0.trans g)
  have hTb : ∀ {s₄ : Shared} {W : Wd} {S : Addr} {G : Nat → Prop}, Grow (Ws (Γ.now z.heap hid st tn) (plusS W S) s₃) G s₃ s₄ → W.lo = lo5 → (∀ b, W.st b → z'.heap.get? b = none ∧ ∃ o, s₃.heap.get? b = some o ∧ o.cls = .type "frame") → s₃.heap.get? S = none → TabGood s₄.heap 255 innerPos innerQ := fun {s₄ W S G} g hlo hst hS => by
    have nw : ∀ b ob, s₃.heap.get? b = some ob → (ob.cls = .type "code" ∨ ob.cls = .none) → ¬ Ws (Γ.now z.heap hid st tn) (plusS W S) s₃ b := fun b ob e c w => by
      rcases w with (w | w) | ⟨hb, o', T, e', c', l⟩
      · obtain ⟨_, o', e', c'⟩ := hst b w
        rw [e] at e'; cases e'
        rcases c with c | c <;> rw [c] at c'
        · exact absurd (Value.type.inj c') (by decide)
        · cases c'
      · rw [w, hS] at e; cases e
      · rw [e] at e'; cases e'
        rcases c with c | c <;> rw [c] at c'
        · rw [show (plusS W S).lo = lo5 from hlo, ← Value.type.inj c'] at l
          exact absurd l (by decide)
        · cases c'
    obtain ⟨ps, eP, _⟩ := id hT₃
    exact hT₃.grow g (nw _ _ eP (.inr rfl)) fun b ob e c w => nw b ob e (.inl c) w
  have gz2 : Grow0 z z' := (g₁'.trans g₂).trans gz'
  refine list_call (Γ := Γ.now z.heap hid st tn) (n := 11) src (by decide) hlen (o₃.le (by omega)) i₃ (fun S W s₄ hf hlo hst hS i₄ g₄ hL₄ => ?_) (fun S W e s₄ hf hlo hst hS x₄ => ?_)
  · refine h _ s₄ (sw.back _ i₄) (dropL (grow_told sw gz2 gA g₄ hlo hst hS)) (hTb g₄ hlo hst hS) (fun _ => ⟨S, rfl, ?_⟩) fun e => ?_
    · rw [at₃.all hf, ezip.1] at hL₄; exact hL₄
    · rw [ezip.2] at hf
      rw [hf] at e; cases e
  · have X : Thrown (Γ.now z.heap hid st tn) (Ws (Γ.now z.heap hid st tn) (plusS W S) s₃) (plusS W S).G s₃ e s₄ := ⟨x₄.inv, x₄.grow, x₄.exc.exc⟩
    refine X.note i₃ hA₂ (fr₂.grow gA) own.frame fun s₅ x₅ => ?_
    refine x₅.flight i₃ fun s₆ x₆ => ?_
    refine handle_pe (Γ := Γ.now z.heap hid st tn) ⟨rfl, rfl, rfl⟩ rfl i₃ x₆ fun s₇ x₇ => ?_
    refine wpAny_execs_cons (wpAny_Return_some (wpAny_Constant_none ?_))
    refine h _ s₇ (sw.back _ x₇.inv) (dropL (grow_told sw gz2 gA x₇.grow hlo hst hS)) (hTb x₇.grow hlo hst hS) (fun e' => ?_) fun _ => rfl
    rw [ezip.2] at hf
    rw [hf] at e'; cases e'

-- Ig0
open PySem PySem.W PyProof.Rows PySem.Calls PySem.SeqAt
set_option Elab.async false
set_option maxRecDepth 100000
set_option linter.unusedVariables false
set_option linter.unusedSimpArgs false
set_option maxHeartbeats 400000

section
variable {Γ : Cx}
theorem c1 (S : Setting) : peek Γ.Kf S (Bind.madeBy (.ref 182)) = some none := by show peek (KF (Cx.w _).params) _ _ = _; kernel_rfl
theorem c2 (S : Setting) (T : Addr) : peek Γ.Kf S (checkBuiltinCall "tuple.__new__" ⟨[.ref 182, .ref T], []⟩) = some () := by show peek (KF (Cx.w _).params) _ _ = _; kernel_rfl
theorem c3 (S : Setting) : peek Γ.Kf S (Bind.madeHere "tuple.__new__" (.ref 182)) = some () := by show peek (KF (Cx.w _).params) _ _ = _; kernel_rfl
theorem c4 (S : Setting) : peek Γ.Kf S (typeLookup (.ref 182) "__init__") = some (some (.builtin "object.__init__")) := by show peek (KF (Cx.w _).params) _ _ = _; kernel_rfl
theorem c5 (S : Setting) : peek Γ.Kf S (isSubtype (.ref 182) (.type "tuple")) = some true := by show peek (KF (Cx.w _).params) _ _ = _; kernel_rfl
theorem c6 (S : Setting) : peek Γ.Kf S (isSubtype (.ref 182) (.ref 182)) = some true := by show peek (KF (Cx.w _).params) _ _ = _; kernel_rfl
theorem c7 (S : Setting) : peek Γ.Kf S (isType (.ref 182)) = some true := by show peek (KF (Cx.w _).params) _ _ = _; kernel_rfl
theorem c8 (S : Setting) : peek Γ.Kf S (classHasDel 182) = some false := by show peek (KF (Cx.w _).params) _ _ = _; kernel_rfl
theorem c9 : findCls Γ.Kf (.ref 182) (.type "type") "__new__" = some (.get (.builtin "staticmethod.__get__") (.ref 183) .none (.ref 182)) := by show findCls (KF (Cx.w _).params) _ _ _ = _; kernel_rfl
theorem c10 : findCls Γ.Kf (.type "tuple") (.type "type") "__new__" = some (.val (.builtin "tuple.__new__")) := by show findCls (KF (Cx.w _).params) _ _ _ = _; kernel_rfl
theorem c11 : readsIn Γ.Kf 182 (.type "type") = true := by show readsIn (KF (Cx.w _).params) _ _ = _; kernel_rfl
end

-- Ig
open PySem PySem.W PyProof.Rows PySem.Calls PySem.SeqAt
set_option Elab.async false
set_option maxRecDepth 100000
set_option linter.unusedVariables false
set_option linter.unusedSimpArgs false
set_option maxHeartbeats 400000

noncomputable def Pd.flags (cl tr rs pu : Bool) : Pd := ⟨fun h v => ∃ a k d od, v = .ref a ∧ h.get? a = some (flagsObj cl tr rs pu k d) ∧ h.get? d = some od ∧ od.cls = .type "dict", by
  intro h h' v m ⟨a, k, d, od, e, h1, h2, h3⟩
  exact ⟨a, k, d, od, e, m _ _ h1 (.inr (.inr (.inr (.inr (.inr (.inr ⟨182, rfl⟩)))))), m _ _ h2 (.inr (.inr (.inr (.inr (.inl h3))))), h3⟩⟩
section
variable {Γ : Cx} {n : Nat} {env : Env} {σ : Sto} {cl tr rs pu : Bool}
theorem lk {α : Type} {t : Sem α} {r : α} {h : Heap} (X : Γ.Kf.In h) (e : ∀ S, peek Γ.Kf S t = some r) : Looks Γ.M h t r := Looks.of_peek X (e _)
theorem tup_new {A : Around} {s : Shared} {T : Addr} {R : Result → Shared → Prop} (i : Inv Γ s) (hT : IsTup s.heap T #[.bool cl, .bool tr, .bool rs, .bool pu]) (h : ∀ v s', Inv Γ s' → Grow0 s s' → (Pd.flags cl tr rs pu).p s'.heap v → R (.ok (.ret v)) s') :
    codeAny Γ.M A (.call (.builtin "tuple.__new__") ⟨[.ref 182, .ref T], []⟩) R s := by
  refine codeAny_call_builtin F.plain_tuple_new F.entry_tuple_new ((lk i.K fun S => c2 S T).here ?_)
  unfold Builtin.«tuple.__new__»
  obtain ⟨oT, eT, cT, nT, dT⟩ := id hT
  refine wpAny_bind ((lk i.K c7).here ?_)
  show wpAny _ _ (isSubtype (.ref 182) (.type "tuple") >>= _) _ _ _
  refine wpAny_bind ((lk i.K c5).here ?_)
  show wpAny _ _ (Bind.madeHere "tuple.__new__" (.ref 182) >>= _) _ _ _
  refine wpAny_bind ((lk i.K c3).here ?_)
  refine wpAny_bind ((lk i.K c4).here ?_)
  rw [if_pos (by rfl)]
  refine wpAny_bind (wpAny_of_eq (a := ()) rfl ?_)
  refine wpAny_bind (wpAny_of_eq (a := ()) rfl ?_)
  show wpAny _ _ (collect (.ref T) >>= fun l => pure l.toArray >>= fun xs => alloc { cls := .type "dict", data := .dict #[] } >>= fun d => newObj (.ref 182) (.seq xs) (some d) >>= fun o => ret o) _ _ _
  refine wpAny_bind (wpAny_collect_seq T (.inr rfl) eT cT dT (fun h' k => ?_))
  refine wpAny_bind (wpAny_pure ?_)
  have i₁ : Inv Γ { s with heap := h' } := i.stays (s' := { s with heap := h' }) k rfl rfl
  refine wpAny_bind (wpAny_alloc ?_)
  have k2 := stays_push h' { cls := .type "dict", data := .dict #[] }
  have i₂ : Inv Γ { s with heap := h'.push { cls := .type "dict", data := .dict #[] } } := i₁.stays (s' := { s with heap := h'.push { cls := .type "dict", data := .dict #[] } }) k2 rfl rfl
  refine wpAny_bind ?_
  show wpAny _ _ (newObjAsIs _ _ _) _ _ _
  unfold newObjAsIs
  refine wpAny_bind (wpAny_alloc ?_)
  have k3 := stays_push (h'.push { cls := .type "dict", data := .dict #[] }) { cls := .ref 182, dict := some h'.objs.size, data := .seq #[.bool cl, .bool tr, .bool rs, .bool pu] }
  have i₃ := i₂.stays (s' := { s with heap := (h'.push { cls := .type "dict", data := .dict #[] }).push { cls := .ref 182, dict := some h'.objs.size, data := .seq #[.bool cl, .bool tr, .bool rs, .bool pu] } }) k3 rfl rfl
  refine wpAny_bind ((lk i₃.K c8).here ?_)
  refine wpAny_pure (wpAny_pure ?_)
  refine h _ _ i₃ (.of_stays (s' := { s with heap := (h'.push { cls := .type "dict", data := .dict #[] }).push { cls := .ref 182, dict := some h'.objs.size, data := .seq #[.bool cl, .bool tr, .bool rs, .bool pu] } }) (fun b o e => k3 _ _ (k2 _ _ (k _ _ e))) rfl) ⟨_, _, _, _, rfl, Heap.get?_push_size _ rfl, k3 _ _ (Heap.get?_push_size _ rfl), rfl⟩
end

-- Ih
open PySem PySem.W PyProof.Rows PySem.Calls PySem.SeqAt
set_option Elab.async false
set_option maxRecDepth 100000
set_option linter.unusedVariables false
set_option linter.unusedSimpArgs false
set_option maxHeartbeats 400000

section
variable {Γ : Cx} {n : Nat} {env : Env} {σ : Sto} {cl tr rs pu : Bool}
theorem c12 (S : Setting) : peek Γ.Kf S (isSubtype (.ref 182) (.type "object")) = some true := by show peek (KF (Cx.w _).params) _ _ = _; kernel_rfl
theorem EvD.tnew {e₁ e₂ : Expr} {np apos pos : Pos} {pl : Sem Bool} (henv : EnvOk env) (hx : env.kindOf ("tuple" : Str) = some .globalImplicit) (x : EvD Γ n env σ e₁ (.eq (.ref 182))) (y : EvD Γ n env σ e₂ (.tup [.bool cl, .bool tr, .bool rs, .bool pu])) (e1 : plainE e₁ = true := by rfl) (e2 : plainE e₂ = true := by rfl)
    (he : eval (.Call (.Attribute (.Name "tuple" np) "__new__" apos) [e₁, e₂] [] pos) env = (do
      let ov ← eval (.Name "tuple" np) env
      standAt apos.atName
      let (f, first) ← holding [ov] (getMethod ov "__new__" pl)
      callWith pos f first (backTo pos (starEach [e₁, e₂] env)) []) := by rfl) : EvD Γ n env σ (.Call (.Attribute (.Name "tuple" np) "__new__" apos) [e₁, e₂] [] pos) (.flags cl tr rs pu) := fun A s Q E ok iv t p => by
  refine MethodCall_ (pl := pl) (EvD.builtin (Γ := Γ) (n := n) (σ := σ) (v := .type "tuple") henv hx (by decide) rfl (by decide) (by decide) A s _ E ok iv t fun v s₁ i₁ g₁ hv => ?_) he
  cases (show v = .type "tuple" from hv)
  have X := i₁.K
  have hstub : opaqueClassAbove (.type "tuple") = pure none := by unfold opaqueClassAbove; dsimp only; rw [show Manifest.isStub "tuple" = false by decide +kernel]; rfl
  have L0 : Looks Γ.M s₁.heap (typeOf (.type "tuple")) (.type "type") := Looks.of_pure meta_tuple
  have hg : findIn Γ.Kf (.type "type") "__getattribute__" = some (some (.builtin "type.__getattribute__")) := type_tga
  unfold getMethod specialOf
  refine wpAny_bind (wpAny_bind (L0.here ((looks_findIn X hg).here ?_)))
  dsimp only
  rw [if_pos canon_tga]
  have k0 : s₁.heap.StaysIn s₁.heap := fun _ _ e => e
  have i₁' : Inv Γ { s₁ with toks := s₁.toks + 1 } := i₁.stays (s' := { s₁ with toks := s₁.toks + 1 }) k0 rfl rfl
  have g₁' : Grow0 s { s₁ with toks := s₁.toks + 1 } := g₁.trans (.of_stays (s' := { s₁ with toks := s₁.toks + 1 }) k0 rfl)
  refine wpAny_bind (wpAny_mono (Q := fun v s₃ => v = .builtin "tuple.__new__" ∧ s₃ = { s₁ with toks := s₁.toks + 1 }) (E := E) ?_ (fun v s₃ z => wpAny_pure ?_) fun _ _ z => z)
  · have LO : Looks Γ.M s₁.heap (opaqueClassAbove (.type "tuple")) none := Looks.of_pure hstub
    refine cls_open X LO L0 hg (looks_hook X (r := none) (by rfl)) (by show subIn _ _ _ = _; rfl) (r := .val (.builtin "tuple.__new__")) c10
      (wpAny_pure (by show wpAny _ _ (handedOut _) _ _ _; rw [handedOut_of (show handedIn (.builtin "tuple.__new__") = true by decide +kernel)]; exact wpAny_pure ⟨rfl, rfl⟩))
  · obtain ⟨rfl, rfl⟩ := z
    have key := ArgsD.cons x (ArgsD.cons y ArgsD.nil e2) e1 A _ pos (fun vs s₂ => wpAny Γ.M A (PySem.call (.builtin "tuple.__new__") ([] ++ vs)) Q E s₂) E (ok.grow g₁') i₁' (t.grow0 g₁') fun vs s₂ i₂ g₂ q₂ => ?_
    · rw [starEach_cons e₁ [e₂] env e1] at key ⊢
      exact Calls.callWith_builtin (by
        have := star_plain pos env [e₂] (by simp [e2])
        show (false || (backTo pos (starEach [e₂] env)).any (·.1)) = false
        rw [this]; rfl) (Calls.evalArgs_plain key)
    · obtain ⟨u, v, rfl, hu, T, vs, hv, hT, hr⟩ := q₂.two
      cases (show u = .ref 182 from hu)
      subst hv
      obtain ⟨a1, r1⟩ : ∃ a r, vs = a :: r := by cases vs with | nil => exact hr.elim | cons a r => exact ⟨a, r, rfl⟩
      have hvs : vs = [.bool cl, .bool tr, .bool rs, .bool pu] := by
        match vs, hr with
        | [a, b, c, d], ⟨ha, hb, hc, hd, _⟩ =>
          cases (show a = .bool cl from ha); cases (show b = .bool tr from hb); cases (show c = .bool rs from hc); cases (show d = .bool pu from hd); rfl
      subst hvs
      refine wpAny_call (tup_new i₂ hT fun v s' i' g' q' => ?_)
      exact p v s' i' ((g₁'.trans g₂).trans g') q'

theorem new_t : FnD Γ 1 126 [.eq (.ref 182), .bool cl, .bool tr, .bool rs, .bool pu] (.flags cl tr rs pu) := by
  refine' FnD.body (names := ["_cls", "is_client", "is_trailer", "is_response_header", "is_push_promise"]) ?hK ?hb ?hcode ?hbind ?hnd ?hlen ?hloc ?hcell ?hcl ?hgl ?hbl ?hco ?hgen ?hk ?h
  (case hK => (show (KF (Cx.w _).params).lookup _ = _; k_is))
  (case hb => exact rfl)
  (case hcode => (show codeIn (KF (Cx.w _).params) _ _ = true; k_is))
  (case hcl => exact rfl)
  (case hgl => exact rfl)
  (case hbl => exact rfl)
  (case hco => exact rfl)
  (case hgen => exact rfl)
  (case hk => exact rfl)
  (case hnd => decide)
  (case hlen => exact rfl)
  (case hloc => decide)
  (case hcell => decide)
  case hbind => exact len5 (fun _ _ _ _ _ => rfl)
  case' h => intro L; dsimp only [List.zip, List.zipWith]
  refine BdD.cons (StD.doc rfl) (BdD.ret (EvD.tnew ⟨rfl, rfl, rfl⟩ rfl (by walk_at "m nm") (EvD.tuple (by walk_at "m args") (Nat.le_of_ble_eq_true rfl))))

theorem Ok.undr {A : Around} {h : Heap} {c : Code} (o : Ok Γ (n + 1) A h) (hw : c.weight = 1) (hu : c.cUnits = 1) (he : c.envs = []) (hg : c.guards = []) : Ok Γ n (A.under c) h := by
  refine ⟨o.handled, ?_, ?_, ?_, ?_⟩
  · have := o.depth; show A.depth + c.weight + 4 * n + 8 ≤ _; omega
  · have := o.units; show A.units + c.cUnits + 40 * n + 80 ≤ _; omega
  · show pushGuards c.guards A.guards = _; rw [hg]; exact o.guards
  · show ∃ outer, pushEnvs c.envs A.frames = some outer ∧ _; rw [he]; exact o.frames
theorem cls_of {K : Frag} {a : Addr} {oc : Value} {od : Option Addr} {cd : ClassData} {sl : Array (Option Value)} (h : K.lookup a = some ⟨oc, od, .cls cd, sl⟩) (h2 : cd.mro.isEmpty = false) : ∃ cd oc od sl, K.lookup a = some ⟨oc, od, .cls cd, sl⟩ ∧ cd.mro.isEmpty = false := ⟨_, _, _, _, h, h2⟩
theorem flags_d : CaD Γ (n + 3) (.ref 182) [.bool cl, .bool tr, .bool rs, .bool pu] (.flags cl tr rs pu) := fun A s vs Q E o i q p => by
  have hvs : vs = [.bool cl, .bool tr, .bool rs, .bool pu] := by
    match vs, q with
    | [a, b, c, d], ⟨ha, hb, hc, hd, _⟩ =>
      cases (show a = .bool cl from ha); cases (show b = .bool tr from hb); cases (show c = .bool rs from hc); cases (show d = .bool pu from hd); rfl
  subst hvs
  refine wpAny_call (codeAny_of_tree ?_)
  show wpAny _ _ (callAny (.ref 182) _) _ _ _
  have X := i.K
  have hcall : specialIn Γ.Kf (.ref 182) "__call__" = some (some (.builtin "type.__call__")) := by show specialIn (KF (Cx.w _).params) _ _ = _; kernel_rfl
  have hinst : instIn Γ.Kf (.ref 182) (.type "type") = some true := by show instIn (KF (Cx.w _).params) _ _ = _; kernel_rfl
  obtain ⟨cd, oc, od, sl, hC, hne⟩ : ∃ cd oc od sl, Γ.Kf.lookup 182 = some ⟨oc, od, .cls cd, sl⟩ ∧ cd.mro.isEmpty = false := by
    refine' cls_of ?h ?h2
    case h => show (KF (Cx.w _).params).lookup _ = _; k_is
    case h2 => rfl
  refine wpAny_bind ?_
  refine wpAny_load (X _ _ hC) ?_
  dsimp only
  show wpAny _ _ (callAny.viaDunder (.ref 182) _) _ _ _
  unfold callAny.viaDunder
  refine wpAny_bind ((looks_specialIn X hcall).here ?_)
  dsimp only
  rw [tc_bind]
  refine wpAny_bind (wpAny_pure (wpAny_bind (wpAny_pure ?_)))
  refine wpAny_pure (a := Fin.again (.call (.builtin "type.__call__") ⟨[.ref 182, .bool cl, .bool tr, .bool rs, .bool pu], []⟩)) (And.intro rfl ?_)
  have typ : Looks Γ.M s.heap (isInstance (.ref 182) (.type "type")) true := looks_instIn X hinst
  refine codeAny_call_builtin_at (Code.quiet_builtin _ (by decide +kernel)) entry_typeCall (check_slot tc_kind tc_split typ (tc_args _ _ _) ?_)
  have o1 : Ok Γ (n + 2) (A.under (.builtin "type.__call__" ⟨[.ref 182, .bool cl, .bool tr, .bool rs, .bool pu], []⟩)) s.heap := o.undr (by kernel_rfl) (by kernel_rfl) (by kernel_rfl) (by kernel_rfl)
  unfold Builtin.«type.__call__»
  have LM : Looks Γ.M s.heap (mroOf (.ref 182)) cd.mro := by
    obtain ⟨hh, g, d, tk, os⟩ := s
    exact ((Looks.ld (part := none) (X _ _ hC)).andThen .now).andThen .now
  show wpAny _ _ (mroOf (.ref 182) >>= _) _ _ s
  refine wpAny_bind (LM.here ?_)
  dsimp only
  rw [if_neg (by rw [hne]; exact Bool.false_ne_true)]
  refine wpAny_bind ((lk X c1).here ?_)
  dsimp only
  have hrec : recIn Γ.Kf 183 "staticmethod" = some (.ref 126 :: []) := by show recIn (KF (Cx.w _).params) _ _ = _; kernel_rfl
  refine wpAny_bind (cls_bind X c11 c9 (wpAny_call (sm_get (s := { s with toks := s.toks + 1 }) X hrec (handed_on (by rfl) ?_))))
  have k0 : s.heap.StaysIn s.heap := fun _ _ e => e
  have i₁ : Inv Γ { s with toks := s.toks + 1 } := i.stays (s' := { s with toks := s.toks + 1 }) k0 rfl rfl
  have g₁ : Grow0 s { s with toks := s.toks + 1 } := .of_stays (s' := { s with toks := s.toks + 1 }) k0 rfl
  refine wpAny_bind (wpAny_holding (call_ofFn (new_t.le (Nat.le_add_left 1 (n + 1))) (o1.grow g₁) i₁ ⟨rfl, rfl, rfl, rfl, rfl, trivial⟩ fun v s₂ i₂ g₂ hv => ?_))
  obtain ⟨x, kx, d, od, rfl, hx, hd, hdc⟩ := hv
  have X₂ := i₂.K
  have L1 : Looks Γ.M s₂.heap (typeOf (.ref x)) (.ref 182) := by
    obtain ⟨hh, g, d, tk, os⟩ := s₂
    exact (Looks.ld hx).andThen .now
  have L2 : Looks Γ.M s₂.heap (isInstance (.ref x) (.ref 182)) true := L1.andThen (lk X₂ c6)
  refine wpAny_bind (L2.here ?_)
  rw [if_neg (by decide)]
  have o2 := (o1.grow g₁).grow g₂
  refine wpAny_bind (wpAny_holding ?_)
  have L3 : Looks Γ.M s₂.heap (typeLookup (.ref 182) "__init__") (some (.builtin "object.__init__")) := lk X₂ c4
  have L4 : Looks Γ.M s₂.heap (isInstance (.ref x) (.type "object")) true := L1.andThen (lk X₂ c12)
  refine wpAny_bind (wpAny_bind (L1.here (L3.here ?_)))
  dsimp only
  refine wpAny_holding (wpAny_bind ?_)
  rw [oi_bind]
  refine wpAny_pure (wpAny_bind (wpAny_call ?_))
  refine codeAny_call_builtin oi_plain entry_oi (check_slot (i := "object.__init__") (self := .ref x) (rest := [.bool cl, .bool tr, .bool rs, .bool pu]) (kw := []) oi_kind oi_split L4 (by unfold argsOk; kernel_rfl) ?_)
  unfold Builtin.«object.__init__»
  refine wpAny_bind (L1.here ?_)
  refine wpAny_bind (L3.here ?_)
  refine wpAny_bind ((lk X₂ c1).here ?_)
  show wpAny _ _ (ret Value.none) _ _ _
  refine wpAny_pure ?_
  show wpAny _ _ _ _ _ _
  refine wpAny_pure ?_
  refine wpAny_pure ?_
  exact p _ s₂ i₂ (g₁.trans g₂) ⟨x, kx, d, od, rfl, hx, hd, hdc⟩
end

-- Ii
open PySem PySem.W PyProof.Rows PySem.Calls PySem.SeqAt
set_option Elab.async false
set_option maxRecDepth 100000
set_option linter.unusedVariables false
set_option linter.unusedSimpArgs false
set_option maxHeartbeats 400000

/- ---------- statements of the law: the tables may grow ---------- -/
noncomputable abbrev GT (Γ : Cx) (env : Env) (s s' : Shared) : Prop := Grow (fun b => b = env.locals ∨ TabW Γ b) anyG s s'
structure LS (Γ : Cx) (n : Nat) (env : Env) (A : Around) (σ : Sto) (s : Shared) : Prop where
  ok : Ok Γ n A s.heap
  inv : Inv Γ s
  act : Act env s.heap
  sat : Sat env s.heap σ
  tab : TabGood s.heap 255 innerPos innerQ
noncomputable def LwD (Γ : Cx) (n : Nat) (env : Env) (σ : Sto) (st : Stmt) (σ' : Sto) : Prop := ∀ (A : Around) (s : Shared) (Q : Flow → Shared → Prop) (E : Value → Shared → Prop), LS Γ n env A σ s → (∀ s', LS Γ n env A σ' s' → GT Γ env s s' → Q .next s') → wpAny Γ.M A (exec st env) Q E s
noncomputable def LwsD (Γ : Cx) (n : Nat) (env : Env) (σ : Sto) (ss : List Stmt) (σ' : Sto) : Prop := ∀ (A : Around) (s : Shared) (Q : Flow → Shared → Prop) (E : Value → Shared → Prop), LS Γ n env A σ s → (∀ s', LS Γ n env A σ' s' → GT Γ env s s' → Q .next s') → wpAny Γ.M A (execs ss env) Q E s
noncomputable def TtD (Γ : Cx) (n : Nat) (env : Env) (σ : Sto) (e : Expr) (b : Bool) : Prop := ∀ (A : Around) (s : Shared) (Q : Bool → Shared → Prop) (E : Value → Shared → Prop), LS Γ n env A σ s → (∀ s', LS Γ n env A σ s' → GT Γ env s s' → Q b s') → wpAny Γ.M A (isTrue e env (eval e env)) Q E s

section
variable {Γ : Cx} {n : Nat} {env : Env} {σ σ' σ'' : Sto} {A : Around}
theorem gt_md {s s' : Shared} (i : Inv Γ s) (ac : Act env s.heap) (g : GT Γ env s s') : Md s.heap s'.heap := g.md fun b ob hb e q => by
  rcases hb with hb | ⟨p, mp, hp⟩
  · obtain ⟨o', e', c⟩ := ac.fr
    rw [hb, e'] at e; cases e
    exact not_solid c (by decide) q
  · obtain ⟨ps, _, _, e'⟩ := i.tabs p mp
    rw [← hp, e'] at e; cases e
    unfold solid at q
    rcases q with q | q | q | q | q | q | ⟨a, q⟩ <;> cases q
theorem tab_store {s s' : Shared} (hm2 : (259, 255) ∈ Γ.tabs) (w : Own Γ env) (ac : Act env s.heap) (T : TabGood s.heap 255 innerPos innerQ) (g : GrowL env s s') : TabGood s'.heap 255 innerPos innerQ := T.grow g (fun h => (w.tab _ hm2).2 h) fun b ob e c h => by
  obtain ⟨oL, eL, cL⟩ := ac.fr
  rw [show b = env.locals from h, eL] at e; cases e
  rw [cL] at c; exact absurd (Value.type.inj c) (by decide)
theorem GrowL.gt {s s' : Shared} (g : GrowL env s s') : GT Γ env s s' := g.weaken (fun b h => .inl h) fun _ q => q.elim
theorem LwD.of {st : Stmt} (hm2 : (259, 255) ∈ Γ.tabs) (w : Own Γ env) (x : StD Γ n env σ st σ') : LwD Γ n env σ st σ' := fun A s Q E ls k =>
  x A s Q E ls.ok ls.inv w ls.act ls.sat fun s' i' g' a' t' => k s' ⟨ls.ok.grow g', i', a', t', tab_store hm2 w ls.act ls.tab g'⟩ (GrowL.gt g')
theorem LwsD.nil : LwsD Γ n env σ [] σ := fun _ s _ _ ls k => wpAny_execs_nil (k s ls (.refl _ _ _))
theorem LwsD.cons {st : Stmt} {ss : List Stmt} (x : LwD Γ n env σ st σ') (y : LwsD Γ n env σ' ss σ'') : LwsD Γ n env σ (st :: ss) σ'' := fun A s Q E ls k =>
  wpAny_execs_cons (x A s _ E ls fun s₁ ls₁ g₁ => y A s₁ Q E ls₁ fun s₂ ls₂ g₂ => k s₂ ls₂ (g₁.trans g₂))
theorem LS.sub {s : Shared} (ls : LS Γ n env A σ s) (h : Sat env s.heap σ → Sat env s.heap σ') : LS Γ n env A σ' s := ⟨ls.ok, ls.inv, ls.act, h ls.sat, ls.tab⟩
theorem LwsD.sub {ss : List Stmt} (x : LwsD Γ n env σ ss σ') (h : ∀ h, Sat env h σ' → Sat env h σ'') : LwsD Γ n env σ ss σ'' := fun A s Q E ls k => x A s Q E ls fun s' ls' g' => k s' (ls'.sub (h _)) g'
theorem LwsD.pre {ss : List Stmt} (x : LwsD Γ n env σ' ss σ'') (h : ∀ h, Sat env h σ → Sat env h σ') : LwsD Γ n env σ ss σ'' := fun A s Q E ls k => x A s Q E (ls.sub (h _)) k
theorem LwsD.open {α : Type} {ss : List Stmt} {y : Str} {P : α → Pd} (x : ∀ a, LwsD Γ n env ((y, P a) :: σ) ss σ') : LwsD Γ n env ((y, .ex P) :: σ) ss σ' := fun A s Q E ls k => by
  obtain ⟨a, t⟩ := sat_open ls.sat
  exact x a A s Q E ⟨ls.ok, ls.inv, ls.act, t, ls.tab⟩ k
theorem LwD.if0 {t : Expr} {body : List Stmt} {pos : Pos} (x : TtD Γ n env σ t false) : LwD Γ n env σ (.If t body [] pos) σ := fun A s Q E ls k => wpAny_If (x A s _ E ls fun s' ls' g' => wpAny_execs_nil (k s' ls' g'))
theorem TtD.of {t : Expr} {b : Bool} (x : TsD Γ n env σ t b) : TtD Γ n env σ t b := fun A s Q E ls k => x A s Q E ls.ok ls.inv ls.sat fun s' i' g' => k s' ⟨ls.ok.grow g', i', ls.act.grow0 g', ls.sat.grow0 g', ls.tab.grow g' (fun w => w) fun _ _ _ _ w => w⟩ g'.of0
/-- a and b, where all of it comes out false -/
theorem TtD.and0 {e₁ e₂ : Expr} {pos : Pos} {a : Bool} (x : TtD Γ n env σ e₁ a) (y : a = true → TtD Γ n env σ e₂ false) : TtD Γ n env σ (.BoolOp .And [e₁, e₂] pos) false := fun A s Q E ls k => by
  refine wpAny_isTrue_BoolOp (wpAny_allTrue_And_cons (x A s _ E ls fun s₁ ls₁ g₁ => ?_))
  cases a with
  | false => exact k s₁ ls₁ g₁
  | true =>
    refine wpAny_allTrue_And_cons (y rfl A s₁ _ E ls₁ fun s₂ ls₂ g₂ => ?_)
    exact k s₂ ls₂ (g₁.trans g₂)

theorem LwD.for {α : Type} {items : List α} {P : α → Pd} {τ : Nat → Sto} {c : Str} {cp pos : Pos} {iter : Expr} {body : List Stmt} (w : Own Γ env) (hm2 : (259, 255) ∈ Γ.tabs) (y : EvD Γ n env (τ 0) iter (.lst (items.map P))) (hc : env.kindOf c = some .local)
    (b : ∀ i x, items[i]? = some x → LwsD Γ n env ((c, P x) :: τ i) body (τ (i + 1))) (hs : ∀ x, foldedSetIterable iter env x = pure x := by intro _; rfl) :
    LwD Γ n env (τ 0) (.For (.Name c cp) iter body [] pos) (τ items.length) := fun A s Q E ls k => by
  refine wpAny_For (y A s _ E ls.ok ls.inv ls.sat fun v s₁ i₁ g₁ ⟨a, vs, hv, hl, hr⟩ => ?_) hs
  subst hv
  refine wpAny_pyIter_list hl ?_
  have hvl : vs.length = items.length := by have := hr.length; simpa using this
  generalize hI : s₁.heap.objs.size = I
  have k0 := stays_push s₁.heap { cls := .type "list_iterator", data := .fields #[.ref a, .int 0 0] }
  have hIn : s₁.heap.get? I = none := by rw [← hI]; exact get_size _
  have hia : a ≠ I := fun e => by obtain ⟨o, e', _⟩ := hl; rw [e, hIn] at e'; cases e'
  have g₂ : Grow0 s₁ { s₁ with heap := s₁.heap.push { cls := .type "list_iterator", data := .fields #[.ref a, .int 0 0] } } := .of_stays (s' := { s₁ with heap := s₁.heap.push { cls := .type "list_iterator", data := .fields #[.ref a, .int 0 0] } }) k0 rfl
  have i₂ := i₁.stays (s' := { s₁ with heap := s₁.heap.push { cls := .type "list_iterator", data := .fields #[.ref a, .int 0 0] } }) k0 rfl rfl
  have st0 : (s₁.heap.push { cls := .type "list_iterator", data := .fields #[.ref a, .int 0 0] }).IsListIter I a 0 := ⟨_, by rw [← hI]; exact Heap.get?_push_size _ rfl, rfl, rfl⟩
  have W := Walks.list (prog := Γ.prog) (w := Γ.w) ls.ok.handled I a hia vs.toArray
  have hn : vs.toArray.size = items.length := by simp [hvl]
  rw [hn] at W
  have a₁ := ls.act.grow0 g₁
  have hLI : env.locals ≠ I := fun e => by obtain ⟨o, e', _⟩ := a₁.fr; rw [e, hIn] at e'; cases e'
  have t₁ := ls.sat.grow0 g₁
  have fw := fresh_hb (W := fun b => b = I) i₁ (fun b e => by rw [e]; exact hIn)
  have T₁ := ls.tab.grow g₁ (fun w => w) fun _ _ _ _ w => w
  have T₂ := T₁.grow g₂ (fun w => w) fun _ _ _ _ w => w
  have hl0 : (s₁.heap.push { cls := .type "list_iterator", data := .fields #[.ref a, .int 0 0] }).IsList a vs.toArray := by obtain ⟨o', e', r⟩ := hl; exact ⟨o', k0 _ _ e', r⟩
  refine codeAny_forLoop_any (fun j s' => ∃ i, LS Γ n env A (τ i) s' ∧ GT Γ env s₁ s' ∧ (s'.heap.IsListIter I a i ∧ s'.heap.IsList a vs.toArray) ∧ i ≤ items.length ∧ j = items.length + 1 - i) ?_ (items.length + 1)
    ⟨0, ⟨(ls.ok.grow g₁).grow g₂, i₂, a₁.grow0 g₂, t₁.grow0 g₂, T₂⟩, g₂.of0, ⟨st0, hl0⟩, Nat.zero_le _, rfl⟩
  rintro j s' ⟨i', ls₃, g₃, st₃, hle, rfl⟩
  have but : ∀ {h₂ : Heap} {tk₂ : Nat}, (∀ b o, ¬ b = I → s'.heap.get? b = some o → h₂.get? b = some o) → LS Γ n env A (τ i') { s' with heap := h₂, toks := tk₂ } ∧ GT Γ env s₁ { s' with heap := h₂, toks := tk₂ } := fun {h₂ tk₂} k₂ => by
    have g₄ : GT Γ env s₁ { s' with heap := h₂, toks := tk₂ } := Grow.but (W := fun b => b = I) g₃ (fun b e => by rw [e]; exact hIn) k₂
    have ok₄ : Ok Γ n A h₂ := (ls.ok.grow g₁).grow g₄
    obtain ⟨oI, eI, cI, _⟩ := id st₃.1
    refine ⟨⟨ok₄, ls₃.inv.but (W := fun b => b = I) fw.1 fw.2 k₂, ?_, ?_, ?_⟩, g₄⟩
    · obtain ⟨⟨m, nn⟩, o, e, c⟩ := ls₃.act
      exact ⟨⟨m, nn.at' fun o e => k₂ _ o hLI e⟩, o, k₂ _ o hLI e, c⟩
    · exact fun x R hx => by
        obtain ⟨v, l, q⟩ := ls₃.sat x R hx
        have md : Md s'.heap h₂ := fun b o e sl => k₂ b o (fun hb => by rw [hb, eI] at e; cases e; exact not_solid cI (by decide) sl) e
        refine ⟨v, ?_, R.mono md q⟩
        rcases l with ⟨kk, m, nn, e⟩ | ⟨kk, c, e, q⟩
        · exact .inl ⟨kk, m, nn.at' fun o e => k₂ _ o hLI e, e⟩
        · exact .inr ⟨kk, c, e, q.md md⟩
    · obtain ⟨ps, eP, hh⟩ := ls₃.tab
      refine ⟨ps, k₂ _ _ (fun hb => by rw [hb, eI] at eP; cases eP; cases cI) eP, fun v hv => ?_⟩
      obtain ⟨c, o, vs, t, e1, e2, e3, r⟩ := hh v hv
      refine ⟨c, o, vs, t, e1, k₂ _ _ (fun hb => ?_) e2, e3, r⟩
      rw [hb, eI] at e2; cases e2
      rw [cI] at e3; exact absurd (Value.type.inj e3) (by decide)
  have kw : ∀ {h₂ : Heap}, (∀ b o, b ∉ [I] → s'.heap.get? b = some o → h₂.get? b = some o) → ∀ b o, ¬ b = I → s'.heap.get? b = some o → h₂.get? b = some o := fun k₂ b o hb e => k₂ b o (by simpa using hb) e
  by_cases hlt : i' < items.length
  · refine W.item i' _ _ _ hlt st₃ fun v h₂ tk₂ hPv st₄ k₂ => ?_
    have hv' : vs[i']? = some v := by simpa using hPv
    obtain ⟨u, eu, pv⟩ := hr.get (i := i') (P := P items[i']) (by rw [List.getElem?_map, List.getElem?_eq_getElem hlt]; rfl)
    rw [hv'] at eu; cases eu
    obtain ⟨ls₄, g₄⟩ := but (tk₂ := tk₂) (kw k₂)
    show wpAny Γ.M A (pure ()) _ _ _
    refine wpAny_pure ?_
    have md : Md s₁.heap h₂ := gt_md i₁ a₁ g₄
    refine wpAny_assign_Name (store_at (s := { s' with heap := h₂, toks := tk₂ }) (P := P items[i']) w.ok w.new hc ls₄.act ls₄.inv w.tab ls₄.sat ((P _).mono md pv) fun s₅ i₅ g₅ a₅ t₅ => ?_)
    refine b i' items[i'] (List.getElem?_eq_getElem hlt) A s₅ _ _ ⟨ls₄.ok.grow g₅, i₅, a₅, t₅, tab_store hm2 w ls₄.act ls₄.tab g₅⟩ fun s₆ ls₆ g₆ => ?_
    have gg := (GrowL.gt (Γ := Γ) g₅).trans g₆
    have keepO : ∀ b o, h₂.get? b = some o → (o.cls = .type "list_iterator" ∨ o.cls = .type "list") → s₆.heap.get? b = some o := fun b o e hcl => gg.get e (fun q => by
      rcases q with q | ⟨p, mp, hp⟩
      · obtain ⟨o', e', c'⟩ := ls₄.act.fr
        have e'' : h₂.get? env.locals = some o' := e'
        rw [q, e''] at e; cases e
        rcases hcl with h | h <;> (rw [c'] at h; exact absurd (Value.type.inj h) (by decide))
      · obtain ⟨ps, _, _, eT⟩ := ls₄.inv.tabs p mp
        have eT' : h₂.get? p.2 = _ := eT
        rw [← hp, eT'] at e; cases e
        rcases hcl with h | h <;> cases h) (by rcases hcl with h | h <;> (rw [h]; decide))
    refine ⟨items.length + 1 - (i' + 1), by omega, i' + 1, ls₆, g₄.trans gg, ⟨?_, ?_⟩, hlt, rfl⟩
    · obtain ⟨o, e, c, d⟩ := st₄.1; exact ⟨o, keepO _ _ e (.inl c), c, d⟩
    · obtain ⟨o, e, c, d⟩ := st₄.2; exact ⟨o, keepO _ _ e (.inr c), c, d⟩
  · have hin : i' = items.length := by omega
    subst hin
    refine W.done _ _ _ st₃ fun h₂ tk₂ k₂ => ?_
    refine wpAny_execs_nil ?_
    obtain ⟨ls₄, g₄⟩ := but (tk₂ := tk₂) (kw k₂)
    exact k _ ls₄ (g₁.of0.trans g₄)
end

-- Ij
open PySem PySem.W PyProof.Rows PySem.Calls PySem.SeqAt
set_option Elab.async false
set_option maxRecDepth 100000
set_option linter.unusedVariables false
set_option linter.unusedSimpArgs false
set_option maxHeartbeats 400000

noncomputable def Pd.lstIn (b : Addr) (vs : List Value) (fs : List Fld) : Pd := ⟨fun h v => v = .ref b ∧ h.IsList b vs.toArray ∧ All2 h (fs.map fld) vs, by
  intro h h' v m ⟨e, l, r⟩; exact ⟨e, isList_md m l, r.mono m⟩⟩
theorem fld_refs {h : Heap} : ∀ {fs : List Fld} {vs : List Value}, All2 h (fs.map fld) vs → ∀ v ∈ vs, ∃ a, v = .ref a
  | [], [], _, v, hv => by cases hv
  | f :: fs, w :: vs, ⟨⟨a, _, e, _⟩, r⟩, v, hv => by
    rcases List.mem_cons.mp hv with rfl | hv
    · exact ⟨a, e⟩
    · exact fld_refs r v hv
theorem all2_eq {h : Heap} : ∀ vs : List Value, All2 h (vs.map Pd.eq) vs
  | [] => trivial
  | v :: vs => ⟨rfl, all2_eq vs⟩
section
variable {Γ : Cx} {n : Nat} {env : Env} {σ σ' : Sto}
theorem same_lists {A : Around} {s : Shared} {S b : Addr} {vs : List Value} {fs : List Fld} {Q E : Value → Shared → Prop} (o : Ok Γ n A s.heap) (i : Inv Γ s) (h1 : s.heap.IsList S vs.toArray) (h2 : s.heap.IsList b vs.toArray) (ha : All2 s.heap (fs.map fld) vs) (h : ∀ s', Inv Γ s' → Grow0 s s' → Q (.bool false) s') :
    wpAny Γ.M A (compareOp .NotEq (.ref S) (.ref b)) Q E s := by
  refine op_ne_list (Γ := Γ) (n := n) (ps := vs.map Pd.eq) (qs := vs.map Pd.eq) (e := fun _ => true) (fun j P R hP hR => ?_) (r := false) (by simp) A s _ _ Q E o i ⟨S, vs, rfl, h1, all2_eq vs⟩ ⟨b, vs, rfl, h2, all2_eq vs⟩ fun v s' i' g' q => ?_
  · rw [hP] at hR; cases hR
    rw [List.getElem?_map] at hP
    cases hj : vs[j]? with
    | none => rw [hj] at hP; cases hP
    | some v =>
      rw [hj] at hP; cases hP
      obtain ⟨a, rfl⟩ := fld_refs ha v (List.mem_of_getElem? hj)
      exact eqPd_ref
  · cases (show v = .bool false from q)
    exact h s' i' g'
theorem LS.told {A : Around} {s s' : Shared} (hw : Own Γ env) (ls : LS Γ n env A σ s) (i : Inv Γ s') (g : Grow (TabW Γ) anyG s s') (T : TabGood s'.heap 255 innerPos innerQ) : LS Γ n env A σ s' := by
  have nL : ¬ TabW Γ env.locals := fun ⟨q, mq, e⟩ => (hw.tab q mq).2 e
  have md : Md s.heap s'.heap := gt_md (env := env) ls.inv ls.act (g.weaken (fun b w => .inr w) fun _ q => q)
  refine ⟨ls.ok.grow g, i, ls.act.grow g nL, fun x P hx => ?_, T⟩
  obtain ⟨v, l, q⟩ := ls.sat x P hx
  exact ⟨v, l.grow g md nL, P.mono md q⟩
theorem LS.g0 {A : Around} {s s' : Shared} (ls : LS Γ n env A σ s) (i : Inv Γ s') (g : Grow0 s s') : LS Γ n env A σ s' := ⟨ls.ok.grow g, i, ls.act.grow0 g, ls.sat.grow0 g, ls.tab.grow g (fun w => w) fun _ _ _ _ w => w⟩

theorem told_tt {P : Addr} {fs : List Fld} {cl tr rs pu : Bool} {m : Nat} {np p1 p2 cp pos : Pos} {re : Expr} (hw : Own Γ env) (hm : (252, P) ∈ Γ.tabs) (hm2 : (259, 255) ∈ Γ.tabs) (he : EnvOk env) (kx : env.kindOf "_law_told" = some .globalImplicit) (hf : nsIn Γ.Kf mainGlobals "_law_told" = some (some (.ref 339))) (hk : keepIn Γ.Kf (.ref 339) = true)
    (lb : σ.lookup ("block" : Str) = some (blk fs)) (lf : σ.lookup ("flags" : Str) = some (Pd.flags cl tr rs pu)) (hz : Sz 1000 fs)
    (rhs : ∀ b vs, EvD Γ (m + 14) env (("block", .lstIn b vs fs) :: σ) re (if accB tr rs fs = true then .lstIn b vs fs else .none)) (hb : behindInMarks .NotEq re = false := by rfl) :
    TtD Γ (m + 14) env σ (.Compare (.Call (.Name "_law_told" np) [.Name "block" p1, .Name "flags" p2] [] cp) [.NotEq] [re] pos) false := fun A s Q E ls k => by
  obtain ⟨v, lv, b, vs, rfl, hl, ha⟩ := ls.sat "block" _ lb
  obtain ⟨vf, lvf, fa, kf, d, od, rfl, hfa, hd, hdc⟩ := ls.sat "flags" _ lf
  have t2 : Sat env s.heap [("block", .eq (.ref b)), ("flags", .eq (.ref fa))] := fun x R hx => by
    have hm := mem_of_lookup hx
    simp only [List.mem_cons, List.not_mem_nil, or_false, Prod.mk.injEq] at hm
    rcases hm with ⟨rfl, rfl⟩ | ⟨rfl, rfl⟩
    · exact ⟨_, lv, rfl⟩
    · exact ⟨_, lvf, rfl⟩
  have ls' : LS Γ (m + 14) env A (("block", .lstIn b vs fs) :: σ) s := ls.sub fun t x R hx => by
    by_cases h : x = "block"
    · subst h; rw [lookup_cons_eq] at hx; cases hx; exact ⟨_, lv, rfl, hl, ha⟩
    · rw [lookup_cons_ne h] at hx; exact t x R hx
  refine wpAny_isTrue_Compare1 (ev_call (n := m + 14) (Ps := [.eq (.ref b), .eq (.ref fa)]) he kx hf hk (ArgsD.cons (EvD.name he rfl) (ArgsD.cons (EvD.name he rfl) ArgsD.nil)) ls.ok ls.inv t2 fun ws s₁ i₁ g₁ q₁ => ?_) hb
  obtain ⟨v₁, v₂, rfl, hv₁, hv₂⟩ := q₁.two
  cases (show v₁ = .ref b from hv₁); cases (show v₂ = .ref fa from hv₂)
  have ls₁ := ls'.g0 i₁ g₁
  have md₁ := g₁.md0
  refine told_x hm hm2 (m := m) ls₁.ok i₁ (isList_md md₁ hl) (ha.mono md₁) hz (md₁ _ _ hfa (.inr (.inr (.inr (.inr (.inr (.inr ⟨182, rfl⟩))))))) (md₁ _ _ hd (.inr (.inr (.inr (.inr (.inl hdc)))))) hdc ls₁.tab fun v s₂ i₂ g₂ T₂ h1 h2 => ?_
  have ls₂ := ls₁.told hw i₂ g₂ T₂
  refine rhs b vs A s₂ _ E ls₂.ok i₂ ls₂.sat fun w s₃ i₃ g₃ hw' => ?_
  have ls₃ := ls₂.g0 i₃ g₃
  have G3 : GT Γ env s s₃ := (g₁.of0.trans (g₂.weaken (fun b w => .inr w) fun _ q => q)).trans g₃.of0
  have lsF : ∀ {s₄ : Shared}, LS Γ (m + 14) env A (("block", .lstIn b vs fs) :: σ) s₄ → LS Γ (m + 14) env A σ s₄ := fun l => l.sub fun t x R hx => by
    by_cases h : x = "block"
    · subst h
      rw [lb] at hx; cases hx
      obtain ⟨u, lu, e, l1, l2⟩ := t "block" _ lookup_cons_eq
      exact ⟨u, lu, b, vs, e, l1, l2⟩
    · exact t x R (by rw [lookup_cons_ne h]; exact hx)
  cases hacc : accB tr rs fs with
  | true =>
    rw [hacc, if_pos rfl] at hw'
    obtain ⟨rfl, hl₃, ha₃⟩ := hw'
    obtain ⟨S, rfl, hS⟩ := h1 hacc
    refine same_lists ls₃.ok i₃ (isList_md g₃.md0 hS) hl₃ ha₃ fun s₄ i₄ g₄ => ?_
    exact wpAny_truthy_bool (k s₄ (lsF (ls₃.g0 i₄ g₄)) (G3.trans g₄.of0))
  | false =>
    rw [hacc, if_neg Bool.false_ne_true] at hw'
    cases (show w = .none from hw')
    have := h2 hacc
    subst this
    exact EqNone.ne_none_none (wpAny_truthy_bool (k s₃ (lsF ls₃) G3))
end

-- Ik
open PySem PySem.W PyProof.Rows PySem.Calls PySem.SeqAt
set_option Elab.async false
set_option maxRecDepth 100000
set_option linter.unusedVariables false
set_option linter.unusedSimpArgs false
set_option maxHeartbeats 400000

noncomputable abbrev blocksL : List (List Fld) := [
  [(bMethod, [71, 69, 84]), (bScheme, [104, 116, 116, 112, 115]), (bPath, [47]), (bAuth, [97, 46, 98]), (bTe, bTrailers)],
  [(bStatus, [50, 48, 48]), ([115, 101, 114, 118, 101, 114], [120])],
  [([115, 117, 109], [97, 32, 98]), ([120], [])],
  [(bMethod, [71, 69, 84]), (bScheme, [104, 116, 116, 112]), (bPath, [47, 112]), (bHost, [97, 46, 98])],
  [(bMethod, bCONNECT), (bAuth, [97, 46, 98])],
  [(bMethod, bCONNECT), (bProto, [119, 115]), (bScheme, [104, 116, 116, 112]), (bPath, [47]), (bAuth, [97, 46, 98])]]
theorem blocks_sz : ∀ fs ∈ blocksL, fs.length ≤ 9 ∧ ∀ f ∈ fs, f.1.length ≤ 20 ∧ f.2.length ≤ 20 := by decide
section
variable {Γ : Cx} {n : Nat} {env : Env} {σ σ' : Sto}
theorem EvD.callC {x : Str} {np pos : Pos} {f : Addr} {e : Expr} {es : List Expr} {Ps : List Pd} {R : Pd} (he : EnvOk env) (hx : env.kindOf x = some .globalImplicit) (hf : nsIn Γ.Kf mainGlobals x = some (some (.ref f))) (hk : keepIn Γ.Kf (.ref f) = true)
    (a : ArgsD Γ n env σ (e :: es) Ps) (h : CaD Γ n (.ref f) Ps R) (hd : (x == ("__debug__" : Str)) = false := by decide) (hse : plainE e = true := by rfl) (hplain : es.all plainE = true := by rfl) : EvD Γ n env σ (.Call (.Name x np) (e :: es) [] pos) R := fun A s Q E o i t p => by
  show wpAny Γ.M A (do callWith pos (← eval (.Name x np) env) [] (backTo pos (starEach (e :: es) env)) []) Q E s
  refine wpAny_bind (EvD.global (Γ := Γ) (n := n) (σ := σ) he hx (keepGlob hf) hd A s _ E o i t fun v s₁ i₁ g₁ q₁ => ?_)
  cases (show v = .ref f from q₁)
  refine callWith_K i₁.K hk ?_ (starEach_cons e es env hse) (star_plain pos env es hplain)
  refine a A s₁ pos _ E (o.grow g₁) i₁ (t.grow0 g₁) fun vs s₂ i₂ g₂ q₂ => ⟨i₂.K, ?_⟩
  exact h A s₂ vs Q E ((o.grow g₁).grow g₂) i₂ q₂ (p.grow (g₁.trans g₂))
theorem lst_at {K : Frag} {h : Heap} {a : Addr} {od : Option Addr} {sl : Array (Option Value)} {xs : Array Value} {k : Nat} (X : K.In h) (e : K.lookup a = some ⟨.type "list", od, .seq xs k, sl⟩) : h.IsList a xs := ⟨_, X _ _ e, rfl, k, rfl⟩
theorem tup_at {K : Frag} {h : Heap} {a : Addr} {od : Option Addr} {sl : Array (Option Value)} {xs : Array Value} {k : Nat} (X : K.In h) (e : K.lookup a = some ⟨.type "tuple", od, .seq xs k, sl⟩) : IsTup h a xs := ⟨_, X _ _ e, rfl, k, rfl⟩
theorem fld_at {K : Frag} {h : Heap} {a : Addr} {od : Option Addr} {sl : Array (Option Value)} {xs : Array Value} {k : Nat} {f : Fld} {t1 t2 : Tok} (X : K.In h) (e : K.lookup a = some ⟨.type "tuple", od, .seq xs k, sl⟩) (hx : xs = #[.bytes f.1.toArray t1, .bytes f.2.toArray t2]) : (fld f).p h (.ref a) := by
  subst hx
  exact ⟨a, [_, _], rfl, tup_at X e, ⟨t1, rfl⟩, ⟨t2, rfl⟩, trivial⟩
theorem blk_at {K : Frag} {h : Heap} {a : Addr} {od : Option Addr} {sl : Array (Option Value)} {xs : Array Value} {k : Nat} {vs : List Value} {fs : List Fld} (X : K.In h) (e : K.lookup a = some ⟨.type "list", od, .seq xs k, sl⟩) (hx : xs = vs.toArray) (ha : All2 h (fs.map fld) vs) : (blk fs).p h (.ref a) := by
  subst hx
  exact ⟨a, vs, rfl, lst_at X e, ha⟩
local macro_rules | `(tactic| walk_at "m fd") => `(tactic| (refine' fld_at (by assumption) ?e ?hx; (case e => (show (KF (Cx.w _).params).lookup _ = _; k_is)); (case hx => rfl)))
theorem blocks_e {pos : Pos} (he : EnvOk env) (hx : env.kindOf "_law_blocks" = some .globalImplicit) : EvD Γ n env σ (.Name "_law_blocks" pos) (.lst (blocksL.map blk)) := fun A s Q E o i t p => by
  refine' EvD.global (Γ := Γ) (n := n) (σ := σ) (v := .ref 287) he hx (keepGlob ?g) (by decide) A s _ E o i t fun v s₁ i₁ g₁ q₁ => ?_
  case g => walk_at "m glob"
  cases (show v = .ref 287 from q₁)
  refine p _ s₁ i₁ g₁ ?_
  have X := i₁.K
  refine' ⟨287, [.ref 266, .ref 269, .ref 272, .ref 277, .ref 280, .ref 286], rfl, lst_at X ?l, ?b0, ?b1, ?b2, ?b3, ?b4, ?b5, trivial⟩
  case l => walk_at "m look"
  case b0 =>
    refine' blk_at (vs := [.ref 261, .ref 262, .ref 263, .ref 264, .ref 265]) X ?e0 rfl ⟨?f0x0, ?f0x1, ?f0x2, ?f0x3, ?f0x4, trivial⟩
    case e0 => walk_at "m look"
    all_goals walk_at "m fd"
  case b1 =>
    refine' blk_at (vs := [.ref 267, .ref 268]) X ?e1 rfl ⟨?f1x0, ?f1x1, trivial⟩
    case e1 => walk_at "m look"
    all_goals walk_at "m fd"
  case b2 =>
    refine' blk_at (vs := [.ref 270, .ref 271]) X ?e2 rfl ⟨?f2x0, ?f2x1, trivial⟩
    case e2 => walk_at "m look"
    all_goals walk_at "m fd"
  case b3 =>
    refine' blk_at (vs := [.ref 273, .ref 274, .ref 275, .ref 276]) X ?e3 rfl ⟨?f3x0, ?f3x1, ?f3x2, ?f3x3, trivial⟩
    case e3 => walk_at "m look"
    all_goals walk_at "m fd"
  case b4 =>
    refine' blk_at (vs := [.ref 278, .ref 279]) X ?e4 rfl ⟨?f4x0, ?f4x1, trivial⟩
    case e4 => walk_at "m look"
    all_goals walk_at "m fd"
  case b5 =>
    refine' blk_at (vs := [.ref 281, .ref 282, .ref 283, .ref 284, .ref 285]) X ?e5 rfl ⟨?f5x0, ?f5x1, ?f5x2, ?f5x3, ?f5x4, trivial⟩
    case e5 => walk_at "m look"
    all_goals walk_at "m fd"
end

-- Il
open PySem PySem.W PyProof.Rows PySem.Calls PySem.SeqAt
set_option Elab.async false
set_option maxRecDepth 100000
set_option linter.unusedVariables false
set_option linter.unusedSimpArgs false
set_option maxHeartbeats 400000

/-- what the plain law says -/
noncomputable def Plain : Prop := ∀ (fs : List Fld) (kind : Int) (g : Bool), 0 ≤ kind → kind < 6 → goodB fs kind = some g → accB (kind == 2) (kind == 1) fs = g
theorem init_acc : ∀ k : Fin 6, accB (((k.val : Nat) : Int) == 2) (((k.val : Nat) : Int) == 1) (blocksL.getD k.val []) = true := by decide
noncomputable abbrev lawS (kind st : Int) (cl : Bool) (B : Nat) (sp : Pd) : Sto := [("block", blkS B), ("flags", .flags cl (kind == 2) (kind == 1) (kind == 3)), ("kind", .int kind), ("start", .int st), ("script", sp)]

theorem sat_close {α : Type} {env : Env} {h : Heap} {σ : Sto} {x : Str} {P : α → Pd} (a : α) (t : Sat env h σ) (hx : σ.lookup x = some (P a)) : Sat env h ((x, .ex P) :: σ) := fun z R hz => by
  by_cases e : z = x
  · subst e; rw [lookup_cons_eq] at hz; cases hz
    obtain ⟨v, l, q⟩ := t _ _ hx
    exact ⟨v, l, a, q⟩
  · rw [lookup_cons_ne e] at hz; exact t z R hz
theorem law_x (PL : Plain) {Γ : Cx} {P : Addr} (hm : (252, P) ∈ Γ.tabs) (hm2 : (259, 255) ∈ Γ.tabs) {m : Nat} {A : Around} {s : Shared} {sv : Value} {ns : List Int} {Rr : Result → Shared → Prop} (o : Ok Γ (m + 15) A s.heap) (i : Inv Γ s) (hT : TabGood s.heap 255 innerPos innerQ)
    (hs : (Pd.lst (ns.map Pd.int)).p s.heap sv) (hn : ns.length ≤ 63) (h : ∀ s', Inv Γ s' → Grow (TabW Γ) anyG s s' → Rr (.ok (.ret (.bool true))) s') : codeAny Γ.M A (.call (.ref 346) ⟨[sv], []⟩) Rr s := by
  refine' fn_enter (n := m + 14) (names := ["script"]) (Ps := [.lst (ns.map Pd.int)]) ?hK ?hb ?hcode ?hbind ?hnd ?hlen ?hloc ?hcell ?hcl ?hgl ?hbl ?hco ?hgen ?hk o i ⟨hs, trivial⟩ ?h
  walk_at "m gen"
  case' h => intro L z hL g₁ o₁ i₁ own a₁ t₁
  dsimp only [List.zip, List.zipWith] at t₁
  have hTz : TabGood z.heap 255 innerPos innerQ := hT.grow g₁ (fun w => w) fun _ _ _ _ w => w
  have ls : LS Γ (m + 14) _ _ _ z := ⟨o₁, i₁, a₁, t₁, hTz⟩
  have hsl : (ns.map Pd.int).length = ns.length := List.length_map ..
  generalize hst : ns.headD 0 = st
  have hk0 : 0 ≤ st.fmod 6 := Int.fmod_nonneg_of_pos _ (by decide)
  have hk6 : st.fmod 6 < 6 := Int.fmod_lt_of_pos _ (by decide)
  have w := own.own
  -- start
  refine wpAny_execs_cons (LwD.of hm2 w (StD.assign (P := .int st) (EvD.ite (b := _) (TsD.val (by walk_at "m nm") (Tru.lst (by omega))) (fun hne => ?_) (fun hne => ?_)) rfl) _ z _ _ ls fun s₂ ls₂ g₂ => ?_)
  · refine EvD.item (by walk_at "m nm") EvD.cint (sub_list (P := .int st) (by decide) (by omega) ?_)
    cases ns with
    | nil => simp at hne
    | cons a r => rw [← hst]; rfl
  · cases ns with
    | nil => rw [← hst]; exact EvD.cint
    | cons a r => simp at hne
  -- kind
  refine wpAny_execs_cons (LwD.of hm2 w (StD.assign (P := .int (st.fmod 6)) (EvD.binop (by walk_at "m nm") EvD.cint (op_mod (by decide))) rfl) _ s₂ _ _ ls₂ fun s₃ ls₃ g₃ => ?_)
  generalize st.fmod 6 = kind at hk0 hk6 ls₃
  -- flags
  generalize hcl : ((st.fdiv 6).fmod 2 == 1) = cl
  refine wpAny_execs_cons (LwD.of hm2 w (StD.assign (P := .flags cl (kind == 2) (kind == 1) (kind == 3)) (EvD.callC (f := 182) ⟨rfl, rfl, rfl⟩ rfl (by walk_at "m glob") (by walk_at "m keep") (ArgsD.cons (P := .bool cl) ?_ (ArgsD.cons (EvD.compare (by walk_at "m nm") EvD.cint op_eq_int) (ArgsD.cons (EvD.compare (by walk_at "m nm") EvD.cint op_eq_int) (ArgsD.cons (EvD.compare (by walk_at "m nm") EvD.cint op_eq_int) ArgsD.nil)))) flags_d) rfl) _ s₃ _ _ ls₃ fun s₄ ls₄ g₄ => ?_)
  · rw [← hcl]
    exact EvD.compare (EvD.binop (EvD.binop (by walk_at "m nm") EvD.cint (op_fdiv (by decide) (by decide))) EvD.cint (op_mod (by decide))) EvD.cint op_eq_int
  -- block
  have hmem : kind.toNat < 6 := by omega
  have hp : blocksL[kind.toNat]? = some (blocksL.getD kind.toNat []) := by
    generalize kind.toNat = k at hmem
    match k, hmem with
    | 0, _ => rfl
    | 1, _ => rfl
    | 2, _ => rfl
    | 3, _ => rfl
    | 4, _ => rfl
    | 5, _ => rfl
  have hz0 : Sz 20 (blocksL.getD kind.toNat []) := blocks_sz _ (List.mem_of_getElem? hp)
  have hacc := init_acc ⟨kind.toNat, hmem⟩
  simp only [Int.toNat_of_nonneg hk0] at hacc
  generalize blocksL.getD kind.toNat [] = f0 at hp hz0 hacc
  refine wpAny_execs_cons (LwD.of hm2 w (StD.assign (P := blk f0) (EvD.item (blocks_e ⟨rfl, rfl, rfl⟩ rfl) (by walk_at "m nm") (sub_list hk0 (by decide) (by rw [List.getElem?_map, hp]; rfl))) rfl) _ s₄ _ _ ls₄ fun s₅ ls₅ g₅ => ?_)
  -- first test
  refine wpAny_execs_cons (LwD.if0 (told_tt (m := m) w hm hm2 ⟨rfl, rfl, rfl⟩ rfl (by walk_at "m glob") (by walk_at "m keep") (by rfl) (by rfl) (hz0.mono (by decide)) fun b vs => by rw [if_pos hacc]; walk_at "m nm") _ s₅ _ _ ls₅ fun s₆ ls₆ g₆ => ?_)
  -- the loop
  obtain ⟨it, hit, hil⟩ : ∃ it : List Int, (((ns.map Pd.int).drop ((some (1 : Int)).elim 0 (clipAt (ns.map Pd.int).length))).take ((some (6 : Int)).elim (ns.map Pd.int).length (clipAt (ns.map Pd.int).length) - (some (1 : Int)).elim 0 (clipAt (ns.map Pd.int).length))) = it.map Pd.int ∧ it.length ≤ 63 := by
    refine ⟨(ns.drop ((some (1 : Int)).elim 0 (clipAt (ns.map Pd.int).length))).take ((some (6 : Int)).elim (ns.map Pd.int).length (clipAt (ns.map Pd.int).length) - (some (1 : Int)).elim 0 (clipAt (ns.map Pd.int).length)), by rw [List.map_take, List.map_drop], ?_⟩
    rw [List.length_take, List.length_drop]
    omega
  refine wpAny_execs_cons (LwD.for (α := Int) (items := it) (P := Pd.int) (τ := fun j => lawS kind st cl (20 + j) (.lst (ns.map Pd.int))) w hm2 (EvD.slice (P := .lst (ns.map Pd.int)) (by walk_at "m nm") (.some (i := 1) EvD.cint) (.some (i := 6) EvD.cint) (slice_list (by omega) hit.symm)) rfl (fun j x hx => ?body) (fun x => by intros; rfl) _ s₆ _ _ (ls₆.sub fun t => ?ent) fun s₇ ls₇ g₇ => ?_)
  case ent =>
    refine sat_sel (sat_close (x := "block") (P := fun x : { fs // Sz (20 + 0) fs } => blk x.1) ⟨f0, hz0⟩ t rfl) fun q hq => ?_
    simp only [List.mem_cons, List.not_mem_nil, or_false] at hq
    rcases hq with rfl | rfl | rfl | rfl | rfl <;> rfl
  case body =>
    have hj : j < it.length := (List.getElem?_eq_some_iff.mp hx).1
    refine LwsD.pre (σ' := ("block", blkS (20 + j)) :: ("drawn", .int x) :: lawS kind st cl (20 + j) (.lst (ns.map Pd.int))) (LwsD.open fun ⟨f1, hz1⟩ => ?_) fun h t => sat_sel t fun q hq => ?_
    · dsimp only
      refine LwsD.cons (LwD.of hm2 w (StD.assign (P := blkS (20 + j + 1)) (EvD.call ⟨rfl, rfl, rfl⟩ rfl (by walk_at "m glob") (by walk_at "m keep") (ArgsD.cons (by walk_at "m nm") (ArgsD.cons (by walk_at "m nm") ArgsD.nil)) ((changed_t hz1 (by omega) (by omega)).le (by omega))) rfl)) (LwsD.open fun ⟨f2, hz2⟩ => ?_)
      dsimp only
      refine LwsD.cons (LwD.of hm2 w (StD.assign (P := optPd (goodB f2 kind)) (EvD.call ⟨rfl, rfl, rfl⟩ rfl (by walk_at "m glob") (by walk_at "m keep") (ArgsD.cons (by walk_at "m nm") (ArgsD.cons (by walk_at "m nm") ArgsD.nil)) ((good_t hz2 (by omega)).le (by omega))) rfl)) ?_
      refine LwsD.cons (LwD.if0 (TtD.and0 (a := (goodB f2 kind).isSome) (TtD.of (TsD.cmp (by walk_at "m nm") EvD.cnone (op_isnot fun h v q => ?_))) fun hso => ?_)) (LwsD.sub LwsD.nil fun h t => ?_)
      · cases hg : goodB f2 kind with
        | none => rw [hg] at q; cases (show v = .none from q); rfl
        | some g => rw [hg] at q; cases (show v = .bool g from q); rfl
      · obtain ⟨g, hg⟩ := Option.isSome_iff_exists.mp hso
        have hpl := PL f2 kind g hk0 hk6 hg
        rw [hg]
        refine told_tt (m := m) w hm hm2 ⟨rfl, rfl, rfl⟩ rfl (by walk_at "m glob") (by walk_at "m keep") (by rfl) (by rfl) (hz2.mono (by omega)) fun b vs => ?_
        rw [hpl]
        refine EvD.ite (r := g) (TsD.val (P := .bool g) (by walk_at "m nm") Tru.bool) (fun hg => ?_) fun hg => ?_
        · rw [if_pos hg]; walk_at "m nm"
        · rw [hg, if_neg Bool.false_ne_true]; exact EvD.cnone
      · refine sat_sel (sat_close (x := "block") (P := fun x : { fs // Sz (20 + (j + 1)) fs } => blk x.1) ⟨f2, hz2⟩ t rfl) fun q hq => ?_
        simp only [List.mem_cons, List.not_mem_nil, or_false] at hq
        rcases hq with rfl | rfl | rfl | rfl | rfl <;> rfl
    · simp only [List.mem_cons, List.not_mem_nil, or_false] at hq
      rcases hq with rfl | rfl | rfl | rfl | rfl | rfl | rfl <;> rfl
  refine wpAny_execs_cons (wpAny_Return_some (wpAny_Constant_bool ?_))
  refine h _ ls₇.inv ?_
  have G := (((((g₁.of0 (W := fun b => b = (callEnv _ L 346).locals ∨ TabW Γ b) (G := anyG)).trans g₂).trans g₃).trans g₄).trans g₅).trans (g₆.trans g₇)
  refine G.drop fun b ob e hb => hb.resolve_left fun q => ?_
  rw [show b = L from q, hL] at e
  cases e

-- Im
open PySem PySem.W PyProof.Rows PySem.Calls PySem.SeqAt
set_option Elab.async false
set_option maxRecDepth 100000
set_option linter.unusedVariables false
set_option linter.unusedSimpArgs false
set_option maxHeartbeats 400000

theorem snoc_ind {α : Type} {P : List α → Prop} (h0 : P []) (h1 : ∀ l a, P l → P (l ++ [a])) (l : List α) : P l := by
  rw [← List.reverse_reverse l]
  induction l.reverse with
  | nil => exact h0
  | cons a r ih => rw [List.reverse_cons]; exact h1 _ _ ih
noncomputable def endOf {χ : Type} (step : χ → Fld → Option χ) (x : χ) (fs : List Fld) : Option χ := fs.foldl (fun o f => o.bind fun x => step x f) (some x)
theorem endOf_snoc {χ : Type} (step : χ → Fld → Option χ) (x : χ) (fs : List Fld) (f : Fld) : endOf step x (fs ++ [f]) = (endOf step x fs).bind fun x => step x f := by
  unfold endOf; rw [List.foldl_append]; rfl
theorem end_none {χ : Type} (step : χ → Fld → Option χ) : ∀ fs : List Fld, fs.foldl (fun (o : Option χ) f => o.bind fun x => step x f) none = none
  | [] => rfl
  | _ :: fs => end_none step fs
theorem passes_end {χ : Type} (step : χ → Fld → Option χ) (epi : χ → Bool) : ∀ (fs : List Fld) (x : χ), passes step epi x fs = ((endOf step x fs).map epi).getD false
  | [], x => rfl
  | f :: fs, x => by
    unfold passes endOf
    rw [List.foldl_cons]
    show _ = ((fs.foldl _ (step x f)).map epi).getD false
    cases h : step x f with
    | none => rw [end_none]; rfl
    | some y => exact passes_end step epi fs y
theorem passes_all (p : Fld → Bool) (step : Unit → Fld → Option Unit) (h : ∀ f, step () f = if p f then some () else none) : ∀ fs : List Fld, passes step eT () fs = fs.all p
  | [] => rfl
  | f :: fs => by
    unfold passes
    rw [h]
    cases hp : p f with
    | true => rw [List.all_cons, hp]; exact passes_all p step h fs
    | false => rw [List.all_cons, hp]; rfl
-- one field
theorem char_eq (c : UInt8) : okN c = !badC c := by
  unfold okN upC outC badC
  have := c.toNat_lt
  rw [Bool.eq_iff_iff]
  simp
  omega
theorem all_okN (b : Bs) : b.all okN = (b.filter badC).isEmpty := by
  rw [Bool.eq_iff_iff, List.all_eq_true, List.isEmpty_iff, List.filter_eq_nil_iff]
  exact forall_congr' fun c => forall_congr' fun _ => by rw [char_eq]; simp
theorem colon_eq (b : Bs) : hasColon b = !((List.range (b.length - 1)).filter (colonAt b)).isEmpty := by
  rw [Bool.eq_iff_iff]
  unfold hasColon
  rw [List.any_eq_true, Bool.not_eq_true', ← Bool.not_eq_true, List.isEmpty_iff, List.filter_eq_nil_iff]
  simp only [List.mem_range, colonAt]
  constructor
  · rintro ⟨c, hc, he⟩ hall
    obtain ⟨i, hi, rfl⟩ := List.mem_iff_getElem.mp hc
    rw [List.length_drop] at hi
    refine hall i hi ?_
    rw [List.getElem_drop] at he
    rw [List.getD_eq_getElem?_getD, List.getElem?_eq_getElem (by omega), Option.getD_some]
    rw [beq_iff_eq] at he
    rw [he]; decide
  · intro h
    refine Classical.byContradiction fun hn => h fun i hi hb => hn ?_
    rw [List.getD_eq_getElem?_getD, List.getElem?_eq_getElem (by omega), Option.getD_some, beq_iff_eq] at hb
    refine ⟨b[1 + i], ?_, ?_⟩
    · rw [List.mem_iff_getElem]
      exact ⟨i, by rw [List.length_drop]; omega, by rw [List.getElem_drop]⟩
    · rw [beq_iff_eq]
      exact UInt8.toNat_inj.mp (by have : (b[1 + i].toNat : Int) = 58 := hb; show b[1+i].toNat = 58; omega)
theorem okV_eq (b : Bs) : okV b = ((b.filter badV).isEmpty && (b == [] || (!white (b.getD 0 0) && !white (b.getD (b.length - 1) 0)))) := by
  have hc : ∀ c, ctlC c = badV c := fun c => by
    unfold ctlC badV
    rw [Bool.eq_iff_iff]
    simp
    omega
  unfold okV
  cases b with
  | nil => rfl
  | cons a r =>
    have e : ((a :: r).filter badV).isEmpty = (a :: r).all fun c => !ctlC c := by
      rw [Bool.eq_iff_iff, List.all_eq_true, List.isEmpty_iff, List.filter_eq_nil_iff]
      exact forall_congr' fun c => forall_congr' fun _ => by rw [hc]; simp
    rw [e]
    have e1 : ((a :: r) == ([] : Bs)) = false := rfl
    rw [e1, List.isEmpty_cons, Bool.false_or, Bool.false_or]
    congr 1
    unfold edge white
    generalize (a :: r).getD 0 0 = x
    generalize (a :: r).getD ((a :: r).length - 1) 0 = y
    rw [Bool.eq_iff_iff]
    simp
    omega
theorem pure_eq (f : Fld) : pureB f.1 f.2 = (legal f && !((f.1.length : Int) == 0)) := by
  unfold pureB legal
  rw [all_okN, colon_eq, okV_eq]
  have e : ((f.1.length : Int) == 0) = (f.1 == []) := by
    cases f.1 with
    | nil => rfl
    | cons a r => rw [Bool.eq_iff_iff]; simp; omega
  rw [e]
  generalize (f.1 == []) = a
  generalize (f.1.filter badC).isEmpty = b
  generalize (((List.range (f.1.length - 1)).filter (colonAt f.1))).isEmpty = c
  generalize (f.2.filter badV).isEmpty = d
  generalize ((f.2 == []) || (!white (f.2.getD 0 0) && !white (f.2.getD (f.2.length - 1) 0))) = x
  cases a <;> cases b <;> cases c <;> cases d <;> simp
theorem filt_all {α : Type} (p : α → Bool) (l : List α) : (!(l.filter p).isEmpty) = !(l.all fun x => !p x) := by
  congr 1
  rw [Bool.eq_iff_iff, List.all_eq_true, List.isEmpty_iff, List.filter_eq_nil_iff]
  exact forall_congr' fun c => forall_congr' fun _ => by simp

-- the dict
theorem stored_keys (kvs : List KV) (k v : Bs) : (storedB kvs k v).map (·.1) = if k ∈ kvs.map (·.1) then kvs.map (·.1) else kvs.map (·.1) ++ [k] := by
  unfold storedB
  have e : (kvs.any fun kv => decide (kv.1 = k)) = true ↔ k ∈ kvs.map (·.1) := by
    rw [List.any_eq_true, List.mem_map]
    exact ⟨fun ⟨x, hx, h⟩ => ⟨x, hx, of_decide_eq_true h⟩, fun ⟨x, hx, h⟩ => ⟨x, hx, decide_eq_true h⟩⟩
  by_cases h : k ∈ kvs.map (·.1)
  · rw [if_pos (e.mpr h), if_pos h, List.map_map]
    refine List.map_congr_left fun x _ => ?_
    show (if x.1 = k then (x.1, v) else x).1 = x.1
    split <;> rfl
  · rw [if_neg (fun w => h (e.mp w)), if_neg h, List.map_append]; rfl
theorem find_stored (k v q : Bs) : ∀ kvs : List KV, valAt (storedB kvs k v) q = if k = q then some v else valAt kvs q := by
  have aux : ∀ kvs : List KV, valAt (kvs.map fun kv => if kv.1 = k then (kv.1, v) else kv) q = if k = q then (valAt kvs q).map fun _ => v else valAt kvs q := by
    intro kvs
    induction kvs with
    | nil => unfold valAt; split <;> rfl
    | cons a r ih =>
      unfold valAt at ih ⊢
      rw [List.map_cons, List.find?_cons, List.find?_cons]
      by_cases h1 : a.1 = k
      · rw [if_pos h1]
        by_cases h2 : k = q
        · have h3 : decide (a.1 = q) = true := decide_eq_true (h1.trans h2)
          have h4 : decide (((a.1, v) : KV).1 = q) = true := h3
          rw [h3, if_pos h2]; rfl
        · have h3 : decide (a.1 = q) = false := decide_eq_false (fun w => h2 (h1 ▸ w))
          have h4 : decide (((a.1, v) : KV).1 = q) = false := h3
          rw [h3]; exact ih
      · rw [if_neg h1]
        by_cases h3 : a.1 = q
        · have h2 : ¬ k = q := fun w => h1 (h3.trans w.symm)
          rw [decide_eq_true h3, if_neg h2]
        · rw [decide_eq_false h3]; exact ih
  intro kvs
  unfold storedB
  by_cases h : (kvs.any fun kv => decide (kv.1 = k)) = true
  · rw [if_pos h, aux]
    by_cases h2 : k = q
    · rw [if_pos h2, if_pos h2]
      subst h2
      obtain ⟨x, hx, hk⟩ := List.any_eq_true.mp h
      have : (valAt kvs k).isSome = true := by
        unfold valAt; rw [Option.isSome_map, List.find?_isSome]; exact ⟨x, hx, hk⟩
      obtain ⟨w, hw⟩ := Option.isSome_iff_exists.mp this
      rw [hw]; rfl
    · rw [if_neg h2, if_neg h2]
  · rw [if_neg h]
    unfold valAt
    rw [List.find?_append, Option.map_or]
    by_cases h2 : k = q
    · subst h2
      rw [if_pos rfl]
      have : kvs.find? (fun kv => decide (kv.1 = k)) = none := by
        rw [List.find?_eq_none]
        exact fun x hx w => h (List.any_eq_true.mpr ⟨x, hx, w⟩)
      rw [this]
      simp
    · rw [if_neg h2]
      have : [(k, v)].find? (fun kv : KV => decide (kv.1 = q)) = none := by simp [h2]
      rw [this]
      simp
theorem val_snoc (l : List KV) (f : KV) (q : Bs) : valAt (dctOf (l ++ [f])) q = if f.1 = q then some f.2 else valAt (dctOf l) q := by
  rw [dctOf_snoc, find_stored]
theorem names_snoc (l : List Fld) (f : Fld) : namesOf (l ++ [f]) = namesOf l ++ [f.1] := by unfold namesOf; rw [List.map_append]; rfl
theorem front_ps (l : List Fld) (f : Fld) (h : isPs f.1 = true) : frontOf (l ++ [f]) = frontOf l ++ [f.1] := by
  have e : [f.1].filter isPs = [f.1] := by rw [List.filter_cons, h]; rfl
  unfold frontOf; rw [names_snoc, List.filter_append, e]
theorem front_no (l : List Fld) (f : Fld) (h : isPs f.1 = false) : frontOf (l ++ [f]) = frontOf l := by
  have e : [f.1].filter isPs = [] := by rw [List.filter_cons, h]; rfl
  unfold frontOf; rw [names_snoc, List.filter_append, e, List.append_nil]
theorem keys_mem (q : Bs) (l : List Fld) : q ∈ (dctOf l).map (·.1) ↔ q ∈ namesOf l := by
  induction l using snoc_ind with
  | h0 => rfl
  | h1 l f ih =>
    rw [dctOf_snoc, stored_keys, names_snoc, List.mem_append, List.mem_singleton, ← ih]
    split
    · exact ⟨.inl, fun h => h.elim id fun e => by rw [e]; assumption⟩
    · rw [List.mem_append, List.mem_singleton]
theorem some_iff (q : Bs) (l : List Fld) : (valAt (dctOf l) q).isSome = true ↔ q ∈ namesOf l := by
  rw [← keys_mem]
  unfold valAt
  rw [Option.isSome_map, List.find?_isSome, List.mem_map]
  exact ⟨fun ⟨x, hx, h⟩ => ⟨x, hx, of_decide_eq_true h⟩, fun ⟨x, hx, h⟩ => ⟨x, hx, decide_eq_true h⟩⟩
theorem val_mem {q v : Bs} (l : List Fld) : valAt (dctOf l) q = some v → (q, v) ∈ l := by
  induction l using snoc_ind with
  | h0 => intro h; cases h
  | h1 l f ih =>
    rw [val_snoc]
    split
    · next h => intro e; cases e; subst h; simp
    · intro e; exact List.mem_append_left _ (ih e)
theorem nodup_snoc {l : List Bs} {a : Bs} : (l ++ [a]).Nodup ↔ l.Nodup ∧ a ∉ l := by
  rw [List.nodup_append]
  constructor
  · exact fun ⟨h1, _, h3⟩ => ⟨h1, fun h => h3 a h a (by simp) rfl⟩
  · exact fun ⟨h1, h2⟩ => ⟨h1, by simp, fun x hx y hy => by rw [List.mem_singleton] at hy; subst hy; exact fun e => h2 (e ▸ hx)⟩
theorem mem_front {q : Bs} {l : List Fld} : q ∈ frontOf l ↔ q ∈ namesOf l ∧ isPs q = true := by unfold frontOf; rw [List.mem_filter]
theorem mem_val {q v : Bs} (l : List Fld) : (frontOf l).Nodup → isPs q = true → (q, v) ∈ l → valAt (dctOf l) q = some v := by
  induction l using snoc_ind with
  | h0 => intro _ _ h; cases h
  | h1 l f ih =>
    intro hn hp hm
    rw [val_snoc]
    rw [List.mem_append, List.mem_singleton] at hm
    by_cases hf : f.1 = q
    · rw [if_pos hf]
      rw [front_ps _ _ (hf ▸ hp), nodup_snoc] at hn
      rcases hm with hm | rfl
      · exact absurd (mem_front.mpr ⟨hf ▸ List.mem_map_of_mem hm, hf ▸ hp⟩) hn.2
      · rfl
    · rw [if_neg hf]
      rcases hm with hm | rfl
      · refine ih ?_ hp hm
        cases h : isPs f.1 with
        | true => rw [front_ps _ _ h, nodup_snoc] at hn; exact hn.1
        | false => rwa [front_no _ _ h] at hn
      · exact absurd rfl hf
theorem keys_filter (l : List Fld) : ((dctOf l).filter fun kv => isPs kv.1).length = (((dctOf l).map (·.1)).filter isPs).length := by
  rw [List.filter_map, List.length_map]; rfl
theorem count_front (l : List Fld) : (((dctOf l).map (·.1)).filter isPs).length ≤ (frontOf l).length ∧ ((((dctOf l).map (·.1)).filter isPs).length = (frontOf l).length ↔ (frontOf l).Nodup) := by
  induction l using snoc_ind with
  | h0 => exact ⟨Nat.le_refl _, by decide⟩
  | h1 l f ih =>
    rw [dctOf_snoc, stored_keys]
    cases h : isPs f.1 with
    | true =>
      rw [front_ps _ _ h, nodup_snoc, mem_front, ← keys_mem]
      split
      · next hm =>
        refine ⟨by rw [List.length_append]; omega, ?_⟩
        rw [List.length_append, List.length_singleton]
        exact ⟨fun e => by omega, fun ⟨_, w⟩ => absurd ⟨hm, h⟩ w⟩
      · next hm =>
        have e : [f.1].filter isPs = [f.1] := by rw [List.filter_cons, h]; rfl
        rw [List.filter_append, e, List.length_append, List.length_append]
        refine ⟨by simp only [List.length_singleton]; omega, ?_⟩
        rw [← ih.2]
        exact ⟨fun e => ⟨by simp only [List.length_singleton] at e; omega, fun w => hm w.1⟩, fun e => by rw [e.1]⟩
    | false =>
      rw [front_no _ _ h]
      split
      · exact ih
      · have e : [f.1].filter isPs = [] := by rw [List.filter_cons, h]; rfl
        rw [List.filter_append, e, List.append_nil]
        exact ih

-- stage of the pseudo headers
structure FrontOk (l : List Fld) : Prop where
  pre : (namesOf l).take (frontOf l).length = frontOf l
  nd : (frontOf l).Nodup
  al : ∀ b ∈ frontOf l, b ∈ allowedL
theorem front_le (l : List Fld) : (frontOf l).length ≤ (namesOf l).length := List.length_filter_le _ _
theorem pre_no {l : List Fld} {f : Fld} (h : isPs f.1 = false) : (namesOf (l ++ [f])).take (frontOf (l ++ [f])).length = frontOf (l ++ [f]) ↔ (namesOf l).take (frontOf l).length = frontOf l := by
  rw [front_no _ _ h, names_snoc, List.take_append_of_le_length (front_le l)]
theorem pre_ps {l : List Fld} {f : Fld} (h : isPs f.1 = true) : (namesOf (l ++ [f])).take (frontOf (l ++ [f])).length = frontOf (l ++ [f]) ↔ namesOf l = frontOf l := by
  rw [front_ps _ _ h, names_snoc]
  constructor
  · intro e
    by_cases hl : (frontOf l).length = (namesOf l).length
    · rw [List.length_append, hl, List.take_of_length_le (by simp)] at e
      exact (List.append_inj e hl.symm).1
    · have hlt : (frontOf l).length < (namesOf l).length := Nat.lt_of_le_of_ne (front_le l) hl
      rw [List.length_append, List.length_singleton, List.take_append_of_le_length hlt] at e
      have hf := List.take_append_drop ((frontOf l).length + 1) (namesOf l)
      rw [e] at hf
      have hc := congrArg (List.filter isPs) hf
      rw [List.filter_append, List.filter_append] at hc
      have e1 : [f.1].filter isPs = [f.1] := by rw [List.filter_cons, h]; rfl
      have e2 : (frontOf l).filter isPs = frontOf l := by unfold frontOf; rw [List.filter_filter]; simp
      rw [e1, e2] at hc
      have hlen := congrArg List.length hc
      rw [List.length_append, List.length_append, List.length_singleton] at hlen
      have : ((namesOf l).filter isPs).length = (frontOf l).length := rfl
      omega
  · intro e
    rw [e, List.take_of_length_le (Nat.le_refl _)]
theorem FrontOk.of_snoc {l : List Fld} {f : Fld} (h : FrontOk (l ++ [f])) : FrontOk l := by
  cases hp : isPs f.1 with
  | true =>
    have h1 := (pre_ps hp).mp h.pre
    have h2 := h.nd
    have h3 := h.al
    rw [front_ps _ _ hp] at h2 h3
    exact ⟨by rw [← h1, List.take_of_length_le (Nat.le_refl _)], (nodup_snoc.mp h2).1, fun b hb => h3 b (List.mem_append_left _ hb)⟩
  | false =>
    have h2 := h.nd
    have h3 := h.al
    rw [front_no _ _ hp] at h2 h3
    exact ⟨(pre_no hp).mp h.pre, h2, h3⟩
theorem pstep_end (l : List Fld) : (FrontOk l → endOf pStep p0 l = some ⟨(frontOf l).reverse, !(namesOf l == frontOf l), valAt (dctOf l) bMethod⟩) ∧ (¬ FrontOk l → endOf pStep p0 l = none) := by
  induction l using snoc_ind with
  | h0 => exact ⟨fun _ => rfl, fun h => absurd ⟨rfl, List.nodup_nil, fun b hb => by cases hb⟩ h⟩
  | h1 l f ih =>
    rw [endOf_snoc]
    by_cases hl : FrontOk l
    · rw [ih.1 hl]
      show (_ → pStep _ f = _) ∧ (_ → pStep _ f = _)
      unfold pStep
      cases hp : isPs f.1 with
      | true =>
        rw [if_pos rfl]
        dsimp only
        have hmem : ((frontOf l).reverse.contains f.1) = true ↔ f.1 ∈ frontOf l := by rw [List.contains_iff_mem, List.mem_reverse]
        by_cases h1 : f.1 ∈ frontOf l
        · rw [if_pos (hmem.mpr h1)]
          refine ⟨fun w => ?_, fun _ => rfl⟩
          have := w.nd
          rw [front_ps _ _ hp, nodup_snoc] at this
          exact absurd h1 this.2
        · rw [if_neg fun w => h1 (hmem.mp w)]
          by_cases h2 : namesOf l = frontOf l
          · rw [if_neg (by rw [h2]; simp)]
            by_cases h3 : f.1 ∈ allowedL
            · have e3 : (allowedL.any fun x => x == f.1) = true := List.any_eq_true.mpr ⟨f.1, h3, by simp⟩
              rw [e3, if_neg (by decide)]
              refine ⟨fun _ => ?_, fun w => absurd ⟨(pre_ps hp).mpr h2, ?_, ?_⟩ w⟩
              · rw [front_ps _ _ hp, names_snoc, h2, val_snoc, List.reverse_append]
                congr 2
                · simp
                · cases hm : f.1 == bMethod with
                  | true => rw [if_pos rfl, if_pos (eq_of_beq hm)]
                  | false => rw [if_neg Bool.false_ne_true, if_neg (fun w => by rw [w, beq_self_eq_true] at hm; cases hm)]
              · rw [front_ps _ _ hp]; exact nodup_snoc.mpr ⟨hl.nd, h1⟩
              · rw [front_ps _ _ hp]
                intro b hb
                rcases List.mem_append.mp hb with hb | hb
                · exact hl.al b hb
                · rw [List.mem_singleton] at hb; rw [hb]; exact h3
            · have e3 : (allowedL.any fun x => x == f.1) = false := by
                rw [← Bool.not_eq_true, List.any_eq_true]
                exact fun ⟨x, hx, e⟩ => h3 (eq_of_beq e ▸ hx)
              rw [e3, if_pos (show (!false) = true from rfl)]
              refine ⟨fun w => absurd (w.al f.1 ?_) h3, fun _ => rfl⟩
              rw [front_ps _ _ hp]; simp
          · rw [if_pos (by simpa using h2)]
            exact ⟨fun w => absurd ((pre_ps hp).mp w.pre) h2, fun _ => rfl⟩
      | false =>
        rw [if_neg Bool.false_ne_true]
        refine ⟨fun w => ?_, fun w => absurd ⟨(pre_no hp).mpr hl.pre, ?_, ?_⟩ w⟩
        · rw [front_no _ _ hp, val_snoc, if_neg (fun e => by rw [e] at hp; cases hp), names_snoc]
          congr 2
          have : ¬ (namesOf l ++ [f.1] = frontOf l) := fun e => by
            have := congrArg List.length e
            have := front_le l
            rw [List.length_append, List.length_singleton] at *
            omega
          simpa using this
        · rw [front_no _ _ hp]; exact hl.nd
        · rw [front_no _ _ hp]; exact hl.al
    · rw [ih.2 hl]
      exact ⟨fun w => absurd w.of_snoc hl, fun _ => rfl⟩

-- stage of the hosts, stage of the path
theorem host_end (l : List Fld) : endOf hostStep (none, none) l = if (hostsOf l).length ≤ 1 then some (valAt (dctOf l) bAuth, (hostsOf l).head?) else none := by
  induction l using snoc_ind with
  | h0 => rfl
  | h1 l f ih =>
    have eh : hostsOf (l ++ [f]) = if f.1 == bHost then hostsOf l ++ [f.2] else hostsOf l := by
      unfold hostsOf
      rw [List.filter_append, List.map_append, List.filter_cons]
      show _ ++ List.map _ (if (f.1 == bHost) = true then _ else _) = _
      split <;> simp
    rw [endOf_snoc, ih, eh, val_snoc]
    unfold hostStep
    by_cases ha : f.1 = bAuth
    · have hh : (f.1 == bHost) = false := by rw [ha]; rfl
      have ha' : (f.1 == bAuth) = true := by rw [ha]; rfl
      rw [hh, ha', if_pos ha]
      simp only [if_neg Bool.false_ne_true, if_pos]
      split <;> rfl
    · have ha' : (f.1 == bAuth) = false := by rw [← Bool.not_eq_true]; exact fun w => ha (eq_of_beq w)
      rw [ha', if_neg ha]
      cases hh : f.1 == bHost with
      | false =>
        simp only [if_neg Bool.false_ne_true]
        split <;> rfl
      | true =>
        cases hl : hostsOf l with
        | nil => rfl
        | cons a r =>
          rw [if_neg (show ¬ (if true = true then (a :: r) ++ [f.2] else a :: r).length ≤ 1 by simp)]
          split <;> rfl
theorem path_pass (l : List Fld) : passes pathStep eT () l = l.all fun f => !(f.1 == bPath && f.2.isEmpty) := passes_all _ _ (fun f => by
  unfold pathStep
  cases f.1 == bPath && f.2.isEmpty <;> rfl) l
theorem path_eq (l : List Fld) (hn : (frontOf l).Nodup) : (l.all fun f => !(f.1 == bPath && f.2.isEmpty)) = !((valAt (dctOf l) cPath).isSome && ((valAt (dctOf l) cPath).getD [] == [] && true)) := by
  rw [Bool.eq_iff_iff, List.all_eq_true]
  constructor
  · intro h
    cases hv : valAt (dctOf l) cPath with
    | none => rfl
    | some v =>
      have := h _ (val_mem l hv)
      cases v with
      | nil => exact absurd this (by decide)
      | cons a r => rfl
  · intro h f hf
    cases hp : f.1 == bPath with
    | false => rfl
    | true =>
      have hp := eq_of_beq hp
      have := mem_val l hn (q := bPath) (v := f.2) rfl (by rw [← hp]; exact hf)
      rw [show cPath = bPath from rfl, this] at h
      cases hv : f.2 with
      | nil => rw [hv] at h; exact absurd h (by decide)
      | cons a r => rfl
theorem not_or' {a b : Bool} (h : (a || b) = false) : a = false ∧ b = false := by cases a <;> cases b <;> simp_all

theorem perm_all {l must : List Bs} (h1 : l.Nodup) (h2 : ∀ b ∈ l, b ∈ allowedL) (h3 : must.Nodup) (h4 : ∀ b ∈ must, b ∈ allowedL) : (l.filter fun x => x != cAuthority).isPerm must = allowedL.all fun b => (l.contains b && b != cAuthority) == must.contains b := by
  rw [Bool.eq_iff_iff, List.isPerm_iff, List.perm_ext_iff_of_nodup (h1.sublist List.filter_sublist) h3, List.all_eq_true]
  constructor
  · intro h b _
    rw [beq_iff_eq, Bool.eq_iff_iff, Bool.and_eq_true, List.contains_iff_mem, List.contains_iff_mem, ← h b, List.mem_filter]
  · intro h b
    by_cases hb : b ∈ allowedL
    · have := h b hb
      rw [beq_iff_eq, Bool.eq_iff_iff, Bool.and_eq_true, List.contains_iff_mem, List.contains_iff_mem] at this
      rw [← this, List.mem_filter]
    · exact ⟨fun w => absurd (h2 b (List.mem_filter.mp w).1) hb, fun w => absurd (h4 b w) hb⟩
theorem must_ok (vals : List KV) : (mustOf vals).Nodup ∧ ∀ b ∈ mustOf vals, b ∈ allowedL := by
  unfold mustOf
  split
  · split
    · decide
    · decide
  · decide
theorem req_eq (S : Bs → Bool) (must : List Bs) (m s a p st pr isC : Bool) (hm : S bMethod = m) (hs : S bScheme = s) (ha : S bAuth = a) (hp : S bPath = p) (hst : S bStatus = st) (hpr : S bProto = pr) (hC : isC = true → m = true)
    (hmust : must = if isC then (if pr then [cMethod, cPath, cProtocol, cScheme] else [cMethod]) else [cMethod, cPath, cScheme]) (ne : Bool) :
    pseudoOk false false S ne isC = allowedL.all fun b => (S b && b != cAuthority) == must.contains b := by
  subst hmust
  have e1 : reqOnly.filter S = reqOnly.filter S := rfl
  have e2 : (respOnly.filter S).isEmpty = !st := by rw [List.filter_cons, hst]; cases st <;> rfl
  have e3 : (connOnly.filter S).isEmpty = !pr := by rw [List.filter_cons, hpr]; cases pr <;> rfl
  have e4 : ∀ g : Bs → Bool, allowedL.all g = (g bMethod && (g bScheme && (g bAuth && (g bPath && (g bStatus && (g bProto && true)))))) := fun g => rfl
  unfold pseudoOk
  rw [e4, e2, e3, hm, hs, ha, hp, hst, hpr]
  cases isC with
  | true =>
    rw [hC rfl]
    cases pr <;> cases s <;> cases a <;> cases p <;> cases st <;> cases ne <;> rfl
  | false => cases m <;> cases pr <;> cases s <;> cases a <;> cases p <;> cases st <;> cases ne <;> rfl
theorem rev_contains (l : List Bs) : (fun b => l.reverse.contains b) = fun b => l.contains b := funext fun b => by
  rw [Bool.eq_iff_iff, List.contains_iff_mem, List.contains_iff_mem, List.mem_reverse]
theorem isSome_front (l : List Fld) (q : Bs) (hq : isPs q = true) : (valAt (dctOf l) q).isSome = (frontOf l).contains q := by
  rw [Bool.eq_iff_iff, some_iff, List.contains_iff_mem, mem_front]
  exact ⟨fun w => ⟨w, hq⟩, fun w => w.1⟩
theorem ps_req {l : List Fld} (hpre : (namesOf l).take (frontOf l).length = frontOf l) (hnd : (frontOf l).Nodup) : passes pStep (pEpi false false) p0 l = ((frontOf l).filter fun x => x != cAuthority).isPerm (mustOf (dctOf l)) := by
  rw [passes_end]
  by_cases hal : ∀ b ∈ frontOf l, b ∈ allowedL
  · rw [(pstep_end l).1 ⟨hpre, hnd, hal⟩, perm_all hnd hal (must_ok _).1 (must_ok _).2]
    show pseudoOk false false (fun b => (frontOf l).reverse.contains b) ((frontOf l).reverse.length != 0) (valAt (dctOf l) bMethod == some bCONNECT) = _
    rw [rev_contains]
    refine req_eq _ _ _ _ _ _ _ _ _ rfl rfl rfl rfl rfl rfl (fun h => ?_) ?_ _
    · rw [← isSome_front l bMethod rfl, eq_of_beq h]; rfl
    · unfold mustOf
      rw [isSome_front l cProtocol rfl]
      cases valAt (dctOf l) cMethod with
      | none => rfl
      | some v =>
        show (if (true && ((v == cConnect) && true)) = true then _ else _) = if ((some v) == some bCONNECT) = true then _ else _
        rw [show ((some v) == some bCONNECT) = (v == bCONNECT) from rfl]
        cases v == bCONNECT <;> rfl
  · rw [(pstep_end l).2 fun w => hal w.al]
    symm
    show _ = false
    rw [← Bool.not_eq_true, List.isPerm_iff]
    refine fun w => hal fun b hb => ?_
    by_cases hba : b = cAuthority
    · rw [hba]; decide
    · exact (must_ok _).2 b (w.mem_iff.mp (List.mem_filter.mpr ⟨hb, by simpa using hba⟩))
theorem ps_tr {l : List Fld} (hpre : (namesOf l).take (frontOf l).length = frontOf l) (hnd : (frontOf l).Nodup) : passes pStep (pEpi true false) p0 l = (frontOf l == []) := by
  rw [passes_end]
  by_cases hal : ∀ b ∈ frontOf l, b ∈ allowedL
  · rw [(pstep_end l).1 ⟨hpre, hnd, hal⟩]
    show pseudoOk true false (fun b => (frontOf l).reverse.contains b) ((frontOf l).reverse.length != 0) (valAt (dctOf l) bMethod == some bCONNECT) = _
    rw [List.length_reverse]
    cases frontOf l <;> rfl
  · rw [(pstep_end l).2 fun w => hal w.al]
    cases hf : frontOf l with
    | nil => exact absurd (fun b hb => by rw [hf] at hb; cases hb) hal
    | cons a r => rfl
theorem ps_rs {l : List Fld} (hpre : (namesOf l).take (frontOf l).length = frontOf l) (hnd : (frontOf l).Nodup) : passes pStep (pEpi false true) p0 l = (frontOf l == [cStatus]) := by
  rw [passes_end]
  by_cases hal : ∀ b ∈ frontOf l, b ∈ allowedL
  · rw [(pstep_end l).1 ⟨hpre, hnd, hal⟩]
    show pseudoOk false true (fun b => (frontOf l).reverse.contains b) ((frontOf l).reverse.length != 0) (valAt (dctOf l) bMethod == some bCONNECT) = _
    rw [rev_contains]
    show ((frontOf l).contains bStatus && (reqOnly.filter fun b => (frontOf l).contains b).isEmpty) = _
    rw [Bool.eq_iff_iff, Bool.and_eq_true, List.contains_iff_mem, List.isEmpty_iff, List.filter_eq_nil_iff, beq_iff_eq]
    constructor
    · rintro ⟨h1, h2⟩
      have h3 : ∀ b ∈ frontOf l, b = bStatus := fun b hb => by
        have h4 : ¬ b ∈ reqOnly := fun w => h2 b w (List.contains_iff_mem.mpr hb)
        have h5 := hal b hb
        simp only [List.mem_cons, List.not_mem_nil, or_false, not_or] at h4 h5
        rcases h5 with h | h | h | h | h | h
        · exact absurd h h4.2.2.2.1
        · exact absurd h h4.1
        · exact absurd h h4.2.2.1
        · exact absurd h h4.2.1
        · exact h
        · exact absurd h h4.2.2.2.2
      generalize frontOf l = fr at *
      match fr, h1, h3, hnd with
      | [a], _, h3, _ => rw [h3 a (by simp)]
      | a :: b :: r, _, h3, hnd =>
        have := h3 a (by simp)
        have := h3 b (by simp)
        subst_vars
        simp at hnd
    · intro h
      rw [h]
      decide
  · rw [(pstep_end l).2 fun w => hal w.al]
    symm
    show _ = false
    rw [← Bool.not_eq_true, beq_iff_eq]
    exact fun w => hal fun b hb => by rw [w, List.mem_singleton] at hb; rw [hb]; decide
theorem ps_bad {l : List Fld} {tr rs : Bool} (h : ¬ ((namesOf l).take (frontOf l).length = frontOf l ∧ (frontOf l).Nodup)) : passes pStep (pEpi tr rs) p0 l = false := by
  rw [passes_end, (pstep_end l).2 fun w => h ⟨w.pre, w.nd⟩]; rfl

theorem host_pass (l : List Fld) : passes hostStep hostEpi (none, none) l = if (valAt (dctOf l) cAuthority).isSome then (hostsOf l == [] || hostsOf l == [(valAt (dctOf l) cAuthority).getD []]) else ((hostsOf l).length : Int) == 1 := by
  rw [passes_end, host_end]
  show _ = if (valAt (dctOf l) bAuth).isSome then (hostsOf l == [] || hostsOf l == [(valAt (dctOf l) bAuth).getD []]) else ((hostsOf l).length : Int) == 1
  generalize valAt (dctOf l) bAuth = a
  match hostsOf l, a with
  | [], none => rfl
  | [], some a => rfl
  | [x], none => rfl
  | [x], some a =>
    rw [if_pos (show ([x] : List Bs).length ≤ 1 from Nat.le_refl 1)]
    show (!(true && (true && a != x))) = (false || ((x == a) && true))
    rw [Bool.eq_iff_iff]
    simp only [Bool.true_and, Bool.false_or, Bool.and_true, Bool.not_eq_true', bne_eq_false_iff_eq, beq_iff_eq]
    exact eq_comm
  | x :: y :: r, a =>
    rw [if_neg (show ¬ (x :: y :: r).length ≤ 1 by simp)]
    cases a with
    | none =>
      symm
      show (((x :: y :: r).length : Int) == 1) = false
      rw [← Bool.not_eq_true, beq_iff_eq, List.length_cons, List.length_cons]
      omega
    | some a =>
      symm
      show (false || ((x == a) && false)) = false
      simp
theorem all_congr' {α : Type} {p q : α → Bool} (h : ∀ x, p x = q x) (l : List α) : l.all p = l.all q := by rw [funext h]
theorem plain : Plain := fun fs kind g h0 h6 hg => by
  have i1 : passes sIll eT () fs = fs.all legal := passes_all _ _ (fun _ => rfl) fs
  have i2 : passes sEmp eT () fs = fs.all fun f => !((f.1.length : Int) == 0) := passes_all _ _ (fun f => by unfold sEmp; cases ((f.1.length : Int) == 0) <;> rfl) fs
  have i3 : passes sTe eT () fs = fs.all fun f => !badTe f := passes_all _ _ (fun f => by unfold sTe; cases badTe f <;> rfl) fs
  have i4 : passes sConn eT () fs = fs.all fun f => !badConn f := passes_all _ _ (fun f => by unfold sConn; cases badConn f <;> rfl) fs
  unfold goodB at hg
  unfold accB
  have e1 : (!(fs.filter fun f => !pureB f.1 f.2).isEmpty) = !(passes sIll eT () fs && passes sEmp eT () fs) := by
    rw [filt_all, i1, i2]
    congr 1
    rw [Bool.eq_iff_iff, Bool.and_eq_true, List.all_eq_true, List.all_eq_true, List.all_eq_true]
    constructor
    · intro h
      exact ⟨fun f hf => by have := h f hf; rw [pure_eq] at this; revert this; cases legal f <;> simp, fun f hf => by have := h f hf; rw [pure_eq] at this; revert this; cases legal f <;> simp⟩
    · intro h f hf
      rw [pure_eq, h.1 f hf, h.2 f hf]; rfl
  have e2 : (!(fs.filter fun f => f.1 == cTe && (lowerB f.2 != cTrailers && true)).isEmpty) = !passes sTe eT () fs := by
    rw [filt_all, i3]; rfl
  have e3 : (!((namesOf fs).filter fun x => cConn.any (· == x)).isEmpty) = !passes sConn eT () fs := by
    rw [filt_all, i4]
    congr 1
    unfold namesOf
    rw [List.all_map]
    refine all_congr' (fun f => ?_) fs
    show (!cConn.any fun y => y == f.1) = !bConn.any fun y => y == f.1
    congr 1
    rw [Bool.eq_iff_iff, List.any_eq_true, List.any_eq_true]
    simp only [beq_iff_eq]
    have hm : ∀ y, y ∈ cConn ↔ y ∈ bConn := fun y => by
      simp only [List.mem_cons, List.not_mem_nil, or_false]
      exact ⟨fun h => by rcases h with h | h | h | h | h <;> simp [h], fun h => by rcases h with h | h | h | h | h <;> simp [h]⟩
    exact ⟨fun ⟨y, h, e⟩ => ⟨y, (hm y).mp h, e⟩, fun ⟨y, h, e⟩ => ⟨y, (hm y).mpr h, e⟩⟩
  rw [e1, e2, e3] at hg
  generalize passes sIll eT () fs = a1 at *
  generalize passes sEmp eT () fs = a2 at *
  generalize passes sTe eT () fs = a3 at *
  generalize passes sConn eT () fs = a4 at *
  clear i1 i2 i3 i4 e1 e2 e3
  have cut : ∀ b : Bool, a1 = true → a2 = true → a3 = true → a4 = true → ((((((true && a1) && a2) && a3) && a4) && b) = b) := fun b h1 h2 h3 h4 => by rw [h1, h2, h3, h4]; rfl
  cases a1 with
  | false => cases hg; rfl
  | true => cases a2 with
    | false => cases hg; rfl
    | true => cases a3 with
      | false => cases hg; rfl
      | true => cases a4 with
        | false => cases hg; rfl
        | true =>
          simp only [Bool.true_and, Bool.not_true, if_neg Bool.false_ne_true] at hg ⊢
          by_cases hpn : (namesOf fs).take (frontOf fs).length = frontOf fs ∧ (frontOf fs).Nodup
          · obtain ⟨hpre, hnd⟩ := hpn
            have c4 : ((!((namesOf fs).take (frontOf fs).length == frontOf fs)) || (((((dctOf fs).filter fun kv => isPs kv.1).length : Int) != ((frontOf fs).length : Int)) || false)) = false := by
              rw [hpre, keys_filter, (count_front fs).2.mpr hnd]; simp
            rw [c4, if_neg Bool.false_ne_true] at hg
            cases k1 : kind == 1 with
            | true =>
              have hk : kind = 1 := eq_of_beq k1
              subst hk
              rw [k1] at hg
              simp only [Bool.true_or, if_true] at hg
              cases hg
              show (passes pStep (pEpi false true) p0 fs && (true || _) && (true || _)) = _
              rw [ps_rs hpre hnd]
              simp
            | false =>
              cases k2 : kind == 2 with
              | true =>
                rw [k1, k2] at hg
                simp only [Bool.true_or, Bool.or_true, if_true, if_neg Bool.false_ne_true] at hg
                cases hg
                rw [ps_tr hpre hnd]
                simp
              | false =>
                rw [k1, k2] at hg
                simp only [Bool.false_or, Bool.or_false, if_neg Bool.false_ne_true] at hg
                rw [ps_req hpre hnd, host_pass, path_pass, path_eq fs hnd]
                cases hp : ((frontOf fs).filter fun x => x != cAuthority).isPerm (mustOf (dctOf fs)) with
                | false => rw [hp] at hg; cases hg; rfl
                | true =>
                  rw [hp] at hg
                  simp only [Bool.not_true, if_neg Bool.false_ne_true] at hg
                  cases hq : (valAt (dctOf fs) cPath).isSome && ((valAt (dctOf fs) cPath).getD [] == [] && true) with
                  | true => rw [hq, if_pos rfl] at hg; cases hg; simp
                  | false =>
                    rw [hq, if_neg Bool.false_ne_true] at hg
                    cases ha : (valAt (dctOf fs) cAuthority).isSome with
                    | true => rw [ha, if_pos rfl] at hg; cases hg; simp
                    | false =>
                      rw [ha, if_neg Bool.false_ne_true] at hg
                      split at hg
                      · cases hg
                      · cases hg; simp
          · rw [ps_bad hpn]
            have c4 : ((!((namesOf fs).take (frontOf fs).length == frontOf fs)) || (((((dctOf fs).filter fun kv => isPs kv.1).length : Int) != ((frontOf fs).length : Int)) || false)) = true := by
              rw [keys_filter]
              cases hb : (namesOf fs).take (frontOf fs).length == frontOf fs with
              | false => rfl
              | true =>
                have hn : ¬ (frontOf fs).Nodup := fun w => hpn ⟨eq_of_beq hb, w⟩
                rw [← (count_front fs).2] at hn
                have : ((((dctOf fs).map (·.1)).filter isPs).length : Int) ≠ ((frontOf fs).length : Int) := by omega
                simpa using this
            rw [c4, if_pos rfl] at hg
            cases hg
            rfl

-- Ja
local macro_rules | `(tactic| walk_at "m ns") => `(tactic| (show nsIn (KF (World.params _)) _ _ = _; k_is))
local macro_rules | `(tactic| walk_at "m hdr") => `(tactic| (show codeHdIn (KF (World.params _)) _ _ = _; rfl))
theorem ints_all {h : Heap} : ∀ {vs : List Value} {ns : List Int}, IntsAre vs ns → All2 h (ns.map Pd.int) vs
  | _, _, .nil => trivial
  | _, _, .cons n t r => ⟨⟨t, rfl⟩, ints_all r⟩
noncomputable abbrev tabsL : List (Addr × Addr) := [(252, 248), (259, 255)]
theorem noTabs_K (P : Params) : noTabs (KF P) = true := rfl
theorem free_K {w : World} {h : Heap} {mg : Str → Option Value} (X : (KF w.params).In h) (G : h.Ns mainGlobals mg) : ∀ x : Str, x ∈ (["len", "range", "sorted", "list", "set", "bytes", "chr", "type", "tuple", "issubclass"] : List Str) → mg x = none := by
  intro x hx
  simp only [List.mem_cons, List.not_mem_nil, or_false] at hx
  rcases hx with rfl | rfl | rfl | rfl | rfl | rfl | rfl | rfl | rfl | rfl
  all_goals exact mg_none_of X G (by walk_at "m ns")
noncomputable def baseCx (prog : Program) (w : World) (s : Shared) {mg mb : Str → Option Value} {q : Program} {loose : List Str} {mean : ExcName → Option Value} (X : (KF w.params).In s.heap) (T : Top q loose mean mg mb s.heap) (hT : TabsAt tabsL s.heap) : Cx where
  prog := prog
  w := w
  hb := ghostOf s.heap tabsL
  os := s.os
  mg := mg
  mb := mb
  K := ghost_K hT X (noTabs_K _)
  g := (ghost_top hT T).g
  b := (ghost_top hT T).b
  nolimit := (topRead_of (ghost_top hT T)).nolimit
  free := free_K X T.g
  builtins := T.builtins
  tabs := tabsL
  top := ⟨_, _, topRead_of (ghost_top hT T)⟩
  bim := let ⟨bm, ob, a1, a2, a3, a4, a5, a6⟩ := (ghost_top hT T).bmain; ⟨bm, ob, a1, a2, a3, a4, a5, a6⟩
  tabN := fun q mq => hideAll_none _ (List.mem_map_of_mem mq)
  tabU := by decide
theorem tabs_at {w : World} {h : Heap} (X : (KF w.params).In h) (h1 : h.get? 248 = some (tabObj #[])) (h2 : h.get? 255 = some (tabObj #[])) : TabsAt tabsL h :=
  List.forall_mem_cons.mpr ⟨⟨codeHd_of_K (c := 252) (P := 248) X (by walk_at "m hdr"), h1⟩, List.forall_mem_cons.mpr ⟨⟨codeHd_of_K (c := 259) (P := 255) X (by walk_at "m hdr"), h2⟩, fun _ h => nomatch h⟩⟩
theorem old_tabs {h h' : Heap} (hT : TabsAt tabsL h) (b : (ghostOf h tabsL).StaysIn h') (t : ∀ q ∈ tabsL, ∃ ps, h'.IsCode q.1 q.2 ps ∧ h'.TableAt q.1 q.2 ps) : OldK h h' := by
  have hk : ∀ a o, h.get? a = some o → o ≠ tabObj #[] ∨ a ∉ tabsL.map (·.2) → h'.get? a = some o := fun a o e n => b a o (by
    rcases n with n | n
    · exact ghost_get hT e n
    · exact ghost_ne e n)
  have ht : ∀ q ∈ tabsL, ∃ ps, h.get? q.2 = some (tabObj #[]) ∧ isCodeTable h q.2 ∧ h'.get? q.2 = some (tabObj (#[] ++ ps)) := fun q mq => by
    obtain ⟨ps, _, x⟩ := t q mq
    exact ⟨ps, (hT q mq).2, ((hT q mq).1.tab (hT q mq).2).isCodeTable, by rw [Array.empty_append]; exact x.2⟩
  refine ⟨fun a o e => ?_, fun a o e => ?_⟩
  · by_cases hm : a ∈ tabsL.map (·.2)
    · obtain ⟨q, mq, rfl⟩ := List.mem_map.mp hm
      obtain ⟨ps, e1, e2, e3⟩ := ht q mq
      rw [e1] at e; cases e
      exact .inr (.inl ⟨e2, rfl, #[], ps, rfl, e3⟩)
    · exact .inl (hk a o e (.inr hm))
  · by_cases hm : a ∈ tabsL.map (·.2)
    · obtain ⟨q, mq, rfl⟩ := List.mem_map.mp hm
      obtain ⟨ps, e1, e2, e3⟩ := ht q mq
      exact ⟨_, e3⟩
    · exact ⟨o, hk a o e (.inr hm)⟩
theorem joined {prog : Program} {w : World} {s : Shared} {mg mb : Str → Option Value} {q : Program} {loose : List Str} {mean : ExcName → Option Value} (X : (KF w.params).In s.heap) (T : Top q loose mean mg mb s.heap) (h1 : s.heap.get? 248 = some (tabObj #[])) (h2 : s.heap.get? 255 = some (tabObj #[])) (hg : s.gens = #[])
    {a : Addr} {vs : List Value} {ns : List Int} (hl : s.heap.IsList a vs.toArray) (hi : IntsAre vs ns) (hn : ns.length ≤ 63) {fa : Addr} (hf : mg "law" = some (.ref fa)) {R : Result → Shared → Prop}
    (h : ∀ s', OldK s.heap s'.heap → s'.os = s.os → AllBare s'.gens → R (.ok (.ret (.bool true))) s') : codeAny (model prog w) callerA (.call (.ref fa) ⟨[.ref a], []⟩) R s := by
  have hT := tabs_at X h1 h2
  have e : mg "law" = some (.ref 346) := mg_of X T.g (by walk_at "m ns")
  rw [e] at hf
  cases hf
  have i : Inv (baseCx prog w s X T hT) s := ⟨fun b o e => of_hideAll _ e, fun q mq => ⟨#[], (hT q mq).1.code (hT q mq).2 trivial, (hT q mq).1.tab (hT q mq).2⟩, rfl, by rw [hg]; exact fun i hi => nomatch hi⟩
  have o : Ok (baseCx prog w s X T hT) 15 callerA s.heap := ⟨rfl, by decide +kernel, by decide +kernel, rfl, [], rfl, trivial, fun _ h => nomatch h⟩
  refine law_x plain (Γ := baseCx prog w s X T hT) (P := 248) (.head _) (.tail _ (.head _)) (m := 0) o i ⟨#[], h2, fun v h => nomatch h⟩ (ns := ns) ⟨a, vs, rfl, hl, ints_all hi⟩ hn fun s' i' g' => h s' (old_tabs hT i'.base i'.tabs) i'.os i'.bare

end Mine
namespace Mine
noncomputable def d0 : DefRec := ⟨"law", fnP (stm 36), fnB (stm 36), fnS (stm 36), ⟨380, 0, 392, 15⟩⟩
noncomputable abbrev Walk0 : Prop := WalkO vq lo6 (XL vq lv1) hook.says PySem.Challenge.rw_ix0032_01.row.toRowW d0 [] fun f vs => PySem.call f vs
theorem said0 : PySem.Challenge.rw_ix0032_01.wellSaid = true := by
  rw [PySem.W.Fast.te9446332074065402090]
  kernel_rfl
theorem promised0 : PySem.Challenge.rw_ix0032_01.row.toRowW.promised := by w_witness2
theorem from_walk (h : Walk0) : PySem.Challenge.rw_ix0032_01.Holds :=
  holds_law said0 fun said => holds_open (r := PySem.Challenge.rw_ix0032_01.row) (q := vq) (loose := lo6) (Xt := Xt0) (XP := XL vq lv1) (Yf := hook.obs) (Ya := hook.val) (YP := hook.says) (N := 20000) (d := d0) (kwd := []) left0 hook.of hook.keeps (fun s e => xl_of s (Bool.and_eq_true_iff.mp e).1) XL.keeps (by kernel_rfl) (by kernel_rfl) (by kernel_rfl) (fun s e => recFacts_of (Bool.and_eq_true_iff.mp e).2) rfl said (by decide +kernel) ⟨rfl, rfl, rfl, rfl, rfl, by decide +kernel⟩ promised0 h
theorem walk0 : Walk0 := by
  have fl : PySem.Challenge.rw_ix0032_01 = PySem.Challenge.rw_ix0032_01 ∧ KF = KF := by
    k_fill
    exact ⟨rfl, rfl⟩
  clear fl
  intro w s₀ s₁ mg mb G Y fa o pm cd doc dV kV ho hd' hcd hD hmg hg args vals as hpre hlay hrd hwl hlo
  have X : (KF w.params).In s₁.heap := km_in_of Y
  have h1 := km_tabs_of Y 248 (.head _)
  have h2 := km_tabs_of Y 255 (.tail _ (.head _))
  have hmg' : mg "law" = some (.ref fa) := hmg
  clear Y
  refine Ground.open G ?_
  intro T B D TE TW
  clear D B TE TW hD hcd G hd' ho hmg
  wrow_args hpre hlay hrd hwl hlo
  refine enter_call ?_
  rename_i hL _ _ _ hI _ hc _
  refine joined X T h1 h2 hg hL hI (by omega) hmg' fun s' h1 h2 h3 => ⟨.inl ⟨.bool true, .bool true, [], rfl, fun _ => rfl, .bool true, ?_, fun _ => ⟨.nil, fun _ h => nomatch h⟩⟩, h1, h2, h3⟩
  wrow_post
end Mine

theorem PySem.Challenge.cw_ix0032_01_holds : PySem.Challenge.rw_ix0032_01.Holds :=
  Mine.from_walk Mine.walk0
