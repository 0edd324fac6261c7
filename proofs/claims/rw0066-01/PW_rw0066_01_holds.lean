import PyProof.Rows.All
import Wide.All
import OpenK.AllK
import Wide.FinOn
import PySem.Challenge.RW_rw0066_01
set_option Elab.async false

section PartL0
open PySem PySem.W PyProof.Rows
set_option linter.unusedVariables false
namespace Mine
/-- a def's object, read off the row's program -/
noncomputable def fnAt (i : Nat) (pm cd : Value) : Obj := match PySem.Challenge.pw_rw0066_01.main.body.drop i with
  | .FunctionDef n a b _ _ _ s _ _ _ :: _ => { cls := .type "function", data := .func { name := n, qualname := n, params := a, body := .stmts b, scope := s, globals := 3, closure := [], defaults := .none, kwdefaults := .none, pyModule := pm, code := cd } }
  | _ => default
noncomputable def ob2 (P : Params) : Obj := { cls := Value.none, data := Data.dict #[{ hash := PyData.keyHash P (Str.ofString "type.__subclasses__.Exception.0"), key := Value.str (Str.ofString "type.__subclasses__.Exception.0") 303, val := Value.int 73 0 }, { hash := PyData.keyHash P (Str.ofString "type.__subclasses__.Exception.n"), key := Value.str (Str.ofString "type.__subclasses__.Exception.n") 304, val := Value.int 1 0 }] 2 }
noncomputable def ob3 (P : Params) : Obj := { cls := Value.type "dict", data := Data.dict #[{ hash := PyData.keyHash P (Str.ofString "__name__"), key := Value.str (Str.ofString "__name__") 165, val := Value.str (Str.ofString "law_rw0066_01") 352 }, { hash := PyData.keyHash P (Str.ofString "__doc__"), key := Value.str (Str.ofString "__doc__") 166, val := Value.none }, { hash := PyData.keyHash P (Str.ofString "__package__"), key := Value.str (Str.ofString "__package__") 167, val := Value.none }, { hash := PyData.keyHash P (Str.ofString "__loader__"), key := Value.str (Str.ofString "__loader__") 168, val := Value.builtin "__main__.__loader__#opaque" }, { hash := PyData.keyHash P (Str.ofString "__spec__"), key := Value.str (Str.ofString "__spec__") 169, val := Value.none }, { hash := PyData.keyHash P (Str.ofString "__annotations__"), key := Value.str (Str.ofString "__annotations__") 170, val := Value.ref 6 }, { hash := PyData.keyHash P (Str.ofString "__builtins__"), key := Value.str (Str.ofString "__builtins__") 171, val := Value.ref 4 }, { hash := PyData.keyHash P (Str.ofString "__file__"), key := Value.str (Str.ofString "__file__") 173, val := Value.str (Str.ofString "/claim/cut.py") 172 }, { hash := PyData.keyHash P (Str.ofString "__cached__"), key := Value.str (Str.ofString "__cached__") 174, val := Value.none }, { hash := PyData.keyHash P (Str.ofString "_DIV_LIMIT"), key := Value.str (Str.ofString "_DIV_LIMIT") 190, val := Value.int 4000 189 }, { hash := PyData.keyHash P (Str.ofString "_div2n1n"), key := Value.str (Str.ofString "_div2n1n") 207, val := Value.ref 21 }, { hash := PyData.keyHash P (Str.ofString "_div3n2n"), key := Value.str (Str.ofString "_div3n2n") 221, val := Value.ref 28 }, { hash := PyData.keyHash P (Str.ofString "_int2digits"), key := Value.str (Str.ofString "_int2digits") 232, val := Value.ref 35 }, { hash := PyData.keyHash P (Str.ofString "_digits2int"), key := Value.str (Str.ofString "_digits2int") 243, val := Value.ref 42 }, { hash := PyData.keyHash P (Str.ofString "_divmod_pos"), key := Value.str (Str.ofString "_divmod_pos") 258, val := Value.ref 49 }, { hash := PyData.keyHash P (Str.ofString "int_divmod"), key := Value.str (Str.ofString "int_divmod") 268, val := Value.ref 56 }, { hash := PyData.keyHash P (Str.ofString "ELLIPSIS_MARKER"), key := Value.str (Str.ofString "ELLIPSIS_MARKER") 272, val := Value.str (Str.ofString "...") 271 }, { hash := PyData.keyHash P (Str.ofString "_ellipsis_match"), key := Value.str (Str.ofString "_ellipsis_match") 284, val := Value.ref 63 }, { hash := PyData.keyHash P (Str.ofString "Error"), key := Value.str (Str.ofString "Error") 306, val := Value.ref 73 }, { hash := PyData.keyHash P (Str.ofString "error_reply"), key := Value.str (Str.ofString "error_reply") 322, val := Value.ref 86 }, { hash := PyData.keyHash P (Str.ofString "error_proto"), key := Value.str (Str.ofString "error_proto") 338, val := Value.ref 98 }, { hash := PyData.keyHash P (Str.ofString "parse229"), key := Value.str (Str.ofString "parse229") 351, val := Value.ref 107 }, { hash := PyData.keyHash P (Str.ofString "_law_cells"), key := Value.str (Str.ofString "_law_cells") 362, val := Value.ref 114 }, { hash := PyData.keyHash P (Str.ofString "_law_row"), key := Value.str (Str.ofString "_law_row") 373, val := Value.ref 121 }, { hash := PyData.keyHash P (Str.ofString "_law_sum"), key := Value.str (Str.ofString "_law_sum") 379, val := Value.ref 126 }, { hash := PyData.keyHash P (Str.ofString "_law_port"), key := Value.str (Str.ofString "_law_port") 389, val := Value.ref 133 }, { hash := PyData.keyHash P (Str.ofString "_law_greedy"), key := Value.str (Str.ofString "_law_greedy") 401, val := Value.ref 140 }, { hash := PyData.keyHash P (Str.ofString "_law_reply"), key := Value.str (Str.ofString "_law_reply") 407, val := Value.ref 145 }, { hash := PyData.keyHash P (Str.ofString "_law_read"), key := Value.str (Str.ofString "_law_read") 414, val := Value.ref 152 }, { hash := PyData.keyHash P (Str.ofString "law"), key := Value.str (Str.ofString "law") 420, val := Value.ref 157 }] 30 }
noncomputable def ob17 (P : Params) : Obj := { cls := Value.type "tuple", data := Data.seq #[Value.str (Str.ofString "a") 194, Value.str (Str.ofString "b") 195, Value.str (Str.ofString "n") 196, Value.str (Str.ofString "pad") 197, Value.str (Str.ofString "half_n") 198, Value.str (Str.ofString "mask") 199, Value.str (Str.ofString "b1") 200, Value.str (Str.ofString "b2") 201, Value.str (Str.ofString "q1") 202, Value.str (Str.ofString "r") 203, Value.str (Str.ofString "q2") 204] }
noncomputable def ob20 (P : Params) : Obj := { cls := Value.type "code", data := Data.fields #[Value.str (Str.ofString "_div2n1n") 191, Value.str (Str.ofString "_div2n1n") 192, Value.str (Str.ofString "/claim/cut.py") 193, Value.int 3 0, Value.int 3 0, Value.int 0 0, Value.int 0 0, Value.int 3 0, Value.ref 15, Value.bool true, Value.int 181 0, Value.ref 16, Value.none, Value.ref 17, Value.ref 18, Value.ref 19, Value.int 205 0, Value.int 3 0, Value.str (Str.ofString "/claim/cut.py") 206] }
noncomputable def ob24 (P : Params) : Obj := { cls := Value.type "tuple", data := Data.seq #[Value.str (Str.ofString "a12") 211, Value.str (Str.ofString "a3") 212, Value.str (Str.ofString "b") 213, Value.str (Str.ofString "b1") 214, Value.str (Str.ofString "b2") 215, Value.str (Str.ofString "n") 216, Value.str (Str.ofString "q") 217, Value.str (Str.ofString "r") 218] }
noncomputable def ob27 (P : Params) : Obj := { cls := Value.type "code", data := Data.fields #[Value.str (Str.ofString "_div3n2n") 208, Value.str (Str.ofString "_div3n2n") 209, Value.str (Str.ofString "/claim/cut.py") 210, Value.int 19 0, Value.int 6 0, Value.int 0 0, Value.int 0 0, Value.int 3 0, Value.ref 22, Value.bool true, Value.int 181 0, Value.ref 23, Value.none, Value.ref 24, Value.ref 25, Value.ref 26, Value.int 219 0, Value.int 19 0, Value.str (Str.ofString "/claim/cut.py") 220] }
noncomputable def ob31 (P : Params) : Obj := { cls := Value.type "tuple", data := Data.seq #[Value.str (Str.ofString "a") 225, Value.str (Str.ofString "n") 226] }
noncomputable def ob32 (P : Params) : Obj := { cls := Value.type "tuple", data := Data.seq #[Value.str (Str.ofString "n") 227, Value.str (Str.ofString "a_digits") 228, Value.str (Str.ofString "inner") 229] }
noncomputable def ob34 (P : Params) : Obj := { cls := Value.type "code", data := Data.fields #[Value.str (Str.ofString "_int2digits") 222, Value.str (Str.ofString "_int2digits") 223, Value.str (Str.ofString "/claim/cut.py") 224, Value.int 29 0, Value.int 2 0, Value.int 0 0, Value.int 0 0, Value.int 3 0, Value.ref 29, Value.bool true, Value.int 181 0, Value.ref 30, Value.none, Value.ref 31, Value.ref 32, Value.ref 33, Value.int 230 0, Value.int 29 0, Value.str (Str.ofString "/claim/cut.py") 231] }
noncomputable def ob38 (P : Params) : Obj := { cls := Value.type "tuple", data := Data.seq #[Value.str (Str.ofString "digits") 236, Value.str (Str.ofString "n") 237] }
noncomputable def ob39 (P : Params) : Obj := { cls := Value.type "tuple", data := Data.seq #[Value.str (Str.ofString "digits") 238, Value.str (Str.ofString "n") 239, Value.str (Str.ofString "inner") 240] }
noncomputable def ob41 (P : Params) : Obj := { cls := Value.type "code", data := Data.fields #[Value.str (Str.ofString "_digits2int") 233, Value.str (Str.ofString "_digits2int") 234, Value.str (Str.ofString "/claim/cut.py") 235, Value.int 45 0, Value.int 2 0, Value.int 0 0, Value.int 0 0, Value.int 3 0, Value.ref 36, Value.bool true, Value.int 181 0, Value.ref 37, Value.none, Value.ref 38, Value.ref 39, Value.ref 40, Value.int 241 0, Value.int 45 0, Value.str (Str.ofString "/claim/cut.py") 242] }
noncomputable def ob45 (P : Params) : Obj := { cls := Value.type "tuple", data := Data.seq #[Value.str (Str.ofString "a") 247, Value.str (Str.ofString "b") 248, Value.str (Str.ofString "n") 249, Value.str (Str.ofString "a_digits") 250, Value.str (Str.ofString "r") 251, Value.str (Str.ofString "q_digits") 252, Value.str (Str.ofString "a_digit") 253, Value.str (Str.ofString "q_digit") 254, Value.str (Str.ofString "q") 255] }
noncomputable def ob48 (P : Params) : Obj := { cls := Value.type "code", data := Data.fields #[Value.str (Str.ofString "_divmod_pos") 244, Value.str (Str.ofString "_divmod_pos") 245, Value.str (Str.ofString "/claim/cut.py") 246, Value.int 54 0, Value.int 2 0, Value.int 0 0, Value.int 0 0, Value.int 3 0, Value.ref 43, Value.bool true, Value.int 181 0, Value.ref 44, Value.none, Value.ref 45, Value.ref 46, Value.ref 47, Value.int 256 0, Value.int 54 0, Value.str (Str.ofString "/claim/cut.py") 257] }
noncomputable def ob52 (P : Params) : Obj := { cls := Value.type "tuple", data := Data.seq #[Value.str (Str.ofString "a") 262, Value.str (Str.ofString "b") 263, Value.str (Str.ofString "q") 264, Value.str (Str.ofString "r") 265] }
noncomputable def ob55 (P : Params) : Obj := { cls := Value.type "code", data := Data.fields #[Value.str (Str.ofString "int_divmod") 259, Value.str (Str.ofString "int_divmod") 260, Value.str (Str.ofString "/claim/cut.py") 261, Value.int 65 0, Value.int 2 0, Value.int 0 0, Value.int 0 0, Value.int 3 0, Value.ref 50, Value.bool true, Value.int 181 0, Value.ref 51, Value.none, Value.ref 52, Value.ref 53, Value.ref 54, Value.int 266 0, Value.int 65 0, Value.str (Str.ofString "/claim/cut.py") 267] }
noncomputable def ob59 (P : Params) : Obj := { cls := Value.type "tuple", data := Data.seq #[Value.str (Str.ofString "want") 276, Value.str (Str.ofString "got") 277, Value.str (Str.ofString "ws") 278, Value.str (Str.ofString "startpos") 279, Value.str (Str.ofString "endpos") 280, Value.str (Str.ofString "w") 281] }
noncomputable def ob62 (P : Params) : Obj := { cls := Value.type "code", data := Data.fields #[Value.str (Str.ofString "_ellipsis_match") 273, Value.str (Str.ofString "_ellipsis_match") 274, Value.str (Str.ofString "/claim/cut.py") 275, Value.int 78 0, Value.int 2 0, Value.int 0 0, Value.int 0 0, Value.int 3 0, Value.ref 57, Value.bool true, Value.int 181 0, Value.ref 58, Value.none, Value.ref 59, Value.ref 60, Value.ref 61, Value.int 282 0, Value.int 78 0, Value.str (Str.ofString "/claim/cut.py") 283] }
noncomputable def ob72 (P : Params) : Obj := { cls := Value.type "dict", data := Data.dict #[{ hash := PyData.keyHash P (Str.ofString "__module__"), key := Value.str (Str.ofString "__module__") 294, val := Value.str (Str.ofString "cpy313.ftplib") 285 }, { hash := PyData.keyHash P (Str.ofString "__firstlineno__"), key := Value.str (Str.ofString "__firstlineno__") 298, val := Value.int 107 297 }, { hash := PyData.keyHash P (Str.ofString "__static_attributes__"), key := Value.str (Str.ofString "__static_attributes__") 299, val := Value.ref 71 }, { hash := PyData.keyHash P (Str.ofString "__weakref__"), key := Value.str (Str.ofString "__weakref__") 301, val := Value.ref 74 }, { hash := PyData.keyHash P (Str.ofString "__doc__"), key := Value.str (Str.ofString "__doc__") 302, val := Value.none }] 3 }
noncomputable def ob73 (P : Params) : Obj := { cls := Value.type "type", data := Data.cls { name := Str.ofString "Error", bases := [Value.type "Exception"], mro := [Value.ref 73, Value.type "Exception", Value.type "BaseException", Value.type "object"], ns := 72, qualname := Str.ofString "Error", subclasses := [Value.ref 86, Value.ref 98] }, slots := #[some (Value.ref 64), none, some (Value.str (Str.ofString "Error") 287), some (Value.str (Str.ofString "Error") 295), some (Value.builtin "Exception.__new__"), some (Value.bool true)] }
noncomputable def ob74 (P : Params) : Obj := { cls := Value.type "getset_descriptor", data := Data.fields #[Value.str (Str.ofString "__weakref__") 300, Value.ref 73, Value.builtin "ExceptionGroup.__weakref__", Value.none] }
noncomputable def ob85 (P : Params) : Obj := { cls := Value.type "dict", data := Data.dict #[{ hash := PyData.keyHash P (Str.ofString "__module__"), key := Value.str (Str.ofString "__module__") 314, val := Value.str (Str.ofString "cpy313.ftplib") 285 }, { hash := PyData.keyHash P (Str.ofString "__firstlineno__"), key := Value.str (Str.ofString "__firstlineno__") 318, val := Value.int 109 317 }, { hash := PyData.keyHash P (Str.ofString "__static_attributes__"), key := Value.str (Str.ofString "__static_attributes__") 319, val := Value.ref 84 }, { hash := PyData.keyHash P (Str.ofString "__doc__"), key := Value.str (Str.ofString "__doc__") 320, val := Value.none }] 2 }
noncomputable def ob86 (P : Params) : Obj := { cls := Value.type "type", data := Data.cls { name := Str.ofString "error_reply", bases := [Value.ref 73], mro := [Value.ref 86, Value.ref 73, Value.type "Exception", Value.type "BaseException", Value.type "object"], ns := 85, qualname := Str.ofString "error_reply" }, slots := #[some (Value.ref 77), none, some (Value.str (Str.ofString "error_reply") 307), some (Value.str (Str.ofString "error_reply") 315), some (Value.builtin "Exception.__new__"), some (Value.bool true)] }
noncomputable def ob97 (P : Params) : Obj := { cls := Value.type "dict", data := Data.dict #[{ hash := PyData.keyHash P (Str.ofString "__module__"), key := Value.str (Str.ofString "__module__") 330, val := Value.str (Str.ofString "cpy313.ftplib") 285 }, { hash := PyData.keyHash P (Str.ofString "__firstlineno__"), key := Value.str (Str.ofString "__firstlineno__") 334, val := Value.int 111 333 }, { hash := PyData.keyHash P (Str.ofString "__static_attributes__"), key := Value.str (Str.ofString "__static_attributes__") 335, val := Value.ref 96 }, { hash := PyData.keyHash P (Str.ofString "__doc__"), key := Value.str (Str.ofString "__doc__") 336, val := Value.none }] 2 }
noncomputable def ob98 (P : Params) : Obj := { cls := Value.type "type", data := Data.cls { name := Str.ofString "error_proto", bases := [Value.ref 73], mro := [Value.ref 98, Value.ref 73, Value.type "Exception", Value.type "BaseException", Value.type "object"], ns := 97, qualname := Str.ofString "error_proto" }, slots := #[some (Value.ref 89), none, some (Value.str (Str.ofString "error_proto") 323), some (Value.str (Str.ofString "error_proto") 331), some (Value.builtin "Exception.__new__"), some (Value.bool true)] }
noncomputable def ob103 (P : Params) : Obj := { cls := Value.type "tuple", data := Data.seq #[Value.str (Str.ofString "resp") 342, Value.str (Str.ofString "peer") 343, Value.str (Str.ofString "left") 344, Value.str (Str.ofString "right") 345, Value.str (Str.ofString "parts") 346, Value.str (Str.ofString "host") 347, Value.str (Str.ofString "port") 348] }
noncomputable def ob106 (P : Params) : Obj := { cls := Value.type "code", data := Data.fields #[Value.str (Str.ofString "parse229") 339, Value.str (Str.ofString "parse229") 340, Value.str (Str.ofString "/claim/cut.py") 341, Value.int 113 0, Value.int 2 0, Value.int 0 0, Value.int 0 0, Value.int 3 0, Value.ref 101, Value.bool true, Value.int 181 0, Value.ref 102, Value.none, Value.ref 103, Value.ref 104, Value.ref 105, Value.int 349 0, Value.int 113 0, Value.str (Str.ofString "/claim/cut.py") 350] }
noncomputable def ob110 (P : Params) : Obj := { cls := Value.type "tuple", data := Data.seq #[Value.str (Str.ofString "script") 357, Value.str (Str.ofString "cells") 358, Value.str (Str.ofString "k") 359] }
noncomputable def ob113 (P : Params) : Obj := { cls := Value.type "code", data := Data.fields #[Value.str (Str.ofString "_law_cells") 354, Value.str (Str.ofString "_law_cells") 355, Value.str (Str.ofString "/claim/cut.py") 356, Value.int 131 0, Value.int 1 0, Value.int 0 0, Value.int 0 0, Value.int 3 0, Value.ref 108, Value.bool true, Value.int 181 0, Value.ref 109, Value.none, Value.ref 110, Value.ref 111, Value.ref 112, Value.int 360 0, Value.int 131 0, Value.str (Str.ofString "/claim/cut.py") 361] }
noncomputable def ob117 (P : Params) : Obj := { cls := Value.type "tuple", data := Data.seq #[Value.str (Str.ofString "cell") 366, Value.str (Str.ofString "front") 367, Value.str (Str.ofString "row") 368, Value.str (Str.ofString "rest") 369, Value.str (Str.ofString "k") 370] }
noncomputable def ob120 (P : Params) : Obj := { cls := Value.type "code", data := Data.fields #[Value.str (Str.ofString "_law_row") 363, Value.str (Str.ofString "_law_row") 364, Value.str (Str.ofString "/claim/cut.py") 365, Value.int 136 0, Value.int 2 0, Value.int 0 0, Value.int 0 0, Value.int 3 0, Value.ref 115, Value.bool true, Value.int 181 0, Value.ref 116, Value.none, Value.ref 117, Value.ref 118, Value.ref 119, Value.int 371 0, Value.int 136 0, Value.str (Str.ofString "/claim/cut.py") 372] }
noncomputable def ob125 (P : Params) : Obj := { cls := Value.type "code", data := Data.fields #[Value.str (Str.ofString "_law_sum") 374, Value.str (Str.ofString "_law_sum") 375, Value.str (Str.ofString "/claim/cut.py") 376, Value.int 148 0, Value.int 1 0, Value.int 0 0, Value.int 0 0, Value.int 3 0, Value.ref 122, Value.bool true, Value.int 181 0, Value.ref 123, Value.none, Value.none, Value.none, Value.ref 124, Value.int 377 0, Value.int 148 0, Value.str (Str.ofString "/claim/cut.py") 378] }
noncomputable def ob129 (P : Params) : Obj := { cls := Value.type "tuple", data := Data.seq #[Value.str (Str.ofString "mark") 383, Value.str (Str.ofString "number") 384, Value.str (Str.ofString "host") 385, Value.str (Str.ofString "port") 386] }
noncomputable def ob132 (P : Params) : Obj := { cls := Value.type "code", data := Data.fields #[Value.str (Str.ofString "_law_port") 380, Value.str (Str.ofString "_law_port") 381, Value.str (Str.ofString "/claim/cut.py") 382, Value.int 153 0, Value.int 2 0, Value.int 0 0, Value.int 0 0, Value.int 3 0, Value.ref 127, Value.bool true, Value.int 181 0, Value.ref 128, Value.none, Value.ref 129, Value.ref 130, Value.ref 131, Value.int 387 0, Value.int 153 0, Value.str (Str.ofString "/claim/cut.py") 388] }
noncomputable def ob136 (P : Params) : Obj := { cls := Value.type "tuple", data := Data.seq #[Value.str (Str.ofString "above") 393, Value.str (Str.ofString "below") 394, Value.str (Str.ofString "row") 395, Value.str (Str.ofString "k") 396, Value.str (Str.ofString "quotient") 397, Value.str (Str.ofString "rest") 398] }
noncomputable def ob139 (P : Params) : Obj := { cls := Value.type "code", data := Data.fields #[Value.str (Str.ofString "_law_greedy") 390, Value.str (Str.ofString "_law_greedy") 391, Value.str (Str.ofString "/claim/cut.py") 392, Value.int 156 0, Value.int 2 0, Value.int 0 0, Value.int 0 0, Value.int 3 0, Value.ref 134, Value.bool true, Value.int 181 0, Value.ref 135, Value.none, Value.ref 136, Value.ref 137, Value.ref 138, Value.int 399 0, Value.int 156 0, Value.str (Str.ofString "/claim/cut.py") 400] }
noncomputable def ob144 (P : Params) : Obj := { cls := Value.type "code", data := Data.fields #[Value.str (Str.ofString "_law_reply") 402, Value.str (Str.ofString "_law_reply") 403, Value.str (Str.ofString "/claim/cut.py") 404, Value.int 170 0, Value.int 1 0, Value.int 0 0, Value.int 0 0, Value.int 3 0, Value.ref 141, Value.bool true, Value.int 181 0, Value.ref 142, Value.none, Value.none, Value.none, Value.ref 143, Value.int 405 0, Value.int 170 0, Value.str (Str.ofString "/claim/cut.py") 406] }
noncomputable def ob148 (P : Params) : Obj := { cls := Value.type "tuple", data := Data.seq #[Value.str (Str.ofString "reply") 411] }
noncomputable def ob151 (P : Params) : Obj := { cls := Value.type "code", data := Data.fields #[Value.str (Str.ofString "_law_read") 408, Value.str (Str.ofString "_law_read") 409, Value.str (Str.ofString "/claim/cut.py") 410, Value.int 172 0, Value.int 1 0, Value.int 0 0, Value.int 0 0, Value.int 3 0, Value.ref 146, Value.bool true, Value.int 181 0, Value.ref 147, Value.none, Value.ref 148, Value.ref 149, Value.ref 150, Value.int 412 0, Value.int 172 0, Value.str (Str.ofString "/claim/cut.py") 413] }
noncomputable def ob156 (P : Params) : Obj := { cls := Value.type "code", data := Data.fields #[Value.str (Str.ofString "law") 415, Value.str (Str.ofString "law") 416, Value.str (Str.ofString "/claim/cut.py") 417, Value.int 177 0, Value.int 1 0, Value.int 0 0, Value.int 0 0, Value.int 3 0, Value.ref 153, Value.bool true, Value.int 181 0, Value.ref 154, Value.none, Value.none, Value.none, Value.ref 155, Value.int 418 0, Value.int 177 0, Value.str (Str.ofString "/claim/cut.py") 419] }
noncomputable def part0 (P : Params) : Frag := [(2, ob2 P), (3, ob3 P), (15, { cls := Value.type "tuple", data := Data.seq #[] }), (17, ob17 P), (18, { cls := Value.type "tuple", data := Data.seq #[] }), (20, ob20 P), (21, fnAt 2 (Value.str (Str.ofString "cpy313._pylong") 187) (Value.ref 20)), (22, { cls := Value.type "tuple", data := Data.seq #[] }), (24, ob24 P)]
noncomputable def part1 (P : Params) : Frag := [(25, { cls := Value.type "tuple", data := Data.seq #[] }), (27, ob27 P), (28, fnAt 3 (Value.str (Str.ofString "cpy313._pylong") 187) (Value.ref 27)), (29, { cls := Value.type "tuple", data := Data.seq #[] }), (31, ob31 P), (32, ob32 P), (34, ob34 P), (35, fnAt 4 (Value.str (Str.ofString "cpy313._pylong") 187) (Value.ref 34)), (36, { cls := Value.type "tuple", data := Data.seq #[] })]
noncomputable def part2 (P : Params) : Frag := [(38, ob38 P), (39, ob39 P), (41, ob41 P), (42, fnAt 5 (Value.str (Str.ofString "cpy313._pylong") 187) (Value.ref 41)), (43, { cls := Value.type "tuple", data := Data.seq #[] }), (45, ob45 P), (46, { cls := Value.type "tuple", data := Data.seq #[] }), (48, ob48 P), (49, fnAt 6 (Value.str (Str.ofString "cpy313._pylong") 187) (Value.ref 48))]
noncomputable def part3 (P : Params) : Frag := [(50, { cls := Value.type "tuple", data := Data.seq #[] }), (52, ob52 P), (53, { cls := Value.type "tuple", data := Data.seq #[] }), (55, ob55 P), (56, fnAt 7 (Value.str (Str.ofString "cpy313._pylong") 187) (Value.ref 55)), (57, { cls := Value.type "tuple", data := Data.seq #[] }), (59, ob59 P), (60, { cls := Value.type "tuple", data := Data.seq #[] }), (62, ob62 P)]
noncomputable def part4 (P : Params) : Frag := [(63, fnAt 10 (Value.str (Str.ofString "cpy313.doctest") 269) (Value.ref 62)), (64, { cls := Value.type "tuple", data := Data.seq #[Value.type "Exception"] }), (71, { cls := Value.type "tuple", data := Data.seq #[] }), (72, ob72 P), (73, ob73 P), (74, ob74 P), (77, { cls := Value.type "tuple", data := Data.seq #[Value.ref 73] }), (84, { cls := Value.type "tuple", data := Data.seq #[] }), (85, ob85 P)]
noncomputable def part5 (P : Params) : Frag := [(86, ob86 P), (89, { cls := Value.type "tuple", data := Data.seq #[Value.ref 73] }), (96, { cls := Value.type "tuple", data := Data.seq #[] }), (97, ob97 P), (98, ob98 P), (101, { cls := Value.type "tuple", data := Data.seq #[] }), (103, ob103 P), (104, { cls := Value.type "tuple", data := Data.seq #[] }), (106, ob106 P)]
noncomputable def part6 (P : Params) : Frag := [(107, fnAt 15 (Value.str (Str.ofString "cpy313.ftplib") 285) (Value.ref 106)), (108, { cls := Value.type "tuple", data := Data.seq #[] }), (110, ob110 P), (111, { cls := Value.type "tuple", data := Data.seq #[] }), (113, ob113 P), (114, fnAt 17 (Value.str (Str.ofString "law_rw0066_01") 352) (Value.ref 113)), (115, { cls := Value.type "tuple", data := Data.seq #[] }), (117, ob117 P), (118, { cls := Value.type "tuple", data := Data.seq #[] })]
noncomputable def part7 (P : Params) : Frag := [(120, ob120 P), (121, fnAt 18 (Value.str (Str.ofString "law_rw0066_01") 352) (Value.ref 120)), (122, { cls := Value.type "tuple", data := Data.seq #[] }), (125, ob125 P), (126, fnAt 19 (Value.str (Str.ofString "law_rw0066_01") 352) (Value.ref 125)), (127, { cls := Value.type "tuple", data := Data.seq #[] }), (129, ob129 P), (130, { cls := Value.type "tuple", data := Data.seq #[] }), (132, ob132 P)]
noncomputable def part8 (P : Params) : Frag := [(133, fnAt 20 (Value.str (Str.ofString "law_rw0066_01") 352) (Value.ref 132)), (134, { cls := Value.type "tuple", data := Data.seq #[] }), (136, ob136 P), (137, { cls := Value.type "tuple", data := Data.seq #[] }), (139, ob139 P), (140, fnAt 21 (Value.str (Str.ofString "law_rw0066_01") 352) (Value.ref 139)), (141, { cls := Value.type "tuple", data := Data.seq #[] }), (144, ob144 P), (145, fnAt 22 (Value.str (Str.ofString "law_rw0066_01") 352) (Value.ref 144))]
noncomputable def part9 (P : Params) : Frag := [(146, { cls := Value.type "tuple", data := Data.seq #[] }), (148, ob148 P), (149, { cls := Value.type "tuple", data := Data.seq #[] }), (151, ob151 P), (152, fnAt 23 (Value.str (Str.ofString "law_rw0066_01") 352) (Value.ref 151)), (153, { cls := Value.type "tuple", data := Data.seq #[] }), (156, ob156 P), (157, fnAt 24 (Value.str (Str.ofString "law_rw0066_01") 352) (Value.ref 156))]
/-- the objects behind the top, in small pieces (the library lays a twin of this term: its size goes by the square of the names in a piece) -/
noncomputable def K0 : Params → Frag := fun P => part0 P ++ (part1 P ++ (part2 P ++ (part3 P ++ (part4 P ++ (part5 P ++ (part6 P ++ (part7 P ++ (part8 P ++ (part9 P)))))))))
section
local macro_rules | `(tactic| o_head (kmHook $_ $as $_ $ts)) => `(tactic| o_head ((kmHook Mine.K0 $as (fun _ => by kernel_rfl) $ts)))
set_option maxRecDepth 100000 in
set_option maxHeartbeats 8000000 in
open_top hd for PySem.Challenge.rw_rw0066_01
end
theorem K0_eq : K0 = hd.heap_39 := by kernel_rfl
theorem says_of {K K' : Params → Frag} {as : List Addr} {e : ∀ P, as = (K P).map (·.1)} {ts : List Addr} (q : K = K') : (kmHook K as e ts).says = (kmHook K' as (q ▸ e) ts).says := by
  subst q
  rfl
end Mine
end PartL0

local macro_rules | `(tactic| walk_at $s:str) => `(tactic| k_extra $s)
local macro_rules | `(tactic| ktr_room) => `(tactic| k_extra "room")
local macro_rules | `(tactic| omega) => `(tactic| first | k_extra "lia" | omega (splitDisjunctions := true))
section PartTok
open PySem PySem.W PyProof.Rows PySem.Calls PySem.Spec
namespace Mine
/-- the state's counter is forgotten -/
theorem tok_gen {α : Type} {M : Model} {A : Around} {t : Sem α} {Q : α → Shared → Prop} {E : Value → Shared → Prop} {s : Shared} {h : Heap} {T : Nat} (H : ∀ tk, wpAny M A t Q E { s with heap := h, toks := tk }) : wpAny M A t Q E { s with heap := h, toks := T } := H T
theorem room0 {dp b : Nat} (h : dp + b < recursionLimit) : dp < recursionLimit := by omega
theorem room1 {dp b a : Nat} (h : dp + b < recursionLimit) (e : Nat.ble (a + 1) b = true) : dp + 1 + a < recursionLimit := by
  have := Nat.le_of_ble_eq_true e
  omega
end Mine
end PartTok


section PartN0
open PySem
namespace Mine
/-- the number that figures tell, the lowest first, to the base 2 ^ n -/
noncomputable def val (n : Nat) : List Int → Int
  | [] => 0
  | d :: ds => d + 2 ^ n * val n ds
theorem val_append (n : Nat) (xs ys : List Int) : val n (xs ++ ys) = val n xs + 2 ^ (n * xs.length) * val n ys := by
  induction xs with
  | nil => simp [val]
  | cons x xs ih =>
    simp only [List.cons_append, val, List.length_cons, ih]
    have : (2 : Int) ^ (n * (xs.length + 1)) = 2 ^ n * 2 ^ (n * xs.length) := by rw [← Int.pow_add]; congr 1; rw [Nat.mul_add, Nat.mul_one, Nat.add_comm]
    rw [this, Int.mul_add, Int.mul_assoc]; (first | lia | omega)
theorem val_bounds {n c : Nat} {ds : List Int} (h : ∀ d ∈ ds, 0 ≤ d ∧ d < 2 ^ c) : 0 ≤ val n ds ∧ val n ds < 2 ^ (c + (n + 1) * ds.length) := by
  induction ds with
  | nil => simp only [val, List.length_nil, Nat.mul_zero, Nat.add_zero]; exact ⟨Int.le_refl _, Int.pow_pos (by decide)⟩
  | cons d ds ih =>
    have h1 := h d (.head _)
    have h2 := ih fun e he => h e (.tail _ he)
    have p : (0 : Int) < 2 ^ n := Int.pow_pos (by decide)
    simp only [val, List.length_cons]
    refine ⟨Int.add_nonneg h1.1 (Int.mul_nonneg (Int.le_of_lt p) h2.1), ?_⟩
    have e1 : (2 : Int) ^ (c + (n + 1) * (ds.length + 1)) = 2 * (2 ^ n * 2 ^ (c + (n + 1) * ds.length)) := by
      rw [← Int.pow_add, ← Int.pow_succ']; congr 1; rw [Nat.mul_add]; (first | lia | omega)
    have e2 : (2 : Int) ^ c ≤ 2 ^ n * 2 ^ (c + (n + 1) * ds.length) := by
      rw [← Int.pow_add]
      exact_mod_cast Nat.pow_le_pow_right (by decide) (by (first | lia | omega) : c ≤ n + (c + (n + 1) * ds.length))
    have e3 : 2 ^ n * val n ds < 2 ^ n * 2 ^ (c + (n + 1) * ds.length) := Int.mul_lt_mul_of_pos_left h2.2 p
    rw [e1]; (first | lia | omega)
theorem bits_le {x : Int} {k : Nat} (h0 : 0 ≤ x) (h : x < 2 ^ k) : Builtin.Int.intBits x ≤ k := by
  unfold Builtin.Int.intBits
  split
  · exact Nat.zero_le _
  · rename_i h1
    have hx : x.natAbs ≠ 0 := by intro e; apply h1; simp at e; simp [e]
    have : x.natAbs < 2 ^ k := by
      have e : (x.natAbs : Int) = x := Int.natAbs_of_nonneg h0
      have : (x.natAbs : Int) < ((2 ^ k : Nat) : Int) := by rw [e]; exact_mod_cast h
      exact_mod_cast this
    exact (Nat.log2_lt hx).mpr this
theorem bits_pos {x : Int} (h : 0 < x) : 1 ≤ Builtin.Int.intBits x := by
  unfold Builtin.Int.intBits
  rw [if_neg (by simp; (first | lia | omega))]; (first | lia | omega)
theorem lt_bits {x : Int} (h0 : 0 ≤ x) : x < 2 ^ Builtin.Int.intBits x := by
  unfold Builtin.Int.intBits
  split
  · rename_i h; simp at h; subst h; decide
  · rename_i h1
    have hx : x.natAbs ≠ 0 := by intro e; apply h1; simp at e; simp [e]
    have : x.natAbs < 2 ^ (x.natAbs.log2 + 1) := Nat.lt_log2_self
    have e : (x.natAbs : Int) = x := Int.natAbs_of_nonneg h0
    rw [← e]; simpa using (by exact_mod_cast this : (x.natAbs : Int) < 2 ^ (x.natAbs.log2 + 1))
/-- a stretch of a list -/
noncomputable def cut {α : Type} (ds : List α) (i j : Nat) : List α := (ds.drop i).take (j - i)
theorem cut_length {α : Type} {ds : List α} {i j : Nat} (hij : i ≤ j) (hj : j ≤ ds.length) : (cut ds i j).length = j - i := by
  unfold cut; rw [List.length_take, List.length_drop]; (first | lia | omega)
theorem cut_split {α : Type} {ds : List α} {i k j : Nat} (h1 : i ≤ k) (h2 : k ≤ j) : cut ds i j = cut ds i k ++ cut ds k j := by
  unfold cut
  have e : j - i = (k - i) + (j - k) := by (first | lia | omega)
  rw [e, List.take_add, List.drop_drop]
  congr 3; (first | lia | omega)
theorem cut_mem {α : Type} {ds : List α} {i j : Nat} {d : α} (h : d ∈ cut ds i j) : d ∈ ds := List.mem_of_mem_drop (List.mem_of_mem_take h)
theorem cut_one {ds : List Int} {i : Nat} (h : i < ds.length) : cut ds i (i + 1) = [ds.getD i 0] := by
  unfold cut
  have e : i + 1 - i = 1 := by (first | lia | omega)
  rw [e, List.drop_eq_getElem_cons h]
  simp only [List.take_succ_cons, List.take_zero, List.getD_eq_getElem?_getD, List.getElem?_eq_getElem h, Option.getD_some]
theorem cut_all {α : Type} (ds : List α) : cut ds 0 ds.length = ds := by unfold cut; simp
theorem val_cut {n : Nat} {ds : List Int} {i k j : Nat} (h1 : i ≤ k) (h2 : k ≤ j) (hj : j ≤ ds.length) :
    val n (cut ds i j) = val n (cut ds k j) * 2 ^ (n * (k - i)) + val n (cut ds i k) := by
  rw [cut_split h1 h2, val_append, cut_length h1 (by (first | lia | omega)), Int.mul_comm (val n (cut ds k j)), Int.add_comm]
end Mine
end PartN0

section PartP0
open PySem
namespace Mine
/-- the product of a row -/
noncomputable def dn : List Int → Int
  | [] => 1
  | d :: r => d * dn r
/-- the sum of 1 over each, by the product -/
noncomputable def nm : List Int → Int
  | [] => 0
  | d :: r => dn r + d * nm r
theorem dn_append (xs ys : List Int) : dn (xs ++ ys) = dn xs * dn ys := by
  induction xs with
  | nil => simp [dn]
  | cons x xs ih => simp only [List.cons_append, dn, ih, Int.mul_assoc]
theorem dn_pos {ns : List Int} (h : ∀ n ∈ ns, 1 ≤ n) : 1 ≤ dn ns := by
  induction ns with
  | nil => exact Int.le_refl _
  | cons d r ih =>
    have h1 := h d (.head _)
    have h2 := ih fun e he => h e (.tail _ he)
    simp only [dn]
    have : 1 * 1 ≤ d * dn r := Int.mul_le_mul h1 h2 (by decide) (by omega)
    omega
theorem nm_nonneg {ns : List Int} (h : ∀ n ∈ ns, 1 ≤ n) : 0 ≤ nm ns := by
  induction ns with
  | nil => exact Int.le_refl _
  | cons d r ih =>
    have h1 := h d (.head _)
    have h2 := ih fun e he => h e (.tail _ he)
    have h3 := dn_pos fun e he => h e (.tail _ he)
    simp only [nm]
    have := Int.mul_nonneg (show 0 ≤ d by omega) h2
    omega
theorem nm_pos {d : Int} {ns : List Int} (h : ∀ n ∈ d :: ns, 1 ≤ n) : 1 ≤ nm (d :: ns) := by
  have h1 := h d (.head _)
  have h2 := nm_nonneg fun e he => h e (.tail _ he)
  have h3 := dn_pos fun e he => h e (.tail _ he)
  simp only [nm]
  have := Int.mul_nonneg (show 0 ≤ d by omega) h2
  omega
theorem dn_le {ns : List Int} {B : Nat} (h : ∀ n ∈ ns, 1 ≤ n ∧ n ≤ B) : dn ns ≤ ((B ^ ns.length : Nat) : Int) := by
  induction ns with
  | nil => exact Int.le_refl _
  | cons d r ih =>
    have h1 := h d (.head _)
    have h2 := ih fun e he => h e (.tail _ he)
    have h3 := dn_pos fun e he => (h e (.tail _ he)).1
    simp only [dn, List.length_cons, Nat.pow_succ]
    rw [Int.natCast_mul, Int.mul_comm]
    exact Int.mul_le_mul h2 h1.2 (by omega) (Int.natCast_nonneg _)
theorem sum_parts (c : Int) {ns : List Int} (h : ∀ n ∈ ns, 1 ≤ n) : (ns.map fun d => (c * dn ns).fdiv d).sum = c * nm ns := by
  induction ns generalizing c with
  | nil => simp [nm]
  | cons d r ih =>
    have h1 := h d (.head _)
    have h2 := ih (c * d) fun e he => h e (.tail _ he)
    simp only [List.map_cons, List.sum_cons, dn, nm]
    rw [show c * (d * dn r) = c * dn r * d by rw [Int.mul_comm d, Int.mul_assoc], Int.mul_fdiv_cancel _ (by omega)]
    rw [show c * dn r * d = c * d * dn r by rw [Int.mul_assoc, Int.mul_assoc, Int.mul_comm d], h2, Int.mul_add, Int.mul_assoc]
theorem parts_le {ns : List Int} (h : ∀ n ∈ ns, 1 ≤ n) : ∀ d ∈ ns, 0 ≤ (dn ns).fdiv d ∧ (dn ns).fdiv d ≤ dn ns := by
  intro d hd
  have h1 := h d hd
  have h2 := dn_pos h
  rw [Int.fdiv_eq_ediv_of_nonneg _ (by omega)]
  exact ⟨Int.ediv_nonneg (by omega) (by omega), Int.ediv_le_self _ (by omega)⟩
end Mine
end PartP0

section PartP1
open PySem
namespace Mine
/-- each number by the one ahead -/
noncomputable def Steps : Int → List Int → Prop
  | _, [] => True
  | d, e :: r => (d * (d - 1) + 1 ≤ e ∧ e ≤ d * (d - 1) + 4) ∧ Steps e r
noncomputable def Chain : List Int → Prop
  | [] => True
  | d :: r => (2 ≤ d ∧ d ≤ 5) ∧ Steps d r
/-- a row -/
def RowOk (r : List Int) : Prop := Chain r ∧ 1 ≤ r.length ∧ r.length ≤ 4
theorem steps_snoc {e : Int} : ∀ {d : Int} {r : List Int}, Steps d r → (∀ x, (d :: r).getLast? = some x → x * (x - 1) + 1 ≤ e ∧ e ≤ x * (x - 1) + 4) → Steps d (r ++ [e])
  | d, [], _, h => ⟨h d rfl, trivial⟩
  | d, a :: r, s, h => ⟨s.1, steps_snoc s.2 fun x hx => h x (by rw [List.getLast?_cons_cons]; exact hx)⟩
theorem chain_snoc {e x : Int} {r : List Int} (c : Chain r) (hx : r.getLast? = some x) (h : x * (x - 1) + 1 ≤ e ∧ e ≤ x * (x - 1) + 4) : Chain (r ++ [e]) := by
  cases r with
  | nil => cases hx
  | cons d r => exact ⟨c.1, steps_snoc c.2 fun y hy => by rw [hx] at hy; cases hy; exact h⟩
theorem steps_take : ∀ {d : Int} {r : List Int} (k : Nat), Steps d r → Steps d (r.take k)
  | _, [], _, _ => by rw [List.take_nil]; trivial
  | _, _ :: _, 0, _ => trivial
  | _, _ :: _, k + 1, s => ⟨s.1, steps_take k s.2⟩
theorem chain_take {r : List Int} (k : Nat) (c : Chain r) : Chain (r.take k) := by
  cases r with
  | nil => rw [List.take_nil]; trivial
  | cons d r =>
    cases k with
    | zero => trivial
    | succ k => exact ⟨c.1, steps_take k c.2⟩
theorem sq_le {d B : Int} (h0 : 1 ≤ d) (h : d ≤ B) : 0 ≤ d * (d - 1) ∧ d * (d - 1) ≤ B * (B - 1) := ⟨Int.mul_nonneg (by (first | lia | omega)) (by (first | lia | omega)), Int.mul_le_mul h (by (first | lia | omega)) (by (first | lia | omega)) (by (first | lia | omega))⟩
theorem sq_ge {d B : Int} (h0 : 1 ≤ B) (h : B ≤ d) : B * (B - 1) ≤ d * (d - 1) := Int.mul_le_mul h (by (first | lia | omega)) (by (first | lia | omega)) (by (first | lia | omega))
theorem chain_bounds {r : List Int} (c : Chain r) (hl : r.length ≤ 4) : ∀ n ∈ r, 2 ≤ n ∧ n ≤ 308584 := by
  have e1 : (5 : Int) * (5 - 1) = 20 := by decide
  have e2 : (24 : Int) * (24 - 1) = 552 := by decide
  have e3 : (556 : Int) * (556 - 1) = 308580 := by decide
  have e0 : (2 : Int) * (2 - 1) = 2 := by decide
  match r, c, hl with
  | [], _, _ => intro n hn; cases hn
  | [a], c, _ =>
    intro n hn; rw [List.mem_singleton.mp hn]; have := c.1; (first | lia | omega)
  | [a, b], ⟨⟨a1, a2⟩, ⟨b1, b2⟩, _⟩, _ =>
    have s1 := sq_le (by (first | lia | omega)) a2
    have t1 := sq_ge (by decide) a1
    intro n hn
    simp only [List.mem_cons, List.not_mem_nil, or_false] at hn
    rcases hn with rfl | rfl <;> (first | lia | omega)
  | [a, b, c], ⟨⟨a1, a2⟩, ⟨b1, b2⟩, ⟨c1, c2⟩, _⟩, _ =>
    have s1 := sq_le (by (first | lia | omega)) a2
    have t1 := sq_ge (by decide) a1
    have s2 := sq_le (d := b) (B := 24) (by (first | lia | omega)) (by (first | lia | omega))
    have t2 := sq_ge (d := b) (B := 2) (by decide) (by (first | lia | omega))
    intro n hn
    simp only [List.mem_cons, List.not_mem_nil, or_false] at hn
    rcases hn with rfl | rfl | rfl <;> (first | lia | omega)
  | [a, b, c, d], ⟨⟨a1, a2⟩, ⟨b1, b2⟩, ⟨c1, c2⟩, ⟨d1, d2⟩, _⟩, _ =>
    have s1 := sq_le (by (first | lia | omega)) a2
    have t1 := sq_ge (by decide) a1
    have s2 := sq_le (d := b) (B := 24) (by (first | lia | omega)) (by (first | lia | omega))
    have t2 := sq_ge (d := b) (B := 2) (by decide) (by (first | lia | omega))
    have s3 := sq_le (d := c) (B := 556) (by (first | lia | omega)) (by (first | lia | omega))
    have t3 := sq_ge (d := c) (B := 2) (by decide) (by (first | lia | omega))
    intro n hn
    simp only [List.mem_cons, List.not_mem_nil, or_false] at hn
    rcases hn with rfl | rfl | rfl | rfl <;> (first | lia | omega)
end Mine
end PartP1

section PartP2
open PySem
namespace Mine
theorem steps_ge {d : Int} {r : List Int} (hd : 2 ≤ d) (s : Steps d r) : ∀ n ∈ r, 2 ≤ n := by
  induction r generalizing d with
  | nil => intro n hn; cases hn
  | cons e r ih =>
    have h1 := sq_ge (d := d) (B := 2) (by decide) hd
    have h2 : (2 : Int) * (2 - 1) = 2 := by decide
    have he : 2 ≤ e := by have := s.1.1; (first | lia | omega)
    intro n hn
    rcases List.mem_cons.mp hn with rfl | hn
    · exact he
    · exact ih he s.2 n hn
/-- what is left of a row is small -/
theorem steps_small {d : Int} {r : List Int} (hd : 2 ≤ d) (s : Steps d r) : nm r * (d * (d - 1)) < dn r := by
  induction r generalizing d with
  | nil => simp [nm, dn]
  | cons e r ih =>
    have h0 := sq_ge (d := d) (B := 2) (by decide) hd
    have h00 : (2 : Int) * (2 - 1) = 2 := by decide
    have he : 2 ≤ e := by have := s.1.1; (first | lia | omega)
    have h1 := ih he s.2
    have hg := steps_ge he s.2
    have hD : 1 ≤ dn r := dn_pos fun n hn => by have := hg n hn; (first | lia | omega)
    have hN : 0 ≤ nm r := nm_nonneg fun n hn => by have := hg n hn; (first | lia | omega)
    simp only [nm, dn]
    have hc : d * (d - 1) ≤ e - 1 := by have := s.1.1; (first | lia | omega)
    have hs : 0 ≤ dn r + e * nm r := Int.add_nonneg (by (first | lia | omega)) (Int.mul_nonneg (by (first | lia | omega)) hN)
    have h2 : (dn r + e * nm r) * (d * (d - 1)) ≤ (dn r + e * nm r) * (e - 1) := Int.mul_le_mul_of_nonneg_left hc hs
    have h3 : (dn r + e * nm r) * (e - 1) = e * dn r - dn r + nm r * (e * (e - 1)) := by
      simp only [Int.add_mul, Int.mul_sub, Int.mul_one]
      have a1 : dn r * e = e * dn r := Int.mul_comm _ _
      have a2 : e * nm r * e = nm r * (e * e) := by rw [Int.mul_comm e (nm r), Int.mul_assoc]
      have a3 : e * nm r = nm r * e := Int.mul_comm _ _
      rw [a1, a2, a3]; (first | lia | omega)
    (first | lia | omega)
/-- a row that may go on behind another -/
noncomputable def Chain2 : List Int → Prop
  | [] => True
  | d :: r => 2 ≤ d ∧ Steps d r
theorem Chain.two {r : List Int} (c : Chain r) : Chain2 r := by
  cases r with
  | nil => trivial
  | cons d r => exact ⟨c.1.1, c.2⟩
theorem Chain2.tail {d : Int} {r : List Int} (c : Chain2 (d :: r)) : Chain2 r := by
  cases r with
  | nil => trivial
  | cons e r => exact ⟨steps_ge c.1 c.2 e (.head _), c.2.2⟩
theorem Chain2.pos {r : List Int} (c : Chain2 r) : ∀ n ∈ r, 1 ≤ n := by
  cases r with
  | nil => intro n hn; cases hn
  | cons d r =>
    intro n hn
    rcases List.mem_cons.mp hn with rfl | hn
    · have := c.1; (first | lia | omega)
    · have := steps_ge c.1 c.2 n hn; (first | lia | omega)
/-- one step of the greedy way -/
theorem greedy_step {e M : Int} {r : List Int} (c : Chain2 (e :: r)) (hM : 1 ≤ M) :
    1 ≤ M * nm (e :: r) ∧ (-(M * dn (e :: r))).fdiv (M * nm (e :: r)) = -e ∧ (-(M * dn (e :: r))).fmod (M * nm (e :: r)) = M * e * e * nm r ∧ e * (M * dn (e :: r)) = M * e * e * dn r := by
  have hp := c.pos
  have hN : 0 ≤ nm r := nm_nonneg fun n hn => hp n (.tail _ hn)
  have hs := steps_small c.1 c.2
  have hn1 : 1 ≤ nm (e :: r) := nm_pos hp
  have hA : 1 ≤ M * nm (e :: r) := by
    have : 1 * 1 ≤ M * nm (e :: r) := Int.mul_le_mul hM hn1 (by decide) (by (first | lia | omega))
    (first | lia | omega)
  have he : 2 ≤ e := c.1
  refine ⟨hA, ?_⟩
  rw [Int.fdiv_eq_ediv_of_nonneg _ (by (first | lia | omega)), Int.fmod_eq_emod_of_nonneg _ (by (first | lia | omega))]
  have hr0 : 0 ≤ M * e * e * nm r := Int.mul_nonneg (Int.mul_nonneg (Int.mul_nonneg (by (first | lia | omega)) (by (first | lia | omega))) (by (first | lia | omega))) hN
  have heq : M * e * e * nm r + M * nm (e :: r) * -e = -(M * dn (e :: r)) := by
    simp only [nm, dn, Int.mul_add, Int.add_mul, Int.mul_neg]
    have a1 : M * dn r * e = M * (e * dn r) := by rw [Int.mul_assoc, Int.mul_comm (dn r)]
    have a2 : M * (e * nm r) * e = M * e * e * nm r := by
      rw [Int.mul_comm e (nm r), ← Int.mul_assoc, Int.mul_assoc, Int.mul_assoc, Int.mul_assoc, Int.mul_assoc, Int.mul_comm (nm r), Int.mul_assoc]
    rw [a1, a2]; (first | lia | omega)
  have hlt : M * e * e * nm r < M * nm (e :: r) := by
    have h1 : e * e * nm r < nm (e :: r) := by
      simp only [nm]
      have a1 : nm r * (e * (e - 1)) = e * e * nm r - e * nm r := by
        rw [Int.mul_comm, Int.mul_sub, Int.mul_one, Int.sub_mul]
      (first | lia | omega)
    have h2 := Int.mul_lt_mul_of_pos_left h1 (show 0 < M by (first | lia | omega))
    have a3 : M * (e * e * nm r) = M * e * e * nm r := by rw [← Int.mul_assoc, ← Int.mul_assoc]
    (first | lia | omega)
  have u := (Int.ediv_emod_unique (show 0 < M * nm (e :: r) by (first | lia | omega))).mpr ⟨heq, hr0, hlt⟩
  refine ⟨u.1, u.2, ?_⟩
  simp only [dn]
  rw [← Int.mul_assoc, ← Int.mul_assoc, Int.mul_comm e M]
theorem nm_le {e : Int} {r : List Int} (c : Chain2 (e :: r)) : nm (e :: r) ≤ dn (e :: r) := by
  have hp := c.pos
  have hN : 0 ≤ nm r := nm_nonneg fun n hn => hp n (.tail _ hn)
  have hD : 1 ≤ dn r := dn_pos fun n hn => hp n (.tail _ hn)
  have hs := steps_small c.1 c.2
  have he : 2 ≤ e := c.1
  have h1 : e * nm r ≤ nm r * (e * (e - 1)) := by
    rw [Int.mul_comm e (nm r)]
    refine Int.mul_le_mul_of_nonneg_left ?_ hN
    have : e * 1 ≤ e * (e - 1) := Int.mul_le_mul_of_nonneg_left (by (first | lia | omega)) (by (first | lia | omega))
    (first | lia | omega)
  have h2 : 2 * dn r ≤ e * dn r := Int.mul_le_mul_of_nonneg_right he (by (first | lia | omega))
  simp only [nm, dn]
  (first | lia | omega)
theorem chain2_drop : ∀ {d r : List Int}, Chain2 (d ++ r) → Chain2 r
  | [], _, c => c
  | _ :: _, _, c => chain2_drop c.tail
theorem greedy_odd {x y : Int} : x.fdiv (-y) = (-x).fdiv y ∧ -(x.fmod (-y)) = (-x).fmod y := by
  have h1 := Int.neg_fdiv_neg x (-y)
  have h2 := Int.neg_fmod_neg x (-y)
  rw [Int.neg_neg] at h1 h2
  exact ⟨h1.symm, by rw [h2]⟩
theorem chain_dn {r : List Int} (c : Chain r) (hl : r.length ≤ 4) : dn r ≤ 20588724480 := by
  have e1 : (5 : Int) * (5 - 1) = 20 := by decide
  have e2 : (24 : Int) * (24 - 1) = 552 := by decide
  have e3 : (556 : Int) * (556 - 1) = 308580 := by decide
  have e0 : (2 : Int) * (2 - 1) = 2 := by decide
  match r, c, hl with
  | [], _, _ => decide
  | [a], c, _ => have := c.1; simp [dn]; (first | lia | omega)
  | [a, b], ⟨⟨a1, a2⟩, ⟨b1, b2⟩, _⟩, _ =>
    have s1 := sq_le (by (first | lia | omega)) a2
    have t1 := sq_ge (by decide) a1
    have h1 : a * b ≤ 5 * 24 := Int.mul_le_mul a2 (by (first | lia | omega)) (by (first | lia | omega)) (by decide)
    simp [dn]; (first | lia | omega)
  | [a, b, c], ⟨⟨a1, a2⟩, ⟨b1, b2⟩, ⟨c1, c2⟩, _⟩, _ =>
    have s1 := sq_le (by (first | lia | omega)) a2
    have t1 := sq_ge (by decide) a1
    have s2 := sq_le (d := b) (B := 24) (by (first | lia | omega)) (by (first | lia | omega))
    have t2 := sq_ge (d := b) (B := 2) (by decide) (by (first | lia | omega))
    have h1 : b * c ≤ 24 * 556 := Int.mul_le_mul (by (first | lia | omega)) (by (first | lia | omega)) (by (first | lia | omega)) (by decide)
    have h2 : a * (b * c) ≤ 5 * (24 * 556) := Int.mul_le_mul a2 h1 (Int.mul_nonneg (by (first | lia | omega)) (by (first | lia | omega))) (by decide)
    simp [dn]; (first | lia | omega)
  | [a, b, c, d], ⟨⟨a1, a2⟩, ⟨b1, b2⟩, ⟨c1, c2⟩, ⟨d1, d2⟩, _⟩, _ =>
    have s1 := sq_le (by (first | lia | omega)) a2
    have t1 := sq_ge (by decide) a1
    have s2 := sq_le (d := b) (B := 24) (by (first | lia | omega)) (by (first | lia | omega))
    have t2 := sq_ge (d := b) (B := 2) (by decide) (by (first | lia | omega))
    have s3 := sq_le (d := c) (B := 556) (by (first | lia | omega)) (by (first | lia | omega))
    have t3 := sq_ge (d := c) (B := 2) (by decide) (by (first | lia | omega))
    have h0 : c * d ≤ 556 * 308584 := Int.mul_le_mul (by (first | lia | omega)) (by (first | lia | omega)) (by (first | lia | omega)) (by decide)
    have h1 : b * (c * d) ≤ 24 * (556 * 308584) := Int.mul_le_mul (by (first | lia | omega)) h0 (Int.mul_nonneg (by (first | lia | omega)) (by (first | lia | omega))) (by decide)
    have h2 : a * (b * (c * d)) ≤ 5 * (24 * (556 * 308584)) := Int.mul_le_mul a2 h1 (Int.mul_nonneg (by (first | lia | omega)) (Int.mul_nonneg (by (first | lia | omega)) (by (first | lia | omega)))) (by decide)
    simp [dn]; (first | lia | omega)
theorem greedy_size {r d rem : List Int} {e : Int} (c : Chain r) (hl : r.length ≤ 4) (h : r = d ++ e :: rem) :
    1 ≤ dn d * dn d ∧ 0 ≤ dn d * dn d * dn (e :: rem) ∧ dn d * dn d * dn (e :: rem) < 2 ^ 99 ∧ dn d * dn d * nm (e :: rem) < 2 ^ 99 ∧ 2 ≤ e ∧ e ≤ 308584 := by
  have hp := c.two.pos
  rw [h] at hp
  have h1 : 1 ≤ dn d := dn_pos fun n hn => hp n (List.mem_append_left _ hn)
  have hc : Chain2 (e :: rem) := chain2_drop (by rw [← h]; exact c.two)
  have h2 : 1 ≤ dn (e :: rem) := dn_pos hc.pos
  have h3 := chain_dn c hl
  have h4 : dn r = dn d * dn (e :: rem) := by rw [h, dn_append]
  rw [h4] at h3
  have h5 : dn d * 1 ≤ dn d * dn (e :: rem) := Int.mul_le_mul_of_nonneg_left h2 (by (first | lia | omega))
  have h6 : dn d * (dn d * dn (e :: rem)) ≤ 20588724480 * 20588724480 := Int.mul_le_mul (by (first | lia | omega)) h3 (Int.mul_nonneg (by (first | lia | omega)) (by (first | lia | omega))) (by decide)
  rw [← Int.mul_assoc] at h6
  have hM : 1 * 1 ≤ dn d * dn d := Int.mul_le_mul h1 h1 (by decide) (by (first | lia | omega))
  have h7 : dn d * dn d * nm (e :: rem) ≤ dn d * dn d * dn (e :: rem) := Int.mul_le_mul_of_nonneg_left (nm_le hc) (by (first | lia | omega))
  have hb := chain_bounds c hl e (by rw [h]; exact List.mem_append_right _ (.head _))
  exact ⟨by (first | lia | omega), Int.mul_nonneg (by (first | lia | omega)) (by (first | lia | omega)), by (first | lia | omega), by (first | lia | omega), hb.1, hb.2⟩
end Mine
end PartP2

section PartP3
open PySem
namespace Mine
/-- a row's fraction lies above 1 over its first number -/
theorem low_le {y : Int} {t : List Int} (h : ∀ n ∈ y :: t, 1 ≤ n) : dn (y :: t) ≤ nm (y :: t) * y := by
  have h1 := h y (.head _)
  have h2 := nm_nonneg fun n hn => h n (.tail _ hn)
  have h3 : 0 ≤ y * nm t * y := Int.mul_nonneg (Int.mul_nonneg (by (first | lia | omega)) h2) (by (first | lia | omega))
  simp only [nm, dn, Int.add_mul]
  have := Int.mul_comm y (dn t)
  (first | lia | omega)
/-- and below 1 over one less -/
theorem up_lt {y : Int} {t : List Int} (c : Chain2 (y :: t)) : nm (y :: t) * (y - 1) < dn (y :: t) := by
  have h := steps_small c.1 c.2
  simp only [nm, dn]
  grind
/-- a row whose last number is one less -/
theorem dech : ∀ {x d : Int} {q : List Int}, Chain2 (x :: (q ++ [d])) → nm (x :: (q ++ [d - 1])) * (x - 1) ≤ dn (x :: (q ++ [d - 1])) ∧ 0 ≤ nm (q ++ [d - 1]) ∧ 1 ≤ dn (q ++ [d - 1])
  | x, d, [], c => by
    have h1 := c.1
    have h2 := c.2.1
    have h3 : 2 * 1 ≤ x * (x - 1) := Int.mul_le_mul h1 (by (first | lia | omega)) (by decide) (by (first | lia | omega))
    simp only [List.nil_append, nm, dn]
    refine ⟨?_, by (first | lia | omega), by (first | lia | omega)⟩
    have := Int.mul_le_mul_of_nonneg_left h2.1 (show 0 ≤ x by (first | lia | omega))
    grind
  | x, d, e :: q, c => by
    have h1 := c.1
    have h2 := c.2.1
    have he := c.tail.1
    obtain ⟨i1, i2, i3⟩ := dech (x := e) (q := q) c.tail
    simp only [List.cons_append]
    have k1 : 0 ≤ nm (e :: (q ++ [d - 1])) := by
      simp only [nm]
      have := Int.mul_nonneg (show 0 ≤ e by (first | lia | omega)) i2
      (first | lia | omega)
    have k2 : 1 ≤ dn (e :: (q ++ [d - 1])) := by
      simp only [dn]
      have : 1 * 1 ≤ e * dn (q ++ [d - 1]) := Int.mul_le_mul (by (first | lia | omega)) i3 (by decide) (by (first | lia | omega))
      (first | lia | omega)
    refine ⟨?_, k1, k2⟩
    generalize e :: (q ++ [d - 1]) = z at i1 k1 k2
    simp only [nm, dn]
    have h3 : nm z * (x * (x - 1)) ≤ nm z * (e - 1) := Int.mul_le_mul_of_nonneg_left (by (first | lia | omega)) k1
    grind
theorem nm_cross {x : Int} {a b : List Int} : nm (x :: a) * dn (x :: b) - nm (x :: b) * dn (x :: a) = x * x * (nm a * dn b - nm b * dn a) := by
  simp only [nm, dn]; grind
theorem cross_le {x : Int} (hx : 2 ≤ x) {a b : List Int} : nm (x :: a) * dn (x :: b) ≤ nm (x :: b) * dn (x :: a) ↔ nm a * dn b ≤ nm b * dn a := by
  have h := nm_cross (x := x) (a := a) (b := b)
  have hp : 0 < x * x := Int.mul_pos (by (first | lia | omega)) (by (first | lia | omega))
  constructor
  · intro h1
    have h2 : x * x * (nm a * dn b - nm b * dn a) ≤ 0 := by (first | lia | omega)
    have := Int.nonpos_of_mul_nonpos_right h2 hp
    (first | lia | omega)
  · intro h1
    have := Int.mul_nonneg (Int.le_of_lt hp) (show 0 ≤ nm b * dn a - nm a * dn b by (first | lia | omega))
    have e : x * x * (nm b * dn a - nm a * dn b) = - (x * x * (nm a * dn b - nm b * dn a)) := by rw [← Int.mul_neg]; congr 1; (first | lia | omega)
    (first | lia | omega)
theorem cross_lt {x : Int} (hx : 2 ≤ x) {a b : List Int} : nm (x :: a) * dn (x :: b) < nm (x :: b) * dn (x :: a) ↔ nm a * dn b < nm b * dn a := by
  have h := cross_le hx (a := b) (b := a)
  (first | lia | omega)
/-- a first number smaller: a fraction greater -/
theorem first_lt {x y : Int} {a t : List Int} (ha : ∀ n ∈ x :: a, 1 ≤ n) (c : Chain2 (y :: t)) (h : x < y) : nm (y :: t) * dn (x :: a) < nm (x :: a) * dn (y :: t) := by
  have h1 := up_lt c
  have h2 := low_le ha
  have h3 := nm_pos ha
  have h4 := nm_pos c.pos
  have h5 : nm (y :: t) * x ≤ nm (y :: t) * (y - 1) := Int.mul_le_mul_of_nonneg_left (by (first | lia | omega)) (by (first | lia | omega))
  have h6 : nm (y :: t) * dn (x :: a) ≤ nm (y :: t) * (nm (x :: a) * x) := Int.mul_le_mul_of_nonneg_left h2 (by (first | lia | omega))
  have h7 : nm (x :: a) * (nm (y :: t) * x) < nm (x :: a) * dn (y :: t) := Int.mul_lt_mul_of_pos_left (by (first | lia | omega)) (by (first | lia | omega))
  have h8 : nm (y :: t) * (nm (x :: a) * x) = nm (x :: a) * (nm (y :: t) * x) := by grind
  (first | lia | omega)
theorem dn_pos' {s : List Int} (c : Chain2 s) : 1 ≤ dn s := dn_pos c.pos
/-- a row begins with another, by their fractions -/
theorem begins_iff : ∀ {p' s : List Int} {d : Int}, Chain2 (p' ++ [d]) → Chain2 s →
    ((nm (p' ++ [d]) * dn s ≤ nm s * dn (p' ++ [d]) ∧ nm s * dn (p' ++ [d - 1]) < nm (p' ++ [d - 1]) * dn s) ↔ (p' ++ [d]) <+: s)
  | p', [], d, cp, _ => by
    have h1 : 1 ≤ nm (p' ++ [d]) := by
      cases hq : p' ++ [d] with
      | nil => simp at hq
      | cons x r => rw [← hq]; have := cp.pos; rw [hq] at this ⊢; exact nm_pos this
    constructor
    · rintro ⟨h, _⟩
      simp only [nm, dn, Int.mul_one, Int.zero_mul] at h
      (first | lia | omega)
    · intro h
      have := h.length_le
      simp at this
  | [], y :: t, d, cp, cs => by
    have hd : 2 ≤ d := cp.1
    have hy : 2 ≤ y := cs.1
    have n0 := nm_pos cs.pos
    have n1 := nm_nonneg fun n hn => cs.pos n (.tail _ hn)
    have d1 := dn_pos fun n hn => cs.pos n (.tail _ hn)
    simp only [List.nil_append, List.cons_prefix_cons, List.nil_prefix, and_true]
    constructor
    · rintro ⟨h1, h2⟩
      rcases Int.lt_trichotomy d y with h | h | h
      · have := first_lt (x := d) (a := []) (fun n hn => by rw [List.mem_singleton.mp hn]; (first | lia | omega)) cs h
        (first | lia | omega)
      · exact h
      · exfalso
        have h3 := low_le cs.pos
        have h4 : nm (y :: t) * y ≤ nm (y :: t) * (d - 1) := Int.mul_le_mul_of_nonneg_left (by (first | lia | omega)) (by (first | lia | omega))
        have e1 : nm [d - 1] = 1 := by simp [nm, dn]
        have e2 : dn [d - 1] = d - 1 := by simp [dn]
        rw [e1, e2, Int.one_mul] at h2
        (first | lia | omega)
    · rintro rfl
      have e1 : nm [d - 1] = 1 := by simp [nm, dn]
      have e2 : dn [d - 1] = d - 1 := by simp [dn]
      have e3 : nm [d] = 1 := by simp [nm, dn]
      have e4 : dn [d] = d := by simp [dn]
      rw [e1, e2, e3, e4, Int.one_mul]; first | rw [Int.one_mul] | skip
      exact ⟨low_le cs.pos, up_lt cs⟩
  | x :: q, y :: t, d, cp, cs => by
    have hx : 2 ≤ x := cp.1
    simp only [List.cons_append, List.cons_prefix_cons] at cp ⊢
    by_cases e : x = y
    · subst e
      rw [cross_le hx, cross_lt hx, begins_iff cp.tail cs.tail]
      exact ⟨fun h => ⟨rfl, h⟩, fun h => h.2⟩
    · refine ⟨fun ⟨h1, h2⟩ => absurd ?_ e, fun h => absurd h.1 e⟩
      rcases Int.lt_trichotomy x y with h | h | h
      · have := first_lt cp.pos cs h
        (first | lia | omega)
      · exact h
      · exfalso
        obtain ⟨i1, i2, i3⟩ := dech cp
        have n0 := nm_pos cs.pos
        have h3 := low_le cs.pos
        have k1 : 0 ≤ nm (x :: (q ++ [d - 1])) := by
          simp only [nm]
          have := Int.mul_nonneg (show 0 ≤ x by (first | lia | omega)) i2
          (first | lia | omega)
        generalize x :: (q ++ [d - 1]) = z at i1 k1 h1 h2
        generalize y :: t = s at n0 h3 h1 h2
        have a1 : nm z * dn s ≤ nm z * (nm s * y) := Int.mul_le_mul_of_nonneg_left h3 k1
        have a2 : nm s * (nm z * (x - 1)) ≤ nm s * dn z := Int.mul_le_mul_of_nonneg_left i1 (by (first | lia | omega))
        have a3 : nm z * nm s * y ≤ nm z * nm s * (x - 1) := Int.mul_le_mul_of_nonneg_left (by (first | lia | omega)) (Int.mul_nonneg k1 (by (first | lia | omega)))
        have a4 : nm z * (nm s * y) = nm z * nm s * y := by rw [Int.mul_assoc]
        have a5 : nm s * (nm z * (x - 1)) = nm z * nm s * (x - 1) := by rw [← Int.mul_assoc, Int.mul_comm (nm s)]
        (first | lia | omega)
/-- the same fraction: the same row -/
theorem frac_inj : ∀ {r s : List Int}, Chain2 r → Chain2 s → (nm r * dn s = nm s * dn r ↔ r = s)
  | [], [], _, _ => by simp
  | [], y :: t, _, cs => by
    have n0 := nm_pos cs.pos
    simp only [nm, dn, Int.zero_mul, Int.mul_one]
    refine ⟨fun h => ?_, fun h => by cases h⟩
    simp only [nm] at n0
    (first | lia | omega)
  | x :: a, [], cr, _ => by
    have n0 := nm_pos cr.pos
    simp only [nm, dn, Int.zero_mul, Int.mul_one]
    refine ⟨fun h => ?_, fun h => by cases h⟩
    simp only [nm] at n0
    (first | lia | omega)
  | x :: a, y :: t, cr, cs => by
    by_cases e : x = y
    · subst e
      have h := nm_cross (x := x) (a := a) (b := t)
      have hp : 0 < x * x := Int.mul_pos (by have := cr.1; (first | lia | omega)) (by have := cr.1; (first | lia | omega))
      have ih := frac_inj cr.tail cs.tail
      constructor
      · intro h1
        have h2 : x * x * (nm a * dn t - nm t * dn a) = 0 := by (first | lia | omega)
        rcases Int.mul_eq_zero.mp h2 with h3 | h3
        · (first | lia | omega)
        · rw [ih.mp (by (first | lia | omega))]
      · intro h1
        rw [h1]
    · refine ⟨fun h1 => ?_, fun h => by cases h; exact absurd rfl e⟩
      rcases Int.lt_trichotomy x y with h | h | h
      · have := first_lt cr.pos cs h; (first | lia | omega)
      · exact absurd h e
      · have := first_lt cs.pos cr h; (first | lia | omega)
end Mine
end PartP3

section PartM0
open PySem PySem.W PyProof.Rows PySem.Calls PySem.Spec
set_option maxRecDepth 100000
namespace Mine

/-- every object stays -/
abbrev Kp (h h' : Heap) : Prop := ∀ b o, h.get? b = some o → h'.get? b = some o

section
variable {prog : Program} {w : World} {A A₀ : Around} {s : Shared} {K : Frag} {L : Addr} {h₀ base : Heap} {m mg mb : Str → Option Value} {p : Program} {loose : List Str} {mean : ExcName → Option Value}

/-- a def entered, all that stood before the call grounded -/
theorem pure_def {env : Env} {outer : List Env} {R : Result → Shared → Prop} {name qual : Str} {params : Arguments} {body : List Stmt} {scope : Scope} {dV kV doc pm cdv ct oc : Value} {an od : Option Addr} {osl : Array (Option Value)} {f : Addr} {args : Args} {binds : List (Str × Value)}
    (B : Below A₀ base outer h₀) (F : Fr h₀ L s.heap m) (X₀ : K.In h₀) (T : Top p loose mean mg mb h₀) (hA : A.frames = some (env :: outer)) (hf : env.frame = some L) (hke : env.scope.kind = .function)
    (ho : K.lookup f = some ⟨oc, od, .func (fnOf name qual params body scope dV kV doc pm an cdv ct), osl⟩) (hcd : codeIn K cdv qual = true) (hroom : A.depth < recursionLimit)
    (hbind : BindsTo s (fnOf name qual params body scope dV kV doc pm an cdv ct) args binds) (hloc : ∀ y ∈ binds, scope.names.lookup y.1 = some .local)
    (h : ∀ L' h₁, Fr s.heap L' h₁ (fun y => binds.reverse.lookup y) → News s.heap L' h₁ [] → Below A base (env :: outer) s.heap → K.In s.heap → Top p loose mean mg mb s.heap →
      wpAny (model prog w) (A.deeper (envOf qual scope L' f cdv)) (execs body (envOf qual scope L' f cdv))
        (fun fl s' => R (.ok (.ret (match fl with | .ret v => v | _ => .none))) s')
        (fun e s' => wpAny (model prog w) (A.deeper (envOf qual scope L' f cdv)) (leaving (envOf qual scope L' f cdv) e) (fun _ s'' => R (.error e) s'') (fun e' s'' => R (.error e') s'') s')
        { s with heap := h₁, toks := s.toks + binds.length })
    (hco : scope.isCoroutine = false) (hgen : scope.isGenerator = false) (hk : scope.kind = .function)
    (hcell : ∀ x ∈ scope.names, x.2 ≠ .cell) : codeAny (model prog w) A (.call (.ref f) args) R s := by
  have X₁ := X₀.keeps F.keep
  have T₁ := T.keeps F.keep
  refine codeAny_call_def (fd := fnOf name qual params body scope dV kV doc pm an cdv ct) (body := body) (binds := binds) hroom (X₁ _ _ ho) rfl T₁.nolimit (codeRec_of X₁ hcd) rfl hbind hcell hloc (fun h₁ hns hk₁ => ?_) hco hgen hk
  have B₁ := pushX B F hf hke
  exact h s.heap.objs.size h₁ ⟨hns, hk₁, Nat.le_refl _⟩ News.nil ⟨hA, B₁.stays, B₁.frames⟩ X₁ T₁
end

theorem allLt_mem {d : Nat} {l : List (Addr × Obj)} (h : AllLt d l) : ∀ p ∈ l, p.1 < d := by
  induction l with
  | nil => intro p hp; cases hp
  | cons q r ih =>
    intro p hp
    unfold AllLt at h
    rcases List.mem_cons.mp hp with e | e
    · rw [e]; exact h.1
    · exact ih h.2 p e
theorem allLt_ne {d e : Nat} {l : List (Addr × Obj)} (h : AllLt d l) (hde : d ≤ e) : ∀ p ∈ l, p.1 ≠ e :=
  fun p hp => Nat.ne_of_lt (Nat.lt_of_lt_of_le (allLt_mem h p hp) hde)
end Mine
end PartM0

section PartM1
open PySem PySem.W PyProof.Rows PySem.Calls PySem.Spec
set_option maxRecDepth 100000
namespace Mine

theorem frKp {h₀ h h' : Heap} {L : Addr} {m : Str → Option Value} (F : Fr h₀ L h m) (k : Kp h h') : Fr h₀ L h' m :=
  ⟨F.ns.keeps k, fun b o e => k b o (F.keep b o e), F.above⟩
theorem newsKp {h₀ h h' : Heap} {L : Addr} {news : List (Addr × Obj)} (N : News h₀ L h news) (k : Kp h h') : News h₀ L h' news :=
  fun p hp => ⟨k _ _ (N p hp).1, (N p hp).2⟩
theorem newsNew {h₀ h h' : Heap} {L q : Addr} {o : Obj} {m : Str → Option Value} {news : List (Addr × Obj)} (F : Fr h₀ L h m) (N : News h₀ L h news) (k : Kp h h') (hq : h.objs.size ≤ q) (e : h'.get? q = some o) :
    News h₀ L h' ((q, o) :: news) := by
  intro p hp
  rcases List.mem_cons.mp hp with rfl | hp
  · exact ⟨e, Nat.ne_of_gt (Nat.lt_of_lt_of_le F.ns.lt hq), Heap.get?_none_of_le (Nat.le_trans (Nat.le_trans F.above (Nat.le_of_lt F.ns.lt)) hq)⟩
  · exact newsKp N k p hp
theorem newsLt {h₀ h : Heap} {L q : Addr} {news : List (Addr × Obj)} (N : News h₀ L h news) (hq : h.objs.size ≤ q) : ∀ p ∈ news, p.1 < q :=
  fun p hp => Nat.lt_of_lt_of_le (Heap.lt_size (N p hp).1) hq
theorem lt_of_news {h₀ h : Heap} {L q : Addr} {o : Obj} {news : List (Addr × Obj)} (N : News h₀ L h news) (hm : (q, o) ∈ news) : q < h.objs.size := Heap.lt_size (N _ hm).1
/-- every object stays but those of some addresses -/
abbrev Kt (ex : List Addr) (h h' : Heap) : Prop := ∀ b o, h.get? b = some o → b ∉ ex → h'.get? b = some o

section
variable {prog : Program} {w : World} {A A₀ : Around} {s : Shared} {K : Frag} {L : Addr} {h₀ base : Heap} {m mg mb : Str → Option Value} {p : Program} {loose : List Str} {mean : ExcName → Option Value} {tl : List (Addr × Obj)}

/-- a def entered, all grounded that stood before the call, but for tl -/
theorem tab_def {env : Env} {outer : List Env} {R : Result → Shared → Prop} {name qual : Str} {params : Arguments} {body : List Stmt} {scope : Scope} {dV kV doc pm cdv ct oc : Value} {an od : Option Addr} {osl : Array (Option Value)} {f : Addr} {args : Args} {binds : List (Str × Value)}
    (B : Below A₀ base outer h₀) (F : Fr h₀ L s.heap m) (X₀ : K.In h₀) (N : News h₀ L s.heap tl) (T : Top p loose mean mg mb h₀) (hA : A.frames = some (env :: outer)) (hf : env.frame = some L) (hke : env.scope.kind = .function)
    (ho : K.lookup f = some ⟨oc, od, .func (fnOf name qual params body scope dV kV doc pm an cdv ct), osl⟩) (hcd : codeIn K cdv qual = true) (hroom : A.depth < recursionLimit)
    (hbind : BindsTo s (fnOf name qual params body scope dV kV doc pm an cdv ct) args binds) (hloc : ∀ y ∈ binds, scope.names.lookup y.1 = some .local)
    (h : ∀ g L' h₁, Kt (tl.map (·.1)) s.heap g → Fr g L' h₁ (fun y => binds.reverse.lookup y) → News g L' h₁ tl → Below A base (env :: outer) g → K.In g → Top p loose mean mg mb g → (∀ p ∈ tl, p.1 < L') → L' = s.heap.objs.size →
      h₀.StaysIn g →
      wpAny (model prog w) (A.deeper (envOf qual scope L' f cdv)) (execs body (envOf qual scope L' f cdv))
        (fun fl s' => R (.ok (.ret (match fl with | .ret v => v | _ => .none))) s')
        (fun e s' => wpAny (model prog w) (A.deeper (envOf qual scope L' f cdv)) (leaving (envOf qual scope L' f cdv) e) (fun _ s'' => R (.error e) s'') (fun e' s'' => R (.error e') s'') s')
        { s with heap := h₁, toks := s.toks + binds.length })
    (hco : scope.isCoroutine = false) (hgen : scope.isGenerator = false) (hk : scope.kind = .function)
    (hcell : ∀ x ∈ scope.names, x.2 ≠ .cell) : codeAny (model prog w) A (.call (.ref f) args) R s := by
  obtain ⟨FG, BG, st, lv⟩ := groundX (R := R) B F N hA hf hke
  have X₁ : K.In (hideAll s.heap (tl.map (·.1))) := X₀.keeps st
  have T₁ : Top p loose mean mg mb (hideAll s.heap (tl.map (·.1))) := T.keeps st
  refine codeAny_call_def (fd := fnOf name qual params body scope dV kV doc pm an cdv ct) (body := body) (binds := binds) hroom ((X₀.keeps F.keep) _ _ ho) rfl (T.nolimit.keeps F.keep) (codeRec_of (X₀.keeps F.keep) hcd) rfl hbind hcell hloc (fun h₁ hns hk₁ => ?_) hco hgen hk
  exact h (hideAll s.heap (tl.map (·.1))) s.heap.objs.size h₁ (fun b o e hb => hideAll_get _ e hb) ⟨hns, fun b o e => hk₁ b o (of_hideAll _ e), Nat.le_of_eq (hideAll_size _ _)⟩
    (fun p hp => ⟨hk₁ _ _ (N p hp).1, Nat.ne_of_lt (Heap.lt_size (N p hp).1), hideAll_none _ (List.mem_map_of_mem hp)⟩) BG X₁ T₁ (fun p hp => Heap.lt_size (N p hp).1) rfl st

theorem tab_defC {env : Env} {outer : List Env} {R : Result → Shared → Prop} {name qual : Str} {params : Arguments} {body : List Stmt} {scope : Scope} {dV kV doc pm cdv ct oc : Value} {an od : Option Addr} {osl : Array (Option Value)} {f : Addr} {args : Args} {binds : List (Str × Value)}
    (B : Below A₀ base outer h₀) (F : Fr h₀ L s.heap m) (X₀ : K.In h₀) (N : News h₀ L s.heap tl) (T : Top p loose mean mg mb h₀) (hA : A.frames = some (env :: outer)) (hf : env.frame = some L) (hke : env.scope.kind = .function)
    (ho : K.lookup f = some ⟨oc, od, .func (fnOf name qual params body scope dV kV doc pm an cdv ct), osl⟩) (hcd : codeIn K cdv qual = true) (hroom : A.depth < recursionLimit)
    (hbind : BindsTo s (fnOf name qual params body scope dV kV doc pm an cdv ct) args binds) (hkind : (binds.all fun y => scope.names.lookup y.1 == some .local || scope.names.lookup y.1 == some .cell) = true)
    (hnd : ((cellsFrom 0 scope.names []).map (·.1)).Nodup)
    (h : ∀ g L' h₁ tk cells, Kt (tl.map (·.1)) s.heap g → Fr g L' h₁ (bindL (envOfC qual scope L' f cdv).kindOf binds fun _ => none) → News g L' h₁ (cells ++ tl) →
      CellsAre (bindC (envOfC qual scope L' f cdv).kindOf binds fun _ => none) (cellsFrom (L' + 1) scope.names []) cells → Below A base (env :: outer) g → K.In g → Top p loose mean mg mb g → (∀ p ∈ tl, p.1 < L') → L' = s.heap.objs.size →
      h₀.StaysIn g →
      wpAny (model prog w) (A.deeper (envOfC qual scope L' f cdv)) (execs body (envOfC qual scope L' f cdv))
        (fun fl s' => R (.ok (.ret (match fl with | .ret v => v | _ => .none))) s')
        (fun e s' => wpAny (model prog w) (A.deeper (envOfC qual scope L' f cdv)) (leaving (envOfC qual scope L' f cdv) e) (fun _ s'' => R (.error e) s'') (fun e' s'' => R (.error e') s'') s')
        { s with heap := h₁, toks := tk })
    (hco : scope.isCoroutine = false) (hgen : scope.isGenerator = false) (hk : scope.kind = .function) : codeAny (model prog w) A (.call (.ref f) args) R s := by
  obtain ⟨FG, BG, st, lv⟩ := groundX (R := R) B F N hA hf hke
  have X₁ : K.In (hideAll s.heap (tl.map (·.1))) := X₀.keeps st
  have T₁ : Top p loose mean mg mb (hideAll s.heap (tl.map (·.1))) := T.keeps st
  refine codeAny_call_function hroom ((X₀.keeps F.keep) _ _ ho) rfl hco hgen rfl (codeRec_of (X₀.keeps F.keep) hcd) (hbind _ _ _ _ ?_)
  refine wpAny_newFunctionEnv_cells hk (kindsX hkind _) fun env' he s' x => ?_
  subst he
  refine ⟨(T.nolimit.keeps F.keep).keeps x.toInCall.keep, codeAny_func ?_⟩
  obtain ⟨h₁, tk, rfl, _⟩ := x.done
  have hk₁ := x.toInCall.keep
  obtain ⟨cells, NC, Y⟩ := Cl.news (h₀ := s.heap) (Nat.le_refl _) fun n c hm => ⟨x.cell n c (lookup_of_mem_nodup (cellsFrom_names scope.names 0 (s.heap.objs.size + 1) [] [] rfl ▸ hnd) hm), x.above n c hm⟩
  refine h (hideAll s.heap (tl.map (·.1))) s.heap.objs.size h₁ tk cells (fun b o e hb => hideAll_get _ e hb) ⟨x.toInCall.ns, fun b o e => hk₁ b o (of_hideAll _ e), Nat.le_of_eq (hideAll_size _ _)⟩ (fun p hp => ?_) Y BG X₁ T₁ (fun p hp => Heap.lt_size (N p hp).1) rfl st
  rcases List.mem_append.mp hp with hp | hp
  · refine ⟨(NC p hp).1, (NC p hp).2.1, ?_⟩
    cases q : (hideAll s.heap (tl.map (·.1))).get? p.1 with
    | none => rfl
    | some o => have := of_hideAll _ q; rw [(NC p hp).2.2] at this; cases this
  · exact ⟨hk₁ _ _ (N p hp).1, Nat.ne_of_lt (Heap.lt_size (N p hp).1), hideAll_none _ (List.mem_map_of_mem hp)⟩
end
end Mine
end PartM1

section PartM2
open PySem PySem.W PyProof.Rows PySem.Calls PySem.Spec
set_option maxRecDepth 100000
namespace Mine
/-- a code object that bears a def's name -/
def IsCd (x : Obj) (q : Str) : Prop := ∃ vs t, x.data = .fields vs ∧ vs[1]? = some (.str q t)
theorem IsCd.rec' {h : Heap} {c : Addr} {x : Obj} {q : Str} (I : IsCd x q) (e : h.get? c = some x) : h.CodeRec (.ref c) q := by
  obtain ⟨vs, t, h1, h2⟩ := I
  exact ⟨c, x, vs, t, rfl, e, h1, h2⟩
theorem IsCd.ne {q : Str} {ps : Array Value} (hp : ps = #[] ∨ ∃ l c v, ps = #[rawInt l, rawInt c, v]) : ¬ IsCd (tabObj ps) q := by
  rintro ⟨vs, t, h1, h2⟩
  cases h1
  rcases hp with rfl | ⟨l, c, v, rfl⟩
  · cases h2
  · cases h2
/-- a code object stands in a base, or among what is made -/
def CRec (h₀ : Heap) (led : List (Addr × Obj)) (c : Addr) (q : Str) : Prop := h₀.CodeRec (.ref c) q ∨ ∃ oc, (c, oc) ∈ led ∧ IsCd oc q
theorem CRec.at {h₀ h : Heap} {L : Addr} {led : List (Addr × Obj)} {c : Addr} {q : Str} {m : Str → Option Value} (C : CRec h₀ led c q) (F : Fr h₀ L h m) (N : News h₀ L h led) : h.CodeRec (.ref c) q := by
  rcases C with C | ⟨oc, hm, I⟩
  · exact C.keeps F.keep
  · exact I.rec' (N _ hm).1
theorem CRec.keeps {h₀ g : Heap} {L : Addr} {led : List (Addr × Obj)} {c : Addr} {q : Str} {m : Str → Option Value} (C : CRec h₀ led c q) (F : Fr h₀ L g m) : CRec g led c q := C.imp (fun C => C.keeps F.keep) id
theorem CRec.more {h₀ : Heap} {led led' : List (Addr × Obj)} {c : Addr} {q : Str} (C : CRec h₀ led c q) (hs : ∀ p ∈ led, p ∈ led') : CRec h₀ led' c q := C.imp id fun ⟨oc, hm, r⟩ => ⟨oc, hs _ hm, r⟩

/-- a table of nested code at a heap: empty, or with the one code -/
def PsH (h : Heap) (ps : Array Value) (l c : Nat) (q : Str) : Prop := ps = #[] ∨ ∃ c', ps = #[rawInt l, rawInt c, .ref c'] ∧ h.CodeRec (.ref c') q
theorem PsH.keeps {h h' : Heap} {ps : Array Value} {l c : Nat} {q : Str} (P : PsH h ps l c q) (k : ∀ b o, h.get? b = some o → h'.get? b = some o) : PsH h' ps l c q := P.imp id fun ⟨c', e, r⟩ => ⟨c', e, r.keeps k⟩
theorem PsH.tab {h : Heap} {ps : Array Value} {l c : Nat} {q : Str} (P : PsH h ps l c q) : ps = #[] ∨ ∃ l c v, ps = #[rawInt l, rawInt c, v] := P.imp id fun ⟨c', e, _⟩ => ⟨_, _, _, e⟩
/-- all but the tables of an address list stays: the table's fact stays -/
theorem PsH.kt {h h' : Heap} {ps : Array Value} {l c : Nat} {q : Str} {ex : List Addr} (P : PsH h ps l c q) (k : Kt ex h h') (hx : ∀ a ∈ ex, ∃ ps', h.get? a = some (tabObj ps') ∧ (ps' = #[] ∨ ∃ l c v, ps' = #[rawInt l, rawInt c, v])) : PsH h' ps l c q :=
  P.imp id fun ⟨c', e, b, o, vs, t, e1, e2, e3, e4⟩ => ⟨c', e, b, o, vs, t, e1, k b o e2 fun hb => by
    obtain ⟨ps', e5, e6⟩ := hx b hb
    rw [e2] at e5
    exact IsCd.ne e6 ⟨vs, t, (Option.some.inj e5) ▸ e3, e4⟩, e3, e4⟩
/-- what a call makes of a table: nothing, or it holds a new code -/
def PsStep (h h' : Heap) (ps ps' : Array Value) (l c : Nat) (q : Str) : Prop := ps' = ps ∨ ∃ c' x, ps' = #[rawInt l, rawInt c, .ref c'] ∧ h'.get? c' = some x ∧ IsCd x q ∧ h.objs.size ≤ c'
/-- the same by a ledger -/
def PsL (sz : Nat) (rest : List (Addr × Obj)) (ps ps' : Array Value) (l c : Nat) (q : Str) : Prop := ps' = ps ∨ ∃ c' x, ps' = #[rawInt l, rawInt c, .ref c'] ∧ (c', x) ∈ rest ∧ IsCd x q ∧ sz ≤ c'
theorem PsL.refl {sz : Nat} {rest : List (Addr × Obj)} {ps : Array Value} {l c : Nat} {q : Str} : PsL sz rest ps ps l c q := .inl rfl
theorem PsL.more {sz : Nat} {rest rest' : List (Addr × Obj)} {ps ps' : Array Value} {l c : Nat} {q : Str} (P : PsL sz rest ps ps' l c q) (hs : ∀ p ∈ rest, p ∈ rest') : PsL sz rest' ps ps' l c q := P.imp id fun ⟨c', x, e, hm, r⟩ => ⟨c', x, e, hs _ hm, r⟩
theorem PsL.step {h₀ h : Heap} {L : Addr} {rest news : List (Addr × Obj)} {ps ps' : Array Value} {l c : Nat} {q : Str} {h1 : Heap} (P : PsL h1.objs.size rest ps ps' l c q) (N : News h₀ L h news) (hs : ∀ p ∈ rest, p ∈ news) : PsStep h1 h ps ps' l c q :=
  P.imp id fun ⟨c', x, e, hm, I, hsz⟩ => ⟨c', x, e, (N _ (hs _ hm)).1, I, hsz⟩
/-- the table's fact at the heap, from the base's and the ledger's -/
theorem PsL.at {h₀ h : Heap} {L : Addr} {rest news : List (Addr × Obj)} {ps ps' : Array Value} {l c : Nat} {q : Str} {sz : Nat} {m : Str → Option Value} (P : PsL sz rest ps ps' l c q) (F : Fr h₀ L h m) (N : News h₀ L h news) (hs : ∀ p ∈ rest, p ∈ news) (H : PsH h₀ ps l c q) : PsH h ps' l c q := by
  rcases P with rfl | ⟨c', x, e, hm, I, hsz⟩
  · exact H.keeps F.keep
  · exact .inr ⟨c', e, I.rec' (N _ (hs _ hm)).1⟩

theorem gt_ne {d e : Nat} {l : List (Addr × Obj)} (h : ∀ p ∈ l, d < p.1) (hde : e ≤ d) : ∀ p ∈ l, p.1 ≠ e := fun p hp => Nat.ne_of_gt (Nat.lt_of_le_of_lt hde (h p hp))
noncomputable abbrev digQ : Str := Str.ofString "_digits2int.<locals>.inner"
noncomputable abbrev intQ : Str := Str.ofString "_int2digits.<locals>.inner"

theorem updF_last {P : Addr} {o : Obj} : ∀ {pre : List (Addr × Obj)}, (∀ p ∈ pre, p.1 ≠ P) → UpdF P o (pre ++ [(P, o)]) (fun o' => pre ++ [(P, o')])
  | [], _ => .head fun _ h => nomatch h
  | _ :: _, h => .tail (h _ (.head _)) (updF_last fun q hq => h q (.tail _ hq))

section
variable {M : Model} {A : Around} {E : Value → Shared → Prop} {s : Shared} {h₀ : Heap} {L a c P : Addr} {m mg mb : Str → Option Value} {cn : Str} {cs : Scope} {ccd : Value} {cl : List (Str × Addr)} {pre : List (Addr × Obj)}
  {p : Program} {loose : List Str} {mean : ExcName → Option Value} {name qual : Str} {params : Arguments} {body : List Stmt} {scope : Scope} {ps : Array Value} {pos : Pos} {firstLine : Nat} {clos : List (Str × Addr)}
/-- a nested def, its code new or at hand -/
theorem nest_EF {Q : Value → Shared → Prop} {sz : Nat} (F : Fr h₀ L s.heap m) (N : News h₀ L s.heap (pre ++ [(P, tabObj ps)])) (T : Top p loose mean mg mb h₀) (C : CodeHd h₀ c P) (hcd : ccd = .ref c)
    (hne : ∀ q ∈ pre, q.1 ≠ P) (hps : PsH h₀ ps pos.line pos.col qual) (hsz : ∃ q ∈ pre, sz ≤ q.1)
    (hcl : closureFor scope (envX cn cs L a ccd cl) = pure clos)
    (h : ∀ f c' ctv doc h' tk rest ps', Fr h₀ L h' m →
      News h₀ L h' (((f, fnMade name qual params body scope clos doc ((mg "__name__").getD .none) c' ctv) :: pre) ++ (P, tabObj ps') :: rest) →
      CRec h₀ rest c' qual → PsL sz rest ps ps' pos.line pos.col qual → (∀ q ∈ pre, q.1 < f) → (∀ q ∈ pre, ∀ r ∈ rest, q.1 < r.1) → (∀ r ∈ rest, r.1 < f) → Q (.ref f) { s with heap := h', toks := tk }) :
    wpAny M A (makeFunction name qual params (.stmts body) scope (envX cn cs L a ccd cl) [] [] [] pos firstLine) Q E s := by
  rcases hps with rfl | ⟨c', rfl, hc⟩
  · refine nest_K F N T C hcd (updF_last hne) trivial rfl hcl fun f c' oc vs t ctv doc h' tk F' N' hd hv l1 l2 => ?_
    have I : IsCd oc qual := ⟨vs, t, hd, hv⟩
    refine h f c' ctv doc h' tk [(c', oc)] (#[rawInt pos.line, rawInt pos.col, .ref c']) F' (cb_drop N' fun q hq => ?_) (.inr ⟨oc, .head _, I⟩) (.inr ⟨c', oc, rfl, .head _, I, ?_⟩) (fun q hq => ?_) (fun q hq r hr => ?_) (fun r hr => ?_)
    · rcases List.mem_append.mp hq with hq | hq
      · rcases List.mem_cons.mp hq with rfl | hq
        · exact .head _
        · exact .tail _ (.tail _ (List.mem_append_left _ hq))
      · rcases List.mem_cons.mp hq with rfl | hq
        · exact .tail _ (.tail _ (List.mem_append_right _ (.head _)))
        · rw [List.mem_singleton.mp hq]; exact .tail _ (.head _)
    · obtain ⟨q, hq, hle⟩ := hsz
      exact Nat.le_of_lt (Nat.lt_of_le_of_lt hle (l1 q (List.mem_append_left _ hq)))
    · exact Nat.lt_trans (l1 q (List.mem_append_left _ hq)) l2
    · rw [List.mem_singleton.mp hr]; exact l1 q (List.mem_append_left _ hq)
    · rw [List.mem_singleton.mp hr]; exact l2
  · refine nestHit_K F N T C hcd (List.mem_append_right _ (.head _)) (by simp [TriplesOk, rawInt]) (c' := c') (by simp [codeAmong, rawInt]) hcl fun f ctv doc h' tk F' N' l1 => ?_
    exact h f c' ctv doc h' tk [] _ F' N' (.inl hc) (.inl rfl) (fun q hq => l1 q (List.mem_append_left _ hq)) (fun _ _ r hr => nomatch hr) (fun r hr => nomatch hr)
end
end Mine
end PartM2

section PartN1
open PySem PySem.W PyProof.Rows PySem.Calls PySem.Spec
namespace Mine
theorem fdiv_pow (x : Int) (k : Nat) : x.fdiv (2 ^ k) = x / 2 ^ k := Int.fdiv_eq_ediv_of_nonneg _ (Int.le_of_lt (Int.pow_pos (by decide)))
/-- what stands below, by exclusive or -/
theorem xor_low {x : Int} (hx : 0 ≤ x) (k : Nat) : Builtin.bitXor x (x.fdiv (2 ^ k) * 2 ^ k) = x % 2 ^ k := by
  have hp : (0 : Int) < 2 ^ k := Int.pow_pos (by decide)
  have hq : 0 ≤ x / 2 ^ k := Int.ediv_nonneg hx (Int.le_of_lt hp)
  have hy : 0 ≤ x / 2 ^ k * 2 ^ k := Int.mul_nonneg hq (Int.le_of_lt hp)
  rw [bitXor_and, fdiv_pow, bitAnd_pp hx hy]
  have e : x.toNat &&& (x / 2 ^ k * 2 ^ k).toNat = (x / 2 ^ k * 2 ^ k).toNat := by
    obtain ⟨n, rfl⟩ := Int.eq_ofNat_of_zero_le hx
    have e1 : ((n : Int) / 2 ^ k * 2 ^ k) = ((n / 2 ^ k * 2 ^ k : Nat) : Int) := by push_cast; rfl
    rw [e1, Int.toNat_natCast, Int.toNat_natCast, ← Nat.shiftRight_eq_div_pow, ← Nat.shiftLeft_eq]
    apply Nat.eq_of_testBit_eq
    intro i
    simp only [Nat.testBit_and, Nat.testBit_shiftLeft, Nat.testBit_shiftRight]
    by_cases h : k ≤ i
    · simp [h, Nat.add_sub_cancel' h]
    · simp [h]
  rw [e, Int.toNat_of_nonneg hy]
  have := Int.emod_def x (2 ^ k)
  rw [Int.mul_comm (2 ^ k)] at this
  (first | lia | omega)

/-- a stretch written anew -/
def Wr (n : Nat) (xs xs' : List Int) (lo hi : Nat) (x : Int) : Prop :=
  xs'.length = xs.length ∧ (∀ i, i < lo ∨ hi ≤ i → xs'[i]? = xs[i]?) ∧ val n (cut xs' lo hi) = x ∧ ∀ d ∈ cut xs' lo hi, 0 ≤ d ∧ d < 2 ^ n
theorem cut_get {xs : List Int} {lo hi j : Nat} (h : j < hi - lo) : (cut xs lo hi)[j]? = xs[lo + j]? := by
  unfold cut
  rw [List.getElem?_take, if_pos h, List.getElem?_drop]
theorem cut_congr {xs ys : List Int} {lo hi : Nat} (h : ∀ i, lo ≤ i → i < hi → xs[i]? = ys[i]?) : cut xs lo hi = cut ys lo hi := by
  apply List.ext_getElem?
  intro j
  by_cases hj : j < hi - lo
  · rw [cut_get hj, cut_get hj]; exact h _ (by (first | lia | omega)) (by (first | lia | omega))
  · unfold cut
    rw [List.getElem?_take, List.getElem?_take, if_neg hj, if_neg hj]
theorem wr_leaf {n : Nat} {xs : List Int} {lo : Nat} {x : Int} (h : lo < xs.length) (h0 : 0 ≤ x) (h1 : x < 2 ^ n) : Wr n xs (xs.set lo x) lo (lo + 1) x := by
  have e : cut (xs.set lo x) lo (lo + 1) = [x] := by
    rw [cut_one (by simpa using h)]
    simp [List.getD_eq_getElem?_getD, h]
  refine ⟨by simp, fun i hi => ?_, ?_, ?_⟩
  · rw [List.getElem?_set_ne (by (first | lia | omega))]
  · rw [e]; simp [val]
  · rw [e]; intro d hd; rw [List.mem_singleton.mp hd]; exact ⟨h0, h1⟩
theorem wr_join {n : Nat} {xs ys zs : List Int} {lo mid hi : Nat} {x y z : Int} (h1 : lo ≤ mid) (h2 : mid ≤ hi) (h3 : hi ≤ xs.length) (W1 : Wr n xs ys lo mid y) (W2 : Wr n ys zs mid hi z) (e : x = y + z * 2 ^ (n * (mid - lo))) : Wr n xs zs lo hi x := by
  obtain ⟨a1, a2, a3, a4⟩ := W1
  obtain ⟨b1, b2, b3, b4⟩ := W2
  have ec : cut zs lo mid = cut ys lo mid := cut_congr fun i _ hi => b2 i (.inl hi)
  refine ⟨b1.trans a1, fun i hi => (b2 i (by (first | lia | omega))).trans (a2 i (by (first | lia | omega))), ?_, fun d hd => ?_⟩
  · rw [val_cut h1 h2 (by (first | lia | omega)), ec, a3, b3, e]; (first | lia | omega)
  · rw [cut_split h1 h2, ec] at hd
    rcases List.mem_append.mp hd with hd | hd
    · exact a4 d hd
    · exact b4 d hd
/-- the figures' number -/
theorem figs {x n : Int} (hx : 0 ≤ x) (hn : 1 ≤ n) (hb : Builtin.Int.intBits x ≤ 100) :
    0 ≤ ((Builtin.Int.intBits x : Int) + n - 1).fdiv n ∧ ((Builtin.Int.intBits x : Int) + n - 1).fdiv n ≤ 100 ∧ (x ≠ 0 → 1 ≤ ((Builtin.Int.intBits x : Int) + n - 1).fdiv n) ∧
      x < 2 ^ (n.toNat * (((Builtin.Int.intBits x : Int) + n - 1).fdiv n).toNat) ∧ (x = 0 → ((Builtin.Int.intBits x : Int) + n - 1).fdiv n = 0) := by
  have hb' : (Builtin.Int.intBits x : Int) ≤ 100 := by exact_mod_cast hb
  have hl := lt_bits hx
  rw [Int.fdiv_eq_ediv_of_nonneg _ (by (first | lia | omega))]
  generalize hB : (Builtin.Int.intBits x : Int) = b at *
  have hb0 : 0 ≤ b := by (first | lia | omega)
  have h0 : 0 ≤ (b + n - 1) / n := Int.ediv_nonneg (by (first | lia | omega)) (by (first | lia | omega))
  have hm := Int.emod_add_mul_ediv (b + n - 1) n
  have hr := Int.emod_nonneg (b + n - 1) (show n ≠ 0 by (first | lia | omega))
  have hr2 := Int.emod_lt_of_pos (b + n - 1) (show 0 < n by (first | lia | omega))
  have hle : b ≤ n * ((b + n - 1) / n) := by (first | lia | omega)
  refine ⟨h0, ?_, fun hne => ?_, ?_, fun h => ?_⟩
  · have : (b + n - 1) / n < 101 := Int.ediv_lt_of_lt_mul (by (first | lia | omega)) (by
      have : 100 * 1 ≤ 100 * n := Int.mul_le_mul_of_nonneg_left hn (by decide)
      (first | lia | omega))
    (first | lia | omega)
  · have h1 := bits_pos (show 0 < x by (first | lia | omega))
    have : 1 ≤ b := by (first | lia | omega)
    rcases Int.lt_or_le ((b + n - 1) / n) 1 with h | h
    · have e : (b + n - 1) / n = 0 := by (first | lia | omega)
      rw [e] at hle; (first | lia | omega)
    · exact h
  · refine Int.lt_of_lt_of_le hl ?_
    have : Builtin.Int.intBits x ≤ n.toNat * ((b + n - 1) / n).toNat := by
      have e : ((n.toNat * ((b + n - 1) / n).toNat : Nat) : Int) = n * ((b + n - 1) / n) := by
        rw [Int.natCast_mul, Int.toNat_of_nonneg (by (first | lia | omega)), Int.toNat_of_nonneg h0]
      (first | lia | omega)
    exact_mod_cast Nat.pow_le_pow_right (by decide) this
  · have : b = 0 := by rw [← hB, h]; rfl
    rw [this]
    exact Int.ediv_eq_zero_of_lt (by (first | lia | omega)) (by (first | lia | omega))
theorem to_succ {lo hi : Int} (h0 : 0 ≤ lo) (h : lo + 1 = hi) : hi.toNat = lo.toNat + 1 := by (first | lia | omega)
theorem to_lt {lo hi : Int} {m : Nat} (h0 : 0 ≤ lo) (h : lo + 1 = hi) (h2 : hi ≤ m) : lo.toNat < m := Nat.lt_of_lt_of_le (Nat.lt_of_lt_of_eq (Nat.lt_succ_self _) (to_succ h0 h).symm) (Int.toNat_le.mpr h2)
theorem split_facts {x : Int} {n lo mid hi : Nat} (hx : 0 ≤ x) (h : x < 2 ^ (n * (hi - lo))) (h1 : lo ≤ mid) (h2 : mid ≤ hi) :
    0 ≤ x.fdiv (2 ^ (n * (mid - lo))) ∧ x.fdiv (2 ^ (n * (mid - lo))) < 2 ^ (n * (hi - mid)) ∧ 0 ≤ x % 2 ^ (n * (mid - lo)) ∧ x % 2 ^ (n * (mid - lo)) < 2 ^ (n * (mid - lo)) ∧
      x = x % 2 ^ (n * (mid - lo)) + x.fdiv (2 ^ (n * (mid - lo))) * 2 ^ (n * (mid - lo)) := by
  have hp : (0 : Int) < 2 ^ (n * (mid - lo)) := Int.pow_pos (by decide)
  rw [fdiv_pow]
  refine ⟨Int.ediv_nonneg hx (Int.le_of_lt hp), ?_, Int.emod_nonneg _ (Int.ne_of_gt hp), Int.emod_lt_of_pos _ hp, ?_⟩
  · refine Int.ediv_lt_of_lt_mul hp ?_
    rw [← Int.pow_add, ← Nat.mul_add]
    have e : hi - mid + (mid - lo) = hi - lo := Nat.sub_add_sub_cancel h2 h1
    rw [e]; exact h
  · have := Int.emod_add_mul_ediv x (2 ^ (n * (mid - lo)))
    rw [Int.mul_comm] at this
    (first | lia | omega)
theorem i2d {x n lo mid hi : Int} (h0 : 0 ≤ lo) (h1 : lo < mid) (h2 : mid < hi) (h3 : hi ≤ 100) (hx : 0 ≤ x) (hlt : x < 2 ^ (n.toNat * (hi.toNat - lo.toNat))) (hn : 1 ≤ n) (hn2 : n ≤ 100) :
    0 ≤ (mid - lo) * n ∧ (Builtin.Int.intBits (x.fdiv (2 ^ ((mid - lo) * n).toNat)) : Int) + (mid - lo) * n ≤ 2 ^ 27 ∧
    0 ≤ x.fdiv (2 ^ ((mid - lo) * n).toNat) ∧ x.fdiv (2 ^ ((mid - lo) * n).toNat) < 2 ^ (n.toNat * (hi.toNat - mid.toNat)) ∧
    0 ≤ Builtin.bitXor x (x.fdiv (2 ^ ((mid - lo) * n).toNat) * 2 ^ ((mid - lo) * n).toNat) ∧ Builtin.bitXor x (x.fdiv (2 ^ ((mid - lo) * n).toNat) * 2 ^ ((mid - lo) * n).toNat) < 2 ^ (n.toNat * (mid.toNat - lo.toNat)) ∧
    x = Builtin.bitXor x (x.fdiv (2 ^ ((mid - lo) * n).toNat) * 2 ^ ((mid - lo) * n).toNat) + x.fdiv (2 ^ ((mid - lo) * n).toNat) * 2 ^ (n.toNat * (mid.toNat - lo.toNat)) := by
  have hn0 : 0 ≤ n := Int.le_trans (by decide) hn
  have e : ((mid - lo) * n).toNat = n.toNat * (mid.toNat - lo.toNat) := by
    have : (mid - lo) * n = ((n.toNat * (mid.toNat - lo.toNat) : Nat) : Int) := by
      rw [Int.natCast_mul, Int.natCast_sub (Int.toNat_le_toNat (Int.le_of_lt h1)), Int.toNat_of_nonneg hn0, Int.toNat_of_nonneg (Int.le_trans h0 (Int.le_of_lt h1)), Int.toNat_of_nonneg h0, Int.mul_comm]
    rw [this, Int.toNat_natCast]
  rw [xor_low hx, e]
  obtain ⟨a1, a2, a3, a4, a5⟩ := split_facts (n := n.toNat) hx hlt (Int.toNat_le_toNat (Int.le_of_lt h1)) (Int.toNat_le_toNat (Int.le_of_lt h2))
  have h6 : (mid - lo) * n ≤ 100 * 100 := Int.mul_le_mul (by (first | lia | omega)) hn2 hn0 (by decide)
  have h7 : n.toNat * (hi.toNat - mid.toNat) ≤ 100 * 100 := Nat.mul_le_mul (Int.toNat_le.mpr hn2) (Nat.le_trans (Nat.sub_le _ _) (Int.toNat_le.mpr h3))
  have h8 := bits_le a1 a2
  refine ⟨Int.mul_nonneg (Int.sub_nonneg_of_le (Int.le_of_lt h1)) hn0, ?_, a1, a2, a3, a4, a5⟩
  (first | lia | omega)
theorem wr_all {n : Nat} {xs ys : List Int} {x : Int} (W : Wr n xs ys 0 xs.length x) : val n ys = x ∧ ∀ d ∈ ys, 0 ≤ d ∧ d < 2 ^ n := by
  obtain ⟨a1, _, a3, a4⟩ := W
  rw [← a1, cut_all] at a3 a4
  exact ⟨a3, a4⟩
theorem mid_facts {lo hi : Int} (h0 : 0 ≤ lo) (h1 : lo < hi) (h2 : ¬ lo + 1 = hi) : lo < (lo + hi).fdiv (2 ^ Int.toNat 1) ∧ (lo + hi).fdiv (2 ^ Int.toNat 1) < hi := by
  have e : (2 : Int) ^ Int.toNat 1 = 2 := by decide
  rw [e, Int.fdiv_eq_ediv_of_nonneg _ (by decide)]; (first | lia | omega)
theorem ints_rep {t : Tok} (k : Nat) : IntsAre (List.replicate k (Value.int 0 t)) (List.replicate k 0) := by
  induction k with
  | zero => exact .nil
  | succ k ih => exact .cons 0 t ih
theorem flat_rep {t : Tok} (k : Nat) : (List.replicate k [Value.int 0 t]).flatten = List.replicate k (Value.int 0 t) := by
  induction k with
  | zero => rfl
  | succ k ih => rw [List.replicate_succ, List.flatten_cons, ih]; rfl
end Mine
end PartN1

section PartN2
open PySem PySem.W PyProof.Rows PySem.Calls PySem.Spec
namespace Mine
/-- long division, figure by figure: the figures still to come, the quotient's figures, the rest -/
def PosInv (n : Nat) (y x : Int) (rs qs : List Int) (r : Int) : Prop :=
  x = val n rs.reverse + 2 ^ (n * rs.length) * (val n qs.reverse * y + r) ∧ 0 ≤ r ∧ r < y ∧ (∀ d ∈ rs, 0 ≤ d ∧ d < 2 ^ n) ∧ (∀ d ∈ qs, 0 ≤ d ∧ d < 2 ^ n) ∧ rs.length + qs.length ≤ 100
theorem posInv_start {n : Nat} {y x : Int} {ds : List Int} (hy : 1 ≤ y) (hv : val n ds = x) (hd : ∀ d ∈ ds, 0 ≤ d ∧ d < 2 ^ n) (hl : ds.length ≤ 100) : PosInv n y x ds.reverse [] 0 := by
  refine ⟨?_, by (first | lia | omega), by (first | lia | omega), fun d h => hd d (List.mem_reverse.mp h), (fun d h => nomatch h), by simpa using hl⟩
  simp [val, hv]
theorem posInv_step {n : Nat} {y x r d : Int} {rs qs : List Int} (I : PosInv n y x (d :: rs) qs r) : PosInv n y x rs (qs ++ [(r * 2 ^ n + d).fdiv y]) ((r * 2 ^ n + d).fmod y) := by
  obtain ⟨h1, h2, h3, h4, h5, h6⟩ := I
  have hd := h4 d (.head _)
  have hp : (0 : Int) < 2 ^ n := Int.pow_pos (by decide)
  have hz : 0 ≤ r * 2 ^ n + d := Int.add_nonneg (Int.mul_nonneg h2 (Int.le_of_lt hp)) hd.1
  have hy : 0 < y := by (first | lia | omega)
  have hzl : r * 2 ^ n + d < y * 2 ^ n := by
    have : (r + 1) * 2 ^ n ≤ y * 2 ^ n := Int.mul_le_mul_of_nonneg_right (by (first | lia | omega)) (Int.le_of_lt hp)
    rw [Int.add_mul, Int.one_mul] at this
    (first | lia | omega)
  rw [Int.fdiv_eq_ediv_of_nonneg _ (Int.le_of_lt hy), Int.fmod_eq_emod_of_nonneg _ (Int.le_of_lt hy)]
  have e := Int.emod_add_mul_ediv (r * 2 ^ n + d) y
  have hq0 : 0 ≤ (r * 2 ^ n + d) / y := Int.ediv_nonneg hz (Int.le_of_lt hy)
  have hq1 : (r * 2 ^ n + d) / y < 2 ^ n := Int.ediv_lt_of_lt_mul hy (by rw [Int.mul_comm (2 ^ n) y]; exact hzl)
  refine ⟨?_, Int.emod_nonneg _ (Int.ne_of_gt hy), Int.emod_lt_of_pos _ hy, fun a ha => h4 a (.tail _ ha), fun a ha => ?_, by simp at h6 ⊢; (first | lia | omega)⟩
  · rw [h1, List.reverse_cons, val_append, List.length_reverse, List.length_cons, List.reverse_append]
    have e2 : (2 : Int) ^ (n * (rs.length + 1)) = 2 ^ (n * rs.length) * 2 ^ n := by rw [Nat.mul_add, Nat.mul_one, Int.pow_add]
    simp only [List.reverse_singleton, List.singleton_append, val, Int.mul_zero, Int.add_zero]
    rw [e2]
    generalize (2 : Int) ^ (n * rs.length) = P
    generalize val n qs.reverse = Qv at *
    generalize (2 : Int) ^ n = S at *
    generalize (r * S + d) / y = q at *
    generalize (r * S + d) % y = m at *
    have e3 : d = m + y * q - r * S := by (first | lia | omega)
    rw [e3]
    simp only [Int.add_mul, Int.mul_add, Int.mul_sub, Int.sub_mul, Int.mul_assoc]
    have a1 : S * (Qv * y) = S * (Qv * y) := rfl
    have a2 : y * q = q * y := Int.mul_comm _ _
    have a3 : r * S = S * r := Int.mul_comm _ _
    rw [a2, a3]
    (first | lia | omega)
  · rcases List.mem_append.mp ha with ha | ha
    · exact h5 a ha
    · rw [List.mem_singleton.mp ha]; exact ⟨hq0, hq1⟩
theorem posInv_size {n : Nat} {y x r d : Int} {rs qs : List Int} (I : PosInv n y x (d :: rs) qs r) (hn : n ≤ 100) (hy : y < 2 ^ 100) :
    (Builtin.Int.intBits r : Int) + n ≤ 2 ^ 27 ∧ (Builtin.Int.intBits (r * 2 ^ n + d) : Int) - n ≤ 4000 := by
  obtain ⟨h1, h2, h3, h4, h5, h6⟩ := I
  have hd := h4 d (.head _)
  have hp : (0 : Int) < 2 ^ n := Int.pow_pos (by decide)
  have hz : 0 ≤ r * 2 ^ n + d := Int.add_nonneg (Int.mul_nonneg h2 (Int.le_of_lt hp)) hd.1
  have b1 : Builtin.Int.intBits r ≤ 100 := bits_le h2 (Int.lt_trans h3 hy)
  have hle : (2 : Int) ^ n ≤ 2 ^ 100 := by exact_mod_cast Nat.pow_le_pow_right (by decide) hn
  have b2 : Builtin.Int.intBits (r * 2 ^ n + d) ≤ 201 := bits_le hz (by
    have e1 : r * 2 ^ n ≤ 2 ^ 100 * 2 ^ 100 := Int.mul_le_mul (by (first | lia | omega)) hle (Int.le_of_lt hp) (by decide)
    have e2 : d < 2 ^ 100 := by (first | lia | omega)
    have e3 : (2 : Int) ^ 100 * 2 ^ 100 + 2 ^ 100 < 2 ^ 201 := by decide
    (first | lia | omega))
  (first | lia | omega)
theorem posInv_end {n : Nat} {y x r : Int} {qs : List Int} (I : PosInv n y x [] qs r) : x.fdiv y = val n qs.reverse ∧ x.fmod y = r := by
  obtain ⟨h1, h2, h3, h4, h5, h6⟩ := I
  simp [val] at h1
  have hy : 0 < y := by (first | lia | omega)
  rw [Int.fdiv_eq_ediv_of_nonneg _ (Int.le_of_lt hy), Int.fmod_eq_emod_of_nonneg _ (Int.le_of_lt hy)]
  exact (Int.ediv_emod_unique hy).mpr ⟨by rw [h1, Int.mul_comm y]; (first | lia | omega), h2, h3⟩
end Mine
end PartN2

section PartM3
open PySem PySem.W PyProof.Rows PySem.Calls PySem.Spec
set_option maxRecDepth 100000
namespace Mine
theorem PsL.weak {sz sz' : Nat} {rest : List (Addr × Obj)} {ps ps' : Array Value} {l c : Nat} {q : Str} (P : PsL sz rest ps ps' l c q) (h : sz' ≤ sz) : PsL sz' rest ps ps' l c q := P.imp id fun ⟨c', x, e, hm, I, hsz⟩ => ⟨c', x, e, hm, I, Nat.le_trans h hsz⟩
theorem frKt {ex : List Addr} {h₀ h h' : Heap} {L : Addr} {m : Str → Option Value} (F : Fr h₀ L h m) (k : Kt ex h h') (hx : ∀ a ∈ ex, h₀.get? a = none ∧ a ≠ L) : Fr h₀ L h' m := by
  obtain ⟨oL, es, ep, hL, r⟩ := F.ns
  exact ⟨⟨oL, es, ep, k _ _ hL fun hb => (hx _ hb).2 rfl, r⟩, fun b o e => k _ _ (F.keep b o e) (fun hb => by rw [(hx _ hb).1] at e; cases e), F.above⟩
/-- what a call made of one table, in the ledger's words -/
theorem after1 {P : Addr} {h₀ h h' : Heap} {L : Addr} {m : Str → Option Value} {pre : List (Addr × Obj)} {ps ps' : Array Value} {l c : Nat} {q : Str} (F : Fr h₀ L h m) (N : News h₀ L h ((P, tabObj ps) :: pre)) (hne : ∀ q ∈ pre, q.1 ≠ P) (k : Kt [P] h h')
    (e : h'.get? P = some (tabObj ps')) (S : PsStep h h' ps ps' l c q) :
    Fr h₀ L h' m ∧ ∃ rest, News h₀ L h' ((P, tabObj ps') :: (pre ++ rest)) ∧ PsL h.objs.size rest ps ps' l c q ∧ (∀ r ∈ rest, h.objs.size ≤ r.1) := by
  have hP := N _ (.head _)
  have hnew : ∀ b, h.objs.size ≤ b → b ≠ L ∧ h₀.get? b = none := fun b hb => ⟨Nat.ne_of_gt (Nat.lt_of_lt_of_le F.ns.lt hb), Heap.get?_none_of_le (Nat.le_trans (Nat.le_trans F.above (Nat.le_of_lt F.ns.lt)) hb)⟩
  refine ⟨frKt F k fun a ha => by rw [List.mem_singleton.mp ha]; exact ⟨hP.2.2, hP.2.1⟩, ?_⟩
  have base : ∀ p ∈ pre, h'.get? p.1 = some p.2 ∧ p.1 ≠ L ∧ h₀.get? p.1 = none := fun p hp => ⟨k _ _ (N p (.tail _ hp)).1 fun hb => hne p hp (List.mem_singleton.mp hb), (N p (.tail _ hp)).2⟩
  rcases S with rfl | ⟨c', x, e2, e3, I, hsz⟩
  · refine ⟨[], fun p hp => ?_, .inl rfl, fun r hr => nomatch hr⟩
    rcases List.mem_cons.mp hp with rfl | hp
    · exact ⟨e, hP.2⟩
    · exact base p (by simpa using hp)
  · refine ⟨[(c', x)], fun p hp => ?_, .inr ⟨c', x, e2, .head _, I, hsz⟩, fun r hr => by rw [List.mem_singleton.mp hr]; exact hsz⟩
    rcases List.mem_cons.mp hp with rfl | hp
    · exact ⟨e, hP.2⟩
    · rcases List.mem_append.mp hp with hp | hp
      · exact base p hp
      · rw [List.mem_singleton.mp hp]; exact ⟨e3, hnew _ hsz⟩
theorem news_add {h₀ h h' : Heap} {L D : Addr} {o : Obj} {m : Str → Option Value} {news : List (Addr × Obj)} (F : Fr h₀ L h m) (N : News h₀ L h' news) (hD : h.objs.size ≤ D) (e : h'.get? D = some o) : News h₀ L h' ((D, o) :: news) := fun p hp => by
  rcases List.mem_cons.mp hp with rfl | hp
  · exact ⟨e, Nat.ne_of_gt (Nat.lt_of_lt_of_le F.ns.lt hD), Heap.get?_none_of_le (Nat.le_trans (Nat.le_trans F.above (Nat.le_of_lt F.ns.lt)) hD)⟩
  · exact N p hp
end Mine
end PartM3

section PartM4
open PySem PySem.W PyProof.Rows PySem.Calls PySem.Spec
set_option maxRecDepth 100000
namespace Mine
theorem PsStep.weak {h1 h2 h' : Heap} {ps ps' : Array Value} {l c : Nat} {q : Str} (P : PsStep h2 h' ps ps' l c q) (h : h1.objs.size ≤ h2.objs.size) : PsStep h1 h' ps ps' l c q := P.imp id fun ⟨c', x, e, hm, I, hsz⟩ => ⟨c', x, e, hm, I, Nat.le_trans h hsz⟩
theorem PsStep.at {h h' : Heap} {ps ps' : Array Value} {l c : Nat} {q : Str} {ex : List Addr} (P : PsStep h h' ps ps' l c q) (H : PsH h ps l c q) (k : Kt ex h h') (hx : ∀ a ∈ ex, ∃ ps', h.get? a = some (tabObj ps') ∧ (ps' = #[] ∨ ∃ l c v, ps' = #[rawInt l, rawInt c, v])) : PsH h' ps' l c q := by
  rcases P with rfl | ⟨c', x, e, h1, I, _⟩
  · exact H.kt k hx
  · exact .inr ⟨c', e, I.rec' h1⟩
/-- what a call made of both tables, in the ledger's words -/
theorem after2 {h₀ h h' : Heap} {L : Addr} {m : Str → Option Value} {pre : List (Addr × Obj)} {a a' b b' : Array Value} {l c l2 c2 : Nat} {q q2 : Str} (F : Fr h₀ L h m) (N : News h₀ L h ((37, tabObj a) :: (30, tabObj b) :: pre)) (hne : ∀ q ∈ pre, q.1 ≠ 37 ∧ q.1 ≠ 30) (k : Kt [37, 30] h h')
    (e1 : h'.get? 37 = some (tabObj a')) (e2 : h'.get? 30 = some (tabObj b')) (S1 : PsStep h h' a a' l c q) (S2 : PsStep h h' b b' l2 c2 q2) :
    Fr h₀ L h' m ∧ ∃ rest, News h₀ L h' ((37, tabObj a') :: (30, tabObj b') :: (pre ++ rest)) ∧ PsL h.objs.size rest a a' l c q ∧ PsL h.objs.size rest b b' l2 c2 q2 ∧ (∀ r ∈ rest, h.objs.size ≤ r.1) := by
  have hP := N _ (.head _)
  have hP2 := N _ (.tail _ (.head _))
  have hnew : ∀ b, h.objs.size ≤ b → b ≠ L ∧ h₀.get? b = none := fun b hb => ⟨Nat.ne_of_gt (Nat.lt_of_lt_of_le F.ns.lt hb), Heap.get?_none_of_le (Nat.le_trans (Nat.le_trans F.above (Nat.le_of_lt F.ns.lt)) hb)⟩
  refine ⟨frKt F k fun a ha => by
    rcases List.mem_cons.mp ha with rfl | ha
    · exact ⟨hP.2.2, hP.2.1⟩
    · rw [List.mem_singleton.mp ha]; exact ⟨hP2.2.2, hP2.2.1⟩, ?_⟩
  have base : ∀ p ∈ pre, h'.get? p.1 = some p.2 ∧ p.1 ≠ L ∧ h₀.get? p.1 = none := fun p hp => ⟨k _ _ (N p (.tail _ (.tail _ hp))).1 fun hb => by
    rcases List.mem_cons.mp hb with hb | hb
    · exact (hne p hp).1 hb
    · exact (hne p hp).2 (List.mem_singleton.mp hb), (N p (.tail _ (.tail _ hp))).2⟩
  have led : ∀ {ps ps' : Array Value} {l c : Nat} {q : Str}, PsStep h h' ps ps' l c q → ∃ rest : List (Addr × Obj), (∀ p ∈ rest, h'.get? p.1 = some p.2 ∧ h.objs.size ≤ p.1) ∧ PsL h.objs.size rest ps ps' l c q := by
    intro ps ps' l c q S
    rcases S with e | ⟨c', x, e2, e3, I, hsz⟩
    · exact ⟨[], fun p hp => (nomatch hp), .inl e⟩
    · exact ⟨[(c', x)], fun p hp => by rw [List.mem_singleton.mp hp]; exact ⟨e3, hsz⟩, .inr ⟨c', x, e2, .head _, I, hsz⟩⟩
  obtain ⟨r1, h1, L1⟩ := led S1
  obtain ⟨r2, h2, L2⟩ := led S2
  refine ⟨r1 ++ r2, fun p hp => ?_, L1.more fun p hp => List.mem_append_left _ hp, L2.more fun p hp => List.mem_append_right _ hp, fun r hr => ?_⟩
  · rcases List.mem_cons.mp hp with rfl | hp
    · exact ⟨e1, hP.2⟩
    · rcases List.mem_cons.mp hp with rfl | hp
      · exact ⟨e2, hP2.2⟩
      · rcases List.mem_append.mp hp with hp | hp
        · exact base p hp
        · rcases List.mem_append.mp hp with hp | hp
          · exact ⟨(h1 p hp).1, hnew _ (h1 p hp).2⟩
          · exact ⟨(h2 p hp).1, hnew _ (h2 p hp).2⟩
  · rcases List.mem_append.mp hr with hr | hr
    · exact (h1 r hr).2
    · exact (h2 r hr).2
theorem tabs_at {h₀ h : Heap} {L : Addr} {p37 p30 : Array Value} {pre : List (Addr × Obj)} {l c l2 c2 : Nat} {q q2 : Str} (N : News h₀ L h ((37, tabObj p37) :: (30, tabObj p30) :: pre)) (P37 : PsH h p37 l c q) (P30 : PsH h p30 l2 c2 q2) :
    ∀ a ∈ [37, 30], ∃ ps', h.get? a = some (tabObj ps') ∧ (ps' = #[] ∨ ∃ l c v, ps' = #[rawInt l, rawInt c, v]) := fun a ha => by
  rcases List.mem_cons.mp ha with rfl | ha
  · exact ⟨p37, N.get (.head _), P37.tab⟩
  · rw [List.mem_singleton.mp ha]; exact ⟨p30, N.get (.tail _ (.head _)), P30.tab⟩
/-- a call's result in the words of what stood ahead of its caller -/
theorem kt_trans {ex : List Addr} {h g h1 h' : Heap} (G : Kt ex h g) (k : ∀ b o, g.get? b = some o → h1.get? b = some o) (K : Kt ex h1 h') : Kt ex h h' := fun b o e hb => K b o (k b o (G b o e hb)) hb
end Mine
end PartM4

section PartM5
open PySem PySem.W PyProof.Rows PySem.Calls PySem.Spec
set_option maxRecDepth 100000
namespace Mine
theorem rng_ind {prog : Program} {w : World} {A : Around} {E : Value → Shared → Prop} {h₀ : Heap} {env : Env} {x : Str} {body : List Stmt} {Q : Flow → Shared → Prop} {s : Shared} {I : Addr} {a : Int} {n : Nat} {J : Nat → (Str → Option Value) → List (Addr × Obj) → Prop}
    (h0 : ∀ m news, J n m news → RangeRest prog w A E h₀ env x body Q s I a n 0 n m news)
    (h1 : ∀ k i m news, i + (k + 1) = n → J i m news → (∀ m' news', J (i + 1) m' news' → RangeRest prog w A E h₀ env x body Q s I a n k (i + 1) m' news') → RangeRest prog w A E h₀ env x body Q s I a n (k + 1) i m news) :
    ∀ k i m news, i + k = n → J i m news → RangeRest prog w A E h₀ env x body Q s I a n k i m news
  | 0, i, m, news, e, j => by
    have e2 : i = n := e
    subst e2
    exact h0 m news j
  | k + 1, i, m, news, e, j => h1 k i m news e j fun m' news' j' => rng_ind h0 h1 k (i + 1) m' news' (by (first | lia | omega)) j'
theorem unr1 {h₀ : Heap} {L I : Addr} {it : Obj} {rest : (Str → Option Value) → List (Addr × Obj) → Prop} {s₁ : Shared} {h' : Heap} {tk : Nat} {m' : Str → Option Value} {news' : List (Addr × Obj)} (F : Fr h₀ L h' m') (N : News h₀ L h' ((I, it) :: news'))
    (off : ∀ p ∈ news', p.1 ≠ I) (r : rest m' news') : UnrEnd h₀ L s₁ I it rest { s₁ with heap := h', toks := tk } := UnrEnd.intro F N news' (fun _ hp => hp) off r
theorem one_addr {h₀ h : Heap} {L I : Addr} {o1 : Obj} {r : List (Addr × Obj)} (_N : News h₀ L h ((I, o1) :: r)) : ∃ I' : Addr, I' = I := ⟨_, rfl⟩
theorem frEq {h₀ h : Heap} {L : Addr} {m m' : Str → Option Value} (F : Fr h₀ L h m) (e : ∀ y, m y = m' y) : Fr h₀ L h m' := (funext e : m = m') ▸ F
theorem mstep {m : Str → Option Value} {x z : Str} {v w : Option Value} (h1 : m x = v) (h2 : m z = w) : m z = if z = x then v else w := by
  split
  · rename_i h; rw [h]; exact h1
  · exact h2
section
variable {M : Model} {A : Around} {E : Value → Shared → Prop} {s : Shared} {h₀ : Heap} {L : Addr} {m : Str → Option Value} {news : List (Addr × Obj)}
theorem newList_KL {vs : List Value} {Q : Value → Shared → Prop} (F : Fr h₀ L s.heap m) (N : News h₀ L s.heap news)
    (h : ∀ l h', Fr h₀ L h' m → News h₀ L h' ((l, listOf vs.toArray 0) :: news) → (∀ p ∈ news, p.1 < l) → @LT.lt Nat _ L l → Q (.ref l) { s with heap := h' }) (hsz : vs.length ≤ sizeLine) : wpAny M A (newList vs) Q E s :=
  newList_N F N (fun h' F' N' => h _ h' F' N' (fun p hp => Heap.lt_size (N p hp).1) F.ns.lt) hsz
theorem newTuple_KL {vs : List Value} {Q : Value → Shared → Prop} (F : Fr h₀ L s.heap m) (N : News h₀ L s.heap news)
    (h : ∀ l h', Fr h₀ L h' m → News h₀ L h' ((l, { cls := .type "tuple", data := .seq vs.toArray }) :: news) → (∀ p ∈ news, p.1 < l) → @LT.lt Nat _ L l → Q (.ref l) { s with heap := h' }) (hsz : vs.length ≤ sizeLine) : wpAny M A (newTuple vs) Q E s :=
  newTuple_N F N (fun h' F' N' => h _ h' F' N' (fun p hp => Heap.lt_size (N p hp).1) F.ns.lt) hsz
end
end Mine
end PartM5

section PartM6
open PySem PySem.W PyProof.Rows PySem.Calls PySem.Spec
set_option maxRecDepth 100000
namespace Mine
/-- a table by a base and a ledger -/
def PsR (h₀ : Heap) (led : List (Addr × Obj)) (ps : Array Value) (l c : Nat) (q : Str) : Prop := ps = #[] ∨ ∃ c', ps = #[rawInt l, rawInt c, .ref c'] ∧ CRec h₀ led c' q
theorem PsR.more {h₀ : Heap} {led led' : List (Addr × Obj)} {ps : Array Value} {l c : Nat} {q : Str} (P : PsR h₀ led ps l c q) (hs : ∀ p ∈ led, p ∈ led') : PsR h₀ led' ps l c q := P.imp id fun ⟨c', e, C⟩ => ⟨c', e, C.more hs⟩
theorem PsR.at {h₀ g h : Heap} {L L' : Addr} {led news : List (Addr × Obj)} {ps : Array Value} {l c : Nat} {q : Str} {m m' : Str → Option Value} (P : PsR h₀ led ps l c q) (F₀ : Fr h₀ L g m) (F : Fr g L' h m') (N : News g L' h news) (hs : ∀ p ∈ led, p ∈ news) : PsH h ps l c q :=
  P.imp id fun ⟨c', e, C⟩ => ⟨c', e, ((C.keeps F₀).more hs).at F N⟩
theorem PsR.at0 {h₀ h : Heap} {L : Addr} {led news : List (Addr × Obj)} {ps : Array Value} {l c : Nat} {q : Str} {m : Str → Option Value} (P : PsR h₀ led ps l c q) (F : Fr h₀ L h m) (N : News h₀ L h news) (hs : ∀ p ∈ led, p ∈ news) : PsH h ps l c q :=
  P.imp id fun ⟨c', e, C⟩ => ⟨c', e, (C.more hs).at F N⟩
theorem PsR.step {h₀ : Heap} {led rest : List (Addr × Obj)} {sz : Nat} {ps ps' : Array Value} {l c : Nat} {q : Str} (P : PsR h₀ led ps l c q) (S : PsL sz rest ps ps' l c q) : PsR h₀ (led ++ rest) ps' l c q := by
  rcases S with rfl | ⟨c', x, e, hm, I, _⟩
  · exact P.more fun p hp => List.mem_append_left _ hp
  · exact .inr ⟨c', e, .inr ⟨x, List.mem_append_right _ hm, I⟩⟩
end Mine
end PartM6

section PartM7
open PySem PySem.W PyProof.Rows PySem.Calls PySem.Spec
set_option maxRecDepth 100000
namespace Mine
theorem isList_news {h₀ h : Heap} {L l : Addr} {led : List (Addr × Obj)} {its : Array Value} {k : Nat} (N : News h₀ L h led) (hm : (l, listOf its k) ∈ led) : h.IsList l its := ⟨_, (N _ hm).1, rfl, k, rfl⟩
theorem isList_fr {h₀ h : Heap} {L l : Addr} {m : Str → Option Value} {its : Array Value} (H : h₀.IsList l its) (F : Fr h₀ L h m) : h.IsList l its := by
  obtain ⟨o, e, r⟩ := H
  exact ⟨o, F.keep _ _ e, r⟩
/-- a call of the quiet kind, with a new object -/
theorem afterNew {h₀ h h' : Heap} {L q : Addr} {o : Obj} {m : Str → Option Value} {news : List (Addr × Obj)} (F : Fr h₀ L h m) (N : News h₀ L h news) (k : Kp h h') (hq : h.objs.size ≤ q) (e : h'.get? q = some o) :
    Fr h₀ L h' m ∧ News h₀ L h' ((q, o) :: news) ∧ (∀ p ∈ news, p.1 < q) ∧ @LT.lt Nat _ L q := ⟨frKp F k, newsNew F N k hq e, newsLt N hq, Nat.lt_of_lt_of_le F.ns.lt hq⟩
theorem row_b {r : List Int} (h : RowOk r) : ∀ n ∈ r, 1 ≤ n ∧ n ≤ 400000 := fun n hn => by
  have := chain_bounds h.1 h.2.2 n hn
  (first | lia | omega)
theorem three_ints {cv : List Value} {c : List Int} (h : IntsAre cv c) (h3 : c.length = 3) : ∃ c0 t0 c1 t1 c2 t2, c = [c0, c1, c2] ∧ cv = [.int c0 t0, .int c1 t1, .int c2 t2] := by
  cases h with
  | nil => cases h3
  | cons x t h => cases h with
    | nil => cases h3
    | cons y u h => cases h with
      | nil => cases h3
      | cons z v h => cases h with
        | nil => exact ⟨_, _, _, _, _, _, rfl, rfl⟩
        | cons _ _ h => simp only [List.length_cons] at h3; (first | lia | omega)
end Mine
end PartM7

section PartA1
open PySem PySem.W PyProof.Rows PySem.Calls PySem.Spec
set_option maxRecDepth 100000
namespace Mine
section
variable {w : World} {p : Program} {loose : List Str} {mean : ExcName → Option Value} {mg mb : Str → Option Value}
   {dp un : Nat} {gd : Option (List Code)} {cn : Str} {cs : Scope} {a : Addr} {ccd : Value} {cl : List (Str × Addr)} {outer : List Env} {A₀ : Around} {base h₀ : Heap} {L : Addr} {m : Str → Option Value} {s : Shared} {Q E : Value → Shared → Prop}

set_option maxHeartbeats 8000000 in
theorem div2n1n_spec {x y n : Int} {t1 t2 t3 : Tok}
   (B : Below A₀ base outer h₀) (F : Fr h₀ L s.heap m) (X : (hd.heap_39 w.params).In h₀) (T : Top p loose mean mg mb h₀) (hk : cs.kind = .function)
   (hy : y ≠ 0) (hys : y.natAbs.log2 < 9000) (hx : (Builtin.Int.intBits x : Int) - n ≤ 4000) (hdp : dp + 1 < recursionLimit)
   (ret : ∀ q h' tk' t t', Kp s.heap h' → s.heap.objs.size ≤ q → h'.get? q = some { cls := .type "tuple", data := .seq #[.int (x.fdiv y) t, .int (x.fmod y) t'] } → Q (.ref q) { s with heap := h', toks := tk' }) :
   wpAny (model PySem.Challenge.rw_rw0066_01.row.prog w) (ktrTop dp un gd cn cs L a ccd cl outer) (call (.ref 21) [.int x t1, .int y t2, .int n t3]) Q E s := by
  k_with_none
  k_with "execs cons" => ((with_reducible show wpAny _ _ _ _ _ (Shared.mk _ _ _ (_ + 1) _)); refine Mine.tok_gen fun _ => ?_)
  k_with "exec Assign" => k_fold
  k_with "exec If" => k_fold
  k_with "exec Return some" => k_fold
  k_with "exec For" => k_fold
  k_with "exec Expr" => k_fold
  k_with "exec AugAssign" => k_fold
  k_with "exec Try" => k_fold
  k_with "exec Delete" => k_fold
  k_with "exec Assert" => k_fold
  k_with "exec While" => k_fold
  k_with "eval Call" => k_fold
  k_with "eval Compare" => k_fold
  k_with "eval BinOp" => k_fold
  k_with "eval Tuple" => k_fold
  k_with "eval List" => k_fold
  k_with "isTrue" => k_fold
  k_with "callWith" => k_fold
  k_with "eval Subscript" => k_fold
  k_with "room" => first | exact Mine.room0 (dp := dp) hdp | exact Mine.room1 (dp := dp) hdp rfl
  revert X; k_fill; intro X
  k_with "call builtin:divmod" => (refine divmod_N (by assumption) (by assumption) hy ?_ (Or.inl (PyProof.noPylong_of_log2 hys)); intro h9 F9 N9)
  refine wpAny_call ?_
  k_dflt (refine' tab_def (tl := []) ?k1 ?k2 ?k3 ?kN ?k5 ?kA ?kF ?kK ?k6 ?k7 ?k8 ?k9 ?kB ?_ ?c2 ?c3 ?c4 ?c5; (case kA => exact rfl); (case kF => exact rfl); (case kK => assumption); (case k1 => k_asm); (case k2 => k_asm); (case k3 => k_asm); (case kN => exact News.nil); (case k5 => k_asm); (case k6 => k_is); (case k7 => k_is); (case k8 => ktr_room); (case k9 => exact BindsTo.of_eq rfl); (case c5 => decide); (case kB => exact locs rfl); (case c2 => exact rfl); (case c3 => exact rfl); (case c4 => exact rfl); k_whole)
  intro g L' h' G' F' N' B' X' T' l' e' st'
  (try dsimp only); (try k_fold)
  k_steps
  exact ret _ _ _ _ _ (fun b o e => F9.keep _ _ (G' b o e List.not_mem_nil)) (e' ▸ Nat.le_of_lt F'.ns.lt) (N9.get (.head _))
end
end Mine
end PartA1

section PartB1
open PySem PySem.W PyProof.Rows PySem.Calls PySem.Spec
set_option maxRecDepth 100000
namespace Mine
local macro_rules | `(tactic| k_all) => `(tactic| k_extra "k_all")

def Inner2C (w : World) (p : Program) (loose : List Str) (mean : ExcName → Option Value) (mg mb : Str → Option Value) (f c : Addr) (led : List (Addr × Obj)) (D : Addr) (vs : List Value) (n : Int) (ds : List Int) (k : Nat) : Prop :=
  ∀ (dp un : Nat) (gd : Option (List Code)) (cn : Str) (cs : Scope) (a : Addr) (ccd : Value) (cl : List (Str × Addr)) (outer : List Env) (A₀ : Around) (base h₀ : Heap) (L : Addr) (m : Str → Option Value) (s : Shared) (Q E : Value → Shared → Prop) (lo hi : Int) (t1 t2 : Tok),
    Below A₀ base outer h₀ → Fr h₀ L s.heap m → (hd.heap_39 w.params).In h₀ → News h₀ L s.heap led → Top p loose mean mg mb h₀ → cs.kind = .function → CRec h₀ led c digQ → h₀.IsList D vs.toArray →
    0 ≤ lo → lo < hi → hi ≤ ds.length → hi - lo ≤ k → dp + k + 1 < recursionLimit →
    (∀ t h' tk', Fr h₀ L h' m → News h₀ L h' led → Q (.int (val n.toNat (cut ds lo.toNat hi.toNat)) t) { s with heap := h', toks := tk' }) →
    wpAny (model PySem.Challenge.rw_rw0066_01.row.prog w) (ktrTop dp un gd cn cs L a ccd cl outer) (call (.ref f) [.int lo t1, .int hi t2]) Q E s
theorem inner2_ind {w : World} {p : Program} {loose : List Str} {mean : ExcName → Option Value} {mg mb : Str → Option Value} {f c : Addr} {led : List (Addr × Obj)} {D : Addr} {vs : List Value} {n : Int} {ds : List Int} {g h : Heap} {L : Addr}
    (_N : News g L h led) (_C : CRec g led c digQ) (hf : ∃ fo, (f, fo) ∈ led) (step : ∀ k, Inner2C w p loose mean mg mb f c led D vs n ds k → Inner2C w p loose mean mg mb f c led D vs n ds (k + 1)) : ∀ k, Inner2C w p loose mean mg mb f c led D vs n ds k := by
  intro k
  induction k with
  | zero => intro dp un gd cn cs a ccd cl outer A₀ base h₀ L m s Q E lo hi t1 t2 B F X N T hk _ _ h1 h2 h3 h4; (first | lia | omega)
  | succ k ih => exact step k ih
theorem inner2_use {w : World} {p : Program} {loose : List Str} {mean : ExcName → Option Value} {mg mb : Str → Option Value} {f c : Addr} {led : List (Addr × Obj)} {D : Addr} {vs : List Value} {n : Int} {ds : List Int} {k : Nat}
    {dp un : Nat} {gd : Option (List Code)} {cn : Str} {cs : Scope} {a : Addr} {ccd : Value} {cl : List (Str × Addr)} {outer : List Env} {A₀ : Around} {base h₀ : Heap} {L : Addr} {m : Str → Option Value} {s : Shared} {Q E : Value → Shared → Prop} {lo hi : Int} {t1 t2 : Tok}
    (C : Inner2C w p loose mean mg mb f c led D vs n ds k)
    (B : Below A₀ base outer h₀) (F : Fr h₀ L s.heap m) (X : (hd.heap_39 w.params).In h₀) (N : News h₀ L s.heap led) (T : Top p loose mean mg mb h₀) (hk : cs.kind = .function) (hC : CRec h₀ led c digQ) (hL : h₀.IsList D vs.toArray)
    (h1 : 0 ≤ lo ∧ lo < hi ∧ hi ≤ ds.length ∧ hi - lo ≤ k) (h5 : dp + k + 1 < recursionLimit)
    (h : ∀ t h' tk', Fr h₀ L h' m → News h₀ L h' led → Q (.int (val n.toNat (cut ds lo.toNat hi.toNat)) t) { s with heap := h', toks := tk' }) :
    wpAny (model PySem.Challenge.rw_rw0066_01.row.prog w) (ktrTop dp un gd cn cs L a ccd cl outer) (call (.ref f) [.int lo t1, .int hi t2]) Q E s :=
  C _ _ _ _ _ _ _ _ _ _ _ _ _ _ _ _ _ _ _ _ _ B F X N T hk hC hL h1.1 h1.2.1 h1.2.2.1 h1.2.2.2 h5 h

theorem crec5 {h₀ h : Heap} {L c : Addr} {q : Str} {a1 a2 a3 a4 a5 : Addr × Obj} {rest : List (Addr × Obj)} (_N : News h₀ L h (a1 :: a2 :: a3 :: a4 :: a5 :: rest)) (C : CRec h₀ rest c q) : CRec h₀ (a1 :: a2 :: a3 :: a4 :: a5 :: rest) c q :=
  C.more fun _ hq => .tail _ (.tail _ (.tail _ (.tail _ (.tail _ hq))))
theorem dig_leaf {lo hi : Int} {n : Nat} {ds : List Int} (h0 : 0 ≤ lo) (h1 : lo + 1 = hi) (h2 : hi ≤ ds.length) : ds.getD lo.toNat 0 = val n (cut ds lo.toNat hi.toNat) := by
  rw [to_succ h0 h1, cut_one (to_lt h0 h1 h2)]
  simp only [val, Int.mul_zero, Int.add_zero]
theorem dig_join {n lo mid hi : Int} {ds : List Int} (hn : 0 ≤ n) (h0 : 0 ≤ lo) (h1 : lo ≤ mid) (h2 : mid ≤ hi) (h3 : hi ≤ ds.length) :
    val n.toNat (cut ds mid.toNat hi.toNat) * 2 ^ ((mid - lo) * n).toNat + val n.toNat (cut ds lo.toNat mid.toNat) = val n.toNat (cut ds lo.toNat hi.toNat) := by
  rw [val_cut (i := lo.toNat) (k := mid.toNat) (j := hi.toNat) (Int.toNat_le_toNat h1) (Int.toNat_le_toNat h2) (Int.toNat_le.mpr h3)]
  congr 3
  have e : (mid - lo) * n = ((n.toNat * (mid.toNat - lo.toNat) : Nat) : Int) := by
    rw [Int.natCast_mul, Int.natCast_sub (Int.toNat_le_toNat h1), Int.toNat_of_nonneg hn, Int.toNat_of_nonneg (Int.le_trans h0 h1), Int.toNat_of_nonneg h0, Int.mul_comm]
  rw [e, Int.toNat_natCast]
theorem dig_size {n lo mid hi : Int} {c : Nat} {ds : List Int} (hn : 0 ≤ n) (hn2 : n ≤ 100) (h0 : 0 ≤ lo) (h1 : lo ≤ mid) (h2 : mid ≤ hi) (h3 : hi ≤ ds.length) (hfit : ds.length ≤ 100)
    (hds : ∀ d ∈ ds, 0 ≤ d ∧ d < 2 ^ c) (hc : c ≤ 1000) :
    0 ≤ (mid - lo) * n ∧ (Builtin.Int.intBits (val n.toNat (cut ds mid.toNat hi.toNat)) : Int) + (mid - lo) * n ≤ 2 ^ 27 := by
  have hb := val_bounds (n := n.toNat) (c := c) (ds := cut ds mid.toNat hi.toNat) fun d hd => hds d (cut_mem hd)
  have hl : (cut ds mid.toNat hi.toNat).length ≤ 100 := by rw [cut_length (Int.toNat_le_toNat h2) (Int.toNat_le.mpr h3)]; exact Nat.le_trans (Nat.sub_le _ _) (Nat.le_trans (Int.toNat_le.mpr h3) hfit)
  have hb2 := bits_le hb.1 hb.2
  have h5 : (n.toNat + 1) * (cut ds mid.toNat hi.toNat).length ≤ 101 * 100 := Nat.mul_le_mul (Nat.succ_le_succ (Int.toNat_le.mpr hn2)) hl
  have h6 : (mid - lo) * n ≤ 100 * 100 := Int.mul_le_mul (by (first | lia | omega)) hn2 hn (by decide)
  exact ⟨Int.mul_nonneg (Int.sub_nonneg_of_le h1) hn, by (first | lia | omega)⟩

section
variable {w : World} {p : Program} {loose : List Str} {mean : ExcName → Option Value} {mg mb : Str → Option Value}
   {dp un : Nat} {gd : Option (List Code)} {cn : Str} {cs : Scope} {a : Addr} {ccd : Value} {cl : List (Str × Addr)} {outer : List Env} {A₀ : Around} {base h₀ : Heap} {L : Addr} {m : Str → Option Value} {s : Shared} {Q E : Value → Shared → Prop}


set_option maxHeartbeats 8000000 in
/-- _digits2int: the number that the figures tell -/
theorem dig_spec {n : Int} {t2 : Tok} {D : Addr} {vs : List Value} {ds : List Int} {c : Nat} {p37 : Array Value}
   (B : Below A₀ base outer h₀) (F : Fr h₀ L s.heap m) (X : (hd.heap_39 w.params).In h₀) (T : Top p loose mean mg mb h₀) (hk : cs.kind = .function)
   (CH : CodeHd base 41 37)
   (N : News h₀ L s.heap [(37, tabObj p37)]) (P37 : PsH s.heap p37 47 4 digQ)
   (hD : s.heap.IsList D vs.toArray)
   (hI : IntsAre vs ds) (hfit : ds.length ≤ 100) (hn : 1 ≤ n) (hn2 : n ≤ 100) (hds : ∀ d ∈ ds, 0 ≤ d ∧ d < 2 ^ c) (hc : c ≤ 1000)
   (hdp : dp + 110 < recursionLimit)
   (ret : ∀ t h' tk' p37', Kt [37] s.heap h' → h'.get? 37 = some (tabObj p37') → PsStep s.heap h' p37 p37' 47 4 digQ → Q (.int (val n.toNat ds) t) { s with heap := h', toks := tk' }) :
   wpAny (model PySem.Challenge.rw_rw0066_01.row.prog w) (ktrTop dp un gd cn cs L a ccd cl outer) (call (.ref 42) [.ref D, .int n t2]) Q E s := by
  have hfit2 : ds.length < 2 ^ 62 := by (first | lia | omega)
  k_with_none
  k_with "execs cons" => ((with_reducible show wpAny _ _ _ _ _ (Shared.mk _ _ _ (_ + 1) _)); refine Mine.tok_gen fun _ => ?_)
  k_with "exec Assign" => k_fold
  k_with "exec If" => k_fold
  k_with "exec Return some" => k_fold
  k_with "exec For" => k_fold
  k_with "exec Expr" => k_fold
  k_with "exec AugAssign" => k_fold
  k_with "exec Try" => k_fold
  k_with "exec Delete" => k_fold
  k_with "exec Assert" => k_fold
  k_with "exec While" => k_fold
  k_with "eval Call" => k_fold
  k_with "eval Compare" => k_fold
  k_with "eval BinOp" => k_fold
  k_with "eval Tuple" => k_fold
  k_with "eval List" => k_fold
  k_with "isTrue" => k_fold
  k_with "callWith" => k_fold
  k_with "eval Subscript" => k_fold
  k_with "room" => first | exact Mine.room0 (dp := dp) hdp | exact Mine.room1 (dp := dp) hdp rfl
  k_with "lia" => lia
  k_with "k_all" => first | assumption | (refine allLt_ne (d := ?d) ?h ?_; (case h => assumption); (first | lia | omega)) | (refine gt_ne (d := ?d) ?h ?_; (case h => assumption); (first | lia | omega))
  k_with "call ref" => (k_dflt (refine' inner2_use ?C ?k1 ?k2 ?k3 ?k4 ?k5 ?kK ?kC ?kD ?_ ?h5 ?_; (case C => assumption); (case k1 => k_asm); (case k2 => k_asm); (case k3 => k_asm); (case k4 => k_asm); (case k5 => k_asm); (case kK => exact rfl); (case kC => assumption); (case kD => assumption); (case h5 => ktr_room)); rotate_left 1; intro t9 h9 tk9 F9 N9; (try dsimp only))
  k_with "binaryOp LShift int int" => (refine' lshift_int ?_ ?_ ?_; rotate_left 2)
  revert X; k_fill; intro X
  refine wpAny_call ?_
  k_dflt (refine' tab_defC (tl := [(37, tabObj p37)]) ?k1 ?k2 ?k3 ?kN ?k5 ?kA ?kF ?kK ?k6 ?k7 ?k8 ?k9 ?kB ?kD ?_ ?c2 ?c3 ?c4; (case kA => exact rfl); (case kF => exact rfl); (case kK => assumption); (case k1 => k_asm); (case k2 => k_asm); (case k3 => k_asm); (case kN => k_asm); (case k5 => k_asm); (case k6 => k_is); (case k7 => k_is); (case k8 => ktr_room); (case k9 => exact BindsTo.of_eq rfl); (case kB => exact rfl); (case kD => decide +kernel); (case c2 => exact rfl); (case c3 => exact rfl); (case c4 => exact rfl); k_whole)
  intro g' L' h' tk' cells' G' F' N' Y' B' X' T' l' e' st'
  k_lt l'
  k_cells Y'
  (try simp only [List.cons_append, List.nil_append] at N'); (try dsimp only); (try k_fold)
  have hD' : g'.IsList D vs.toArray := by
    obtain ⟨o, ho, r⟩ := hD
    refine ⟨o, G' D o ho fun q => ?_, r⟩
    rw [List.mem_singleton.mp q, (N.get (.head _))] at ho
    cases ho; cases r.1
  have P37' : PsH g' p37 47 4 digQ := P37.kt G' fun a ha => ⟨p37, by rw [List.mem_singleton.mp ha]; exact N.get (.head _), P37.tab⟩
  walk1
  k_dflt (refine' nestDef_K ?d0 ?k0 ?a0 ?_; (case d0 => exact rfl); (case k0 => exact rfl); (case a0 => exact rfl))
  k_dflt (refine' nest_EF (pre := [_, _, _]) (sz := L') ?F ?N ?T ?C ?cd ?ne ?ps ?sz ?cl ?_; (case F => k_asm); (case N => k_asm); (case T => k_asm); (case cd => exact rfl); (case C => kn_code); (case ne => (refine List.forall_mem_cons.mpr ⟨?_, List.forall_mem_cons.mpr ⟨?_, List.forall_mem_cons.mpr ⟨?_, List.forall_mem_nil _⟩⟩⟩ <;> (dsimp only; refine neN ?_; (first | lia | omega)))); (case ps => exact P37'); (case sz => exact ⟨_, .head _, by (try dsimp only); (first | lia | omega)⟩); (case cl => exact rfl); k_whole)
  intro f2 c2 ct2 dc2 h2 tk2 rest p37' F1 N1 C2 PL la lb lc
  dsimp only [List.cons_append, List.nil_append] at N1
  replace la := allLt_of la
  simp only [AllLt, and_true] at la
  replace lb := lb _ (.head _)
  dsimp only at lb
  walk1
  rename News _ _ _ ((_, fnMade _ _ _ _ _ _ _ _ _ _) :: _) => N1
  rename Fr _ _ _ _ => F1
  have hCo := crec5 N1 C2
  have key := inner2_ind (w := w) (p := p) (loose := loose) (mean := mean) (mg := mg) (mb := mb) (D := D) (vs := vs) (n := n) (ds := ds) N1 hCo ⟨_, .head _⟩ (by
    intro k9 C9
    intro dp un gd cn cs a ccd cl outer A₀ base h₀ L m s Q E lo hi t1 t2 B F X N T hk hC hL h1 h2 h3 h4 h5 ret
    have Ck := hC.at F N
    refine wpAny_call ?_
    k_dflt (refine' code_nest ?k1 ?k2 ?k3 ?k4 ?k5 ?kA ?kF ?kK ?k6 ?k7 ?k8 ?k9 ?kB ?_ ?c2 ?c3 ?c4 ?c5; (case kA => exact rfl); (case kF => exact rfl); (case kK => assumption); (case k1 => k_asm); (case k2 => k_asm); (case k3 => k_asm); (case k4 => k_asm); (case k5 => k_asm); (case k6 => k_mem); (case k7 => exact Ck); (case k8 => ktr_room); (case k9 => exact BindsTo.of_eq rfl); (case c5 => decide); (case kB => exact locs rfl); (case c2 => exact rfl); (case c3 => exact rfl); (case c4 => exact rfl); k_whole)
    intro g' L' h' FG' F' N' B' X' T'
    (try dsimp only); (try k_fold)
    replace hC := hC.keeps FG'
    replace hL := stays_list FG'.keep hL
    k_steps
    · rw [dig_leaf (n := n.toNat) h1 ‹_› h3]
      exact ret _ _ _ (by assumption) (by assumption)
    all_goals (
      have hm9 := mid_facts h1 h2 ‹lo + 1 ≠ hi›
      have hz9 := dig_size (hi := hi) (c := c) (Int.le_trans (by decide) hn) hn2 h1 (Int.le_of_lt hm9.1) (Int.le_of_lt hm9.2) h3 hfit hds hc)
    · rw [dig_join (by (first | lia | omega)) h1 (Int.le_of_lt hm9.1) (Int.le_of_lt hm9.2) h3]
      exact ret _ _ _ (by assumption) (by assumption)
    all_goals first | exact hz9.1 | exact hz9.2 | (first | lia | omega))
  replace key := key 100
  k_steps
  all_goals first | (first | lia | omega) | skip
  · have e9 : cut ds (Int.toNat 0) (ds.length : Int).toNat = ds := cut_all ds
    rw [e9]
    rename News _ _ _ ((_, fnMade _ _ _ _ _ _ _ _ _ _) :: _) => N2
    rename Fr _ _ _ _ => F2
    exact ret _ _ _ p37' (fun b o q1 q2 => F2.keep _ _ (G' b o q1 q2)) (N2.get (by k_mem)) ((e' ▸ PL).step N2 fun q hq => .tail _ (.tail _ (.tail _ (.tail _ (.tail _ hq)))))
  · have e9 : ds = [] := List.eq_nil_of_length_eq_zero (by (first | lia | omega))
    rw [e9] at ret
    exact ret _ _ _ p37' (fun b o q1 q2 => F1.keep _ _ (G' b o q1 q2)) (N1.get (by k_mem)) ((e' ▸ PL).step N1 fun q hq => .tail _ (.tail _ (.tail _ (.tail _ (.tail _ hq)))))
end
end Mine
end PartB1

section PartC1
open PySem PySem.W PyProof.Rows PySem.Calls PySem.Spec
set_option maxRecDepth 100000
namespace Mine
local macro_rules | `(tactic| k_all) => `(tactic| k_extra "k_all")
def Inner1C (w : World) (p : Program) (loose : List Str) (mean : ExcName → Option Value) (mg mb : Str → Option Value) (f c : Addr) (led : List (Addr × Obj)) (D : Addr) (kk : Nat) (n : Int) (len : Nat) (k : Nat) : Prop :=
  ∀ (dp un : Nat) (gd : Option (List Code)) (cn : Str) (cs : Scope) (a : Addr) (ccd : Value) (cl : List (Str × Addr)) (outer : List Env) (A₀ : Around) (base h₀ : Heap) (L : Addr) (m : Str → Option Value) (s : Shared) (Q E : Value → Shared → Prop) (x lo hi : Int) (t1 t2 t3 : Tok) (zs : List Value) (xs : List Int),
    Below A₀ base outer h₀ → Fr h₀ L s.heap m → (hd.heap_39 w.params).In h₀ → News h₀ L s.heap ((D, listOf zs.toArray kk) :: led) → Top p loose mean mg mb h₀ → cs.kind = .function → CRec h₀ led c intQ → IntsAre zs xs → xs.length = len →
    0 ≤ lo → lo < hi → hi ≤ len → hi - lo ≤ k → 0 ≤ x → x < 2 ^ (n.toNat * (hi.toNat - lo.toNat)) → dp + k + 1 < recursionLimit →
    (∀ zs' xs' h' tk', IntsAre zs' xs' → Wr n.toNat xs xs' lo.toNat hi.toNat x → Fr h₀ L h' m → News h₀ L h' ((D, listOf zs'.toArray kk) :: led) → Q .none { s with heap := h', toks := tk' }) →
    wpAny (model PySem.Challenge.rw_rw0066_01.row.prog w) (ktrTop dp un gd cn cs L a ccd cl outer) (call (.ref f) [.int x t1, .int lo t2, .int hi t3]) Q E s
theorem inner1_ind {w : World} {p : Program} {loose : List Str} {mean : ExcName → Option Value} {mg mb : Str → Option Value} {f c : Addr} {led : List (Addr × Obj)} {D : Addr} {o : Obj} {kk : Nat} {n : Int} {len : Nat} {g h : Heap} {L : Addr}
    (_N : News g L h ((D, o) :: led)) (_C : CRec g led c intQ) (_hf : ∃ fo, (f, fo) ∈ led) (step : ∀ k, Inner1C w p loose mean mg mb f c led D kk n len k → Inner1C w p loose mean mg mb f c led D kk n len (k + 1)) : ∀ k, Inner1C w p loose mean mg mb f c led D kk n len k := by
  intro k
  induction k with
  | zero => intro dp un gd cn cs a ccd cl outer A₀ base h₀ L m s Q E x lo hi t1 t2 t3 zs xs B F X N T hk _ _ _ h1 h2 h3 h4; (first | lia | omega)
  | succ k ih => exact step k ih
theorem inner1_use {w : World} {p : Program} {loose : List Str} {mean : ExcName → Option Value} {mg mb : Str → Option Value} {f c : Addr} {led : List (Addr × Obj)} {D : Addr} {kk : Nat} {n : Int} {len : Nat} {k : Nat}
    {dp un : Nat} {gd : Option (List Code)} {cn : Str} {cs : Scope} {a : Addr} {ccd : Value} {cl : List (Str × Addr)} {outer : List Env} {A₀ : Around} {base h₀ : Heap} {L : Addr} {m : Str → Option Value} {s : Shared} {Q E : Value → Shared → Prop} {x lo hi : Int} {t1 t2 t3 : Tok} {zs : List Value} {xs : List Int}
    (C : Inner1C w p loose mean mg mb f c led D kk n len k)
    (B : Below A₀ base outer h₀) (F : Fr h₀ L s.heap m) (X : (hd.heap_39 w.params).In h₀) (N : News h₀ L s.heap ((D, listOf zs.toArray kk) :: led)) (T : Top p loose mean mg mb h₀) (hk : cs.kind = .function) (hC : CRec h₀ led c intQ) (hI : IntsAre zs xs)
    (h1 : xs.length = len ∧ 0 ≤ lo ∧ lo < hi ∧ hi ≤ len ∧ hi - lo ≤ k ∧ 0 ≤ x ∧ x < 2 ^ (n.toNat * (hi.toNat - lo.toNat))) (h5 : dp + k + 1 < recursionLimit)
    (h : ∀ zs' xs' h' tk', IntsAre zs' xs' → Wr n.toNat xs xs' lo.toNat hi.toNat x → Fr h₀ L h' m → News h₀ L h' ((D, listOf zs'.toArray kk) :: led) → Q .none { s with heap := h', toks := tk' }) :
    wpAny (model PySem.Challenge.rw_rw0066_01.row.prog w) (ktrTop dp un gd cn cs L a ccd cl outer) (call (.ref f) [.int x t1, .int lo t2, .int hi t3]) Q E s :=
  C _ _ _ _ _ _ _ _ _ _ _ _ _ _ _ _ _ _ _ _ _ _ _ _ _ B F X N T hk hC hI h1.1 h1.2.1 h1.2.2.1 h1.2.2.2.1 h1.2.2.2.2.1 h1.2.2.2.2.2.1 h1.2.2.2.2.2.2 h5 h
theorem crec6 {h₀ h : Heap} {L c : Addr} {q : Str} {a0 a1 a2 a3 a4 a5 a6 : Addr × Obj} {rest : List (Addr × Obj)} (_N : News h₀ L h (a0 :: a1 :: a2 :: a3 :: a4 :: a5 :: a6 :: rest)) (C : CRec h₀ rest c q) : CRec h₀ (a1 :: a2 :: a3 :: a4 :: a5 :: a6 :: rest) c q :=
  C.more fun _ hq => .tail _ (.tail _ (.tail _ (.tail _ (.tail _ (.tail _ hq)))))
theorem news_swap {h₀ h : Heap} {L : Addr} {a b : Addr × Obj} {r : List (Addr × Obj)} (N : News h₀ L h (a :: b :: r)) : News h₀ L h (b :: a :: r) := cb_drop N fun q hq => by
  rcases List.mem_cons.mp hq with rfl | hq
  · exact .tail _ (.head _)
  · rcases List.mem_cons.mp hq with rfl | hq
    · exact .head _
    · exact .tail _ (.tail _ hq)
section
variable {w : World} {p : Program} {loose : List Str} {mean : ExcName → Option Value} {mg mb : Str → Option Value}
   {dp un : Nat} {gd : Option (List Code)} {cn : Str} {cs : Scope} {a : Addr} {ccd : Value} {cl : List (Str × Addr)} {outer : List Env} {A₀ : Around} {base h₀ : Heap} {L : Addr} {m : Str → Option Value} {s : Shared} {Q E : Value → Shared → Prop}

set_option maxHeartbeats 8000000 in
/-- _int2digits: the figures of a number -/
theorem int_spec {x n : Int} {t1 t2 : Tok} {p30 : Array Value}
   (B : Below A₀ base outer h₀) (F : Fr h₀ L s.heap m) (X : (hd.heap_39 w.params).In h₀) (T : Top p loose mean mg mb h₀) (hk : cs.kind = .function)
   (CH : CodeHd base 34 30)
   (N : News h₀ L s.heap [(30, tabObj p30)]) (P30 : PsH s.heap p30 32 4 intQ)
   (hx : 0 ≤ x) (hx2 : x < 2 ^ 100) (hn : 1 ≤ n) (hn2 : n ≤ 100)
   (hdp : dp + 110 < recursionLimit)
   (ret : ∀ D vs ds k h' tk' p30', Kt [30] s.heap h' → h'.get? 30 = some (tabObj p30') → PsStep s.heap h' p30 p30' 32 4 intQ → s.heap.objs.size ≤ D → h'.get? D = some (listOf vs k) → IntsAre vs.toList ds → ds.length ≤ 100 → val n.toNat ds = x → (∀ d ∈ ds, 0 ≤ d ∧ d < 2 ^ n.toNat) → Q (.ref D) { s with heap := h', toks := tk' }) :
   wpAny (model PySem.Challenge.rw_rw0066_01.row.prog w) (ktrTop dp un gd cn cs L a ccd cl outer) (call (.ref 35) [.int x t1, .int n t2]) Q E s := by
  k_with_none
  k_with "execs cons" => ((with_reducible show wpAny _ _ _ _ _ (Shared.mk _ _ _ (_ + 1) _)); refine Mine.tok_gen fun _ => ?_)
  k_with "exec Assign" => k_fold
  k_with "exec If" => k_fold
  k_with "exec Return some" => k_fold
  k_with "exec For" => k_fold
  k_with "exec Expr" => k_fold
  k_with "exec AugAssign" => k_fold
  k_with "exec Try" => k_fold
  k_with "exec Delete" => k_fold
  k_with "exec Assert" => k_fold
  k_with "exec While" => k_fold
  k_with "eval Call" => k_fold
  k_with "eval Compare" => k_fold
  k_with "eval BinOp" => k_fold
  k_with "eval Tuple" => k_fold
  k_with "eval List" => k_fold
  k_with "isTrue" => k_fold
  k_with "callWith" => k_fold
  k_with "eval Subscript" => k_fold
  k_with "room" => first | exact Mine.room0 (dp := dp) hdp | exact Mine.room1 (dp := dp) hdp rfl
  k_with "lia" => lia
  k_with "k_all" => first | assumption | (refine allLt_ne (d := ?d) ?h ?_; (case h => assumption); (first | lia | omega)) | (refine gt_ne (d := ?d) ?h ?_; (case h => assumption); (first | lia | omega))
  k_with "call ref" => (k_dflt (refine' inner1_use ?C ?k1 ?k2 ?k3 ?k4 ?k5 ?kK ?kC ?kI ?_ ?h5 ?_; (case C => assumption); (case k1 => k_asm); (case k2 => k_asm); (case k3 => k_asm); (case k4 => k_asm); (case k5 => k_asm); (case kK => exact rfl); (case kC => assumption); (case kI => assumption); (case h5 => ktr_room)); rotate_left 1; intro zs9 xs9 h9 tk9 I9 W9 F9 N9; (try dsimp only))
  k_with "binaryOp LShift int int" => (refine' lshift_int ?_ ?_ ?_; rotate_left 2)
  k_with "binaryOp RShift int int" => (refine' rshift_int ?_ ?_; rotate_left 1)
  revert X; k_fill; intro X
  refine wpAny_call ?_
  k_dflt (refine' tab_defC (tl := [(30, tabObj p30)]) ?k1 ?k2 ?k3 ?kN ?k5 ?kA ?kF ?kK ?k6 ?k7 ?k8 ?k9 ?kB ?kD ?_ ?c2 ?c3 ?c4; (case kA => exact rfl); (case kF => exact rfl); (case kK => assumption); (case k1 => k_asm); (case k2 => k_asm); (case k3 => k_asm); (case kN => k_asm); (case k5 => k_asm); (case k6 => k_is); (case k7 => k_is); (case k8 => ktr_room); (case k9 => exact BindsTo.of_eq rfl); (case kB => exact rfl); (case kD => decide +kernel); (case c2 => exact rfl); (case c3 => exact rfl); (case c4 => exact rfl); k_whole)
  intro g' L' h' tk' cells' G' F' N' Y' B' X' T' l' e' st'
  k_lt l'
  k_cells Y'
  (try simp only [List.cons_append, List.nil_append] at N'); (try dsimp only); (try k_fold)
  have P30' : PsH g' p30 32 4 intQ := P30.kt G' fun a ha => ⟨p30, by rw [List.mem_singleton.mp ha]; exact N.get (.head _), P30.tab⟩
  k_steps
  have hbits : Builtin.Int.intBits x ≤ 100 := bits_le hx (by exact_mod_cast hx2)
  obtain ⟨hq1, hq2, -, -, -⟩ := figs hx hn hbits
  k_dflt (refine' KMa.mul (vs := [Value.int 0 _]) (ws := List.replicate (((Builtin.Int.intBits x : Int) + n - 1).fdiv n).toNat (Value.int 0 _)) ?k1 ?k2 ?k3 ?k4 ?k5 ?k6 (flat_rep _) ?_; (case k1 => k_asm); (case k2 => k_asm); (case k3 => is_list); (case k4 => (first | lia | omega)); (case k5 => (first | lia | omega)); (case k6 => (simp only [List.length_cons, List.length_nil]; (first | lia | omega))); k_whole)
  intro D h1 F1 N1 lD
  k_lt lD
  k_steps
  clear hq1 hq2
  obtain ⟨hz1, hz2, hz3, hz4, hz5⟩ := figs hx hn hbits
  generalize hkz : ((Builtin.Int.intBits x : Int) + n - 1).fdiv n = kz at *
  k_dflt (refine' nestDef_K ?d0 ?k0 ?a0 ?_; (case d0 => exact rfl); (case k0 => exact rfl); (case a0 => exact rfl))
  k_dflt (refine' nest_EF (pre := [_, _, _, _, _]) (sz := L') ?F ?N ?T ?C ?cd ?ne ?ps ?sz ?cl ?_; (case F => k_asm); (case N => k_asm); (case T => k_asm); (case cd => exact rfl); (case C => kn_code); (case ne => (iterate 5 refine List.forall_mem_cons.mpr ⟨by (dsimp only; refine neN ?_; (first | lia | omega)), ?_⟩); exact List.forall_mem_nil _); (case ps => exact P30'); (case sz => exact ⟨_, .head _, by (try dsimp only); (first | lia | omega)⟩); (case cl => exact rfl); k_whole)
  intro f2 c2 ct2 dc2 h2 tk2 rest p30' F2 N2 C2 PL la lb lc
  dsimp only [List.cons_append, List.nil_append] at N2
  replace la := allLt_of la
  simp only [AllLt, and_true] at la
  have lb3 := lb _ (.tail _ (.tail _ (.head _)))
  replace lb := lb _ (.head _)
  dsimp only at lb lb3
  walk1
  rename News _ _ _ ((_, fnMade _ _ _ _ _ _ _ _ _ _) :: _) => N3
  rename Fr _ _ _ _ => F3
  replace N3 := news_swap N3
  have hCo := crec6 N3 C2
  have hI0 := ints_rep (t := tk') kz.toNat
  have hl0 : (List.replicate kz.toNat (0 : Int)).length = kz.toNat := List.length_replicate
  generalize List.replicate kz.toNat (Value.int 0 tk') = zs0 at *
  generalize List.replicate kz.toNat (0 : Int) = xs0 at *
  have hf0 : xs0.length < 2 ^ 62 := by (first | lia | omega)
  have key := inner1_ind (w := w) (p := p) (loose := loose) (mean := mean) (mg := mg) (mb := mb) (f := f2) (kk := 0) (n := n) (len := kz.toNat) N3 hCo ⟨_, .head _⟩ (by
    intro k9 C9
    intro dp un gd cn cs a ccd cl outer A₀ base h₀ L m s Q E x lo hi t1 t2 t3 zs xs B F X N T hk hC hI g1 g2 g3 g4 g5 g6 g7 g8 ret
    have Ck := hC.at F (cb_drop N fun _ hq => .tail _ hq)
    refine wpAny_call ?_
    k_dflt (refine' code_nest ?k1 ?k2 ?k3 ?k4 ?k5 ?kA ?kF ?kK ?k6 ?k7 ?k8 ?k9 ?kB ?_ ?c2 ?c3 ?c4 ?c5; (case kA => exact rfl); (case kF => exact rfl); (case kK => assumption); (case k1 => k_asm); (case k2 => k_asm); (case k3 => k_asm); (case k4 => k_asm); (case k5 => k_asm); (case k6 => k_mem); (case k7 => exact Ck); (case k8 => ktr_room); (case k9 => exact BindsTo.of_eq rfl); (case c5 => decide); (case kB => exact locs rfl); (case c2 => exact rfl); (case c3 => exact rfl); (case c4 => exact rfl); k_whole)
    intro g' L' h' FG' F' N' B' X' T'
    (try dsimp only); (try k_fold)
    replace hC := hC.keeps FG'
    k_steps
    · have ea := ‹lo + 1 = hi›
      have e1 : hi.toNat = lo.toNat + 1 := to_succ g2 ea
      have e2 : hi.toNat - lo.toNat = 1 := by rw [e1, Nat.add_sub_cancel_left]
      rw [e2, Nat.mul_one] at g7
      exact ret _ _ _ _ (by assumption) (e1 ▸ wr_leaf (by rw [g1]; exact to_lt g2 ea g4) g6 g7) (by assumption) (by assumption)
    all_goals (
      have hm9 := mid_facts g2 g3 ‹lo + 1 ≠ hi›
      have hz9 := i2d g2 hm9.1 hm9.2 (by (first | lia | omega)) g6 g7 hn hn2)
    · exact ret _ _ _ _ (by assumption) (wr_join (Int.toNat_le_toNat (Int.le_of_lt hm9.1)) (Int.toNat_le_toNat (Int.le_of_lt hm9.2)) (by rw [g1]; exact Int.toNat_le.mpr g4) (by assumption) (by assumption) hz9.2.2.2.2.2.2) (by assumption) (by assumption)
    · rename Wr _ _ _ _ _ _ => W9
      exact W9.1.trans g1
    all_goals first | (first | lia | omega) | exact hz9.1 | exact hz9.2.1 | exact hz9.2.2.1 | exact hz9.2.2.2.1 | exact hz9.2.2.2.2.1 | exact hz9.2.2.2.2.2.1)
  replace key := key 100
  k_steps
  all_goals try (show (0 : Int) < _; have h3 := hz3 ‹x ≠ 0›; (first | lia | omega))
  · show Q (.ref D) _
    rename Wr _ _ _ _ _ _ => W9
    rename IntsAre _ _ => I9
    rename Fr _ _ _ _ => F9
    rename News _ _ _ ((_, listOf _ 0) :: _) => N9
    have hw := wr_all W9
    exact ret D _ _ 0 _ _ p30' (fun b o q1 q2 => F9.keep _ _ (G' b o q1 q2)) (N9.get (by k_mem)) ((e' ▸ PL).step N9 fun q hq => .tail _ (.tail _ (.tail _ (.tail _ (.tail _ (.tail _ (.tail _ hq))))))) (e' ▸ Nat.le_of_lt (Nat.lt_trans (Nat.lt_succ_self _) lD.2.2.2.1)) (N9.get (.head _)) I9 (by have := W9.1; (first | lia | omega)) hw.1 hw.2
  all_goals try (
    have e9 : (xs0.length : Int).toNat = xs0.length := Int.toNat_natCast _
    have e8 : xs0.length = kz.toNat := hl0
    rw [e9, e8]
    exact hz4)
  · show Q (.ref D) _
    have hx0 : x = 0 := by (first | lia | omega)
    have hk0 := hz5 hx0
    have hxs : xs0 = [] := List.eq_nil_of_length_eq_zero (by (first | lia | omega))
    exact ret D _ _ 0 _ _ p30' (fun b o q1 q2 => F3.keep _ _ (G' b o q1 q2)) (N3.get (by k_mem)) ((e' ▸ PL).step N3 fun q hq => .tail _ (.tail _ (.tail _ (.tail _ (.tail _ (.tail _ (.tail _ hq))))))) (e' ▸ Nat.le_of_lt (Nat.lt_trans (Nat.lt_succ_self _) lD.2.2.2.1)) (N3.get (.head _)) hI0 (by (first | lia | omega)) (by rw [hxs, hx0]; rfl) (by rw [hxs]; intro d hd; cases hd)
end
end Mine
end PartC1

section PartD1
open PySem PySem.W PyProof.Rows PySem.Calls PySem.Spec
set_option maxRecDepth 100000
namespace Mine
section
variable {w : World} {p : Program} {loose : List Str} {mean : ExcName → Option Value} {mg mb : Str → Option Value}
   {dp un : Nat} {gd : Option (List Code)} {cn : Str} {cs : Scope} {a : Addr} {ccd : Value} {cl : List (Str × Addr)} {outer : List Env} {A₀ : Around} {base h₀ : Heap} {L : Addr} {m : Str → Option Value} {s : Shared} {Q E : Value → Shared → Prop}

theorem offI_of {I : Addr} {it : Obj} : ∀ {l : List (Addr × Obj)}, (∀ p ∈ l, p.1 ≠ I) → OffI I it l
  | [], _ => trivial
  | _ :: _, h => ⟨.inl (h _ (.head _)), offI_of fun p hp => h p (.tail _ hp)⟩
theorem rev_ind {prog : Program} {w : World} {A : Around} {E : Value → Shared → Prop} {h₀ : Heap} {env : Env} {x : Str} {body : List Stmt} {Q : Flow → Shared → Prop} {s : Shared} {I : Addr} {lp : Addr × Obj} {J : List Value → (Str → Option Value) → List (Addr × Obj) → Prop}
    (h0 : ∀ m news, J [] m news → RevRest prog w A E h₀ env x body Q s I lp [] m news)
    (h1 : ∀ v r m news, J (v :: r) m news → (∀ m' news', J r m' news' → RevRest prog w A E h₀ env x body Q s I lp r m' news') → RevRest prog w A E h₀ env x body Q s I lp (v :: r) m news) :
    ∀ rv m news, J rv m news → RevRest prog w A E h₀ env x body Q s I lp rv m news
  | [], m, news, j => h0 m news j
  | v :: r, m, news, j => h1 v r m news j fun m' news' j' => rev_ind h0 h1 r m' news' j'
theorem log_fits {y : Int} (hy : 1 ≤ y) (hy2 : y < 2 ^ 100) : y.natAbs.log2 < 9000 := by
  have e : (y.natAbs : Int) < ((2 ^ 100 : Nat) : Int) := by
    rw [Int.natAbs_of_nonneg (by (first | lia | omega))]
    exact_mod_cast hy2
  have h9 : y.natAbs.log2 < 100 := (Nat.log2_lt (by (first | lia | omega))).mpr (by exact_mod_cast e)
  exact Nat.lt_trans h9 (by decide)
theorem unr2 {h₀ : Heap} {L I : Addr} {it : Obj} {rest : (Str → Option Value) → List (Addr × Obj) → Prop} {s₁ : Shared} {h' : Heap} {tk : Nat} {m' : Str → Option Value} {a : Addr × Obj} {news' : List (Addr × Obj)} (F : Fr h₀ L h' m') (N : News h₀ L h' (a :: (I, it) :: news'))
    (off : ∀ p ∈ news', p.1 ≠ I) (r : rest m' news') : UnrEnd h₀ L s₁ I it rest { s₁ with heap := h', toks := tk } := UnrEnd.intro F N news' (fun _ hp => .tail _ hp) off r
theorem two_addr {h₀ h : Heap} {L I l : Addr} {o1 o2 : Obj} {r : List (Addr × Obj)} (_N : News h₀ L h ((I, o1) :: (l, o2) :: r)) : ∃ I' l' : Addr, I' = I ∧ l' = l := ⟨_, _, rfl, rfl⟩
theorem len_line {qs : List Int} {qv : List Value} (h : IntsAre qv qs) (hl : qs.length ≤ 100) : qv.toArray.size ≤ sizeLine := by
  have := h.length
  rw [sizeLine_eq, List.size_toArray]; (first | lia | omega)
/-- the loop's frame in _divmod_pos -/
noncomputable abbrev posM (m₁ : Str → Option Value) (u1 u2 : Option Value) (r : Int) (tr : Tok) (lq : Addr) (n : Int) (tn : Tok) (b : Int) (tb : Tok) : Str → Option Value := fun y =>
  if y = Str.ofString "a_digit" then u1 else if y = Str.ofString "r" then some (.int r tr) else if y = Str.ofString "q_digit" then u2 else if y = Str.ofString "q_digits" then some (.ref lq)
  else if y = Str.ofString "n" then some (.int n tn) else if y = Str.ofString "b" then some (.int b tb) else m₁ y
theorem frPos {h₀ h : Heap} {L : Addr} {m : Str → Option Value} {r : Int} {tr : Tok} {lq : Addr} {n : Int} {tn : Tok} {b : Int} {tb : Tok} (F : Fr h₀ L h m) (h1 : m (Str.ofString "r") = some (.int r tr)) (h2 : m (Str.ofString "q_digits") = some (.ref lq))
    (h3 : m (Str.ofString "n") = some (.int n tn)) (h4 : m (Str.ofString "b") = some (.int b tb)) : ∃ m₁ u1 u2, Fr h₀ L h (posM m₁ u1 u2 r tr lq n tn b tb) :=
  ⟨m, _, _, frEq F fun _ => mstep rfl (mstep h1 (mstep rfl (mstep h2 (mstep h3 (mstep h4 rfl)))))⟩
local macro_rules | `(tactic| k_all) => `(tactic| k_extra "k_all")
set_option maxHeartbeats 8000000 in
/-- _divmod_pos -/
theorem pos_spec {x y : Int} {t1 t2 : Tok} {p37 p30 : Array Value}
   (B : Below A₀ base outer h₀) (F : Fr h₀ L s.heap m) (X : (hd.heap_39 w.params).In h₀) (T : Top p loose mean mg mb h₀) (hk : cs.kind = .function)
   (CH1 : CodeHd base 41 37) (CH2 : CodeHd base 34 30)
   (N : News h₀ L s.heap [(37, tabObj p37), (30, tabObj p30)]) (P37 : PsH s.heap p37 47 4 digQ) (P30 : PsH s.heap p30 32 4 intQ)
   (hx : 0 ≤ x) (hx2 : x < 2 ^ 100) (hy : 1 ≤ y) (hy2 : y < 2 ^ 100)
   (hdp : dp + 120 < recursionLimit)
   (ret : ∀ q h' tk' t t' p37' p30', Kt [37, 30] s.heap h' → h'.get? 37 = some (tabObj p37') → h'.get? 30 = some (tabObj p30') → PsStep s.heap h' p37 p37' 47 4 digQ → PsStep s.heap h' p30 p30' 32 4 intQ → s.heap.objs.size ≤ q → h'.get? q = some { cls := .type "tuple", data := .seq #[.int (x.fdiv y) t, .int (x.fmod y) t'] } → Q (.ref q) { s with heap := h', toks := tk' }) :
   wpAny (model PySem.Challenge.rw_rw0066_01.row.prog w) (ktrTop dp un gd cn cs L a ccd cl outer) (call (.ref 49) [.int x t1, .int y t2]) Q E s := by
  k_with_none
  k_with "execs cons" => ((with_reducible show wpAny _ _ _ _ _ (Shared.mk _ _ _ (_ + 1) _)); refine Mine.tok_gen fun _ => ?_)
  k_with "exec Assign" => k_fold
  k_with "exec If" => k_fold
  k_with "exec Return some" => k_fold
  k_with "exec For" => k_fold
  k_with "exec Expr" => k_fold
  k_with "exec AugAssign" => k_fold
  k_with "exec Try" => k_fold
  k_with "exec Delete" => k_fold
  k_with "exec Assert" => k_fold
  k_with "exec While" => k_fold
  k_with "eval Call" => k_fold
  k_with "eval Compare" => k_fold
  k_with "eval BinOp" => k_fold
  k_with "eval Tuple" => k_fold
  k_with "eval List" => k_fold
  k_with "isTrue" => k_fold
  k_with "callWith" => k_fold
  k_with "eval Subscript" => k_fold
  k_with "room" => first | exact Mine.room0 (dp := dp) hdp | exact Mine.room1 (dp := dp) hdp rfl
  k_with "lia" => lia
  k_with "call ref" => ((with_reducible show wpAny _ _ (call (Value.ref 21) _) _ _ _); k_dflt (refine' div2n1n_spec ?k1 ?k2 ?k3 ?k5 ?kK ?_ ?_ ?_ ?kd ?_; (case k1 => k_asm); (case k2 => k_asm); (case k3 => k_asm); (case k5 => k_asm); (case kK => exact rfl); (case kd => ktr_room)); rotate_left 3; intro q9 h9 tk9 t9 t9' K9 s9 e9; (have F9 := frKp (by k_asm) K9); (have l9 := newsLt (by k_asm : News _ _ _ _) s9); (k_lt l9); (have N9 := newsNew (by k_asm) (by k_asm) K9 s9 e9); (try dsimp only))
  k_with "binaryOp LShift int int" => (refine' lshift_int ?_ ?_ ?_; rotate_left 2)
  k_with "k_all" => first | assumption | (refine allLt_ne (d := ?d) ?h ?_; (case h => assumption); (first | lia | omega)) | (refine gt_ne (d := ?d) ?h ?_; (case h => assumption); (first | lia | omega))
  k_with "call builtin:list.append" => (k_dflt (refine' append_K ?k1 ?k2 ?k3 ?_ ?z; (case k1 => k_asm); (case k2 => k_asm); (case k3 => k_upd); (case z => assumption); k_whole); intro h' F' N')
  k_with "call builtin:list.reverse" => (k_dflt (refine' kl_reverse ?F ?N rfl ?U ?z ?_; (case F => k_asm); (case N => k_asm); (case U => k_upd); (case z => assumption)); kl_rest)
  revert X; k_fill; intro X
  refine wpAny_call ?_
  k_dflt (refine' tab_def (tl := [(37, tabObj p37), (30, tabObj p30)]) ?k1 ?k2 ?k3 ?kN ?k5 ?kA ?kF ?kK ?k6 ?k7 ?k8 ?k9 ?kB ?_ ?c2 ?c3 ?c4 ?c5; (case kA => exact rfl); (case kF => exact rfl); (case kK => assumption); (case k1 => k_asm); (case k2 => k_asm); (case k3 => k_asm); (case kN => k_asm); (case k5 => k_asm); (case k6 => k_is); (case k7 => k_is); (case k8 => ktr_room); (case k9 => exact BindsTo.of_eq rfl); (case c5 => decide); (case kB => exact locs rfl); (case c2 => exact rfl); (case c3 => exact rfl); (case c4 => exact rfl); k_whole)
  intro g' L' h' G' F' N' B' X' T' l' e' st'
  k_lt l'
  (try dsimp only); (try k_fold)
  have hN : ∀ a ∈ [37, 30], ∃ ps', s.heap.get? a = some (tabObj ps') ∧ (ps' = #[] ∨ ∃ l c v, ps' = #[rawInt l, rawInt c, v]) := fun a ha => by
    rcases List.mem_cons.mp ha with rfl | ha
    · exact ⟨p37, N.get (.head _), P37.tab⟩
    · rw [List.mem_singleton.mp ha]; exact ⟨p30, N.get (.tail _ (.head _)), P30.tab⟩
  have P37' : PsH g' p37 47 4 digQ := P37.kt G' hN
  have P30' : PsH g' p30 32 4 intQ := P30.kt G' hN
  have hb : Builtin.Int.intBits y ≤ 100 := bits_le (by (first | lia | omega)) (by exact_mod_cast hy2)
  have hb1 : 1 ≤ Builtin.Int.intBits y := bits_pos (by (first | lia | omega))
  k_steps
  rename Fr _ _ _ _ => F1
  rename News _ _ _ _ => N1
  have hLs := F1.ns.lt
  k_dflt (refine' int_spec B' F1 X' T' ?kK CH2 (p30 := p30) ?kN (P30'.keeps F1.keep) hx hx2 ?k1 ?k2 ?kd ?_; (case kK => exact rfl); (case kN => exact cb_drop N1 fun _ hq => .tail _ hq); (case k1 => (first | lia | omega)); (case k2 => (first | lia | omega)); (case kd => ktr_room))
  intro D vs ds k h2 tk2 p30' K30 e30 S30 hD eD hI hlen hval hrange
  obtain ⟨F2, rest, N2, L30, hr⟩ := after1 (P := 30) F1 (news_swap N1) (List.forall_mem_cons.mpr ⟨(by decide : (37 : Nat) ≠ 30), List.forall_mem_nil _⟩) K30 e30 S30
  replace N2 := news_add F1 N2 hD eD
  dsimp only [List.cons_append, List.nil_append] at N2
  dsimp only
  k_steps
  rename Fr _ _ _ _ => F4
  rename News _ _ _ _ => N4
  obtain ⟨-, -, -, hrq⟩ := ‹D < _ ∧ _ ∧ _ ∧ AllLt _ rest›
  obtain ⟨m1, u1, u2, F5⟩ := frPos (n := (Builtin.Int.intBits y : Int)) (b := y) (r := 0) F4 rfl rfl rfl rfl
  clear F4
  refine iter_revUnr (lo := listOf vs k) (vs := vs.toList) (ax := D) rfl F5 N4 (offI_of (by k_all)) (by k_mem) rfl rfl ?_
  have hIr : IntsAre vs.toList.reverse ds.reverse := IntsAre.reverse hI
  have hinv := posInv_start hy hval hrange hlen
  obtain ⟨I0, lq, rfl, rfl⟩ := two_addr N4
  have hlI := ‹lq < I0 ∧ D < I0 ∧ _›
  obtain ⟨hDq, h30q, h37q, -⟩ := ‹D < lq ∧ (30 : Nat) < lq ∧ (37 : Nat) < lq ∧ AllLt lq rest›
  refine rev_ind (J := fun rv m news => ∃ m1 u1 u2 r tr tn qv kq rs qs, m = posM m1 u1 u2 r tr lq (Builtin.Int.intBits y : Int) tn y t2 ∧ news = (lq, listOf (List.toArray qv) kq) :: (D, listOf vs k) :: (30, tabObj p30') :: (37, tabObj p37) :: rest ∧
    IntsAre rv rs ∧ IntsAre qv qs ∧ PosInv (Builtin.Int.intBits y : Int).toNat y x rs qs r) ?_ ?_ _ _ _ ⟨m1, u1, u2, 0, _, _, [], 0, _, [], rfl, rfl, hIr, .nil, hinv⟩
  · rintro m news ⟨m1, u1, u2, r, tr, tn, qv, kq, rs, qs, rfl, rfl, hrs, hqs, hinv⟩
    cases hrs
    refine RevRest.zero fun h3 tk3 F6 N6 => ?_
    have hql : qs.length ≤ 100 := by have := hinv.2.2.2.2.2; simpa using this
    have hsz := len_line hqs hql
    dsimp only
    k_steps
    rename Fr _ _ _ _ => F7
    rename News _ _ _ _ => N7
    have hsL : s.heap.objs.size < h3.objs.size := by rw [← e']; exact F6.ns.lt
    k_dflt (refine' dig_spec (ds := qs.reverse) (c := (Builtin.Int.intBits y : Int).toNat) (p37 := p37) B' F7 X' T' ?kK CH1 ?kN (P37'.keeps F7.keep) ⟨_, N7.get (.head _), rfl, _, rfl⟩ (IntsAre.reverse hqs) ?kl ?k1 ?k2 ?kd ?kc ?kr ?_; (case kK => exact rfl); (case kN => exact cb_drop N7 fun q hq => by rw [List.mem_singleton.mp hq]; exact .tail _ (.tail _ (.tail _ (.head _)))); (case kl => simpa using hql); (case k1 => (first | lia | omega)); (case k2 => (first | lia | omega)); (case kd => exact fun d hd => hinv.2.2.2.2.1 d (List.mem_reverse.mp hd)); (case kc => (first | lia | omega)); (case kr => ktr_room))
    intro t4 h4 tk4 p37' K37 e37 S37
    have h37D : 37 < D := Nat.lt_of_lt_of_le (Nat.lt_trans l'.1 hLs) hD
    have hsD : s.heap.objs.size < D := Nat.lt_of_lt_of_le (e' ▸ hLs) hD
    have hne : ∀ q ∈ (lq, listOf qv.reverse.toArray kq) :: (D, listOf vs k) :: (30, tabObj p30') :: rest, q.1 ≠ 37 := List.forall_mem_cons.mpr ⟨Nat.ne_of_gt h37q, List.forall_mem_cons.mpr ⟨Nat.ne_of_gt h37D, List.forall_mem_cons.mpr ⟨(by decide : (30 : Nat) ≠ 37), fun q hq => Nat.ne_of_gt (Nat.lt_of_lt_of_le (Nat.lt_trans l'.1 hLs) (hr q hq))⟩⟩⟩
    obtain ⟨F8, rest2, N8, L37, hr2⟩ := after1 (P := 37) F7 (cb_drop N7 fun q hq => by
      rcases List.mem_cons.mp hq with rfl | hq
      · exact .tail _ (.tail _ (.tail _ (.head _)))
      · rcases List.mem_cons.mp hq with rfl | hq
        · exact .head _
        · rcases List.mem_cons.mp hq with rfl | hq
          · exact .tail _ (.head _)
          · rcases List.mem_cons.mp hq with rfl | hq
            · exact .tail _ (.tail _ (.head _))
            · exact .tail _ (.tail _ (.tail _ (.tail _ hq)))) hne K37 e37 S37
    dsimp only [List.cons_append] at N8
    have he := posInv_end hinv
    dsimp only
    k_steps
    rename Fr _ _ _ _ => F9
    rename News _ _ _ ((_, _) :: (37, _) :: _) => N9
    rw [← he.1, ← he.2] at N9
    have hs3 : s.heap.objs.size ≤ _ := Nat.le_of_lt (e' ▸ hLs)
    have hs4 : s.heap.objs.size ≤ _ := Nat.le_of_lt (e' ▸ F7.ns.lt)
    refine ret _ _ _ _ _ p37' p30' (fun b o q1 q2 => F9.keep _ _ (G' b o q1 q2)) (N9.get (by k_mem)) (N9.get (by k_mem)) ((L37.weak hs4).step N9 fun q hq => .tail _ (.tail _ (.tail _ (.tail _ (.tail _ (List.mem_append_right _ hq)))))) ((L30.weak hs3).step N9 fun q hq => .tail _ (.tail _ (.tail _ (.tail _ (.tail _ (List.mem_append_left _ hq)))))) ?_ (N9.get (.head _))
    exact Nat.le_of_lt (Nat.lt_trans hsD ‹37 < _ ∧ lq < _ ∧ D < _ ∧ _›.2.2.1)
  · rintro v rr m news ⟨m1, u1, u2, r, tr, tn, qv, kq, rs, qs, rfl, rfl, hrs, hqs, hinv⟩ IH
    cases hrs with | cons d td hrs =>
    refine RevRest.succ fun it h3 tk3 hit F6 N6 => ?_
    have hql : qs.length ≤ 100 := by have := hinv.2.2.2.2.2; (first | lia | omega)
    have hsz := len_line hqs hql
    have hz9 := posInv_size (n := Builtin.Int.intBits y) hinv hb hy2
    k_steps
    rotate_left 1
    · (first | lia | omega)
    · exact log_fits hy hy2
    · exact hz9.2
    rename Fr _ _ _ _ => F7
    rename News _ _ _ _ => N7
    rw [List.push_toArray] at N7
    obtain ⟨m1', u1', u2', F8⟩ := frPos (n := (Builtin.Int.intBits y : Int)) (b := y) F7 rfl rfl rfl rfl
    exact unr2 F8 N7 (by k_all) ⟨by k_mem, IH _ _ ⟨m1', u1', u2', _, _, _, _, _, _, _, rfl, rfl, hrs, hqs.append (.cons _ _ .nil), posInv_step hinv⟩⟩
end
end Mine
end PartD1

section PartD2
open PySem PySem.W PyProof.Rows PySem.Calls PySem.Spec
set_option maxRecDepth 100000
namespace Mine
theorem idm_low {x y : Int} (hy : 1 ≤ y) : Builtin.bitNot ((Builtin.bitNot x).fdiv y) = x.fdiv y ∧ y + Builtin.bitNot ((Builtin.bitNot x).fmod y) = x.fmod y := by
  simp only [Builtin.bitNot]
  rw [Int.fdiv_eq_ediv_of_nonneg _ (by (first | lia | omega)), Int.fdiv_eq_ediv_of_nonneg _ (by (first | lia | omega)), Int.fmod_eq_emod_of_nonneg _ (by (first | lia | omega)), Int.fmod_eq_emod_of_nonneg _ (by (first | lia | omega))]
  have e := Int.emod_add_mul_ediv (-x - 1) y
  have r0 := Int.emod_nonneg (-x - 1) (show y ≠ 0 by (first | lia | omega))
  have r1 := Int.emod_lt_of_pos (-x - 1) (show 0 < y by (first | lia | omega))
  have := (Int.ediv_emod_unique (a := x) (b := y) (q := -((-x - 1) / y) - 1) (r := y + (-((-x - 1) % y) - 1)) (show 0 < y by (first | lia | omega))).mpr ⟨by
    rw [Int.mul_sub, Int.mul_neg, Int.mul_one]; (first | lia | omega), by (first | lia | omega), by (first | lia | omega)⟩
  exact ⟨this.1.symm, this.2.symm⟩
section
variable {w : World} {p : Program} {loose : List Str} {mean : ExcName → Option Value} {mg mb : Str → Option Value}
   {dp un : Nat} {gd : Option (List Code)} {cn : Str} {cs : Scope} {a : Addr} {ccd : Value} {cl : List (Str × Addr)} {outer : List Env} {A₀ : Around} {base h₀ : Heap} {L : Addr} {m : Str → Option Value} {s : Shared} {Q E : Value → Shared → Prop}

set_option maxHeartbeats 8000000 in
/-- int_divmod, both not below nought -/
theorem idm0 {x y : Int} {t1 t2 : Tok} {p37 p30 : Array Value}
   (B : Below A₀ base outer h₀) (F : Fr h₀ L s.heap m) (X : (hd.heap_39 w.params).In h₀) (T : Top p loose mean mg mb h₀) (hk : cs.kind = .function)
   (CH1 : CodeHd base 41 37) (CH2 : CodeHd base 34 30)
   (N : News h₀ L s.heap [(37, tabObj p37), (30, tabObj p30)]) (P37 : PsH s.heap p37 47 4 digQ) (P30 : PsH s.heap p30 32 4 intQ)
   (hx : 0 ≤ x) (hx2 : x < 2 ^ 100) (hy : 1 ≤ y) (hy2 : y < 2 ^ 100)
   (hdp : dp + 130 < recursionLimit)
   (ret : ∀ q h' tk' t t' p37' p30', Kt [37, 30] s.heap h' → h'.get? 37 = some (tabObj p37') → h'.get? 30 = some (tabObj p30') → PsStep s.heap h' p37 p37' 47 4 digQ → PsStep s.heap h' p30 p30' 32 4 intQ → s.heap.objs.size ≤ q → h'.get? q = some { cls := .type "tuple", data := .seq #[.int (x.fdiv y) t, .int (x.fmod y) t'] } → Q (.ref q) { s with heap := h', toks := tk' }) :
   wpAny (model PySem.Challenge.rw_rw0066_01.row.prog w) (ktrTop dp un gd cn cs L a ccd cl outer) (call (.ref 56) [.int x t1, .int y t2]) Q E s := by
  k_with_none
  k_with "execs cons" => ((with_reducible show wpAny _ _ _ _ _ (Shared.mk _ _ _ (_ + 1) _)); refine Mine.tok_gen fun _ => ?_)
  k_with "exec Assign" => k_fold
  k_with "exec If" => k_fold
  k_with "exec Return some" => k_fold
  k_with "exec For" => k_fold
  k_with "exec Expr" => k_fold
  k_with "exec AugAssign" => k_fold
  k_with "exec Try" => k_fold
  k_with "exec Delete" => k_fold
  k_with "exec Assert" => k_fold
  k_with "exec While" => k_fold
  k_with "eval Call" => k_fold
  k_with "eval Compare" => k_fold
  k_with "eval BinOp" => k_fold
  k_with "eval Tuple" => k_fold
  k_with "eval List" => k_fold
  k_with "isTrue" => k_fold
  k_with "callWith" => k_fold
  k_with "eval Subscript" => k_fold
  k_with "room" => first | exact Mine.room0 (dp := dp) hdp | exact Mine.room1 (dp := dp) hdp rfl
  k_with "lia" => lia
  revert X; k_fill; intro X
  refine wpAny_call ?_
  k_dflt (refine' tab_def (tl := [(37, tabObj p37), (30, tabObj p30)]) ?k1 ?k2 ?k3 ?kN ?k5 ?kA ?kF ?kK ?k6 ?k7 ?k8 ?k9 ?kB ?_ ?c2 ?c3 ?c4 ?c5; (case kA => exact rfl); (case kF => exact rfl); (case kK => assumption); (case k1 => k_asm); (case k2 => k_asm); (case k3 => k_asm); (case kN => k_asm); (case k5 => k_asm); (case k6 => k_is); (case k7 => k_is); (case k8 => ktr_room); (case k9 => exact BindsTo.of_eq rfl); (case c5 => decide); (case kB => exact locs rfl); (case c2 => exact rfl); (case c3 => exact rfl); (case c4 => exact rfl); k_whole)
  intro g' L' h' G' F' N' B' X' T' l' e' st'
  k_lt l'
  (try dsimp only); (try k_fold)
  have hN := tabs_at N P37 P30
  have P37' : PsH g' p37 47 4 digQ := P37.kt G' hN
  have P30' : PsH g' p30 32 4 intQ := P30.kt G' hN
  k_steps
  all_goals try (exfalso; (first | lia | omega))
  rename Fr _ _ _ _ => F1
  rename News _ _ _ _ => N1
  have hLs := F1.ns.lt
  k_dflt (refine' pos_spec B' F1 X' T' ?kK CH1 CH2 N1 ?p1 ?p2 hx hx2 hy hy2 ?kd ?_; (case p1 => exact P37'.keeps F1.keep); (case p2 => exact P30'.keeps F1.keep); (case kK => exact rfl); (case kd => ktr_room))
  intro q9 h9 tk9 t9 t9' p37' p30' K9 e37 e30 S37 S30 s9 e9
  have hs : s.heap.objs.size ≤ _ := Nat.le_of_lt (e' ▸ hLs)
  exact ret _ _ _ _ _ p37' p30' (kt_trans G' F1.keep K9) e37 e30 (S37.weak hs) (S30.weak hs) (Nat.le_trans hs s9) e9
set_option maxHeartbeats 8000000 in
/-- int_divmod, the divisor above nought -/
theorem idm1 {x y : Int} {t1 t2 : Tok} {p37 p30 : Array Value}
   (B : Below A₀ base outer h₀) (F : Fr h₀ L s.heap m) (X : (hd.heap_39 w.params).In h₀) (T : Top p loose mean mg mb h₀) (hk : cs.kind = .function)
   (CH1 : CodeHd base 41 37) (CH2 : CodeHd base 34 30)
   (N : News h₀ L s.heap [(37, tabObj p37), (30, tabObj p30)]) (P37 : PsH s.heap p37 47 4 digQ) (P30 : PsH s.heap p30 32 4 intQ)
   (hx : x < 0) (hx2 : - 2 ^ 99 < x) (hy : 1 ≤ y) (hy2 : y < 2 ^ 100)
   (hdp : dp + 140 < recursionLimit)
   (ret : ∀ q h' tk' t t' p37' p30', Kt [37, 30] s.heap h' → h'.get? 37 = some (tabObj p37') → h'.get? 30 = some (tabObj p30') → PsStep s.heap h' p37 p37' 47 4 digQ → PsStep s.heap h' p30 p30' 32 4 intQ → s.heap.objs.size ≤ q → h'.get? q = some { cls := .type "tuple", data := .seq #[.int (x.fdiv y) t, .int (x.fmod y) t'] } → Q (.ref q) { s with heap := h', toks := tk' }) :
   wpAny (model PySem.Challenge.rw_rw0066_01.row.prog w) (ktrTop dp un gd cn cs L a ccd cl outer) (call (.ref 56) [.int x t1, .int y t2]) Q E s := by
  k_with_none
  k_with "execs cons" => ((with_reducible show wpAny _ _ _ _ _ (Shared.mk _ _ _ (_ + 1) _)); refine Mine.tok_gen fun _ => ?_)
  k_with "exec Assign" => k_fold
  k_with "exec If" => k_fold
  k_with "exec Return some" => k_fold
  k_with "exec For" => k_fold
  k_with "exec Expr" => k_fold
  k_with "exec AugAssign" => k_fold
  k_with "exec Try" => k_fold
  k_with "exec Delete" => k_fold
  k_with "exec Assert" => k_fold
  k_with "exec While" => k_fold
  k_with "eval Call" => k_fold
  k_with "eval Compare" => k_fold
  k_with "eval BinOp" => k_fold
  k_with "eval Tuple" => k_fold
  k_with "eval List" => k_fold
  k_with "isTrue" => k_fold
  k_with "callWith" => k_fold
  k_with "eval Subscript" => k_fold
  k_with "room" => first | exact Mine.room0 (dp := dp) hdp | exact Mine.room1 (dp := dp) hdp rfl
  k_with "lia" => lia
  revert X; k_fill; intro X
  refine wpAny_call ?_
  k_dflt (refine' tab_def (tl := [(37, tabObj p37), (30, tabObj p30)]) ?k1 ?k2 ?k3 ?kN ?k5 ?kA ?kF ?kK ?k6 ?k7 ?k8 ?k9 ?kB ?_ ?c2 ?c3 ?c4 ?c5; (case kA => exact rfl); (case kF => exact rfl); (case kK => assumption); (case k1 => k_asm); (case k2 => k_asm); (case k3 => k_asm); (case kN => k_asm); (case k5 => k_asm); (case k6 => k_is); (case k7 => k_is); (case k8 => ktr_room); (case k9 => exact BindsTo.of_eq rfl); (case c5 => decide); (case kB => exact locs rfl); (case c2 => exact rfl); (case c3 => exact rfl); (case c4 => exact rfl); k_whole)
  intro g' L' h' G' F' N' B' X' T' l' e' st'
  k_lt l'
  (try dsimp only); (try k_fold)
  have hN := tabs_at N P37 P30
  have P37' : PsH g' p37 47 4 digQ := P37.kt G' hN
  have P30' : PsH g' p30 32 4 intQ := P30.kt G' hN
  k_steps
  all_goals try (exfalso; (first | lia | omega))
  rename Fr _ _ _ _ => F1
  rename News _ _ _ _ => N1
  have hLs := F1.ns.lt
  k_dflt (refine' idm0 B' F1 X' T' ?kK CH1 CH2 N1 ?p1 ?p2 ?h1 ?h2 hy hy2 ?kd ?_; (case p1 => exact P37'.keeps F1.keep); (case p2 => exact P30'.keeps F1.keep); (case h1 => (simp only [Builtin.bitNot]; (first | lia | omega))); (case h2 => (simp only [Builtin.bitNot]; (first | lia | omega))); (case kK => exact rfl); (case kd => ktr_room))
  intro q9 h9 tk9 t9 t9' p37' p30' K9 e37 e30 S37 S30 s9 e9
  have hs : s.heap.objs.size ≤ _ := Nat.le_of_lt (e' ▸ hLs)
  obtain ⟨F2, rest, N2, L37, L30, hr⟩ := after2 F1 N1 (fun _ h => nomatch h) K9 e37 e30 S37 S30
  replace N2 := news_add F1 N2 s9 e9
  dsimp only [List.nil_append] at N2
  dsimp only
  k_steps
  rename Fr _ _ _ _ => F3
  rename News _ _ _ _ => N3
  rw [(idm_low hy).1, (idm_low hy).2] at N3
  refine ret _ _ _ _ _ p37' p30' (kt_trans G' F3.keep fun _ _ e _ => e) (N3.get (by k_mem)) (N3.get (by k_mem)) ((L37.weak hs).step N3 fun q hq => .tail _ (.tail _ (.tail _ (.tail _ hq)))) ((L30.weak hs).step N3 fun q hq => .tail _ (.tail _ (.tail _ (.tail _ hq)))) ?_ (N3.get (.head _))
  exact Nat.le_of_lt (Nat.lt_of_le_of_lt (Nat.le_trans hs s9) ‹q9 < _ ∧ _›.1)
theorem idmP {x y : Int} {t1 t2 : Tok} {p37 p30 : Array Value}
   (B : Below A₀ base outer h₀) (F : Fr h₀ L s.heap m) (X : (hd.heap_39 w.params).In h₀) (T : Top p loose mean mg mb h₀) (hk : cs.kind = .function)
   (CH1 : CodeHd base 41 37) (CH2 : CodeHd base 34 30)
   (N : News h₀ L s.heap [(37, tabObj p37), (30, tabObj p30)]) (P37 : PsH s.heap p37 47 4 digQ) (P30 : PsH s.heap p30 32 4 intQ)
   (hx : - 2 ^ 99 < x) (hx2 : x < 2 ^ 100) (hy : 1 ≤ y) (hy2 : y < 2 ^ 100)
   (hdp : dp + 140 < recursionLimit)
   (ret : ∀ q h' tk' t t' p37' p30', Kt [37, 30] s.heap h' → h'.get? 37 = some (tabObj p37') → h'.get? 30 = some (tabObj p30') → PsStep s.heap h' p37 p37' 47 4 digQ → PsStep s.heap h' p30 p30' 32 4 intQ → s.heap.objs.size ≤ q → h'.get? q = some { cls := .type "tuple", data := .seq #[.int (x.fdiv y) t, .int (x.fmod y) t'] } → Q (.ref q) { s with heap := h', toks := tk' }) :
   wpAny (model PySem.Challenge.rw_rw0066_01.row.prog w) (ktrTop dp un gd cn cs L a ccd cl outer) (call (.ref 56) [.int x t1, .int y t2]) Q E s := by
  by_cases h : 0 ≤ x
  · exact idm0 B F X T hk CH1 CH2 N P37 P30 h hx2 hy hy2 (by (first | lia | omega)) ret
  · exact idm1 B F X T hk CH1 CH2 N P37 P30 (by (first | lia | omega)) hx hy hy2 hdp ret
set_option maxHeartbeats 8000000 in
/-- int_divmod, the divisor below nought -/
theorem idm2 {x y : Int} {t1 t2 : Tok} {p37 p30 : Array Value}
   (B : Below A₀ base outer h₀) (F : Fr h₀ L s.heap m) (X : (hd.heap_39 w.params).In h₀) (T : Top p loose mean mg mb h₀) (hk : cs.kind = .function)
   (CH1 : CodeHd base 41 37) (CH2 : CodeHd base 34 30)
   (N : News h₀ L s.heap [(37, tabObj p37), (30, tabObj p30)]) (P37 : PsH s.heap p37 47 4 digQ) (P30 : PsH s.heap p30 32 4 intQ)
   (hx : - 2 ^ 99 < x) (hx2 : x < 2 ^ 99) (hy : y < 0) (hy2 : - 2 ^ 100 < y)
   (hdp : dp + 150 < recursionLimit)
   (ret : ∀ q h' tk' t t' p37' p30', Kt [37, 30] s.heap h' → h'.get? 37 = some (tabObj p37') → h'.get? 30 = some (tabObj p30') → PsStep s.heap h' p37 p37' 47 4 digQ → PsStep s.heap h' p30 p30' 32 4 intQ → s.heap.objs.size ≤ q → h'.get? q = some { cls := .type "tuple", data := .seq #[.int (x.fdiv y) t, .int (x.fmod y) t'] } → Q (.ref q) { s with heap := h', toks := tk' }) :
   wpAny (model PySem.Challenge.rw_rw0066_01.row.prog w) (ktrTop dp un gd cn cs L a ccd cl outer) (call (.ref 56) [.int x t1, .int y t2]) Q E s := by
  k_with_none
  k_with "execs cons" => ((with_reducible show wpAny _ _ _ _ _ (Shared.mk _ _ _ (_ + 1) _)); refine Mine.tok_gen fun _ => ?_)
  k_with "exec Assign" => k_fold
  k_with "exec If" => k_fold
  k_with "exec Return some" => k_fold
  k_with "exec For" => k_fold
  k_with "exec Expr" => k_fold
  k_with "exec AugAssign" => k_fold
  k_with "exec Try" => k_fold
  k_with "exec Delete" => k_fold
  k_with "exec Assert" => k_fold
  k_with "exec While" => k_fold
  k_with "eval Call" => k_fold
  k_with "eval Compare" => k_fold
  k_with "eval BinOp" => k_fold
  k_with "eval Tuple" => k_fold
  k_with "eval List" => k_fold
  k_with "isTrue" => k_fold
  k_with "callWith" => k_fold
  k_with "eval Subscript" => k_fold
  k_with "room" => first | exact Mine.room0 (dp := dp) hdp | exact Mine.room1 (dp := dp) hdp rfl
  k_with "lia" => lia
  revert X; k_fill; intro X
  refine wpAny_call ?_
  k_dflt (refine' tab_def (tl := [(37, tabObj p37), (30, tabObj p30)]) ?k1 ?k2 ?k3 ?kN ?k5 ?kA ?kF ?kK ?k6 ?k7 ?k8 ?k9 ?kB ?_ ?c2 ?c3 ?c4 ?c5; (case kA => exact rfl); (case kF => exact rfl); (case kK => assumption); (case k1 => k_asm); (case k2 => k_asm); (case k3 => k_asm); (case kN => k_asm); (case k5 => k_asm); (case k6 => k_is); (case k7 => k_is); (case k8 => ktr_room); (case k9 => exact BindsTo.of_eq rfl); (case c5 => decide); (case kB => exact locs rfl); (case c2 => exact rfl); (case c3 => exact rfl); (case c4 => exact rfl); k_whole)
  intro g' L' h' G' F' N' B' X' T' l' e' st'
  k_lt l'
  (try dsimp only); (try k_fold)
  have hN := tabs_at N P37 P30
  have P37' : PsH g' p37 47 4 digQ := P37.kt G' hN
  have P30' : PsH g' p30 32 4 intQ := P30.kt G' hN
  k_steps
  all_goals try (exfalso; (first | lia | omega))
  rename Fr _ _ _ _ => F1
  rename News _ _ _ _ => N1
  have hLs := F1.ns.lt
  k_dflt (refine' idmP B' F1 X' T' ?kK CH1 CH2 N1 ?p1 ?p2 ?h1 ?h2 ?h3 ?h4 ?kd ?_; (case p1 => exact P37'.keeps F1.keep); (case p2 => exact P30'.keeps F1.keep); (case h1 => (first | lia | omega)); (case h2 => (first | lia | omega)); (case h3 => (first | lia | omega)); (case h4 => (first | lia | omega)); (case kK => exact rfl); (case kd => ktr_room))
  intro q9 h9 tk9 t9 t9' p37' p30' K9 e37 e30 S37 S30 s9 e9
  have hs : s.heap.objs.size ≤ _ := Nat.le_of_lt (e' ▸ hLs)
  obtain ⟨F2, rest, N2, L37, L30, hr⟩ := after2 F1 N1 (fun _ h => nomatch h) K9 e37 e30 S37 S30
  replace N2 := news_add F1 N2 s9 e9
  dsimp only [List.nil_append] at N2
  dsimp only
  k_steps
  rename Fr _ _ _ _ => F3
  rename News _ _ _ _ => N3
  rw [Int.neg_fdiv_neg, Int.neg_fmod_neg, Int.neg_neg] at N3
  refine ret _ _ _ _ _ p37' p30' (kt_trans G' F3.keep fun _ _ e _ => e) (N3.get (by k_mem)) (N3.get (by k_mem)) ((L37.weak hs).step N3 fun q hq => .tail _ (.tail _ (.tail _ (.tail _ hq)))) ((L30.weak hs).step N3 fun q hq => .tail _ (.tail _ (.tail _ (.tail _ hq)))) ?_ (N3.get (.head _))
  exact Nat.le_of_lt (Nat.lt_of_le_of_lt (Nat.le_trans hs s9) ‹q9 < _ ∧ _›.1)
/-- int_divmod: the quotient and the rest, rounded down -/
theorem idm_spec {x y : Int} {t1 t2 : Tok} {p37 p30 : Array Value}
   (B : Below A₀ base outer h₀) (F : Fr h₀ L s.heap m) (X : (hd.heap_39 w.params).In h₀) (T : Top p loose mean mg mb h₀) (hk : cs.kind = .function)
   (CH1 : CodeHd base 41 37) (CH2 : CodeHd base 34 30)
   (N : News h₀ L s.heap [(37, tabObj p37), (30, tabObj p30)]) (P37 : PsH s.heap p37 47 4 digQ) (P30 : PsH s.heap p30 32 4 intQ)
   (hx : - 2 ^ 99 < x) (hx2 : x < 2 ^ 99) (hy : y ≠ 0) (hy2 : - 2 ^ 100 < y) (hy3 : y < 2 ^ 100)
   (hdp : dp + 150 < recursionLimit)
   (ret : ∀ q h' tk' t t' p37' p30', Kt [37, 30] s.heap h' → h'.get? 37 = some (tabObj p37') → h'.get? 30 = some (tabObj p30') → PsStep s.heap h' p37 p37' 47 4 digQ → PsStep s.heap h' p30 p30' 32 4 intQ → s.heap.objs.size ≤ q → h'.get? q = some { cls := .type "tuple", data := .seq #[.int (x.fdiv y) t, .int (x.fmod y) t'] } → Q (.ref q) { s with heap := h', toks := tk' }) :
   wpAny (model PySem.Challenge.rw_rw0066_01.row.prog w) (ktrTop dp un gd cn cs L a ccd cl outer) (call (.ref 56) [.int x t1, .int y t2]) Q E s := by
  by_cases h : y < 0
  · exact idm2 B F X T hk CH1 CH2 N P37 P30 hx hx2 h hy2 hdp ret
  · exact idmP B F X T hk CH1 CH2 N P37 P30 hx (by (first | lia | omega)) (by (first | lia | omega)) hy3 (by (first | lia | omega)) ret
end
end Mine
end PartD2

section PartE1
open PySem PySem.W PyProof.Rows PySem.Calls PySem.Spec
set_option maxRecDepth 100000
namespace Mine
section
variable {w : World} {p : Program} {loose : List Str} {mean : ExcName → Option Value} {mg mb : Str → Option Value}
   {dp un : Nat} {gd : Option (List Code)} {cn : Str} {cs : Scope} {a : Addr} {ccd : Value} {cl : List (Str × Addr)} {outer : List Env} {A₀ : Around} {base h₀ : Heap} {L : Addr} {m : Str → Option Value} {s : Shared} {Q E : Value → Shared → Prop}

/-- the loop's frame in _law_cells -/
noncomputable abbrev cellsM (m₁ : Str → Option Value) (u1 : Option Value) (lc l : Addr) : Str → Option Value := fun y =>
  if y = Str.ofString "k" then u1 else if y = Str.ofString "cells" then some (.ref lc) else if y = Str.ofString "script" then some (.ref l) else m₁ y
theorem isCells {m : Str → Option Value} {lc l : Addr} (h1 : m (Str.ofString "cells") = some (.ref lc)) (h2 : m (Str.ofString "script") = some (.ref l)) : m = cellsM m (m (Str.ofString "k")) lc l :=
  funext fun _ => mstep rfl (mstep h1 (mstep h2 rfl))
theorem cellsM_k {m₁ : Str → Option Value} {u1 v : Option Value} {lc l : Addr} : (fun y => if y = Str.ofString "k" then v else cellsM m₁ u1 lc l y) = cellsM m₁ v lc l := by
  funext y
  dsimp only [cellsM]
  split <;> rfl
theorem fmod_mil (x : Int) : 0 ≤ x.fmod (10 ^ Int.toNat 6) ∧ x.fmod (10 ^ Int.toNat 6) ≤ 1000000 := by
  have e : (10 : Int) ^ Int.toNat 6 = 1000000 := by decide
  rw [e, Int.fmod_eq_emod_of_nonneg _ (by decide)]
  (first | lia | omega)
theorem cell_add {c : List Int} {k x : Int} {b : Int} (hc : ∀ x ∈ c, 0 ≤ x ∧ x ≤ b) (h0 : 0 ≤ x) (h1 : x ≤ 1000000) (hk : k.toNat < c.length) : ∀ y ∈ c.set k.toNat (c.getD k.toNat 0 + x), 0 ≤ y ∧ y ≤ b + 1000000 := by
  intro y hy
  rcases List.mem_or_eq_of_mem_set hy with h | h
  · have := hc y h; (first | lia | omega)
  · have := hc (c.getD k.toNat 0) (by rw [List.getD_eq_getElem?_getD, List.getElem?_eq_getElem hk]; exact List.getElem_mem hk)
    (first | lia | omega)
set_option maxHeartbeats 8000000 in
/-- _law_cells: three cells, not below nought -/
theorem cells_spec {l : Addr} {vs : List Value} {ns : List Int}
   (B : Below A₀ base outer h₀) (F : Fr h₀ L s.heap m) (X : (hd.heap_39 w.params).In h₀) (T : Top p loose mean mg mb h₀) (hk : cs.kind = .function)
   (hl : s.heap.IsList l vs.toArray) (hI : IntsAre vs ns) (hlen : ns.length ≤ 63)
   (hdp : dp + 10 < recursionLimit)
   (ret : ∀ D h' tk' cv c k, Kp s.heap h' → s.heap.objs.size ≤ D → h'.get? D = some (listOf (List.toArray cv) k) → IntsAre cv c → c.length = 3 → (∀ x ∈ c, 0 ≤ x ∧ x ≤ 100000000) → Q (.ref D) { s with heap := h', toks := tk' }) :
   wpAny (model PySem.Challenge.rw_rw0066_01.row.prog w) (ktrTop dp un gd cn cs L a ccd cl outer) (call (.ref 114) [.ref l]) Q E s := by
  k_with_none
  k_with "execs cons" => ((with_reducible show wpAny _ _ _ _ _ (Shared.mk _ _ _ (_ + 1) _)); refine Mine.tok_gen fun _ => ?_)
  k_with "exec Assign" => k_fold
  k_with "exec If" => k_fold
  k_with "exec Return some" => k_fold
  k_with "exec For" => k_fold
  k_with "exec Expr" => k_fold
  k_with "exec AugAssign" => k_fold
  k_with "exec Try" => k_fold
  k_with "exec Delete" => k_fold
  k_with "exec Assert" => k_fold
  k_with "exec While" => k_fold
  k_with "eval Call" => k_fold
  k_with "eval Compare" => k_fold
  k_with "eval BinOp" => k_fold
  k_with "eval Tuple" => k_fold
  k_with "eval List" => k_fold
  k_with "isTrue" => k_fold
  k_with "callWith" => k_fold
  k_with "eval Subscript" => k_fold
  k_with "room" => first | exact Mine.room0 (dp := dp) hdp | exact Mine.room1 (dp := dp) hdp rfl
  k_with "lia" => lia
  k_with "newList" => (k_dflt (refine' newList_KL ?k1 ?k2 ?_ ?hz; (case k1 => k_asm); (case k2 => k_asm); (case hz => size_fits); k_whole); intro l' h' F' N' l1 lL; (try k_lt l1); (try k_sweep))
  k_with "pyIter ref" => ((rename IsRange _ _ _ _ _ _ _ _ => rR'); (rename Fr _ _ _ _ => lF'); (rename News _ _ _ _ => lN'); (with_unfolding_all refine iter_rangeUnr (by rfl) rR' ?_ (rangeSize_nat _ _) lF' lN' ?_); rotate_left 1; intro I9 l9; (try k_lt l9))
  revert X; k_fill; intro X
  refine wpAny_call ?_
  k_dflt (refine' tab_def (tl := []) ?k1 ?k2 ?k3 ?kN ?k5 ?kA ?kF ?kK ?k6 ?k7 ?k8 ?k9 ?kB ?_ ?c2 ?c3 ?c4 ?c5; (case kA => exact rfl); (case kF => exact rfl); (case kK => assumption); (case k1 => k_asm); (case k2 => k_asm); (case k3 => k_asm); (case kN => exact News.nil); (case k5 => k_asm); (case k6 => k_is); (case k7 => k_is); (case k8 => ktr_room); (case k9 => exact BindsTo.of_eq rfl); (case c5 => decide); (case kB => exact locs rfl); (case c2 => exact rfl); (case c3 => exact rfl); (case c4 => exact rfl); k_whole)
  intro g' L' h' G' F' N' B' X' T' l' e' st'
  (try dsimp only); (try k_fold)
  have hl' : g'.IsList l vs.toArray := by
    obtain ⟨o, ho, r⟩ := hl
    exact ⟨o, G' l o ho List.not_mem_nil, r⟩
  have hfit : ns.length < 2 ^ 62 := by (first | lia | omega)
  k_steps
  rotate_left 1
  · exact small_one (by decide) (by decide) (by split <;> (first | lia | omega)) (by split <;> (first | lia | omega))
  rename Fr _ _ _ _ => F1
  rename News _ _ _ _ => N1
  obtain ⟨lc, rfl⟩ := one_addr N1
  have hn : ((if (63 : Int) < (ns.length : Int) then (63 : Int) else (ns.length : Int)) - 0).toNat = ns.length := by split <;> (first | lia | omega)
  rw [hn]
  refine rng_ind (J := fun i m news => ∃ m1 u1 cv c kq, m = cellsM m1 u1 lc l ∧ news = [(lc, listOf (List.toArray cv) kq)] ∧ IntsAre cv c ∧ c.length = 3 ∧ ∀ x ∈ c, 0 ≤ x ∧ x ≤ 259 + (i : Int) * 1000000) ?_ ?_ _ _ _ _ (Nat.zero_add _) ?_
  · rintro m news ⟨m1, u1, cv, c, kq, rfl, rfl, hcv, hc3, hcb⟩
    refine RangeRest.zero fun h3 tk3 F6 N6 => ?_
    dsimp only
    k_steps
    show Q (.ref lc) _
    exact ret lc _ _ cv c kq (fun b o q => F6.keep b o (G' b o q List.not_mem_nil)) (e' ▸ Nat.le_of_lt ‹L' < lc›) (N6.get (.head _)) hcv hc3 fun x hx => by have := hcb x hx; (first | lia | omega)
  · rintro k i m news hki ⟨m1, u1, cv, c, kq, rfl, rfl, hcv, hc3, hcb⟩ IH
    refine RangeRest.succ fun t h3 tk3 F6 N6 => ?_
    k_steps
    have hb9 := fmod_mil (ns.getD (0 + (i : Int)).toNat 0)
    have hk9 : ((0 + (i : Int)).fmod 3).toNat < c.length := by
      rw [Int.fmod_eq_emod_of_nonneg _ (by decide)]; (first | lia | omega)
    exact IH _ _ ⟨m1, _, _, _, _, cellsM_k, rfl, ‹IntsAre (cv.set _ _) _›, ‹(c.set _ _).length = c.length›.trans hc3, fun y hy => by have := cell_add (k := (0 + (i : Int)).fmod 3) hcb hb9.1 hb9.2 hk9 y hy; (first | lia | omega)⟩
  · exact ⟨_, _, [_, _, _], [102, 259, 2], 0, isCells rfl rfl, rfl, .cons _ _ (.cons _ _ (.cons _ _ .nil)), rfl, by decide⟩
end
end Mine
end PartE1

section PartE2
open PySem PySem.W PyProof.Rows PySem.Calls PySem.Spec
set_option maxRecDepth 100000
namespace Mine
section
variable {w : World} {p : Program} {loose : List Str} {mean : ExcName → Option Value} {mg mb : Str → Option Value}
   {dp un : Nat} {gd : Option (List Code)} {cn : Str} {cs : Scope} {a : Addr} {ccd : Value} {cl : List (Str × Addr)} {outer : List Env} {A₀ : Around} {base h₀ : Heap} {L : Addr} {m : Str → Option Value} {s : Shared} {Q E : Value → Shared → Prop}

/-- the loop's frame in _law_sum -/
noncomputable abbrev sumM (m₁ : Str → Option Value) (u1 : Option Value) (l : Addr) : Str → Option Value := fun y =>
  if y = Str.ofString "part" then u1 else if y = Str.ofString "row" then some (.ref l) else m₁ y
theorem isSum {m : Str → Option Value} {l : Addr} (h1 : m (Str.ofString "row") = some (.ref l)) : m = sumM m (m (Str.ofString "part")) l :=
  funext fun _ => mstep rfl (mstep h1 rfl)
theorem sumM_part {m₁ : Str → Option Value} {u1 v : Option Value} {l : Addr} : (fun y => if y = Str.ofString "part" then v else sumM m₁ u1 l y) = sumM m₁ v l := by
  funext y
  dsimp only [sumM]
  split <;> rfl
theorem dn_take {ns : List Int} {i : Nat} {n : Int} (h : ns[i]? = some n) : dn (ns.take i) * n = dn (ns.take (i + 1)) := by
  rw [List.take_add_one, h, dn_append]
  simp [dn]
theorem log_le {k : Int} (h0 : 1 ≤ k) (h : k ≤ 400000) : k.natAbs.log2 < 9000 := by
  have e : (k.natAbs : Int) = k := Int.natAbs_of_nonneg (by (first | lia | omega))
  have h1 : k.natAbs < 2 ^ 20 := by (first | lia | omega)
  exact Nat.lt_trans ((Nat.log2_lt (by (first | lia | omega))).mpr h1) (by decide)
theorem mul_ok {ns : List Int} {k : Nat} {n : Int} (hb : ∀ n ∈ ns, 1 ≤ n ∧ n ≤ 400000) (hn : n ∈ ns) : IntMulOk (dn (ns.take k)) n := by
  have h := hb n hn
  have h2 : n < 2 ^ 64 := by (first | lia | omega)
  have e : Builtin.Int.intBits n ≤ 64 := bits_le (k := 64) (by (first | lia | omega)) h2
  exact @IntMulOk.of_right (dn (ns.take k)) n e
set_option maxHeartbeats 8000000 in
/-- _law_sum -/
theorem sum_spec {l : Addr} {vs : List Value} {ns : List Int}
   (B : Below A₀ base outer h₀) (F : Fr h₀ L s.heap m) (X : (hd.heap_39 w.params).In h₀) (T : Top p loose mean mg mb h₀) (hk : cs.kind = .function)
   (hl : s.heap.IsList l vs.toArray) (hI : IntsAre vs ns) (hlen : ns.length ≤ 4) (hb : ∀ n ∈ ns, 1 ≤ n ∧ n ≤ 400000)
   (hdp : dp + 10 < recursionLimit)
   (ret : ∀ q h' tk' t t', Kp s.heap h' → s.heap.objs.size ≤ q → h'.get? q = some { cls := .type "tuple", data := .seq #[.int (nm ns) t, .int (dn ns) t'] } → Q (.ref q) { s with heap := h', toks := tk' }) :
   wpAny (model PySem.Challenge.rw_rw0066_01.row.prog w) (ktrTop dp un gd cn cs L a ccd cl outer) (call (.ref 126) [.ref l]) Q E s := by
  k_with_none
  k_with "execs cons" => ((with_reducible show wpAny _ _ _ _ _ (Shared.mk _ _ _ (_ + 1) _)); refine Mine.tok_gen fun _ => ?_)
  k_with "exec Assign" => k_fold
  k_with "exec If" => k_fold
  k_with "exec Return some" => k_fold
  k_with "exec For" => k_fold
  k_with "exec Expr" => k_fold
  k_with "exec AugAssign" => k_fold
  k_with "exec Try" => k_fold
  k_with "exec Delete" => k_fold
  k_with "exec Assert" => k_fold
  k_with "exec While" => k_fold
  k_with "eval Call" => k_fold
  k_with "eval Compare" => k_fold
  k_with "eval BinOp" => k_fold
  k_with "eval Tuple" => k_fold
  k_with "eval List" => k_fold
  k_with "isTrue" => k_fold
  k_with "callWith" => k_fold
  k_with "eval Subscript" => k_fold
  k_with "room" => first | exact Mine.room0 (dp := dp) hdp | exact Mine.room1 (dp := dp) hdp rfl
  k_with "lia" => lia
  k_with "binaryOp FloorDiv" => (refine floordiv_int ?_ ?_ (Or.inl (PyProof.noPylong_of_log2 ?_)); rotate_left 1)
  k_with "binaryOp Mult int int" => (refine mul_int ?_ ?_)
  revert X; k_fill; intro X
  refine wpAny_call ?_
  k_dflt (refine' tab_defC (tl := []) ?k1 ?k2 ?k3 ?kN ?k5 ?kA ?kF ?kK ?k6 ?k7 ?k8 ?k9 ?kB ?kD ?_ ?c2 ?c3 ?c4; (case kA => exact rfl); (case kF => exact rfl); (case kK => assumption); (case k1 => k_asm); (case k2 => k_asm); (case k3 => k_asm); (case kN => exact News.nil); (case k5 => k_asm); (case k6 => k_is); (case k7 => k_is); (case k8 => ktr_room); (case k9 => exact BindsTo.of_eq rfl); (case kB => exact rfl); (case kD => decide +kernel); (case c2 => exact rfl); (case c3 => exact rfl); (case c4 => exact rfl); k_whole)
  intro g' L' h' tk' cells' G' F' N' Y' B' X' T' l' e' st'
  k_cells Y'
  (try simp only [List.cons_append, List.nil_append] at N'); (try dsimp only); (try k_fold)
  have hl' : g'.IsList l vs.toArray := by
    obtain ⟨o, ho, r⟩ := hl
    exact ⟨o, G' l o ho List.not_mem_nil, r⟩
  have hfit : ns.length < 2 ^ 62 := by (first | lia | omega)
  k_steps
  rename Fr _ _ _ _ => F1
  with_unfolding_all refine For_invVF F1 rfl rfl ?_
  k_steps
  rename Fr _ _ _ _ => F2
  rename News _ _ _ _ => N2
  refine iter_invN (J := fun i m nx => ∃ m1 u1 o t, m = sumM m1 u1 l ∧ nx = [(L' + 1, o)] ∧ o.data = .cell (some (.int (dn (ns.take i)) t))) rfl hl' hI F2 N2 ?_ ?_ ?_
  · exact ⟨_, _, _, _, isSum rfl, rfl, ‹_›⟩
  · rintro i n t m₁ news₁ h tk own hn - hoff ⟨m1, u1, o, t2, rfl, rfl, ho⟩ F3 N3
    dsimp only [List.map_cons, List.map_nil] at hoff ⊢
    dsimp only [List.cons_append, List.nil_append] at N3
    k_steps
    · rename Fr _ _ _ _ => F4
      rename News _ _ _ _ => N4
      rename _ = Data.cell (some (Value.int (_ * _) _)) => hd
      rw [dn_take hn] at hd
      exact InvEndN.intro F4 N4 ⟨m1, _, _, _, sumM_part, rfl, hd⟩ rfl (fun p hp => by rw [List.mem_singleton.mp hp]; exact .head _) fun p hp => .tail _ hp
    · exact mul_ok hb (List.mem_of_getElem? hn)
  · rintro m₁ news₁ h tk ⟨m1, u1, o, t2, rfl, rfl, ho⟩ F3 N3
    rw [List.take_length] at ho
    dsimp only
    k_with "CompSrc" => (k_dflt (refine LCg.CompSrc.base (by rfl) (by k_asm) (by k_asm) (by assumption) (by size_fits) ?_; intro g'; (refine' kcf_list (fun k => (dn ns).fdiv k) (by assumption) (fun k' t' I' oI' C' oC' D' m' ys' h' tk' E' hk' hC' hx' F' N' off' ne' => ?_) ?_); (all_goals (try (simp only [LCg.Off3, and_true] at off'))); (all_goals (try ((show KPfMark → _); intro hMark')))))
    k_steps
    · exact log_le (hb _ ‹_ ∈ ns›).1 (hb _ ‹_ ∈ ns›).2
    · have := hb _ ‹_ ∈ ns›; (first | lia | omega)
    · rename Fr _ _ _ _ => F9
      rename News _ _ _ _ => N9
      have e := sum_parts 1 fun n hn => (hb n hn).1
      simp only [Int.one_mul] at e
      rw [e] at N9
      refine ret _ _ _ _ _ (fun b o q => F9.keep b o (G' b o q List.not_mem_nil)) ?_ (N9.get (.head _))
      exact e' ▸ Nat.le_of_lt (Nat.lt_trans (Nat.lt_succ_self _) ‹_ ∧ L' + 1 < _›.2)
end
end Mine
end PartE2

section PartE3
open PySem PySem.W PyProof.Rows PySem.Calls PySem.Spec
set_option maxRecDepth 100000
namespace Mine
section
variable {w : World} {p : Program} {loose : List Str} {mean : ExcName → Option Value} {mg mb : Str → Option Value}
   {dp un : Nat} {gd : Option (List Code)} {cn : Str} {cs : Scope} {a : Addr} {ccd : Value} {cl : List (Str × Addr)} {outer : List Env} {A₀ : Around} {base h₀ : Heap} {L : Addr} {m : Str → Option Value} {s : Shared} {Q E : Value → Shared → Prop}

/-- one number in a reply -/
noncomputable def ent (k : Int) : Str := Str.ofString " " ++ Str.ofString (toString k) ++ Str.ofString " /"
theorem ent_len {k : Int} (h0 : 0 ≤ k) (h : k < 10 ^ 10) : (ent k).length ≤ 16 := by
  unfold ent
  refine Nat.le_trans (KT.len_app (KT.len_app (Nat.le_refl _) (KT.len_num h0 h)) (Nat.le_refl _)) (by decide)
/-- a reply's text -/
noncomputable def replyT (ns : List Int) : Str := Str.ofString "229 (/" ++ Txt.join (Str.ofString "") (ns.map ent) ++ Str.ofString ")"
theorem log_small {k : Int} (h0 : 0 ≤ k) (h : k < 10 ^ 20) : k.natAbs.log2 < 1920 := by
  have e : (k.natAbs : Int) < ((10 ^ 20 : Nat) : Int) := by rw [Int.natAbs_of_nonneg h0]; exact_mod_cast h
  have h1 : k.natAbs < 2 ^ 100 := Nat.lt_of_lt_of_le (by exact_mod_cast e) (by decide)
  by_cases hz : k.natAbs = 0
  · rw [hz]; decide
  · exact Nat.lt_trans ((Nat.log2_lt hz).mpr h1) (by decide)
theorem join_len {ns : List Int} (hb : ∀ n ∈ ns, 1 ≤ n ∧ n ≤ 400000) : (Txt.join (Str.ofString "") (ns.map ent)).length ≤ 16 * ns.length := by
  show (Builtin.Str.glued (Str.ofString "") (ns.map ent)).length ≤ _
  rw [StrLaws.glued_eq_join]
  cases ns with
  | nil => exact Nat.le_refl _
  | cons a r =>
    have z : (Str.ofString "").length = 0 := by decide
    rw [List.map_cons, len_join_cons, z, Nat.mul_zero, Nat.add_zero]
    have h := StrLaws.sumLen_le (B := 16) ((a :: r).map ent) fun y hy => by
      obtain ⟨k, hk, rfl⟩ := List.mem_map.mp hy
      have := hb k hk
      exact ent_len (by (first | lia | omega)) (by (first | lia | omega))
    rw [List.length_map] at h
    exact Nat.le_trans h (by (first | lia | omega))
theorem sz_of {x y : Str} {a b : Nat} (h1 : x.length ≤ a) (h2 : y.length ≤ b) (h : a + b ≤ 1000) : x.length + y.length ≤ sizeLine := by rw [sizeLine_eq]; (first | lia | omega)
set_option maxHeartbeats 8000000 in
/-- _law_reply -/
theorem reply_spec {l : Addr} {vs : List Value} {ns : List Int}
   (B : Below A₀ base outer h₀) (F : Fr h₀ L s.heap m) (X : (hd.heap_39 w.params).In h₀) (T : Top p loose mean mg mb h₀) (hk : cs.kind = .function)
   (hl : s.heap.IsList l vs.toArray) (hI : IntsAre vs ns) (hlen : ns.length ≤ 4) (hb : ∀ n ∈ ns, 1 ≤ n ∧ n ≤ 400000)
   (hdp : dp + 10 < recursionLimit)
   (ret : ∀ t h' tk', Kp s.heap h' → Q (.str (replyT ns) t) { s with heap := h', toks := tk' }) :
   wpAny (model PySem.Challenge.rw_rw0066_01.row.prog w) (ktrTop dp un gd cn cs L a ccd cl outer) (call (.ref 145) [.ref l]) Q E s := by
  k_with_none
  k_with "execs cons" => ((with_reducible show wpAny _ _ _ _ _ (Shared.mk _ _ _ (_ + 1) _)); refine Mine.tok_gen fun _ => ?_)
  k_with "exec Assign" => k_fold
  k_with "exec If" => k_fold
  k_with "exec Return some" => k_fold
  k_with "exec For" => k_fold
  k_with "exec Expr" => k_fold
  k_with "exec AugAssign" => k_fold
  k_with "exec Try" => k_fold
  k_with "exec Delete" => k_fold
  k_with "exec Assert" => k_fold
  k_with "exec While" => k_fold
  k_with "eval Call" => k_fold
  k_with "eval Compare" => k_fold
  k_with "eval BinOp" => k_fold
  k_with "eval Tuple" => k_fold
  k_with "eval List" => k_fold
  k_with "isTrue" => k_fold
  k_with "callWith" => k_fold
  k_with "eval Subscript" => k_fold
  k_with "room" => first | exact Mine.room0 (dp := dp) hdp | exact Mine.room1 (dp := dp) hdp rfl
  k_with "lia" => lia
  k_with "eval ListComp" => (k_dflt (refine LCg.ListComp_U (F₀ := by k_asm) (by with_unfolding_all rfl) (by decide) (by rfl) (by decide) (by rfl) ?_))
  k_with "CompSrc" => (k_dflt (refine LCg.CompSrc.base (by rfl) (by k_asm) (by k_asm) (by assumption) (by size_fits) ?_; intro g'; (refine' kct_list ent (by assumption) (fun k' t' I' oI' C' oC' D' m' ys' h' tk' E' hk' hC' hx' F' N' off' ne' => ?_) ?_); (all_goals (try (simp only [LCg.Off3, and_true] at off'))); (all_goals (try ((show KPfMark → _); intro hMark')))))
  k_with "call type:str" => (refine P.str_of_int ?_ ?_; rotate_left 1)
  k_with "call builtin:str.join" => ((with_reducible rename CarriedAll _ (List.map _ _) => ktC); (refine KT.join_B (g := ent) 16 (by first | assumption | is_list | exact News.isList (by k_asm) (by k_mem)) ktC ?_ ?_ (by decide) ?_; rotate_left 2; intro _ _))
  k_with "binaryOp Add str str" => (refine add_str ?_ ?_; intro _ _)
  revert X; k_fill; intro X
  refine wpAny_call ?_
  k_dflt (refine' tab_def (tl := []) ?k1 ?k2 ?k3 ?kN ?k5 ?kA ?kF ?kK ?k6 ?k7 ?k8 ?k9 ?kB ?_ ?c2 ?c3 ?c4 ?c5; (case kA => exact rfl); (case kF => exact rfl); (case kK => assumption); (case k1 => k_asm); (case k2 => k_asm); (case k3 => k_asm); (case kN => exact News.nil); (case k5 => k_asm); (case k6 => k_is); (case k7 => k_is); (case k8 => ktr_room); (case k9 => exact BindsTo.of_eq rfl); (case c5 => decide); (case kB => exact locs rfl); (case c2 => exact rfl); (case c3 => exact rfl); (case c4 => exact rfl); k_whole)
  intro g' L' h' G' F' N' B' X' T' l' e' st'
  (try dsimp only); (try k_fold)
  have hl' : g'.IsList l vs.toArray := by
    obtain ⟨o, ho, r⟩ := hl
    exact ⟨o, G' l o ho List.not_mem_nil, r⟩
  have hfit : ns.length < 2 ^ 62 := by (first | lia | omega)
  k_steps
  · exact kct_el rfl rfl rfl
  · have hk9 := hb _ ‹_ ∈ ns›
    exact sz_of (KT.len_app (Nat.le_refl _) (KT.len_num (by (first | lia | omega)) (by (first | lia | omega)))) (Nat.le_refl _) (by decide)
  · have hk9 := hb _ ‹_ ∈ ns›
    exact sz_of (Nat.le_refl _) (KT.len_num (by (first | lia | omega)) (by (first | lia | omega))) (by decide)
  · have hk9 := hb _ ‹_ ∈ ns›
    exact log_small (by (first | lia | omega)) (by (first | lia | omega))
  · rename Fr _ _ _ _ => F9
    exact ret _ _ _ fun b o q => F9.keep b o (G' b o q List.not_mem_nil)
  · have hj := join_len hb
    exact sz_of (KT.len_app (Nat.le_refl _) (Nat.le_trans hj (Nat.mul_le_mul_left 16 hlen))) (Nat.le_refl _) (by decide)
  · have hj := join_len hb
    exact sz_of (Nat.le_refl _) (Nat.le_trans hj (Nat.mul_le_mul_left 16 hlen)) (by decide)
  · have hk9 := hb _ ‹_ ∈ ns›
    exact ent_len (by (first | lia | omega)) (by (first | lia | omega))
end
end Mine
end PartE3

section PartE4
open PySem PySem.W PyProof.Rows PySem.Calls PySem.Spec
set_option maxRecDepth 100000
namespace Mine
/-- the loop's frame in _law_row -/
noncomputable abbrev rowM (m₁ : Str → Option Value) (u1 : Option Value) (lr : Addr) (q : Int) (tq : Tok) (l : Addr) : Str → Option Value := fun y =>
  if y = Str.ofString "k" then u1 else if y = Str.ofString "rest" then some (.int q tq) else if y = Str.ofString "row" then some (.ref lr) else if y = Str.ofString "front" then some (.ref l) else m₁ y
theorem isRow {m : Str → Option Value} {lr l : Addr} {q : Int} {tq : Tok} (h0 : m (Str.ofString "rest") = some (.int q tq)) (h1 : m (Str.ofString "row") = some (.ref lr)) (h2 : m (Str.ofString "front") = some (.ref l)) : m = rowM m (m (Str.ofString "k")) lr q tq l :=
  funext fun _ => mstep rfl (mstep h0 (mstep h1 (mstep h2 rfl)))
theorem mod_four {c : Int} (h : 0 ≤ c) : 0 ≤ c.fmod 4 ∧ c.fmod 4 ≤ 3 ∧ 0 ≤ c.fdiv 4 ∧ c.fdiv 4 ≤ c := by
  rw [Int.fmod_eq_emod_of_nonneg _ (by decide), Int.fdiv_eq_ediv_of_nonneg _ (by decide)]; omega
theorem take_get {ns : List Int} {i : Nat} (h : i < ns.length) : ns.take i ++ [ns.getD (0 + (i : Int)).toNat 0] = ns.take (i + 1) := by
  have e : (0 + (i : Int)).toNat = i := by omega
  rw [e, List.take_add_one, List.getElem?_eq_getElem h, List.getD_eq_getElem?_getD, List.getElem?_eq_getElem h]
  rfl
theorem last_get {r : List Int} (h : 1 ≤ r.length) : r.getLast? = some (r.getD (-1 + (r.length : Int)).toNat 0) := by
  have e : (-1 + (r.length : Int)).toNat = r.length - 1 := by omega
  have h2 : r.length - 1 < r.length := by omega
  rw [e, List.getLast?_eq_getElem?, List.getD_eq_getElem?_getD, List.getElem?_eq_getElem h2]
  rfl
theorem last_mul {r : List Int} (c : Chain r) (hl : r.length ≤ 4) (h : 1 ≤ r.length) (y : Int) : IntMulOk (r.getD (-1 + (r.length : Int)).toNat 0) y := by
  have h1 := chain_bounds c hl _ (List.mem_of_getLast? (last_get h))
  have h2 : r.getD (-1 + (r.length : Int)).toNat 0 < 2 ^ 64 := by omega
  exact IntMulOk.of_left (bits_le (k := 64) (by omega) h2)
section
variable {w : World} {p : Program} {loose : List Str} {mean : ExcName → Option Value} {mg mb : Str → Option Value}
   {dp un : Nat} {gd : Option (List Code)} {cn : Str} {cs : Scope} {a : Addr} {ccd : Value} {cl : List (Str × Addr)} {outer : List Env} {A₀ : Around} {base h₀ : Heap} {L : Addr} {m : Str → Option Value} {s : Shared} {Q E : Value → Shared → Prop}
set_option maxHeartbeats 8000000 in
/-- _law_row -/
theorem row_spec {c : Int} {t : Tok} {l : Addr} {vs : List Value} {ns : List Int}
   (B : Below A₀ base outer h₀) (F : Fr h₀ L s.heap m) (X : (hd.heap_39 w.params).In h₀) (T : Top p loose mean mg mb h₀) (hk : cs.kind = .function)
   (hc : 0 ≤ c)
   (hl : s.heap.IsList l vs.toArray) (hI : IntsAre vs ns) (hlen : ns.length ≤ 4) (hch : Chain ns)
   (hdp : dp + 10 < recursionLimit)
   (ret : ∀ D h' tk' rv r k, Kp s.heap h' → s.heap.objs.size ≤ D → h'.get? D = some (listOf (List.toArray rv) k) → IntsAre rv r → RowOk r → Q (.ref D) { s with heap := h', toks := tk' }) :
   wpAny (model PySem.Challenge.rw_rw0066_01.row.prog w) (ktrTop dp un gd cn cs L a ccd cl outer) (call (.ref 121) [.int c t, .ref l]) Q E s := by
  k_with_none
  k_with "execs cons" => ((with_reducible show wpAny _ _ _ _ _ (Shared.mk _ _ _ (_ + 1) _)); refine Mine.tok_gen fun _ => ?_)
  k_with "exec Assign" => k_fold
  k_with "exec If" => k_fold
  k_with "exec Return some" => k_fold
  k_with "exec For" => k_fold
  k_with "exec Expr" => k_fold
  k_with "exec AugAssign" => k_fold
  k_with "exec Try" => k_fold
  k_with "exec Delete" => k_fold
  k_with "exec Assert" => k_fold
  k_with "exec While" => k_fold
  k_with "eval Call" => k_fold
  k_with "eval Compare" => k_fold
  k_with "eval BinOp" => k_fold
  k_with "eval Tuple" => k_fold
  k_with "eval List" => k_fold
  k_with "isTrue" => k_fold
  k_with "callWith" => k_fold
  k_with "eval Subscript" => k_fold
  k_with "room" => first | exact Mine.room0 (dp := dp) hdp | exact Mine.room1 (dp := dp) hdp rfl
  k_with "newList" => (k_dflt (refine' newList_KL ?k1 ?k2 ?_ ?hz; (case k1 => k_asm); (case k2 => k_asm); (case hz => size_fits); k_whole); intro l' h' F' N' l1 lL; (try k_lt l1); (try k_sweep))
  k_with "pyIter ref" => ((rename IsRange _ _ _ _ _ _ _ _ => rR'); (rename Fr _ _ _ _ => lF'); (rename News _ _ _ _ => lN'); (with_unfolding_all refine iter_rangeUnr (by rfl) rR' ?_ (rangeSize_nat _ _) lF' lN' ?_); rotate_left 1; intro I9 l9; (try k_lt l9))
  k_with "call type:range" => ((rename Fr _ _ _ _ => F'); (rename News _ _ _ _ => N'); (with_unfolding_all refine range1_rows F' N' ?_; intro _ _ _ _ _ _ _ _ _))
  k_with "binaryOp Mult int int" => (refine mul_int ?_ ?_)
  k_with "call builtin:list.append" => (k_dflt (refine' append_K ?k1 ?k2 ?k3 ?_ ?z; (case k1 => k_asm); (case k2 => k_asm); (case k3 => k_upd); (case z => assumption); k_whole); intro h' F' N')
  revert X; k_fill; intro X
  refine wpAny_call ?_
  k_dflt (refine' tab_def (tl := []) ?k1 ?k2 ?k3 ?kN ?k5 ?kA ?kF ?kK ?k6 ?k7 ?k8 ?k9 ?kB ?_ ?c2 ?c3 ?c4 ?c5; (case kA => exact rfl); (case kF => exact rfl); (case kK => assumption); (case k1 => k_asm); (case k2 => k_asm); (case k3 => k_asm); (case kN => exact News.nil); (case k5 => k_asm); (case k6 => k_is); (case k7 => k_is); (case k8 => ktr_room); (case k9 => exact BindsTo.of_eq rfl); (case c5 => decide); (case kB => exact locs rfl); (case c2 => exact rfl); (case c3 => exact rfl); (case c4 => exact rfl); k_whole)
  intro g' L' h' G' F' N' B' X' T' l' e' st'
  (try dsimp only); (try k_fold)
  have hl' : g'.IsList l vs.toArray := by
    obtain ⟨o, ho, r⟩ := hl
    exact ⟨o, G' l o ho List.not_mem_nil, r⟩
  have hfit : ns.length < 2 ^ 62 := by omega
  have hc4 := mod_four hc
  k_steps
  rotate_left 1
  · exact small_one (by decide) (by decide) (by omega) (by omega)
  rename Fr _ _ _ _ => F1
  rename News _ _ _ _ => N1
  obtain ⟨lr, rfl⟩ := one_addr N1
  generalize hn : (1 + c.fmod 4 - 0).toNat = n
  have hn4 : 1 ≤ n ∧ n ≤ 4 := by omega
  refine rng_ind (J := fun i m news => ∃ m1 u1 q tq rv r kq, m = rowM m1 u1 lr q tq l ∧ news = [(lr, listOf (List.toArray rv) kq)] ∧ IntsAre rv r ∧ r.length = i ∧ Chain r ∧ (i ≤ ns.length → r = ns.take i) ∧ 0 ≤ q) ?_ ?_ _ _ _ _ (Nat.zero_add _) ?_
  · rintro m news ⟨m1, u1, q, tq, rv, r, kq, rfl, rfl, hrv, hri, hrc, hrn, hq⟩
    refine RangeRest.zero fun h3 tk3 F6 N6 => ?_
    dsimp only
    k_steps
    show Q (.ref lr) _
    exact ret lr _ _ rv r kq (fun b o q => F6.keep b o (G' b o q List.not_mem_nil)) (e' ▸ Nat.le_of_lt ‹L' < lr›) (N6.get (.head _)) hrv ⟨hrc, by omega, by omega⟩
  · rintro k i m news hki ⟨m1, u1, q, tq, rv, r, kq, rfl, rfl, hrv, hri, hrc, hrn, hq⟩ IH
    refine RangeRest.succ fun t h3 tk3 F6 N6 => ?_
    have hq4 := mod_four hq
    have hq44 := mod_four hq4.2.2.1
    have hrl := hrv.length
    have hsz : rv.toArray.size ≤ sizeLine := by rw [sizeLine_eq, List.size_toArray]; omega
    have hrf : r.length < 2 ^ 62 := by omega
    k_steps
    · rw [List.push_toArray]
      have hi : i < ns.length := by omega
      have e := take_get hi
      have hr := hrn (by omega)
      exact IH _ _ ⟨_, _, _, _, _, r ++ [_], _, isRow rfl rfl rfl, rfl, hrv.append (.cons _ _ .nil), by simp [hri], by rw [hr, e]; exact chain_take _ hch, fun _ => by rw [hr, e], hq4.2.2.1⟩
    · rw [List.push_toArray]
      have hr : r = [] := List.eq_nil_of_length_eq_zero (by omega)
      exact IH _ _ ⟨_, _, _, _, _, r ++ [_], _, isRow rfl rfl rfl, rfl, hrv.append (.cons _ _ .nil), by simp [hri], by rw [hr]; exact ⟨by omega, trivial⟩, fun h => by omega, hq4.2.2.1⟩
    · rw [List.push_toArray]
      exact IH _ _ ⟨_, _, _, _, _, r ++ [_], _, isRow rfl rfl rfl, rfl, hrv.append (.cons _ _ .nil), by simp [hri], chain_snoc hrc (last_get (by omega)) (by omega), fun h => by omega, hq4.2.2.1⟩
    · exact last_mul hrc (by omega) (by omega) _
  · exact ⟨_, _, _, _, [], [], 0, isRow rfl rfl rfl, rfl, .nil, rfl, trivial, fun _ => rfl, hc⟩
end
end Mine
end PartE4

section PartF1
open PySem PySem.W PyProof.Rows PySem.Calls PySem.Spec
set_option maxRecDepth 100000
namespace Mine
theorem news_drop2 {h₀ h : Heap} {L : Addr} {q a b : Addr × Obj} {news : List (Addr × Obj)} (N : News h₀ L h (q :: a :: b :: news)) : News h₀ L h (q :: news) := cb_drop N fun x hx => by
  rcases List.mem_cons.mp hx with rfl | hx
  · exact .head _
  · exact .tail _ (.tail _ (.tail _ hx))
/-- what parse229 makes of a reply -/
structure Reads229 (resp : Str) (port : Int) (res : Option Int) : Prop where
  h1 : Txt.slice resp none (some 3) = Str.ofString "229"
  h2 : 0 ≤ Txt.find resp (Str.ofString "(")
  h3 : Txt.find resp (Str.ofString "(") + 1 < resp.length
  h4 : 0 ≤ Txt.find3 resp (Str.ofString ")") (Txt.find resp (Str.ofString "(") + 1) → 1 ≤ Txt.find3 resp (Str.ofString ")") (Txt.find resp (Str.ofString "(") + 1) ∧ Txt.find3 resp (Str.ofString ")") (Txt.find resp (Str.ofString "(") + 1) ≤ resp.length
  hA : Txt.find3 resp (Str.ofString ")") (Txt.find resp (Str.ofString "(") + 1) < 0 → res = none
  hB : ¬ Txt.find3 resp (Str.ofString ")") (Txt.find resp (Str.ofString "(") + 1) < 0 → (Txt.item resp (Txt.find resp (Str.ofString "(") + 1) != Txt.item resp (Txt.find3 resp (Str.ofString ")") (Txt.find resp (Str.ofString "(") + 1) - 1)) = true → res = none
  hC : ¬ Txt.find3 resp (Str.ofString ")") (Txt.find resp (Str.ofString "(") + 1) < 0 → (Txt.item resp (Txt.find resp (Str.ofString "(") + 1) != Txt.item resp (Txt.find3 resp (Str.ofString ")") (Txt.find resp (Str.ofString "(") + 1) - 1)) = false →
    (Txt.split (Txt.slice resp (some (Txt.find resp (Str.ofString "(") + 1)) (some (Txt.find3 resp (Str.ofString ")") (Txt.find resp (Str.ofString "(") + 1)))) (Txt.item resp (Txt.find resp (Str.ofString "(") + 1))).length ≠ 5 → res = none
  hD : ¬ Txt.find3 resp (Str.ofString ")") (Txt.find resp (Str.ofString "(") + 1) < 0 → (Txt.item resp (Txt.find resp (Str.ofString "(") + 1) != Txt.item resp (Txt.find3 resp (Str.ofString ")") (Txt.find resp (Str.ofString "(") + 1) - 1)) = false →
    (Txt.split (Txt.slice resp (some (Txt.find resp (Str.ofString "(") + 1)) (some (Txt.find3 resp (Str.ofString ")") (Txt.find resp (Str.ofString "(") + 1)))) (Txt.item resp (Txt.find resp (Str.ofString "(") + 1))).length = 5 →
    ∃ y, (Txt.split (Txt.slice resp (some (Txt.find resp (Str.ofString "(") + 1)) (some (Txt.find3 resp (Str.ofString ")") (Txt.find resp (Str.ofString "(") + 1)))) (Txt.item resp (Txt.find resp (Str.ofString "(") + 1)))[3]? = some y ∧ PySem.intText? y = some port ∧ y.length ≤ 640 ∧ res = some port
section
variable {w : World} {p : Program} {loose : List Str} {mean : ExcName → Option Value} {mg mb : Str → Option Value}
   {dp un : Nat} {gd : Option (List Code)} {cn : Str} {cs : Scope} {a : Addr} {ccd : Value} {cl : List (Str × Addr)} {outer : List Env} {A₀ : Around} {base h₀ : Heap} {L : Addr} {m : Str → Option Value} {s : Shared} {Q E : Value → Shared → Prop}
set_option maxHeartbeats 8000000 in
/-- _law_read -/
theorem read_spec {resp : Str} {t : Tok} {news : List (Addr × Obj)} {port : Int} {res : Option Int}
   (B : Below A₀ h₀ [] h₀) (F : Fr h₀ L s.heap m) (X : (hd.heap_39 w.params).In h₀) (N : News h₀ L s.heap news) (T : Top p loose mean mg mb h₀) (hk : cs.kind = .function)
   (hlen : resp.length ≤ 1000)
   (R : Reads229 resp port res)
   (hdp : dp + 10 < recursionLimit)
   (retN : res = none → ∀ h' tk', Fr h₀ L h' m → News h₀ L h' news → Q .none { s with heap := h', toks := tk' })
   (retS : res = some port → ∀ q h' tk' t t', Fr h₀ L h' m → News h₀ L h' ((q, { cls := .type "tuple", data := .seq #[.str (Str.ofString "there") t, .int port t'] }) :: news) → Q (.ref q) { s with heap := h', toks := tk' }) :
   wpAny (model PySem.Challenge.rw_rw0066_01.row.prog w) (ktrTop dp un gd cn cs L a ccd [] []) (call (.ref 152) [.str resp t]) Q E s := by
  obtain ⟨h1, h2, h3, h4, hA, hB, hC, hD⟩ := R
  k_with_none
  k_with "execs cons" => ((with_reducible show wpAny _ _ _ _ _ (Shared.mk _ _ _ (_ + 1) _)); refine Mine.tok_gen fun _ => ?_)
  k_with "exec Assign" => k_fold
  k_with "exec If" => k_fold
  k_with "exec Return some" => k_fold
  k_with "exec For" => k_fold
  k_with "exec Expr" => k_fold
  k_with "exec AugAssign" => k_fold
  k_with "exec Try" => k_fold
  k_with "exec Delete" => k_fold
  k_with "exec Assert" => k_fold
  k_with "exec While" => k_fold
  k_with "eval Call" => k_fold
  k_with "eval Compare" => k_fold
  k_with "eval BinOp" => k_fold
  k_with "eval Tuple" => k_fold
  k_with "eval List" => k_fold
  k_with "isTrue" => k_fold
  k_with "callWith" => k_fold
  k_with "eval Subscript" => k_fold
  k_with "room" => first | exact Mine.room0 (dp := dp) hdp | exact Mine.room1 (dp := dp) hdp rfl
  k_with "lia" => lia
  k_with "call builtin:len" => ((with_reducible show wpAny _ _ (call (Value.builtin "len") [Value.ref _]) _ _ _); (with_reducible rename (List.map _ _ = _) => hlook'); (have hW9 := len_le_of_split (by assumption)); k_dflt (refine len_strs (News.isList (by assumption) (by first | exact .head _ | exact .tail _ (.head _) | exact .tail _ (.tail _ (.head _)))) (by (first | lia | omega)) ?_))
  k_with "subscriptTail Name Constant ref int" => ((with_reducible show wpAny _ _ (subscriptTail _ _ (Value.ref _) (Value.int 3 _)) _ _ _); (with_reducible rename (List.map _ _ = _) => hlook'); k_dflt (refine item_strs (News.isList (by assumption) (by first | exact .head _ | exact .tail _ (.head _) | exact .tail _ (.tail _ (.head _)))) (by decide) (by (first | lia | omega)) (by decide) ?_; intro _ _ _))
  k_with "subscriptTail Name BinOp str int" => (refine item_str (fitsSsize_of (N := 9223372036854775808) (by (first | lia | omega)) (by (first | lia | omega)) (Int.le_refl _)) (by (first | lia | omega)) (by (first | lia | omega)) ?_; intro _)
  k_with "call ref" => (refine wpAny_call ?_; k_dflt (refine' code_def ?k1 ?k2 ?k3 ?k4 ?k5 ?kA ?kF ?kK ?k6 ?k7 ?k8 ?k9 ?kB ?_ ?c2 ?c3 ?c4 ?c5; (case kA => exact rfl); (case kF => exact rfl); (case kK => exact rfl); (case k1 => k_asm); (case k2 => k_asm); (case k3 => k_asm); (case k4 => k_asm); (case k5 => k_asm); (case k6 => k_is); (case k7 => k_is); (case k8 => ktr_room); (case k9 => exact BindsTo.of_eq rfl); (case c5 => decide); (case kB => exact locs rfl); (case c2 => exact rfl); (case c3 => exact rfl); (case c4 => exact rfl); k_whole; intro g' L' h' FG' F' N' B' X' T'; (try dsimp only); (try k_lift B'); (try k_fold)))
  revert X; k_fill; intro X
  k_with "ite" => ((with_reducible show ite ((_ != Str.ofString "229") = true) _ _); k_dflt (rw [if_neg (by rw [h1]; decide)]))
  k_with "call type:int" => (refine KIN.call_text (n := port) ?_ ?_ ?_; rotate_left 2)
  refine wpAny_call ?_
  k_dflt (refine' code_defS0 ?k1 ?k2 ?k3 ?k4 ?k5 ?kA ?k6 ?k7 ?k8 ?k9 ?kB ?_ ?cK ?c2 ?c3 ?c4 ?c5; (case kA => exact rfl); (case k2 => k_asm); (case k1 => k_asm); (case k3 => k_asm); (case k4 => k_asm); (case k5 => k_asm); (case k6 => k_is); (case k7 => k_is); (case k8 => ktr_room); (case k9 => exact BindsTo.of_eq rfl); (case kB => exact locs rfl); (case cK => assumption); (case c2 => exact rfl); (case c3 => exact rfl); (case c4 => exact rfl); (case c5 => decide); k_whole)
  intro g' L' h' FG' F' N' B' X' T' D'
  (try dsimp only); (try k_fold)
  k_steps
  · rename Fr _ _ _ _ => F9
    rename News _ _ _ _ => N9
    exact retN (hA ‹_›) _ _ F9 (cb_drop N9 fun q hq => .tail _ hq)
  · rename Fr _ _ _ _ => F9
    rename News _ _ _ _ => N9
    exact retN (hB ‹_› ‹_›) _ _ F9 (cb_drop N9 fun q hq => .tail _ hq)
  · rename Fr _ _ _ _ => F9
    rename News _ _ _ _ => N9
    rename List.map _ _ = _ => hl
    refine retN (hC ‹_› ‹_› ?_) _ _ F9 (cb_drop N9 fun q hq => .tail _ (.tail _ hq))
    rw [← hl, List.length_map]
    (first | lia | omega)
  all_goals (
    rename List.map _ _ = _ => hl
    rename _[Int.toNat 3]? = some _ => hy
    obtain ⟨y, e1, e2, e3, e4⟩ := hD ‹_› ‹_› (by rw [← hl, List.length_map]; (first | lia | omega))
    rw [← hl] at e1
    obtain rfl := Option.some.inj (hy.symm.trans e1))
  · rename Fr _ _ _ _ => F9
    rename News _ _ _ _ => N9
    exact retS e4 _ _ _ _ _ F9 (news_drop2 N9)
  · exact e2
  · exact e3
end
end Mine
end PartF1

section PartF2
open PySem PySem.W PyProof.Rows PySem.Calls PySem.Spec
set_option maxRecDepth 100000
namespace Mine
/-- the text that _law_port asks about -/
noncomputable def portT (mark : Str) (n : Int) : Str := Str.ofString "229 Entering (" ++ Txt.mul mark 3 ++ Str.ofString (toString n) ++ mark ++ Str.ofString ")"
theorem num_len {n : Int} (h0 : 0 ≤ n) (h : n < 10 ^ 20) : (Str.ofString (toString n)).length ≤ 20 := toString_length_le h0 (by decide) h
theorem mul_len {mark : Str} (hm : mark.length = 1) : (Txt.mul mark 3).length = 3 := by
  have := len_mul mark 3
  rw [hm] at this
  have e : ((Txt.mul mark 3).length : Int) = 3 := by simpa using this
  (first | lia | omega)
theorem port_len {mark : Str} {n : Int} (hm : mark.length = 1) (h0 : 0 ≤ n) (h : n < 10 ^ 20) : (portT mark n).length ≤ 1000 := by
  unfold portT
  have := num_len h0 h
  refine Nat.le_trans (KT.len_app (KT.len_app (KT.len_app (KT.len_app (Nat.le_refl _) (Nat.le_of_eq (mul_len hm))) this) (Nat.le_of_eq hm)) (Nat.le_refl _)) (by decide)
section
variable {w : World} {p : Program} {loose : List Str} {mean : ExcName → Option Value} {mg mb : Str → Option Value}
   {dp un : Nat} {gd : Option (List Code)} {cn : Str} {cs : Scope} {a : Addr} {ccd : Value} {cl : List (Str × Addr)} {outer : List Env} {A₀ : Around} {base h₀ : Heap} {L : Addr} {m : Str → Option Value} {s : Shared} {Q E : Value → Shared → Prop}
set_option maxHeartbeats 8000000 in
/-- _law_port: the number comes back -/
theorem port_spec {mark : Str} {n : Int} {t1 t2 : Tok}
   (B : Below A₀ base outer h₀) (F : Fr h₀ L s.heap m) (X : (hd.heap_39 w.params).In h₀) (T : Top p loose mean mg mb h₀) (hk : cs.kind = .function)
   (hm : mark.length = 1) (hn : 0 ≤ n) (hn2 : n < 10 ^ 20)
   (R : Reads229 (portT mark n) n (some n))
   (hdp : dp + 10 < recursionLimit)
   (ret : ∀ t h' tk', Kp s.heap h' → Q (.int n t) { s with heap := h', toks := tk' }) :
   wpAny (model PySem.Challenge.rw_rw0066_01.row.prog w) (ktrTop dp un gd cn cs L a ccd cl outer) (call (.ref 133) [.str mark t1, .int n t2]) Q E s := by
  have hpl := port_len hm hn hn2
  have hnl := num_len hn hn2
  have hml := mul_len hm
  obtain ⟨h1, h2, h3, h4, hA, hB, hC, hD⟩ := R
  obtain ⟨resp, hT⟩ : ∃ resp, portT mark n = resp := ⟨_, rfl⟩
  rw [hT] at hpl h1 h2 h3 h4 hA hB hC hD
  have hA9 := mt hA (by nofun)
  have hB9 := Bool.eq_false_iff.mpr (mt (hB hA9) (by nofun))
  have hC9 := Decidable.not_not.mp (mt (hC hA9 hB9) (by nofun))
  obtain ⟨y9, hy1, hy2, hy3, -⟩ := hD hA9 hB9 hC9
  clear hA hB hC hD
  k_with_none
  k_with "execs cons" => ((with_reducible show wpAny _ _ _ _ _ (Shared.mk _ _ _ (_ + 1) _)); refine Mine.tok_gen fun _ => ?_)
  k_with "exec Assign" => k_fold
  k_with "exec If" => k_fold
  k_with "exec Return some" => k_fold
  k_with "exec For" => k_fold
  k_with "exec Expr" => k_fold
  k_with "exec AugAssign" => k_fold
  k_with "exec Try" => k_fold
  k_with "exec Delete" => k_fold
  k_with "exec Assert" => k_fold
  k_with "exec While" => k_fold
  k_with "eval Call" => k_fold
  k_with "eval Compare" => k_fold
  k_with "eval BinOp" => k_fold
  k_with "eval Tuple" => k_fold
  k_with "eval List" => k_fold
  k_with "isTrue" => k_fold
  k_with "callWith" => k_fold
  k_with "eval Subscript" => k_fold
  k_with "room" => first | exact Mine.room0 (dp := dp) hdp | exact Mine.room1 (dp := dp) hdp rfl
  k_with "lia" => lia
  k_with "call builtin:len" => ((with_reducible show wpAny _ _ (call (Value.builtin "len") [Value.ref _]) _ _ _); (with_reducible rename (List.map _ _ = _) => hlook'); (have hW9 := len_le_of_split (by assumption)); k_dflt (refine len_strs (News.isList (by assumption) (by first | exact .head _ | exact .tail _ (.head _) | exact .tail _ (.tail _ (.head _)))) (by (first | lia | omega)) ?_))
  k_with "subscriptTail Name Constant ref int" => ((with_reducible show wpAny _ _ (subscriptTail _ _ (Value.ref _) (Value.int 3 _)) _ _ _); (with_reducible rename (List.map _ _ = _) => hlook'); k_dflt (refine item_strs (News.isList (by assumption) (by first | exact .head _ | exact .tail _ (.head _) | exact .tail _ (.tail _ (.head _)))) (by decide) (by (first | lia | omega)) (by decide) ?_; intro _ _ _))
  k_with "subscriptTail Name BinOp str int" => (refine item_str (fitsSsize_of (N := 9223372036854775808) (by (first | lia | omega)) (by (first | lia | omega)) (Int.le_refl _)) (by (first | lia | omega)) (by (first | lia | omega)) ?_; intro _)
  k_with "call ref" => (k_extra "my fold"; refine wpAny_call ?_; k_dflt (refine' code_def ?k1 ?k2 ?k3 ?k4 ?k5 ?kA ?kF ?kK ?k6 ?k7 ?k8 ?k9 ?kB ?_ ?c2 ?c3 ?c4 ?c5; (case kA => exact rfl); (case kF => exact rfl); (case kK => exact rfl); (case k1 => k_asm); (case k2 => k_asm); (case k3 => k_asm); (case k4 => k_asm); (case k5 => k_asm); (case k6 => k_is); (case k7 => k_is); (case k8 => ktr_room); (case k9 => exact BindsTo.of_eq rfl); (case c5 => decide); (case kB => exact locs rfl); (case c2 => exact rfl); (case c3 => exact rfl); (case c4 => exact rfl); k_whole; intro g' L' h' FG' F' N' B' X' T'; (try dsimp only); (try k_lift B'); (try k_fold)))
  k_with "call type:str" => k_dflt (refine P.str_of_int (log_small hn hn2) ?_)
  k_with "binaryOp Add str str" => k_dflt (refine add_str ?_ (by first | exact sz_of (Nat.le_refl _) (Nat.le_of_eq hml) (by decide) | exact sz_of (KT.len_app (Nat.le_refl _) (Nat.le_of_eq hml)) hnl (by decide) | exact sz_of (KT.len_app (KT.len_app (Nat.le_refl _) (Nat.le_of_eq hml)) hnl) (Nat.le_of_eq hm) (by decide) | exact sz_of (KT.len_app (KT.len_app (KT.len_app (Nat.le_refl _) (Nat.le_of_eq hml)) hnl) (Nat.le_of_eq hm)) (Nat.le_refl _) (by decide)); intro _ _)
  k_with "binaryOp Mult str int" => (refine KXi.mul (n := 1) (by assumption) (by decide) (by decide) (by decide) ?_; intro _ _ _ _)
  revert X; k_fill; intro X
  k_with "ite" => first
   | ((with_reducible show ite ((_ != Str.ofString "229") = true) _ _); k_dflt (rw [if_neg (by rw [h1]; decide)]))
   | ((with_reducible show ite (decide (Txt.find3 _ _ _ < 0) = true) _ _); k_dflt (rw [if_neg (by rw [decide_eq_true_eq]; exact hA9)]))
   | ((with_reducible show ite ((Txt.item _ _ != Txt.item _ _) = true) _ _); k_dflt (rw [if_neg (by rw [hB9]; exact Bool.false_ne_true)]))
   | ((with_reducible show ite (((List.length _ : Int) != 5) = true) _ _); rename List.map _ _ = _ => hl9; have e9 := congrArg List.length hl9; rw [List.length_map, hC9] at e9; k_dflt (rw [if_neg (by rw [e9]; decide)]))
  k_with "call type:int" => k_dflt (rename List.map _ _ = _ => hl8; rename _[Int.toNat 3]? = some _ => hy8; rw [← hl8] at hy1; obtain rfl := Option.some.inj (hy8.symm.trans hy1); refine KIN.call_text (n := n) hy2 hy3 ?_)
  k_with "my fold" => (change wpAny _ _ (call (Value.ref 107) [Value.str (portT mark n) _, _]) _ _ _; rw [hT])
  refine wpAny_call ?_
  k_dflt (refine' tab_def (tl := []) ?k1 ?k2 ?k3 ?kN ?k5 ?kA ?kF ?kK ?k6 ?k7 ?k8 ?k9 ?kB ?_ ?c2 ?c3 ?c4 ?c5; (case kA => exact rfl); (case kF => exact rfl); (case kK => assumption); (case k1 => k_asm); (case k2 => k_asm); (case k3 => k_asm); (case kN => exact News.nil); (case k5 => k_asm); (case k6 => k_is); (case k7 => k_is); (case k8 => ktr_room); (case k9 => exact BindsTo.of_eq rfl); (case c5 => decide); (case kB => exact locs rfl); (case c2 => exact rfl); (case c3 => exact rfl); (case c4 => exact rfl); k_whole)
  intro g' L' h' G' F' N' B' X' T' l' e' st'
  (try dsimp only); (try k_fold)
  k_steps
  · rename Fr _ _ _ _ => F9
    show Q (.int n _) _
    exact ret _ _ _ fun b o q => F9.keep b o (G' b o q List.not_mem_nil)
end
end Mine
end PartF2

section PartF3
open PySem PySem.W PyProof.Rows PySem.Calls PySem.Spec
set_option maxRecDepth 100000
namespace Mine
/-- the loop's frame in _law_greedy -/
noncomputable abbrev grM (m₁ : Str → Option Value) (u1 : Option Value) (lr : Addr) (x : Int) (tx : Tok) (y : Int) (ty : Tok) : Str → Option Value := fun z =>
  if z = Str.ofString "k" then u1 else if z = Str.ofString "above" then some (.int x tx) else if z = Str.ofString "below" then some (.int y ty) else if z = Str.ofString "row" then some (.ref lr) else m₁ z
theorem isGr {m : Str → Option Value} {lr : Addr} {x y : Int} {tx ty : Tok} (h0 : m (Str.ofString "above") = some (.int x tx)) (h1 : m (Str.ofString "below") = some (.int y ty)) (h2 : m (Str.ofString "row") = some (.ref lr)) : m = grM m (m (Str.ofString "k")) lr x tx y ty :=
  funext fun _ => mstep rfl (mstep h0 (mstep h1 (mstep h2 rfl)))
theorem rng_name {prog : Program} {w : World} {A : Around} {E : Value → Shared → Prop} {h₀ : Heap} {env : Env} {x : Str} {body : List Stmt} {Q : Flow → Shared → Prop} {s : Shared} {I : Addr} {a : Int} {n k i : Nat} {m : Str → Option Value} {led : List (Addr × Obj)}
    (h : ∀ I0 : Addr, I0 = I → RangeRest prog w A E h₀ env x body Q s I0 a n k i m led) : RangeRest prog w A E h₀ env x body Q s I a n k i m led := h I rfl
theorem gr_unr {h₀ : Heap} {L I : Addr} {it : Obj} {P : (Str → Option Value) → List (Addr × Obj) → Prop} {s₁ : Shared} {h' : Heap} {tk : Nat} {m' : Str → Option Value} {q b37 b30 e : Addr × Obj} {news rest rest2 : List (Addr × Obj)} (F : Fr h₀ L h' m') (N : News h₀ L h' (q :: b37 :: b30 :: (I, it) :: e :: (news ++ rest ++ rest2)))
    (h1 : e.1 ≠ I) (h2 : b37.1 ≠ I) (h3 : b30.1 ≠ I) (h4 : ∀ p ∈ news, p.1 ≠ I) (h5 : ∀ p ∈ rest, p.1 ≠ I) (h6 : ∀ p ∈ rest2, p.1 ≠ I) (r : P m' (e :: b37 :: b30 :: (news ++ (rest ++ rest2)))) : UnrEnd h₀ L s₁ I it P { s₁ with heap := h', toks := tk } := by
  refine UnrEnd.intro F N _ (fun p hp => ?_) (fun p hp => ?_) r
  · simp only [List.mem_cons, List.mem_append] at hp ⊢
    rcases hp with hp | hp | hp | hp | hp | hp | hp <;> simp [hp]
  · simp only [List.mem_cons, List.mem_append] at hp
    rcases hp with rfl | rfl | rfl | hp | hp | hp
    · exact h1
    · exact h2
    · exact h3
    · exact h4 p hp
    · exact h5 p hp
    · exact h6 p hp
theorem dn_sq {d : List Int} {e : Int} : dn (d ++ [e]) * dn (d ++ [e]) = dn d * dn d * e * e := by
  rw [dn_append]
  simp only [dn, Int.mul_one]
  rw [Int.mul_assoc, Int.mul_comm e (dn d * e), Int.mul_assoc (dn d) e e, ← Int.mul_assoc, ← Int.mul_assoc]
theorem news_two {h₀ h : Heap} {L : Addr} {a b c d : Addr × Obj} {r : List (Addr × Obj)} (N : News h₀ L h (a :: b :: c :: d :: r)) : News h₀ L h [c, d] := cb_drop N fun x hx => by
  rcases List.mem_cons.mp hx with rfl | hx
  · exact .tail _ (.tail _ (.head _))
  · rw [List.mem_singleton.mp hx]; exact .tail _ (.tail _ (.tail _ (.head _)))
theorem news_front {h₀ h : Heap} {L : Addr} {a b c d : Addr × Obj} {r : List (Addr × Obj)} (N : News h₀ L h (a :: b :: c :: d :: r)) : News h₀ L h (c :: d :: a :: b :: r) := cb_drop N fun x hx => by
  simp only [List.mem_cons] at hx ⊢
  rcases hx with hx | hx | hx | hx | hx <;> simp [hx]
theorem gr_ne {I lr : Addr} {o1 o2 : Obj} {news rest : List (Addr × Obj)} (hI : @LT.lt Nat _ lr I) (h37 : @LT.lt Nat _ 37 lr) (h30 : @LT.lt Nat _ 30 lr) (hne : ∀ q ∈ news, q.1 ≠ 37 ∧ q.1 ≠ 30) (hrest : ∀ q ∈ rest, @LT.lt Nat _ lr q.1) :
    ∀ q ∈ (I, o1) :: (lr, o2) :: (news ++ rest), q.1 ≠ 37 ∧ q.1 ≠ 30 := fun q hq => by
  rcases List.mem_cons.mp hq with rfl | hq
  · exact ⟨Nat.ne_of_gt (Nat.lt_trans h37 hI), Nat.ne_of_gt (Nat.lt_trans h30 hI)⟩
  · rcases List.mem_cons.mp hq with rfl | hq
    · exact ⟨Nat.ne_of_gt h37, Nat.ne_of_gt h30⟩
    · rcases List.mem_append.mp hq with hq | hq
      · exact hne q hq
      · exact ⟨Nat.ne_of_gt (Nat.lt_trans h37 (hrest q hq)), Nat.ne_of_gt (Nat.lt_trans h30 (hrest q hq))⟩
theorem gr_tail {lr sz : Nat} {news rest rest2 : List (Addr × Obj)} (hnl : ∀ q ∈ news, @LT.lt Nat _ q.1 lr) (hrest : ∀ q ∈ rest, @LT.lt Nat _ lr q.1) (hr2 : ∀ q ∈ rest2, @LE.le Nat _ sz q.1) (hl : lr < sz) : ∀ p ∈ (news ++ rest) ++ rest2, p.1 ≠ lr := fun p hp => by
  rcases List.mem_append.mp hp with hp | hp
  · rcases List.mem_append.mp hp with hp | hp
    · exact Nat.ne_of_lt (hnl p hp)
    · exact Nat.ne_of_gt (hrest p hp)
  · exact Nat.ne_of_gt (Nat.lt_of_lt_of_le hl (hr2 p hp))
section
variable {w : World} {p : Program} {loose : List Str} {mean : ExcName → Option Value} {mg mb : Str → Option Value}
   {dp un : Nat} {gd : Option (List Code)} {cn : Str} {cs : Scope} {a : Addr} {ccd : Value} {A₀ : Around} {base h₀ : Heap} {L : Addr} {m : Str → Option Value} {s : Shared} {Q E : Value → Shared → Prop}
local macro_rules | `(tactic| k_all) => `(tactic| k_extra "k_all")
set_option maxHeartbeats 8000000 in
/-- _law_greedy: the row comes back -/
theorem greedy_spec {r : List Int} {t1 t2 : Tok} {p37 p30 : Array Value} {news : List (Addr × Obj)}
   (B : Below A₀ h₀ [] h₀) (F : Fr h₀ L s.heap m) (X : (hd.heap_39 w.params).In h₀) (T : Top p loose mean mg mb h₀) (hk : cs.kind = .function)
   (CH1 : CodeHd h₀ 41 37) (CH2 : CodeHd h₀ 34 30)
   (N : News h₀ L s.heap ((37, tabObj p37) :: (30, tabObj p30) :: news)) (hne : ∀ q ∈ news, q.1 ≠ 37 ∧ q.1 ≠ 30) (P37 : PsR h₀ news p37 47 4 digQ) (P30 : PsR h₀ news p30 32 4 intQ)
   (hr : RowOk r)
   (hdp : dp + 170 < recursionLimit)
   (ret : ∀ D h' tk' rv k p37' p30' rest, Fr h₀ L h' m → News h₀ L h' ((D, listOf (List.toArray rv) k) :: (37, tabObj p37') :: (30, tabObj p30') :: (news ++ rest)) → IntsAre rv r → (∀ q ∈ news, q.1 < D) → (∀ q ∈ rest, D < q.1) → 37 < D → 30 < D →
     PsR h₀ (news ++ rest) p37' 47 4 digQ → PsR h₀ (news ++ rest) p30' 32 4 intQ → Q (.ref D) { s with heap := h', toks := tk' }) :
   wpAny (model PySem.Challenge.rw_rw0066_01.row.prog w) (ktrTop dp un gd cn cs L a ccd [] []) (call (.ref 140) [.int (nm r) t1, .int (dn r) t2]) Q E s := by
  k_with_none
  k_with "execs cons" => ((with_reducible show wpAny _ _ _ _ _ (Shared.mk _ _ _ (_ + 1) _)); refine Mine.tok_gen fun _ => ?_)
  k_with "exec Assign" => k_fold
  k_with "exec If" => k_fold
  k_with "exec Return some" => k_fold
  k_with "exec For" => k_fold
  k_with "exec Expr" => k_fold
  k_with "exec AugAssign" => k_fold
  k_with "exec Try" => k_fold
  k_with "exec Delete" => k_fold
  k_with "exec Assert" => k_fold
  k_with "exec While" => k_fold
  k_with "eval Call" => k_fold
  k_with "eval Compare" => k_fold
  k_with "eval BinOp" => k_fold
  k_with "eval Tuple" => k_fold
  k_with "eval List" => k_fold
  k_with "isTrue" => k_fold
  k_with "callWith" => k_fold
  k_with "eval Subscript" => k_fold
  k_with "room" => first | exact Mine.room0 (dp := dp) hdp | exact Mine.room1 (dp := dp) hdp rfl
  k_with "lia" => lia
  k_with "newList" => (k_dflt (refine' newList_KL ?k1 ?k2 ?_ ?hz; (case k1 => k_asm); (case k2 => k_asm); (case hz => size_fits); k_whole); intro l' h' F' N' l1 lL; (try k_sweep))
  k_with "pyIter ref" => ((rename IsRange _ _ _ _ _ _ _ _ => rR'); (rename Fr _ _ _ _ => lF'); (rename News _ _ _ _ => lN'); (with_unfolding_all refine iter_rangeUnr (by rfl) rR' ?_ (rangeSize_nat _ _) lF' lN' ?_); rotate_left 1; intro I9 l9; (generalize hnn : Int.toNat _ = nn))
  k_with "call type:range" => ((rename Fr _ _ _ _ => F'); (rename News _ _ _ _ => N'); (with_unfolding_all refine range1_rows F' N' ?_; intro _ _ _ _ _ _ _ _ _))
  k_with "binaryOp Mult int int" => (refine mul_int ?_ ?_)
  k_with "exec For" => ((rename Fr _ _ _ _ => lF'); (with_unfolding_all refine For_invVF lF' rfl rfl ?_))
  k_with "call builtin:list.append" => (k_dflt (refine' append_K ?k1 ?k2 ?k3 ?_ ?z; (case k1 => k_asm); (case k2 => k_asm); (case k3 => k_upd); (case z => assumption); k_whole); intro h' F' N')
  k_with "exec Raise some none" => (k_dflt (refine' Raise_classB (X := "ZeroDivisionError") rfl excClass_ZeroDivisionError ?hs ?_ ?_; (case hs => (rw [isSubtype_type]; kernel_rfl))))
  k_with "k_all" => first | assumption | (refine allLt_ne (d := ?d) ?h ?_; (case h => assumption); (first | lia | omega)) | (refine gt_ne (d := ?d) ?h ?_; (case h => assumption); (first | lia | omega))
  revert X; k_fill; intro X
  refine wpAny_call ?_
  k_dflt (refine' code_defS0 ?k1 ?k2 ?k3 ?k4 ?k5 ?kA ?k6 ?k7 ?k8 ?k9 ?kB ?_ ?cK ?c2 ?c3 ?c4 ?c5; (case kA => exact rfl); (case k2 => k_asm); (case k1 => k_asm); (case k3 => k_asm); (case k4 => k_asm); (case k5 => k_asm); (case k6 => k_is); (case k7 => k_is); (case k8 => ktr_room); (case k9 => exact BindsTo.of_eq rfl); (case kB => exact locs rfl); (case cK => assumption); (case c2 => exact rfl); (case c3 => exact rfl); (case c4 => exact rfl); (case c5 => decide); k_whole)
  intro g' L' h' FG' F' N' B' X' T' D'
  (try dsimp only); (try k_fold)
  k_steps
  rename Fr _ _ _ _ => F1
  rename News _ _ _ _ => N1
  obtain ⟨lr, rfl⟩ := one_addr N1
  have hn5 : _ = 5 := (‹Int.toNat (5 - 0) = _›).symm
  have l1 := ‹∀ p ∈ (37, tabObj p37) :: (30, tabObj p30) :: news, p.1 < lr›
  have h37 : @LT.lt Nat _ 37 lr := l1 _ (.head _)
  have h30 : @LT.lt Nat _ 30 lr := l1 _ (.tail _ (.head _))
  have hnl : ∀ q ∈ news, q.1 < lr := fun q hq => l1 q (.tail _ (.tail _ hq))
  clear l1
  refine rng_name fun I0 hI0 => ?_
  subst hI0
  have lI := ‹∀ p ∈ (lr, listOf #[] 0) :: _, p.1 < I0›
  have hI9 : @LT.lt Nat _ lr I0 := lI _ (.head _)
  have hnI : ∀ q ∈ news, q.1 ≠ I0 := fun q hq => Nat.ne_of_lt (lI q (.tail _ (.tail _ (.tail _ hq))))
  rw [hn5]
  refine rng_ind (J := fun i m led => ∃ m1 u1 d rem tx ty dv kq q37 q30 rest, r = d ++ rem ∧ d.length = i ∧ m = grM m1 u1 lr (dn d * dn d * nm rem) tx (dn d * dn d * dn rem) ty ∧
    led = (lr, listOf (List.toArray dv) kq) :: (37, tabObj q37) :: (30, tabObj q30) :: (news ++ rest) ∧ IntsAre dv d ∧ (∀ q ∈ rest, @LT.lt Nat _ I0 q.1) ∧ PsR h₀ (news ++ rest) q37 47 4 digQ ∧ PsR h₀ (news ++ rest) q30 32 4 intQ) ?_ ?_ _ _ _ _ (Nat.zero_add _) ?_
  · rintro m led ⟨m1, u1, d, rem, tx, ty, dv, kq, q37, q30, rest, hdr, hdl, rfl, rfl, hdv, hrest, R37, R30⟩
    exfalso
    have := congrArg List.length hdr
    rw [List.length_append] at this
    have := hr.2.2
    (first | lia | omega)
  · rintro k i m led hki ⟨m1, u1, d, rem, tx, ty, dv, kq, q37, q30, rest, hdr, hdl, rfl, rfl, hdv, hrest, R37, R30⟩ IH
    refine RangeRest.succ fun t h3 tk3 F6 N6 => ?_
    have hlen : d.length + rem.length ≤ 4 := by
      have := congrArg List.length hdr
      rw [List.length_append] at this
      have := hr.2.2
      (first | lia | omega)
    cases rem with
    | nil =>
      rw [nm, dn, Int.mul_zero] at F6
      k_with "call ref" => (refine wpAny_call ?_; k_dflt (refine' code_def ?k1 ?k2 ?k3 ?k4 ?k5 ?kA ?kF ?kK ?k6 ?k7 ?k8 ?k9 ?kB ?_ ?c2 ?c3 ?c4 ?c5; (case kA => exact rfl); (case kF => exact rfl); (case kK => exact rfl); (case k1 => k_asm); (case k2 => k_asm); (case k3 => k_asm); (case k4 => k_asm); (case k5 => k_asm); (case k6 => k_is); (case k7 => k_is); (case k8 => ktr_room); (case k9 => exact BindsTo.of_eq rfl); (case c5 => decide); (case kB => exact locs rfl); (case c2 => exact rfl); (case c3 => exact rfl); (case c4 => exact rfl); k_whole); intro g9 L9 h9 FG9 F9 N9 B9 X9 T9; (try dsimp only); (try k_fold))
      k_steps
      all_goals (
        rename Fr _ _ _ _ => F9
        rename News _ _ _ _ => N9
        exact ret lr _ _ dv kq q37 q30 rest F9 (cb_drop N9 fun _ hq => .tail _ hq) (by rw [hdr, List.append_nil]; exact hdv) hnl (fun q hq => Nat.lt_trans hI9 (hrest q hq)) h37 h30 R37 R30)
    | cons e rem =>
      k_with_none
      k_with "execs cons" => ((with_reducible show wpAny _ _ _ _ _ (Shared.mk _ _ _ (_ + 1) _)); refine Mine.tok_gen fun _ => ?_)
      k_with "exec Assign" => k_fold
      k_with "exec If" => k_fold
      k_with "exec Return some" => k_fold
      k_with "exec For" => k_fold
      k_with "exec Expr" => k_fold
      k_with "exec AugAssign" => k_fold
      k_with "exec Try" => k_fold
      k_with "exec Delete" => k_fold
      k_with "exec Assert" => k_fold
      k_with "exec While" => k_fold
      k_with "eval Call" => k_fold
      k_with "eval Compare" => k_fold
      k_with "eval BinOp" => k_fold
      k_with "eval Tuple" => k_fold
      k_with "eval List" => k_fold
      k_with "isTrue" => k_fold
      k_with "callWith" => k_fold
      k_with "eval Subscript" => k_fold
      k_with "room" => first | exact Mine.room0 (dp := dp) hdp | exact Mine.room1 (dp := dp) hdp rfl
      k_with "lia" => lia
      k_with "newList" => (k_dflt (refine' newList_KL ?k1 ?k2 ?_ ?hz; (case k1 => k_asm); (case k2 => k_asm); (case hz => size_fits); k_whole); intro l' h' F' N' l1 lL; (try k_sweep))
      k_with "pyIter ref" => ((rename IsRange _ _ _ _ _ _ _ _ => rR'); (rename Fr _ _ _ _ => lF'); (rename News _ _ _ _ => lN'); (with_unfolding_all refine iter_rangeUnr (by rfl) rR' ?_ (rangeSize_nat _ _) lF' lN' ?_); rotate_left 1; intro I9 l9; (generalize hnn : Int.toNat _ = nn))
      k_with "call type:range" => ((rename Fr _ _ _ _ => F'); (rename News _ _ _ _ => N'); (with_unfolding_all refine range1_rows F' N' ?_; intro _ _ _ _ _ _ _ _ _))
      k_with "binaryOp Mult int int" => (refine mul_int ?_ ?_)
      k_with "exec For" => ((rename Fr _ _ _ _ => lF'); (with_unfolding_all refine For_invVF lF' rfl rfl ?_))
      k_with "call builtin:list.append" => (k_dflt (refine' append_K ?k1 ?k2 ?k3 ?_ ?z; (case k1 => k_asm); (case k2 => k_asm); (case k3 => k_upd); (case z => assumption); k_whole); intro h' F' N')
      k_with "exec Raise some none" => (k_dflt (refine' Raise_classB (X := "ZeroDivisionError") rfl excClass_ZeroDivisionError ?hs ?_ ?_; (case hs => (rw [isSubtype_type]; kernel_rfl))))
      k_with "k_all" => first | assumption | (refine allLt_ne (d := ?d) ?h ?_; (case h => assumption); (first | lia | omega)) | (refine gt_ne (d := ?d) ?h ?_; (case h => assumption); (first | lia | omega))
      have hch : Chain2 (e :: rem) := chain2_drop (by rw [← hdr]; exact hr.1.two)
      obtain ⟨hM, hz0, hz1, hz2, he1, he2⟩ := greedy_size hr.1 hr.2.2 hdr
      obtain ⟨hA, hgq, hgr, hgb⟩ := greedy_step hch hM
      have hgo : (dn d * dn d * dn (e :: rem)).fmod (-(dn d * dn d * nm (e :: rem))) = -(dn d * dn d * e * e * nm rem) := by
        have := greedy_odd (x := dn d * dn d * dn (e :: rem)) (y := dn d * dn d * nm (e :: rem))
        (first | lia | omega)
      have hdvs : dv.toArray.size ≤ sizeLine := by
        have := hdv.length
        rw [sizeLine_eq, List.size_toArray]; (first | lia | omega)
      have hmul : ∀ y, IntMulOk (- -e) y := fun y => IntMulOk.of_left (bits_le (k := 64) (by (first | lia | omega)) (by (first | lia | omega)))
      k_steps
      · rename Fr _ _ _ _ => F7
        rename News _ _ _ _ => N7
        k_dflt (refine' idm_spec B' F7 X' T' ?kK CH1 CH2 (p37 := q37) (p30 := q30) ?kN ?p1 ?p2 ?h1 ?h2 ?h3 ?h4 ?h5 ?kd ?_; (case kN => exact news_two N7); (case p1 => exact R37.at FG' F7 N7 fun _ hq => .tail _ (.tail _ (.tail _ (.tail _ hq)))); (case p2 => exact R30.at FG' F7 N7 fun _ hq => .tail _ (.tail _ (.tail _ (.tail _ hq)))); (case h1 => (first | lia | omega)); (case h2 => (first | lia | omega)); (case h3 => (first | lia | omega)); (case h4 => (first | lia | omega)); (case h5 => (first | lia | omega)); (case kK => exact rfl); (case kd => ktr_room))
        intro q9 h9 tk9 t9 t9' a37 a30 K9 e37 e30 S37 S30 s9 e9
        rw [hgq, hgr] at e9
        have hrl : ∀ q ∈ rest, @LT.lt Nat _ lr q.1 := fun q hq => Nat.lt_trans hI9 (hrest q hq)
        obtain ⟨F8, rest2, N8, L37, L30, hr2⟩ := after2 F7 (news_front N7) (gr_ne hI9 h37 h30 hne hrl) K9 e37 e30 S37 S30
        replace N8 := news_add F7 N8 s9 e9
        dsimp only [List.cons_append] at N8
        have hlq : @LT.lt Nat _ lr q9 := Nat.lt_of_lt_of_le (lt_of_news N7 (.tail _ (.head _))) s9
        have hl9 := lt_of_news N7 (.tail _ (.head _))
        have htl : ∀ p ∈ (news ++ rest) ++ rest2, p.1 ≠ lr := gr_tail hnl hrl hr2 hl9
        have hl0 := lt_of_news N7 (.head _)
        have R37' := R37.step L37
        have R30' := R30.step L30
        dsimp only
        k_steps
        · rename Fr _ _ _ _ => FA
          rename News _ _ _ _ => NA
          simp only [Int.neg_neg] at FA NA
          rw [hgb, ← dn_sq] at FA
          rw [List.push_toArray] at NA
          exact gr_unr FA NA (Nat.ne_of_lt hI9) (Nat.ne_of_lt (Nat.lt_trans h37 hI9)) (Nat.ne_of_lt (Nat.lt_trans h30 hI9)) hnI (fun q hq => Nat.ne_of_gt (hrest q hq)) (fun q hq => Nat.ne_of_gt (Nat.lt_of_lt_of_le hl0 (hr2 q hq)))
            (IH _ _ ⟨_, _, d ++ [e], rem, _, _, dv ++ [_], _, a37, a30, rest ++ rest2, by simp [hdr], by simp [hdl], isGr rfl rfl rfl, rfl, hdv.append (.cons _ _ .nil),
              (fun q hq => (List.mem_append.mp hq).elim (hrest q) fun hq => Nat.lt_of_lt_of_le hl0 (hr2 q hq)), by rw [← List.append_assoc]; exact R37', by rw [← List.append_assoc]; exact R30'⟩)
        · exact hmul _
      · rename Fr _ _ _ _ => F7
        rename News _ _ _ _ => N7
        k_dflt (refine' idm_spec B' F7 X' T' ?kK CH1 CH2 (p37 := q37) (p30 := q30) ?kN ?p1 ?p2 ?h1 ?h2 ?h3 ?h4 ?h5 ?kd ?_; (case kN => exact news_two N7); (case p1 => exact R37.at FG' F7 N7 fun _ hq => .tail _ (.tail _ (.tail _ (.tail _ hq)))); (case p2 => exact R30.at FG' F7 N7 fun _ hq => .tail _ (.tail _ (.tail _ (.tail _ hq)))); (case h1 => (first | lia | omega)); (case h2 => (first | lia | omega)); (case h3 => (first | lia | omega)); (case h4 => (first | lia | omega)); (case h5 => (first | lia | omega)); (case kK => exact rfl); (case kd => ktr_room))
        intro q9 h9 tk9 t9 t9' a37 a30 K9 e37 e30 S37 S30 s9 e9
        rw [greedy_odd.1, hgq, hgo] at e9
        have hrl : ∀ q ∈ rest, @LT.lt Nat _ lr q.1 := fun q hq => Nat.lt_trans hI9 (hrest q hq)
        obtain ⟨F8, rest2, N8, L37, L30, hr2⟩ := after2 F7 (news_front N7) (gr_ne hI9 h37 h30 hne hrl) K9 e37 e30 S37 S30
        replace N8 := news_add F7 N8 s9 e9
        dsimp only [List.cons_append] at N8
        have hlq : @LT.lt Nat _ lr q9 := Nat.lt_of_lt_of_le (lt_of_news N7 (.tail _ (.head _))) s9
        have hl9 := lt_of_news N7 (.tail _ (.head _))
        have htl : ∀ p ∈ (news ++ rest) ++ rest2, p.1 ≠ lr := gr_tail hnl hrl hr2 hl9
        have hl0 := lt_of_news N7 (.head _)
        have R37' := R37.step L37
        have R30' := R30.step L30
        dsimp only
        k_steps
        · rename Fr _ _ _ _ => FA
          rename News _ _ _ _ => NA
          simp only [Int.neg_neg] at FA NA
          rw [hgb, ← dn_sq] at FA
          rw [List.push_toArray] at NA
          exact gr_unr FA NA (Nat.ne_of_lt hI9) (Nat.ne_of_lt (Nat.lt_trans h37 hI9)) (Nat.ne_of_lt (Nat.lt_trans h30 hI9)) hnI (fun q hq => Nat.ne_of_gt (hrest q hq)) (fun q hq => Nat.ne_of_gt (Nat.lt_of_lt_of_le hl0 (hr2 q hq)))
            (IH _ _ ⟨_, _, d ++ [e], rem, _, _, dv ++ [_], _, a37, a30, rest ++ rest2, by simp [hdr], by simp [hdl], isGr rfl rfl rfl, rfl, hdv.append (.cons _ _ .nil),
              (fun q hq => (List.mem_append.mp hq).elim (hrest q) fun hq => Nat.lt_of_lt_of_le hl0 (hr2 q hq)), by rw [← List.append_assoc]; exact R37', by rw [← List.append_assoc]; exact R30'⟩)
        · exact hmul _
  · exact ⟨_, _, [], r, _, _, [], 0, p37, p30, [], rfl, rfl, by rw [dn, Int.one_mul, Int.one_mul, Int.one_mul]; exact isGr rfl rfl rfl, by rw [List.append_nil], .nil, (fun q hq => nomatch hq), by rw [List.append_nil]; exact P37, by rw [List.append_nil]; exact P30⟩
end
end Mine
end PartF3

section PartF4
open PySem PySem.W PyProof.Rows PySem.Calls PySem.Spec
set_option maxRecDepth 100000
namespace Mine
section
variable {prog : Program} {w : World} {A : Around} {E : Value → Shared → Prop} {s : Shared} {h₀ : Heap} {L : Addr} {m : Str → Option Value} {news : List (Addr × Obj)} {x y : Str} {t u : Tok} {Q : Value → Shared → Prop}
theorem two_strs {l : List (Str × Tok)} {a b : Str} (h : l.map (·.1) = [a, b]) : ∃ ta tb, l = [(a, ta), (b, tb)] := by
  cases l with
  | nil => cases h
  | cons p l =>
    cases l with
    | nil => cases h
    | cons q l =>
      cases l with
      | nil => obtain ⟨p1, p2⟩ := p; obtain ⟨q1, q2⟩ := q; cases h; exact ⟨p2, q2, rfl⟩
      | cons r l => cases h
theorem three_strs {l : List (Str × Tok)} {a b c : Str} (h : l.map (·.1) = [a, b, c]) : ∃ ta tb tc, l = [(a, ta), (b, tb), (c, tc)] := by
  cases l with
  | nil => cases h
  | cons p l =>
    rw [List.map_cons] at h
    have h1 := (List.cons.inj h).1
    obtain ⟨tb, tc, rfl⟩ := two_strs (List.cons.inj h).2
    obtain ⟨p1, p2⟩ := p
    cases h1
    exact ⟨p2, tb, tc, rfl⟩
theorem split2 {a b : Str} (hp : Txt.split x y = [a, b]) (F : Fr h₀ L s.heap m) (N : News h₀ L s.heap news) (hy : (y.length == 0) = false) (hsz : x.length + 2 ≤ sizeLine)
    (h : ∀ l ta tb h' k, Fr h₀ L h' m → News h₀ L h' ((l, listOf #[.str a ta, .str b tb] 0) :: news) → (∀ p ∈ news, p.1 < l) → Q (.ref l) { s with heap := h', toks := k }) : wpAny (model prog w) A (call (.builtin "str.split") [.str x t, .str y u]) Q E s := by
  refine splitN1A F N hy (fun l h' k e _ _ _ F' N' => ?_) hsz
  rw [hp] at e
  obtain ⟨ta, tb, rfl⟩ := two_strs e
  exact h _ ta tb h' k F' N' fun p hp => Heap.lt_size (N p hp).1
theorem split3 {a b c : Str} (hp : Txt.split x y = [a, b, c]) (F : Fr h₀ L s.heap m) (N : News h₀ L s.heap news) (hy : (y.length == 0) = false) (hsz : x.length + 2 ≤ sizeLine)
    (h : ∀ l ta tb tc h' k, Fr h₀ L h' m → News h₀ L h' ((l, listOf #[.str a ta, .str b tb, .str c tc] 0) :: news) → (∀ p ∈ news, p.1 < l) → Q (.ref l) { s with heap := h', toks := k }) : wpAny (model prog w) A (call (.builtin "str.split") [.str x t, .str y u]) Q E s := by
  refine splitN1A F N hy (fun l h' k e _ _ _ F' N' => ?_) hsz
  rw [hp] at e
  obtain ⟨ta, tb, tc, rfl⟩ := three_strs e
  exact h _ ta tb tc h' k F' N' fun p hp => Heap.lt_size (N p hp).1
theorem truthy_ne {Q : Bool → Shared → Prop} (h1 : 1 ≤ x.length) (h2 : x.length ≤ 1000) (h : Q true { s with toks := s.toks + 1 + 1 }) : wpAny (model prog w) A (truthy (.str x t)) Q E s := by
  refine P.truthy_str (by (first | lia | omega)) ?_
  have e : ((x.length : Int) != 0) = true := by simp; (first | lia | omega)
  rw [e]; exact h
end
section
variable {w : World} {p : Program} {loose : List Str} {mean : ExcName → Option Value} {mg mb : Str → Option Value}
   {dp un : Nat} {gd : Option (List Code)} {cn : Str} {cs : Scope} {a : Addr} {ccd : Value} {cl : List (Str × Addr)} {outer : List Env} {A₀ : Around} {base h₀ : Heap} {L : Addr} {m : Str → Option Value} {s : Shared} {Q E : Value → Shared → Prop}
set_option maxHeartbeats 8000000 in
/-- _ellipsis_match, two pieces -/
theorem ell2 {want got : Str} {x y : Str} {t1 t2 : Tok}
   (B : Below A₀ base outer h₀) (F : Fr h₀ L s.heap m) (X : (hd.heap_39 w.params).In h₀) (T : Top p loose mean mg mb h₀) (hk : cs.kind = .function)
   (hl1 : want.length ≤ 900) (hl2 : got.length ≤ 900)
   (hoc : (Builtin.Str.occurrences want (Str.ofString "...") 0 want.length 1).isEmpty = false) (hsp : Txt.split want (Str.ofString "...") = [x, y]) (hx : 1 ≤ x.length) (hx2 : x.length ≤ 900) (hy : 1 ≤ y.length) (hy2 : y.length ≤ 900)
   (hdp : dp + 10 < recursionLimit)
   (ret : ∀ h' tk', Kp s.heap h' → Q (.bool (Txt.startswith got x && Txt.endswith got y && decide (x.length + y.length ≤ got.length))) { s with heap := h', toks := tk' }) :
   wpAny (model PySem.Challenge.rw_rw0066_01.row.prog w) (ktrTop dp un gd cn cs L a ccd cl outer) (call (.ref 63) [.str want t1, .str got t2]) Q E s := by
  k_with_none
  k_with "execs cons" => ((with_reducible show wpAny _ _ _ _ _ (Shared.mk _ _ _ (_ + 1) _)); refine Mine.tok_gen fun _ => ?_)
  k_with "exec Assign" => k_fold
  k_with "exec If" => k_fold
  k_with "exec Return some" => k_fold
  k_with "exec For" => k_fold
  k_with "exec Expr" => k_fold
  k_with "exec AugAssign" => k_fold
  k_with "exec Try" => k_fold
  k_with "exec Delete" => k_fold
  k_with "exec Assert" => k_fold
  k_with "exec While" => k_fold
  k_with "eval Call" => k_fold
  k_with "eval Compare" => k_fold
  k_with "eval BinOp" => k_fold
  k_with "eval Tuple" => k_fold
  k_with "eval List" => k_fold
  k_with "isTrue" => k_fold
  k_with "callWith" => k_fold
  k_with "eval Subscript" => k_fold
  k_with "room" => first | exact Mine.room0 (dp := dp) hdp | exact Mine.room1 (dp := dp) hdp rfl
  k_with "lia" => lia
  k_with "truthy str" => (refine truthy_ne (by (first | lia | omega)) (by (first | lia | omega)) ?_)
  k_with "exec For" => ((rename Fr _ _ _ _ => lF'); (with_unfolding_all refine For_invVF lF' rfl rfl ?_))
  revert X; k_fill; intro X
  refine wpAny_call ?_
  k_dflt (refine' tab_def (tl := []) ?k1 ?k2 ?k3 ?kN ?k5 ?kA ?kF ?kK ?k6 ?k7 ?k8 ?k9 ?kB ?_ ?c2 ?c3 ?c4 ?c5; (case kA => exact rfl); (case kF => exact rfl); (case kK => assumption); (case k1 => k_asm); (case k2 => k_asm); (case k3 => k_asm); (case kN => exact News.nil); (case k5 => k_asm); (case k6 => k_is); (case k7 => k_is); (case k8 => ktr_room); (case k9 => exact BindsTo.of_eq rfl); (case c5 => decide); (case kB => exact locs rfl); (case c2 => exact rfl); (case c3 => exact rfl); (case c4 => exact rfl); k_whole)
  intro g' L' h' G' F' N' B' X' T' l' e' st'
  (try dsimp only); (try k_fold)
  k_with "call builtin:str.split" => (k_dflt (refine' split2 hsp ?F ?N (by decide) ?z ?_; (case F => k_asm); (case N => k_asm); (case z => (rw [sizeLine_eq]; (first | lia | omega))); k_whole); intro l' ta' tb' h' k' F' N' l1; (try k_lt l1))
  k_with "pyIter ref" => ((rename Fr _ _ _ _ => lF'); (rename News _ _ _ _ => lN'); (with_unfolding_all refine iter_listUnr (vs := []) (by rfl) lF' lN' (by k_mem) (by rfl) (by rfl) ?_); clear lF' lN'; intro i' l1; (try k_lt l1))
  k_steps
  all_goals (
    rename Fr _ _ _ _ => F9
    have kp : Kp s.heap _ := fun b o q => F9.keep b o (G' b o q List.not_mem_nil)
    first
    | (have hv : (Txt.startswith got x && Txt.endswith got y && decide (x.length + y.length ≤ got.length)) = false := by (clear ret; cases q1 : Txt.startswith got x <;> cases q2 : Txt.endswith got y <;> simp_all <;> (first | lia | omega))
       rw [hv] at ret
       show Q (.bool false) _
       exact ret _ _ kp)
    | (have hv : (Txt.startswith got x && Txt.endswith got y && decide (x.length + y.length ≤ got.length)) = true := by (clear ret; cases q1 : Txt.startswith got x <;> cases q2 : Txt.endswith got y <;> simp_all <;> (first | lia | omega))
       rw [hv] at ret
       show Q (.bool true) _
       exact ret _ _ kp))
end
end Mine
end PartF4

section PartF5
open PySem PySem.W PyProof.Rows PySem.Calls PySem.Spec
set_option maxRecDepth 100000
namespace Mine
section
open PySem.Builtin PySem.Builtin.Str
noncomputable def find4 (x y : Str) (i j : Int) : Int := match occurrences x y (fromIndex x.length i) (min (fromIndex x.length j) x.length) 1 with | k :: _ => (k : Int) | [] => -1
theorem gives_find4 (x y : Str) (i j : Int) (t u v v' : Tok) : Gives («str.find» ⟨[.str x t, .str y u, .int i v, .int j v'], []⟩) (.int (find4 x y i j)) := by
  show Gives (match occurrences x y (fromIndex x.length i) (min (fromIndex x.length j) x.length) 1 with | k :: _ => retInt k | [] => (do rule "str.find.not-found"; retInt (-1))) _
  unfold find4
  cases occurrences x y (fromIndex x.length i) (min (fromIndex x.length j) x.length) 1 with
  | nil => exact .rule (.of_eq rfl)
  | cons k _ => exact .of_eq rfl
theorem call_find4 {prog : Program} {w : World} {A : Around} {E : Value → Shared → Prop} {s : Shared} {x y : Str} {t u v v' : Tok} {i j : Int} {Q : Value → Shared → Prop}
  (hq : Q (.int (find4 x y i j) s.toks) { s with toks := s.toks + 1 }) : wpAny (model prog w) A (call (.builtin "str.find") [.str x t, .str y u, .int i v, .int j v']) Q E s :=
  call_gives F.slot_str_find (typeIs_str _ _ _) F.entry_str_find (F.args_str_find_4 _ _ _ _) (gives_find4 x y i j t u v v') hq
/-- whether the middle piece stands between the ends -/
noncomputable def midIn (got x c y : Str) : Bool := !(occurrences got c x.length (got.length - y.length) 1).isEmpty
theorem find4_mid {got x c y : Str} (h : x.length + y.length ≤ got.length) : (find4 got c x.length ((got.length : Int) - y.length) < 0) ↔ (midIn got x c y = false) := by
  have e1 : fromIndex got.length (x.length : Int) = x.length := by unfold fromIndex; split <;> (first | lia | omega)
  have e2 : fromIndex got.length ((got.length : Int) - y.length) = got.length - y.length := by unfold fromIndex; split <;> (first | lia | omega)
  unfold find4 midIn
  rw [e1, e2, Nat.min_eq_left (Nat.sub_le _ _)]
  cases occurrences got c x.length (got.length - y.length) 1 with
  | nil => simp
  | cons k l => simp
end
section
variable {w : World} {p : Program} {loose : List Str} {mean : ExcName → Option Value} {mg mb : Str → Option Value}
   {dp un : Nat} {gd : Option (List Code)} {cn : Str} {cs : Scope} {a : Addr} {ccd : Value} {cl : List (Str × Addr)} {outer : List Env} {A₀ : Around} {base h₀ : Heap} {L : Addr} {m : Str → Option Value} {s : Shared} {Q E : Value → Shared → Prop}
set_option maxHeartbeats 8000000 in
/-- _ellipsis_match, three pieces -/
theorem ell3 {want got : Str} {x c y : Str} {t1 t2 : Tok}
   (B : Below A₀ base outer h₀) (F : Fr h₀ L s.heap m) (X : (hd.heap_39 w.params).In h₀) (T : Top p loose mean mg mb h₀) (hk : cs.kind = .function)
   (hl1 : want.length ≤ 900) (hl2 : got.length ≤ 900)
   (hoc : (Builtin.Str.occurrences want (Str.ofString "...") 0 want.length 1).isEmpty = false) (hsp : Txt.split want (Str.ofString "...") = [x, c, y]) (hc : 1 ≤ c.length) (hc2 : c.length ≤ 900) (hx : 1 ≤ x.length) (hx2 : x.length ≤ 900) (hy : 1 ≤ y.length) (hy2 : y.length ≤ 900)
   (hdp : dp + 10 < recursionLimit)
   (ret : ∀ h' tk', Kp s.heap h' → Q (.bool (Txt.startswith got x && Txt.endswith got y && decide (x.length + y.length ≤ got.length) && midIn got x c y)) { s with heap := h', toks := tk' }) :
   wpAny (model PySem.Challenge.rw_rw0066_01.row.prog w) (ktrTop dp un gd cn cs L a ccd cl outer) (call (.ref 63) [.str want t1, .str got t2]) Q E s := by
  k_with_none
  k_with "execs cons" => ((with_reducible show wpAny _ _ _ _ _ (Shared.mk _ _ _ (_ + 1) _)); refine Mine.tok_gen fun _ => ?_)
  k_with "exec Assign" => k_fold
  k_with "exec If" => k_fold
  k_with "exec Return some" => k_fold
  k_with "exec For" => k_fold
  k_with "exec Expr" => k_fold
  k_with "exec AugAssign" => k_fold
  k_with "exec Try" => k_fold
  k_with "exec Delete" => k_fold
  k_with "exec Assert" => k_fold
  k_with "exec While" => k_fold
  k_with "eval Call" => k_fold
  k_with "eval Compare" => k_fold
  k_with "eval BinOp" => k_fold
  k_with "eval Tuple" => k_fold
  k_with "eval List" => k_fold
  k_with "isTrue" => k_fold
  k_with "callWith" => k_fold
  k_with "eval Subscript" => k_fold
  k_with "room" => first | exact Mine.room0 (dp := dp) hdp | exact Mine.room1 (dp := dp) hdp rfl
  k_with "lia" => lia
  k_with "truthy str" => (refine truthy_ne (by (first | lia | omega)) (by (first | lia | omega)) ?_)
  k_with "exec For" => ((rename Fr _ _ _ _ => lF'); (with_unfolding_all refine For_invVF lF' rfl rfl ?_))
  k_with "call builtin:str.find" => refine call_find4 ?_
  revert X; k_fill; intro X
  refine wpAny_call ?_
  k_dflt (refine' tab_def (tl := []) ?k1 ?k2 ?k3 ?kN ?k5 ?kA ?kF ?kK ?k6 ?k7 ?k8 ?k9 ?kB ?_ ?c2 ?c3 ?c4 ?c5; (case kA => exact rfl); (case kF => exact rfl); (case kK => assumption); (case k1 => k_asm); (case k2 => k_asm); (case k3 => k_asm); (case kN => exact News.nil); (case k5 => k_asm); (case k6 => k_is); (case k7 => k_is); (case k8 => ktr_room); (case k9 => exact BindsTo.of_eq rfl); (case c5 => decide); (case kB => exact locs rfl); (case c2 => exact rfl); (case c3 => exact rfl); (case c4 => exact rfl); k_whole)
  intro g' L' h' G' F' N' B' X' T' l' e' st'
  (try dsimp only); (try k_fold)
  k_with "call builtin:str.split" => (k_dflt (refine' split3 hsp ?F ?N (by decide) ?z ?_; (case F => k_asm); (case N => k_asm); (case z => (rw [sizeLine_eq]; (first | lia | omega))); k_whole); intro l' ta' tb' tc' h' k' F' N' l1; (try k_lt l1))
  k_with "pyIter ref" => ((rename Fr _ _ _ _ => lF'); (rename News _ _ _ _ => lN'); (with_unfolding_all refine iter_listUnr (vs := [_]) (by rfl) lF' lN' (by k_mem) (by rfl) (by rfl) ?_); clear lF' lN'; intro i' l1; (try k_lt l1))
  k_steps
  all_goals (
    first
    | (have mi : midIn got x c y = false := (find4_mid (by (first | lia | omega))).mp (by assumption))
    | (have mi : midIn got x c y = true := by
        cases e : midIn got x c y with
        | true => rfl
        | false => exact absurd ((find4_mid (by (first | lia | omega))).mpr e) (by assumption))
    | skip
    rename Fr _ _ _ _ => F9
    have kp : Kp s.heap _ := fun b o q => F9.keep b o (G' b o q List.not_mem_nil)
    first
    | (have hv : (Txt.startswith got x && Txt.endswith got y && decide (x.length + y.length ≤ got.length) && midIn got x c y) = false := by (clear ret;  cases q1 : Txt.startswith got x <;> cases q2 : Txt.endswith got y <;> simp_all <;> (first | lia | omega))
       rw [hv] at ret
       show Q (.bool false) _
       exact ret _ _ kp)
    | (have hv : (Txt.startswith got x && Txt.endswith got y && decide (x.length + y.length ≤ got.length) && midIn got x c y) = true := by (clear ret;  cases q1 : Txt.startswith got x <;> cases q2 : Txt.endswith got y <;> simp_all <;> (first | lia | omega))
       rw [hv] at ret
       show Q (.bool true) _
       exact ret _ _ kp))
end
end Mine
end PartF5

section PartF6
open PySem PySem.W PyProof.Rows PySem.Calls PySem.Spec
set_option maxRecDepth 100000
namespace Mine
section
variable {w : World} {p : Program} {loose : List Str} {mean : ExcName → Option Value} {mg mb : Str → Option Value}
   {dp un : Nat} {gd : Option (List Code)} {cn : Str} {cs : Scope} {a : Addr} {ccd : Value} {cl : List (Str × Addr)} {outer : List Env} {A₀ : Around} {base h₀ : Heap} {L : Addr} {m : Str → Option Value} {s : Shared} {Q E : Value → Shared → Prop}
set_option maxHeartbeats 8000000 in
/-- _ellipsis_match, no marker -/
theorem ell1 {want got : Str}  {t1 t2 : Tok}
   (B : Below A₀ base outer h₀) (F : Fr h₀ L s.heap m) (X : (hd.heap_39 w.params).In h₀) (T : Top p loose mean mg mb h₀) (hk : cs.kind = .function)
   (hl1 : want.length ≤ 900) (hl2 : got.length ≤ 900)
   (hoc : (Builtin.Str.occurrences want (Str.ofString "...") 0 want.length 1).isEmpty = true)
   (hdp : dp + 10 < recursionLimit)
   (ret : ∀ h' tk', Kp s.heap h' → Q (.bool (want == got)) { s with heap := h', toks := tk' }) :
   wpAny (model PySem.Challenge.rw_rw0066_01.row.prog w) (ktrTop dp un gd cn cs L a ccd cl outer) (call (.ref 63) [.str want t1, .str got t2]) Q E s := by
  k_with_none
  k_with "execs cons" => ((with_reducible show wpAny _ _ _ _ _ (Shared.mk _ _ _ (_ + 1) _)); refine Mine.tok_gen fun _ => ?_)
  k_with "exec Assign" => k_fold
  k_with "exec If" => k_fold
  k_with "exec Return some" => k_fold
  k_with "exec For" => k_fold
  k_with "exec Expr" => k_fold
  k_with "exec AugAssign" => k_fold
  k_with "exec Try" => k_fold
  k_with "exec Delete" => k_fold
  k_with "exec Assert" => k_fold
  k_with "exec While" => k_fold
  k_with "eval Call" => k_fold
  k_with "eval Compare" => k_fold
  k_with "eval BinOp" => k_fold
  k_with "eval Tuple" => k_fold
  k_with "eval List" => k_fold
  k_with "isTrue" => k_fold
  k_with "callWith" => k_fold
  k_with "eval Subscript" => k_fold
  k_with "room" => first | exact Mine.room0 (dp := dp) hdp | exact Mine.room1 (dp := dp) hdp rfl
  k_with "truthy str" => (refine truthy_ne (by omega) (by omega) ?_)
  k_with "exec For" => ((rename Fr _ _ _ _ => lF'); (with_unfolding_all refine For_invVF lF' rfl rfl ?_))
  revert X; k_fill; intro X
  refine wpAny_call ?_
  k_dflt (refine' tab_def (tl := []) ?k1 ?k2 ?k3 ?kN ?k5 ?kA ?kF ?kK ?k6 ?k7 ?k8 ?k9 ?kB ?_ ?c2 ?c3 ?c4 ?c5; (case kA => exact rfl); (case kF => exact rfl); (case kK => assumption); (case k1 => k_asm); (case k2 => k_asm); (case k3 => k_asm); (case kN => exact News.nil); (case k5 => k_asm); (case k6 => k_is); (case k7 => k_is); (case k8 => ktr_room); (case k9 => exact BindsTo.of_eq rfl); (case c5 => decide); (case kB => exact locs rfl); (case c2 => exact rfl); (case c3 => exact rfl); (case c4 => exact rfl); k_whole)
  intro g' L' h' G' F' N' B' X' T' l' e' st'
  (try dsimp only); (try k_fold)
  k_steps
  all_goals (
    rename Fr _ _ _ _ => F9
    have kp : Kp s.heap _ := fun b o q => F9.keep b o (G' b o q List.not_mem_nil)
    show Q (.bool (want == got)) _
    exact ret _ _ kp)
end
end Mine
end PartF6

section PartL1
open PySem PySem.W PyProof.Rows PySem.Calls PySem.Spec
set_option maxRecDepth 100000
namespace Mine
noncomputable def isLawS : Stmt → Bool
  | .FunctionDef n .. => n == Str.ofString "law"
  | _ => false
/-- the law's body and scope, read off the row's program -/
noncomputable def lawBody : List Stmt := match PySem.Challenge.pw_rw0066_01.main.body.filter isLawS with
  | [.FunctionDef _ _ b _ _ _ _ _ _ _] => b
  | _ => []
noncomputable def lawScope : Scope := match PySem.Challenge.pw_rw0066_01.main.body.filter isLawS with
  | [.FunctionDef _ _ _ _ _ _ s _ _ _] => s
  | _ => { kind := .function, names := [], isGenerator := false, isCoroutine := false }
noncomputable abbrev lawEnv (L fa : Addr) (cd : Value) : Env := envOf (Str.ofString "law") lawScope L fa cd
/-- the frame after the first four rows -/
noncomputable abbrev lawM1 (m₁ : Str → Option Value) (lR : Addr) (mk : Str) (tm : Tok) : Str → Option Value := fun z =>
  if z = Str.ofString "mark" then some (.str mk tm) else if z = Str.ofString "rows" then some (.ref lR) else m₁ z
theorem isLaw1 {m : Str → Option Value} {lR : Addr} {mk : Str} {tm : Tok} (h0 : m (Str.ofString "mark") = some (.str mk tm)) (h1 : m (Str.ofString "rows") = some (.ref lR)) : m = lawM1 m lR mk tm :=
  funext fun _ => mstep h0 (mstep h1 rfl)
noncomputable abbrev lawM2 (m₁ : Str → Option Value) (lR lS lP : Addr) (mk : Str) (tm : Tok) : Str → Option Value := fun z =>
  if z = Str.ofString "replies" then some (.ref lP) else if z = Str.ofString "sums" then some (.ref lS) else if z = Str.ofString "mark" then some (.str mk tm) else if z = Str.ofString "rows" then some (.ref lR) else m₁ z
noncomputable abbrev tupO (x y : Value) : Obj := { cls := .type "tuple", data := .seq #[x, y] }
def IsMark (mk : Str) : Prop := mk = Str.ofString "|" ∨ mk = Str.ofString "!" ∨ mk = Str.ofString "x" ∨ mk = Str.ofString "/"
theorem mark_of (c : Int) : IsMark (Txt.item (Str.ofString "|!x/") (c.fmod 4)) := by
  have h1 : 0 ≤ c.fmod 4 := Int.fmod_nonneg_of_pos _ (by decide)
  have h2 : c.fmod 4 < 4 := Int.fmod_lt_of_pos _ (by decide)
  generalize c.fmod 4 = x at h1 h2
  have : x = 0 ∨ x = 1 ∨ x = 2 ∨ x = 3 := by omega
  rcases this with rfl | rfl | rfl | rfl
  · exact .inl (by decide)
  · exact .inr (.inl (by decide))
  · exact .inr (.inr (.inl (by decide)))
  · exact .inr (.inr (.inr (by decide)))
end Mine
end PartL1

section PartM8
open PySem PySem.W PyProof.Rows PySem.Calls PySem.Spec
set_option maxRecDepth 100000
namespace Mine
section
variable {w : World} {p : Program} {loose : List Str} {mean : ExcName → Option Value} {mg mb : Str → Option Value}
   {dp un : Nat} {gd : Option (List Code)} {cn : Str} {cs : Scope} {a : Addr} {ccd : Value} {A₀ : Around} {h₀ : Heap} {L : Addr} {m : Str → Option Value} {s : Shared} {Q E : Value → Shared → Prop}
/-- int_divmod of nought, in the law's words -/
theorem idm0_law {y : Int} {t1 t2 : Tok} {p37 p30 : Array Value} {news : List (Addr × Obj)}
   (B : Below A₀ h₀ [] h₀) (F : Fr h₀ L s.heap m) (X : (hd.heap_39 w.params).In h₀) (T : Top p loose mean mg mb h₀) (hk : cs.kind = .function)
   (CH1 : CodeHd h₀ 41 37) (CH2 : CodeHd h₀ 34 30)
   (N : News h₀ L s.heap ((37, tabObj p37) :: (30, tabObj p30) :: news)) (hne : ∀ q ∈ news, q.1 ≠ 37 ∧ q.1 ≠ 30) (P37 : PsR h₀ news p37 47 4 digQ) (P30 : PsR h₀ news p30 32 4 intQ)
   (hy : y ≠ 0) (hy2 : - 2 ^ 100 < y) (hy3 : y < 2 ^ 100)
   (hdp : dp + 150 < recursionLimit)
   (ret : ∀ q h' tk' t t' p37' p30' rest, Fr h₀ L h' m → News h₀ L h' ((q, tupO (.int 0 t) (.int 0 t')) :: (37, tabObj p37') :: (30, tabObj p30') :: (news ++ rest)) → PsR h₀ (news ++ rest) p37' 47 4 digQ → PsR h₀ (news ++ rest) p30' 32 4 intQ →
     (@LT.lt Nat _ 37 q ∧ @LT.lt Nat _ 30 q) → (∀ x ∈ news, x.1 < q) → (∀ x ∈ rest, s.heap.objs.size ≤ x.1) → Q (.ref q) { s with heap := h', toks := tk' }) :
   wpAny (model PySem.Challenge.rw_rw0066_01.row.prog w) (ktrTop dp un gd cn cs L a ccd [] []) (call (.ref 56) [.int 0 t1, .int y t2]) Q E s := by
  have N0 : News h₀ L s.heap [(37, tabObj p37), (30, tabObj p30)] := fun x hx => N x (by
    rcases List.mem_cons.mp hx with rfl | hx
    · exact .head _
    · rw [List.mem_singleton.mp hx]; exact .tail _ (.head _))
  refine idm_spec B F X T hk CH1 CH2 N0 (P37.at0 F N fun _ hq => .tail _ (.tail _ hq)) (P30.at0 F N fun _ hq => .tail _ (.tail _ hq)) (by decide) (by decide) hy hy2 hy3 hdp ?_
  intro q9 h9 tk9 t9 t9' a37 a30 K9 e37 e30 S37 S30 s9 e9
  rw [Int.zero_fdiv, Int.zero_fmod] at e9
  obtain ⟨F8, rest, N8, L37, L30, hr2⟩ := after2 F N hne K9 e37 e30 S37 S30
  exact ret q9 h9 tk9 t9 t9' a37 a30 rest F8 (news_add F N8 s9 e9) (P37.step L37) (P30.step L30)
    ⟨Nat.lt_of_lt_of_le (lt_of_news N (.head _)) s9, Nat.lt_of_lt_of_le (lt_of_news N (.tail _ (.head _))) s9⟩ (fun x hx => Nat.lt_of_lt_of_le (Heap.lt_size (N x (.tail _ (.tail _ hx))).1) s9) hr2
end
abbrev Free (l : List (Addr × Obj)) : Prop := ∀ q ∈ l, q.1 ≠ 37 ∧ q.1 ≠ 30
theorem hne_cons {x : Addr × Obj} {l : List (Addr × Obj)} (h1 : x.1 ≠ 37) (h2 : x.1 ≠ 30) (h : Free l) : Free (x :: l) := fun q hq => by
  rcases List.mem_cons.mp hq with rfl | hq
  · exact ⟨h1, h2⟩
  · exact h q hq
theorem hne_app {sz : Nat} {l rest : List (Addr × Obj)} (h : Free l) (hr : ∀ x ∈ rest, @LE.le Nat _ sz x.1) (h1 : 37 < sz) (h2 : 30 < sz) : Free (l ++ rest) := fun q hq => by
  rcases List.mem_append.mp hq with hq | hq
  · exact h q hq
  · exact ⟨Nat.ne_of_gt (Nat.lt_of_lt_of_le h1 (hr q hq)), Nat.ne_of_gt (Nat.lt_of_lt_of_le h2 (hr q hq))⟩
theorem news_rot {h₀ h : Heap} {L : Addr} {x b c : Addr × Obj} {r : List (Addr × Obj)} (N : News h₀ L h (x :: b :: c :: r)) : News h₀ L h (b :: c :: x :: r) := cb_drop N fun q hq => by
  simp only [List.mem_cons] at hq ⊢
  rcases hq with hq | hq | hq | hq <;> simp [hq]
theorem news_dr2 {h₀ h : Heap} {L : Addr} {x b : Addr × Obj} {r : List (Addr × Obj)} (N : News h₀ L h (x :: b :: r)) : News h₀ L h r := cb_drop N fun _ hq => .tail _ (.tail _ hq)
theorem PsR.drop {h₀ : Heap} {x : Addr × Obj} {led : List (Addr × Obj)} {ps : Array Value} {l c : Nat} {q : Str} (P : PsR h₀ (x :: led) ps l c q) (hx : ∀ vs, x.2.data ≠ .fields vs) : PsR h₀ led ps l c q :=
  P.imp id fun ⟨c', e, C⟩ => ⟨c', e, C.imp id fun ⟨oc, hm, I⟩ => ⟨oc, (List.mem_cons.mp hm).resolve_left (fun h => by
    obtain ⟨vs, t, h1, _⟩ := I
    rw [← h] at hx
    exact hx vs h1), I⟩⟩
theorem isLaw2 {m : Str → Option Value} {lR lS lP : Addr} {mk : Str} {tm : Tok} (h0 : m (Str.ofString "replies") = some (.ref lP)) (h1 : m (Str.ofString "sums") = some (.ref lS)) (h2 : m (Str.ofString "mark") = some (.str mk tm)) (h3 : m (Str.ofString "rows") = some (.ref lR)) : m = lawM2 m lR lS lP mk tm :=
  funext fun _ => mstep h0 (mstep h1 (mstep h2 (mstep h3 rfl)))
/-- the objects that stand aside -/
def Aside (lP : Addr) (l : List (Addr × Obj)) : Prop := ∀ q ∈ l, q.1 ≠ 37 ∧ q.1 ≠ 30 ∧ q.1 ≠ lP
theorem nm_small {r : List Int} (h : RowOk r) : 0 ≤ nm r ∧ nm r < 10 ^ 20 ∧ 1 ≤ dn r ∧ dn r < 10 ^ 20 := by
  have h1 := chain_dn h.1 h.2.2
  have h2 : nm r ≤ dn r := by
    cases r with
    | nil => have := h.2.1; simp at this
    | cons e r => exact nm_le h.1.two
  have hb := row_b h
  have h3 := dn_pos fun n hn => (hb n hn).1
  have h4 := nm_nonneg fun n hn => (hb n hn).1
  omega
end Mine
end PartM8

section PartP4
open PySem PySem.W PyProof.Rows PySem.StrLaws PySem.Builtin.Str PySem.NumText
namespace Mine
/-- a text's signs -/
noncomputable abbrev tl (x : Str) : List Nat := x.cps.toList
theorem tl_app (x y : Str) : tl (x ++ y) = tl x ++ tl y := by simp [tl, Str.cps_append]
theorem tl_inj {x y : Str} (h : tl x = tl y) : x = y := ext_toList h
theorem len_tl (x : Str) : x.length = (tl x).length := by simp [tl, Str.length]
theorem tl_mk (c : Nat) : tl ⟨#[c]⟩ = [c] := rfl
/-- a number's signs -/
noncomputable def dg (n : Int) : List Nat := tl (Str.ofString (toString n))
theorem dg_nat (m : Nat) : dg ((m : Nat) : Int) = (Nat.toDigits 10 m).map Char.toNat := KIN.signs_num m
theorem dg_digits {n : Int} (h0 : 0 ≤ n) : ∀ c ∈ dg n, 48 ≤ c ∧ c ≤ 57 := by
  obtain ⟨m, rfl⟩ := Int.eq_ofNat_of_zero_le h0
  intro c hc
  rw [dg_nat] at hc
  obtain ⟨ch, hch, e⟩ := List.mem_map.mp hc
  have r := digit_range (Nat.isDigit_of_mem_toDigits (by decide) (by decide) hch)
  rw [← e]
  exact r
theorem dg_ne {n : Int} (h0 : 0 ≤ n) : dg n ≠ [] := by
  obtain ⟨m, rfl⟩ := Int.eq_ofNat_of_zero_le h0
  rw [dg_nat]
  intro e
  have h := toDigits_len_ge 10 m
  rw [List.map_eq_nil_iff.mp e] at h
  exact absurd h (by decide)
theorem dg_val {n : Int} (h0 : 0 ≤ n) : ((digitsVal (dg n) : Nat) : Int) = n := by
  obtain ⟨m, rfl⟩ := Int.eq_ofNat_of_zero_le h0
  rw [dg_nat, KIN.val_back]
theorem dg_inj {a b : Int} (ha : 0 ≤ a) (hb : 0 ≤ b) (h : dg a = dg b) : a = b := by rw [← dg_val ha, h, dg_val hb]
theorem dg_free {n : Int} (h0 : 0 ≤ n) {c : Nat} (hc : c < 48 ∨ 57 < c) : c ∉ dg n := fun h => by have := dg_digits h0 c h; (first | lia | omega)
/-- an entry's signs -/
noncomputable def entL (k : Int) : List Nat := 32 :: (dg k ++ [32, 47])
theorem tl_ent (k : Int) : tl (ent k) = entL k := by
  unfold ent entL
  rw [tl_app, tl_app]
  show [32] ++ dg k ++ [32, 47] = _
  simp
noncomputable def body (r : List Int) : List Nat := r.flatMap entL
noncomputable def hdL : List Nat := [50, 50, 57, 32, 40, 47]
theorem tl_join : ∀ (l : List Str), tl (Str.join (Str.ofString "") l) = l.flatMap tl
  | [] => rfl
  | [x] => by show tl x = _; simp
  | x :: y :: r => by
    show tl (x ++ Str.ofString "" ++ Str.join (Str.ofString "") (y :: r)) = _
    rw [tl_app, tl_app, tl_join (y :: r)]
    show tl x ++ [] ++ _ = _
    simp
theorem tl_reply (r : List Int) : tl (replyT r) = hdL ++ body r ++ [41] := by
  unfold replyT
  rw [tl_app, tl_app]
  show _ ++ tl (Builtin.Str.glued (Str.ofString "") (r.map ent)) ++ _ = _
  rw [glued_eq_join, tl_join]
  have e : (r.map ent).flatMap tl = body r := by
    unfold body
    rw [List.flatMap_map]
    congr 1
    funext k
    exact tl_ent k
  rw [e]
  rfl
/-- a text by its signs -/
theorem find_char {x : Str} {c : Nat} {a b : List Nat} (h : tl x = a ++ c :: b) (hc : c ∉ a) : Txt.find x ⟨#[c]⟩ = a.length := by
  unfold Txt.find
  have hAt : At x ⟨#[c]⟩ x.length a.length := (subAt_one x c _).mpr (by show (tl x)[_]? = _; rw [h]; simp)
  rcases occ_head x ⟨#[c]⟩ 1 (Nat.le_refl 1) with ⟨_, h1⟩ | ⟨i, r, h1, h2, h3⟩
  · exact absurd hAt (h1 _)
  · rw [h1]
    show (i : Int) = _
    have e : (tl x)[i]? = some c := (subAt_one x c _).mp h2
    have : i = a.length := by
      rcases Nat.lt_trichotomy i a.length with hl | hl | hl
      · rw [h, List.getElem?_append_left hl] at e
        exact absurd (List.mem_of_getElem? e) hc
      · exact hl
      · exact absurd hAt (h3 _ hl)
    rw [this]
theorem fromIx {n k : Nat} (h : k ≤ n) : fromIndex n (k : Int) = k := by unfold fromIndex; split <;> (first | lia | omega)
theorem find3_none {x : Str} {c : Nat} {a b : List Nat} (h : tl x = a ++ b) (hc : c ∉ b) : Txt.find3 x ⟨#[c]⟩ (a.length : Int) = -1 := by
  have hl : a.length ≤ x.length := by rw [len_tl, h]; simp
  rcases find3_spec x c (a.length : Int) with ⟨h1, _⟩ | ⟨k, h1, h2, h3, h4, _⟩
  · exact h1
  · exfalso
    rw [fromIx hl] at h2
    have e := getElem?_of_getD h3 h4
    have e' : (tl x)[k]? = some c := e
    rw [h, List.getElem?_append_right h2] at e'
    exact hc (List.mem_of_getElem? e')
theorem find3_char {x : Str} {c : Nat} {a m b : List Nat} (h : tl x = a ++ (m ++ c :: b)) (hc : c ∉ m) : Txt.find3 x ⟨#[c]⟩ (a.length : Int) = ((a.length + m.length : Nat) : Int) := by
  have hl : a.length ≤ x.length := by rw [len_tl, h]; simp
  have hg : x.cps.getD (a.length + m.length) 0 = c := getD_of_getElem? (by show (tl x)[_]? = _; rw [h]; simp)
  rcases find3_spec x c (a.length : Int) with ⟨_, h1⟩ | ⟨k, h1, h2, h3, h4, h5⟩
  · exact absurd hg (h1 _ (by rw [fromIx hl]; (first | lia | omega)) (by rw [len_tl, h]; simp))
  · rw [h1]
    rw [fromIx hl] at h2 h5
    have e' : (tl x)[k]? = some c := getElem?_of_getD h3 h4
    have : k = a.length + m.length := by
      rcases Nat.lt_trichotomy k (a.length + m.length) with hk | hk | hk
      · rw [h, List.getElem?_append_right h2, List.getElem?_append_left (by (first | lia | omega))] at e'
        exact absurd (List.mem_of_getElem? e') hc
      · exact hk
      · exact absurd hg (h5 _ (by (first | lia | omega)) hk)
    rw [this]
theorem item_tl {x : Str} {i : Int} {a b : List Nat} {c : Nat} (h : tl x = a ++ c :: b) (hi : i = a.length) : Txt.item x i = ⟨#[c]⟩ := by
  have hl : a.length < x.length := by rw [len_tl, h]; simp
  rw [item_at (n := a.length) (by (first | lia | omega)) (by (first | lia | omega)) (by (first | lia | omega)), getD_of_getElem? (x := x) (v := a.length) (c := c) (by show (tl x)[_]? = _; rw [h]; simp)]
theorem slice_tl {x : Str} {i j : Int} {a m b : List Nat} (h : tl x = a ++ (m ++ b)) (hi : i = a.length) (hj : j = ((a.length + m.length : Nat) : Int)) : tl (Txt.slice x (some i) (some j)) = m := by
  subst hi; subst hj
  have hl : a.length + m.length ≤ x.length := by rw [len_tl, h]; simp
  rw [eq_of_beq (slice_closesL (x := x) (by (first | lia | omega)) (by (first | lia | omega)) (by (first | lia | omega)))]
  show ((tl x).drop _).take _ = m
  rw [h]
  have e1 : ((a.length : Nat) : Int).toNat = a.length := rfl
  have e2 : (((a.length + m.length : Nat) : Int) - (a.length : Int)).toNat = m.length := by (first | lia | omega)
  rw [e1, e2, List.drop_left, List.take_left]
theorem slice_to {x : Str} {j : Int} {m b : List Nat} (h : tl x = m ++ b) (hj : j = m.length) : tl (Txt.slice x none (some j)) = m := by
  subst hj
  have hl : m.length ≤ x.length := by rw [len_tl, h]; simp
  rw [eq_of_beq (slice_closes_toL (x := x) (by (first | lia | omega)) (by (first | lia | omega)))]
  show ((tl x).drop 0).take _ = m
  rw [h]
  have e2 : (((m.length : Nat) : Int) - 0).toNat = m.length := by (first | lia | omega)
  rw [e2, List.drop_zero, List.take_left]
theorem slice_neg {x : Str} {k : Nat} {m b : List Nat} (h : tl x = m ++ b) (hk : b.length = k) (h1 : 1 ≤ k) : tl (Txt.slice x none (some (-(k : Int)))) = m := by
  have hl : x.length = m.length + k := by rw [len_tl, h]; simp [hk]
  have e : Txt.slice x none (some (-(k : Int))) = Txt.slice x none (some (-(k : Int) + x.length)) := by
    unfold Txt.slice
    rw [sliceIdx_neg_hi none x.length (by (first | lia | omega)) (by (first | lia | omega))]
  rw [e]
  exact slice_to h (by (first | lia | omega))
/-- a text split by one sign -/
theorem free_join {c : Nat} : ∀ {ps qs : List Str}, ps ≠ [] → qs ≠ [] → (∀ p ∈ ps, c ∉ tl p) → (∀ p ∈ qs, c ∉ tl p) → tl (Str.join ⟨#[c]⟩ ps) = tl (Str.join ⟨#[c]⟩ qs) → ps = qs := by
  have cut : ∀ {a a' b b' : List Nat}, c ∉ a → c ∉ a' → a ++ c :: b = a' ++ c :: b' → a = a' ∧ b = b' := by
    intro a
    induction a with
    | nil =>
      intro a' b b' _ h2 h
      cases a' with
      | nil => simpa using h
      | cons d a' =>
        simp only [List.nil_append, List.cons_append, List.cons.injEq] at h
        exact absurd (by rw [h.1]; exact .head _) h2
    | cons d a ih =>
      intro a' b b' h1 h2 h
      cases a' with
      | nil =>
        simp only [List.nil_append, List.cons_append, List.cons.injEq] at h
        exact absurd (by rw [← h.1]; exact .head _) h1
      | cons d' a' =>
        simp only [List.cons_append, List.cons.injEq] at h
        obtain ⟨e1, e2⟩ := ih (fun hm => h1 (.tail _ hm)) (fun hm => h2 (.tail _ hm)) h.2
        exact ⟨by rw [h.1, e1], e2⟩
  have hj : ∀ (x y : Str) (r : List Str), tl (Str.join ⟨#[c]⟩ (x :: y :: r)) = tl x ++ c :: tl (Str.join ⟨#[c]⟩ (y :: r)) := by
    intro x y r
    show tl (x ++ ⟨#[c]⟩ ++ Str.join ⟨#[c]⟩ (y :: r)) = _
    rw [tl_app, tl_app]
    show tl x ++ [c] ++ _ = _
    simp
  intro ps
  induction ps with
  | nil => intro qs h; exact absurd rfl h
  | cons x ps ih =>
    intro qs _ hq h1 h2 h
    cases qs with
    | nil => exact absurd rfl hq
    | cons y qs =>
      cases ps with
      | nil =>
        cases qs with
        | nil => rw [tl_inj (x := x) (y := y) h]
        | cons z qs =>
          rw [hj] at h
          refine absurd ?_ (h1 x (.head _))
          show c ∈ tl (Str.join ⟨#[c]⟩ [x])
          rw [h]; simp
      | cons w ps =>
        cases qs with
        | nil =>
          rw [hj] at h
          refine absurd ?_ (h2 y (.head _))
          show c ∈ tl (Str.join ⟨#[c]⟩ [y])
          rw [← h]; simp
        | cons z qs =>
          rw [hj, hj] at h
          obtain ⟨e1, e2⟩ := cut (h1 x (.head _)) (h2 y (.head _)) h
          rw [tl_inj e1, ih (by simp) (by simp) (fun p hp => h1 p (.tail _ hp)) (fun p hp => h2 p (.tail _ hp)) e2]
theorem split_ne (x y : Str) : Txt.split x y ≠ [] := by
  unfold Txt.split
  split
  · simp
  · split
    · simp
    · rw [partsBetween_eq]
      obtain ⟨p, r, e⟩ := partsFrom_ne x y.length 0 (occurrences x y 0 x.length (x.length + 1))
      rw [e]; simp
theorem split_char {x : Str} {c : Nat} {ps : List Str} (hne : ps ≠ []) (hf : ∀ p ∈ ps, c ∉ tl p) (h : tl x = tl (Str.join ⟨#[c]⟩ ps)) : Txt.split x ⟨#[c]⟩ = ps :=
  free_join (split_ne _ _) hne (fun p hp => split_free x c p hp) hf (by rw [join_split, h])
/-- a number between blanks reads -/
theorem intText_pad {x : Str} {n : Int} {a b : List Nat} (h0 : 0 ≤ n) (hx : tl x = a ++ (dg n ++ b)) (ha : ∀ c ∈ a, c = 32) (hb : ∀ c ∈ b, c = 32) (hl : (dg n).length ≤ 4300) : PySem.intText? x = some n := by
  have hd := dg_digits h0
  have hn := dg_ne h0
  have hv := dg_val h0
  generalize dg n = ds at *
  have hasc : ∀ c ∈ tl x, c < 128 ∧ c ≠ 0 := by
    intro c hc
    rw [hx] at hc
    rcases List.mem_append.mp hc with hc | hc
    · have := ha c hc; (first | lia | omega)
    · rcases List.mem_append.mp hc with hc | hc
      · have := hd c hc; (first | lia | omega)
      · have := hb c hc; (first | lia | omega)
  have e1 : numTextOf x = tl x := by
    refine if_pos ?_
    rw [← Array.all_toList, List.all_eq_true]
    intro c hc
    exact decide_eq_true (hasc c hc).1
  have e2 : numSeenOf x = tl x := by
    show (numTextOf x).takeWhile _ = _
    rw [e1]
    refine takeWhile_all fun c hc => ?_
    exact bne_iff_ne.mpr (hasc c hc).2
  have bl : ∀ {l r : List Nat}, (∀ c ∈ l, c = 32) → (l ++ r).dropWhile blank = r.dropWhile blank := by
    intro l r hl
    induction l with
    | nil => rfl
    | cons c l ih =>
      rw [List.cons_append, List.dropWhile_cons, if_pos (by rw [hl c (.head _)]; rfl)]
      exact ih fun d hd => hl d (.tail _ hd)
  obtain ⟨c, cs, rfl⟩ : ∃ c cs, ds = c :: cs := List.exists_cons_of_ne_nil hn
  have hc := hd c (.head _)
  have es : sign ((tl x).dropWhile blank) = (false, c :: cs ++ b) := by
    rw [hx, bl ha, List.cons_append, dropWhile_of (by (first | lia | omega))]
    exact sign_of (by (first | lia | omega)) (by (first | lia | omega))
  have ec : core (tl x) = c :: cs := by
    unfold core
    rw [es]
    show ((c :: cs ++ b).reverse.dropWhile blank).reverse = c :: cs
    rw [List.reverse_append, bl (fun d hd => hb d (List.mem_reverse.mp hd)), dropWhile_digits (fun d h' => hd d (List.mem_reverse.mp h')), List.reverse_reverse]
  unfold PySem.intText?
  rw [e1, e2, if_pos (beq_self_eq_true _), ec, es, digits_of hd hn]
  have hsz := push_size (c :: cs) #[]
  have hv2 := push_foldl (c :: cs) #[]
  show (if _ ≤ 4300 then some (worth false _) else none) = _
  rw [if_pos (by rw [hsz]; simp only [Array.size_empty]; (first | lia | omega))]
  unfold worth
  rw [hv2]
  rw [← hv]
  rfl
end Mine
end PartP4

section PartP5
open PySem PySem.W PyProof.Rows PySem.StrLaws PySem.Builtin.Str
namespace Mine
theorem s40 : Str.ofString "(" = ⟨#[40]⟩ := by decide
theorem s41 : Str.ofString ")" = ⟨#[41]⟩ := by decide
theorem reads_top {resp : Str} {a b : List Nat} (h : tl resp = a ++ 40 :: b) (h9 : a.take 3 = [50, 50, 57]) : Txt.slice resp none (some 3) = Str.ofString "229" := by
  refine tl_inj ?_
  have e : a = [50, 50, 57] ++ a.drop 3 := by rw [← h9, List.take_append_drop]
  rw [e, List.append_assoc] at h
  have e := slice_to (j := 3) h rfl
  rw [e]
  decide
theorem reads_noclose {resp : Str} {a m : List Nat} {x : Int} (h : tl resp = a ++ 40 :: m) (h9 : a.take 3 = [50, 50, 57]) (ha : 40 ∉ a) (hm : 41 ∉ m) (hne : m ≠ []) : Reads229 resp x none := by
  have e1 : Txt.find resp (Str.ofString "(") = a.length := by rw [s40]; exact find_char h ha
  have h2 : tl resp = (a ++ [40]) ++ m := by rw [h]; simp
  have e2 : Txt.find3 resp (Str.ofString ")") ((a.length : Int) + 1) = -1 := by
    rw [s41]
    have := find3_none h2 hm
    simpa using this
  have hl : a.length + 1 < resp.length := by
    rw [len_tl, h]
    have := List.length_pos_iff.mpr hne
    simp; (first | lia | omega)
  constructor
  · exact reads_top h h9
  · rw [e1]; (first | lia | omega)
  · rw [e1]; (first | lia | omega)
  · rw [e1, e2]; (first | lia | omega)
  · intro _; rfl
  · intro _ _; rfl
  · intro _ _ _; rfl
  · intro h; rw [e1, e2] at h; exact absurd (by decide) h
theorem reads_mid {resp : Str} {a m b : List Nat} {c d : Nat} {m1 m2 : List Nat} (h : tl resp = a ++ 40 :: (m ++ 41 :: b)) (ha : 40 ∉ a) (hm : 41 ∉ m) (hc : m = c :: m1) (hd : m = m2 ++ [d]) :
    Txt.find resp (Str.ofString "(") = a.length ∧ Txt.find3 resp (Str.ofString ")") ((a.length : Int) + 1) = ((a.length + 1 + m.length : Nat) : Int) ∧ a.length + 1 + m.length < resp.length ∧
    Txt.item resp ((a.length : Int) + 1) = ⟨#[c]⟩ ∧ Txt.item resp (((a.length + 1 + m.length : Nat) : Int) - 1) = ⟨#[d]⟩ ∧ 1 ≤ m.length ∧
    tl (Txt.slice resp (some ((a.length : Int) + 1)) (some ((a.length + 1 + m.length : Nat) : Int))) = m := by
  have h2 : tl resp = (a ++ [40]) ++ (m ++ 41 :: b) := by rw [h]; simp
  refine ⟨?_, ?_, ?_, ?_, ?_, ?_, ?_⟩
  · rw [s40]; exact find_char h ha
  · rw [s41]
    have := find3_char h2 hm
    simpa using this
  · rw [len_tl, h]; simp; (first | lia | omega)
  · refine item_tl (a := a ++ [40]) (b := m1 ++ 41 :: b) (by rw [h, hc]; simp) (by simp)
  · refine item_tl (a := a ++ 40 :: m2) (b := 41 :: b) (by rw [h, hd]; simp) (by rw [hd]; simp; (first | lia | omega))
  · rw [hc]; simp
  · exact slice_tl h2 (by simp) (by simp)
theorem beq_one {c d : Nat} : ((⟨#[c]⟩ : Str) != ⟨#[d]⟩) = (c != d) := by
  by_cases h : c = d
  · subst h; simp
  · have h1 : (⟨#[c]⟩ : Str) ≠ ⟨#[d]⟩ := fun e => h (by have := congrArg tl e; simpa [tl] using this)
    rw [bne_iff_ne.mpr h1, bne_iff_ne.mpr h]
theorem reads_parted {resp : Str} {a m b : List Nat} {c d : Nat} {m1 m2 : List Nat} {x : Int} (h : tl resp = a ++ 40 :: (m ++ 41 :: b)) (h9 : a.take 3 = [50, 50, 57]) (ha : 40 ∉ a) (hm : 41 ∉ m) (hc : m = c :: m1) (hd : m = m2 ++ [d]) (hcd : c ≠ d) : Reads229 resp x none := by
  obtain ⟨e1, e2, hl, i1, i2, h1, _⟩ := reads_mid h ha hm hc hd
  constructor
  · exact reads_top h h9
  · rw [e1]; (first | lia | omega)
  · rw [e1]; (first | lia | omega)
  · rw [e1, e2]; (first | lia | omega)
  · intro _; rfl
  · intro _ _; rfl
  · intro _ _ _; rfl
  · intro _ hh
    rw [e1, e2, i1, i2, beq_one] at hh
    exact absurd hh (by simp [hcd])
theorem reads_split {resp : Str} {a m b : List Nat} {c : Nat} {m1 m2 : List Nat} {x : Int} {res : Option Int} {ps : List Str} (h : tl resp = a ++ 40 :: (m ++ 41 :: b)) (h9 : a.take 3 = [50, 50, 57]) (ha : 40 ∉ a) (hm : 41 ∉ m) (hc : m = c :: m1) (hd : m = m2 ++ [c])
    (hne : ps ≠ []) (hf : ∀ p ∈ ps, c ∉ tl p) (hj : tl (Str.join ⟨#[c]⟩ ps) = m) (hno : ps.length ≠ 5 → res = none) (hyes : ps.length = 5 → ∃ y, ps[3]? = some y ∧ PySem.intText? y = some x ∧ y.length ≤ 640 ∧ res = some x) : Reads229 resp x res := by
  obtain ⟨e1, e2, hl, i1, i2, h1, hs⟩ := reads_mid h ha hm hc hd
  have sp : Txt.split (Txt.slice resp (some ((a.length : Int) + 1)) (some ((a.length + 1 + m.length : Nat) : Int))) ⟨#[c]⟩ = ps := split_char hne hf (by rw [hs, hj])
  constructor
  · exact reads_top h h9
  · rw [e1]; (first | lia | omega)
  · rw [e1]; (first | lia | omega)
  · rw [e1, e2]; (first | lia | omega)
  · rw [e1, e2]; intro h; (first | lia | omega)
  · rw [e1, e2, i1, i2, beq_one]; intro _ hh; simp at hh
  · rw [e1, e2, i1, i2, sp]; intro _ _ hh; exact hno hh
  · rw [e1, e2, i1, i2, sp]; intro _ _ hh; exact hyes hh
/-- a reply's pieces -/
noncomputable def pc (k : Int) : Str := ⟨(32 :: (dg k ++ [32])).toArray⟩
theorem tl_pc (k : Int) : tl (pc k) = 32 :: (dg k ++ [32]) := rfl
theorem tl_jc {c : Nat} (x y : Str) (r : List Str) : tl (Str.join ⟨#[c]⟩ (x :: y :: r)) = tl x ++ c :: tl (Str.join ⟨#[c]⟩ (y :: r)) := by
  show tl (x ++ ⟨#[c]⟩ ++ Str.join ⟨#[c]⟩ (y :: r)) = _
  rw [tl_app, tl_app]
  show tl x ++ [c] ++ _ = _
  simp
theorem body_cons (k : Int) (r : List Int) : body (k :: r) = 32 :: (dg k ++ 32 :: 47 :: body r) := by simp [body, entL]
theorem tl_pcs : ∀ (r : List Int) (x : Str), tl (Str.join ⟨#[47]⟩ (x :: (r.map pc ++ [Str.empty]))) = tl x ++ 47 :: body r
  | [], x => by
    show tl (Str.join ⟨#[47]⟩ [x, Str.empty]) = _
    rw [tl_jc]; rfl
  | k :: r, x => by
    rw [List.map_cons, List.cons_append, tl_jc, tl_pcs r (pc k), body_cons, tl_pc]
    simp
theorem body_free {r : List Int} (hr : ∀ n ∈ r, 0 ≤ n) {c : Nat} (h1 : c ≠ 32) (h2 : c ≠ 47) (h3 : c < 48 ∨ 57 < c) : c ∉ body r := by
  intro h
  obtain ⟨k, hk, hc⟩ := List.mem_flatMap.mp h
  simp only [entL, List.mem_cons, List.mem_append, List.not_mem_nil, or_false] at hc
  rcases hc with h | h | h | h
  · exact h1 h
  · exact dg_free (hr k hk) h3 h
  · exact h1 h
  · exact h2 h
theorem body_end {r : List Int} (h : r ≠ []) : ∃ z, body r = z ++ [32, 47] ∧ (∀ c ∈ z, c ∈ body r) := by
  obtain ⟨s, k, rfl⟩ : ∃ s k, r = s ++ [k] := ⟨r.dropLast, r.getLast h, (List.dropLast_concat_getLast h).symm⟩
  have e : body (s ++ [k]) = (body s ++ 32 :: dg k) ++ [32, 47] := by
    simp only [body, List.flatMap_append, List.flatMap_cons, List.flatMap_nil, entL, List.append_nil]
    simp
  exact ⟨_, e, fun c hc => by rw [e]; exact List.mem_append_left _ hc⟩
theorem row_nn {r : List Int} (h : RowOk r) : ∀ n ∈ r, 0 ≤ n := fun n hn => by have := row_b h n hn; (first | lia | omega)
theorem row_ne {r : List Int} (h : RowOk r) : r ≠ [] := fun e => by have := h.2.1; rw [e] at this; simp at this
theorem dg_len {n : Int} (h0 : 0 ≤ n) (h : n < 10 ^ 20) : (dg n).length ≤ 20 := by
  have := num_len h0 h
  rw [len_tl] at this
  exact this
theorem small20 {n : Int} (h : n ≤ 400000) : n < 10 ^ 20 := by (first | lia | omega)
theorem reply_reads {r : List Int} (h : RowOk r) : Reads229 (replyT r) (r.getD 2 0) (if r.length = 3 then some (r.getD 2 0) else none) := by
  have hn := row_nn h
  obtain ⟨z, hz, _⟩ := body_end (row_ne h)
  refine reads_split (a := [50, 50, 57, 32]) (m := 47 :: body r) (b := []) (c := 47) (m1 := body r) (m2 := 47 :: (z ++ [32])) (ps := Str.empty :: (r.map pc ++ [Str.empty])) ?_ rfl (by decide) ?_ rfl ?_ (by simp) ?_ ?_ ?_ ?_
  · rw [tl_reply]; simp [hdL]
  · intro h
    rcases List.mem_cons.mp h with h | h
    · exact absurd h (by decide)
    · exact body_free hn (by decide) (by decide) (by decide) h
  · rw [hz]; simp
  · intro p hp
    simp only [List.mem_cons, List.mem_append, List.mem_map, List.not_mem_nil, or_false] at hp
    rcases hp with rfl | ⟨k, hk, rfl⟩ | rfl
    · exact List.not_mem_nil
    · rw [tl_pc]
      intro hc
      simp only [List.mem_cons, List.mem_append, List.not_mem_nil, or_false] at hc
      rcases hc with h | h | h
      · exact absurd h (by decide)
      · exact dg_free (hn k hk) (by decide) h
      · exact absurd h (by decide)
    · exact List.not_mem_nil
  · rw [tl_pcs]; rfl
  · intro h5
    refine if_neg fun h3 => h5 ?_
    simp [h3]
  · intro h5
    have h3 : r.length = 3 := by simp at h5; exact h5
    have h2 : 2 < r.length := by (first | lia | omega)
    refine ⟨pc (r.getD 2 0), ?_, ?_, ?_, if_pos h3⟩
    · rw [List.getElem?_cons_succ, List.getElem?_append_left (by simp; (first | lia | omega)), List.getElem?_map]
      simp [List.getD_eq_getElem?_getD, List.getElem?_eq_getElem h2]
    all_goals
      have hm : r.getD 2 0 ∈ r := by rw [List.getD_eq_getElem?_getD, List.getElem?_eq_getElem h2]; exact List.getElem_mem h2
      have hb := row_b h _ hm
      generalize r.getD 2 0 = n at hb
      have hl := dg_len (n := n) (by (first | lia | omega)) (small20 hb.2)
    · exact intText_pad (a := [32]) (b := [32]) (by (first | lia | omega)) (by rw [tl_pc]; rfl) (by decide) (by decide) (by (first | lia | omega))
    · rw [len_tl, tl_pc]; simp; (first | lia | omega)
theorem reply_dot {r : List Int} (h : RowOk r) : tl (Txt.slice (replyT r) none (some (-1)) ++ Str.ofString ".") = hdL ++ body r ++ [46] := by
  have e : tl (Txt.slice (replyT r) none (some (-1))) = hdL ++ body r := slice_neg (k := 1) (m := hdL ++ body r) (b := [41]) (tl_reply r) rfl (Nat.le_refl _)
  rw [tl_app, e]
  rfl
theorem reply_dotReads {r : List Int} (h : RowOk r) : Reads229 (Txt.slice (replyT r) none (some (-1)) ++ Str.ofString ".") 0 none := by
  refine reads_noclose (a := [50, 50, 57, 32]) (m := 47 :: (body r ++ [46])) (by rw [reply_dot h]; simp [hdL]) rfl (by decide) ?_ (by simp)
  intro hc
  simp only [List.mem_cons, List.mem_append, List.not_mem_nil, or_false] at hc
  rcases hc with hc | hc | hc
  · exact absurd hc (by decide)
  · exact body_free (row_nn h) (by decide) (by decide) (by decide) hc
  · exact absurd hc (by decide)
/-- a reply without its last two signs -/
theorem reply_cut {r : List Int} {z : List Nat} (hz : body r = z ++ [32, 47]) : tl (Txt.slice (replyT r) none (some (-2))) = hdL ++ (z ++ [32]) :=
  slice_neg (k := 2) (b := [47, 41]) (by rw [tl_reply, hz]; simp) rfl (by decide)
theorem reply_cutReads {r : List Int} (h : RowOk r) : Reads229 (Txt.slice (replyT r) none (some (-2)) ++ Str.ofString ")") 0 none := by
  obtain ⟨z, hz, hzm⟩ := body_end (row_ne h)
  refine reads_parted (a := [50, 50, 57, 32]) (m := 47 :: (z ++ [32])) (b := []) (c := 47) (d := 32) (m1 := z ++ [32]) (m2 := 47 :: z) ?_ rfl (by decide) ?_ rfl (by simp) (by decide)
  · rw [tl_app, reply_cut hz]
    show _ ++ [41] = _
    simp [hdL]
  · intro hc
    simp only [List.mem_cons, List.mem_append, List.not_mem_nil, or_false] at hc
    rcases hc with hc | hc | hc
    · exact absurd hc (by decide)
    · exact body_free (row_nn h) (by decide) (by decide) (by decide) (hzm _ hc)
    · exact absurd hc (by decide)
theorem body_len : ∀ {r : List Int}, (∀ n ∈ r, 0 ≤ n ∧ n ≤ 400000) → (body r).length ≤ 23 * r.length
  | [], _ => Nat.le_refl _
  | k :: r, h => by
    have h1 := h k (.head _)
    have h2 := body_len fun n hn => h n (.tail _ hn)
    have h3 := dg_len (n := k) h1.1 (small20 h1.2)
    rw [body_cons]
    simp only [List.length_cons, List.length_append]
    (first | lia | omega)
theorem row_body_len {r : List Int} (h : RowOk r) : (body r).length ≤ 92 := by
  have := body_len (r := r) fun n hn => by have := row_b h n hn; (first | lia | omega)
  have := h.2.2
  (first | lia | omega)
theorem reply_len {r : List Int} (h : RowOk r) : (replyT r).length ≤ 900 := by
  rw [len_tl, tl_reply]
  have := row_body_len h
  simp [hdL]; (first | lia | omega)
theorem reply_len3 {r : List Int} (h : RowOk r) : (Txt.slice (replyT r) none (some (-1)) ++ Str.ofString ".").length ≤ 1000 := by
  rw [len_tl, reply_dot h]
  have := row_body_len h
  simp [hdL]; (first | lia | omega)
theorem reply_len4 {r : List Int} (h : RowOk r) : (Txt.slice (replyT r) none (some (-2)) ++ Str.ofString ")").length ≤ 1000 := by
  obtain ⟨z, hz, hzm⟩ := body_end (row_ne h)
  have h1 := row_body_len h
  rw [hz] at h1
  rw [len_tl, tl_app, reply_cut hz]
  show (_ ++ [41]).length ≤ _
  simp [hdL] at h1 ⊢; (first | lia | omega)
theorem mark_tl {mk : Str} (h : IsMark mk) : ∃ c, tl mk = [c] ∧ (c < 48 ∨ 57 < c) ∧ c ≠ 41 ∧ c ≠ 40 ∧ tl (Txt.mul mk 3) = [c, c, c] := by
  rcases h with rfl | rfl | rfl | rfl
  · exact ⟨124, by decide, by decide, by decide, by decide, by decide⟩
  · exact ⟨33, by decide, by decide, by decide, by decide, by decide⟩
  · exact ⟨120, by decide, by decide, by decide, by decide, by decide⟩
  · exact ⟨47, by decide, by decide, by decide, by decide, by decide⟩
theorem mark_len {mk : Str} (h : IsMark mk) : mk.length = 1 := by
  obtain ⟨c, h1, _⟩ := mark_tl h
  rw [len_tl, h1]; rfl
theorem port_reads {mk : Str} (hm : IsMark mk) {n : Int} (h0 : 0 ≤ n) (h : n < 10 ^ 20) : Reads229 (portT mk n) n (some n) := by
  obtain ⟨c, h1, h2, h3, h4, h5⟩ := mark_tl hm
  have hl := dg_len h0 h
  refine reads_split (a := [50, 50, 57, 32, 69, 110, 116, 101, 114, 105, 110, 103, 32]) (m := c :: c :: c :: (dg n ++ [c])) (b := []) (c := c) (m1 := c :: c :: (dg n ++ [c])) (m2 := c :: c :: c :: dg n)
    (ps := [Str.empty, Str.empty, Str.empty, Str.ofString (toString n), Str.empty]) ?_ rfl (by decide) ?_ rfl (by simp) (by simp) ?_ ?_ ?_ ?_
  · unfold portT
    rw [tl_app, tl_app, tl_app, tl_app, h1, h5]
    show [50, 50, 57, 32, 69, 110, 116, 101, 114, 105, 110, 103, 32, 40] ++ [c, c, c] ++ dg n ++ [c] ++ [41] = _
    simp
  · intro hc
    simp only [List.mem_cons, List.mem_append, List.not_mem_nil, or_false] at hc
    rcases hc with hc | hc | hc | hc | hc
    · exact h3 hc.symm
    · exact h3 hc.symm
    · exact h3 hc.symm
    · exact dg_free h0 (by decide) hc
    · exact h3 hc.symm
  · intro p hp
    simp only [List.mem_cons, List.not_mem_nil, or_false] at hp
    rcases hp with rfl | rfl | rfl | rfl | rfl
    · exact List.not_mem_nil
    · exact List.not_mem_nil
    · exact List.not_mem_nil
    · exact dg_free h0 h2
    · exact List.not_mem_nil
  · rw [tl_jc, tl_jc, tl_jc, tl_jc]
    show [] ++ c :: ([] ++ c :: ([] ++ c :: (dg n ++ c :: []))) = _
    simp
  · intro h5; exact absurd rfl h5
  · intro _
    exact ⟨_, rfl, intText_pad (a := []) (b := []) h0 (by show dg n = _; simp) (by simp) (by simp) (by (first | lia | omega)), by rw [len_tl]; show (dg n).length ≤ _; (first | lia | omega), rfl⟩
end Mine
end PartP5

section PartP6
open PySem PySem.W PyProof.Rows PySem.StrLaws PySem.Builtin.Str
namespace Mine
noncomputable abbrev dots : Str := Str.ofString "..."
theorem tl_dots : tl dots = [46, 46, 46] := by decide
theorem len_dots : dots.length = 3 := by decide
theorem take3_drop {l : List Nat} {i : Nat} {a b c : Nat} : (l.drop i).take 3 = [a, b, c] ↔ l[i]? = some a ∧ l[i + 1]? = some b ∧ l[i + 2]? = some c := by
  have e0 : l[i]? = (l.drop i)[0]? := by rw [List.getElem?_drop]; rfl
  have e1 : l[i + 1]? = (l.drop i)[1]? := by rw [List.getElem?_drop]
  have e2 : l[i + 2]? = (l.drop i)[2]? := by rw [List.getElem?_drop]
  rw [e0, e1, e2]
  generalize l.drop i = d
  match d with
  | [] => simp
  | [x] => simp
  | [x, y] => simp
  | x :: y :: z :: r => simp
theorem at_dots {x : Str} {i : Nat} : At x dots x.length i ↔ (tl x)[i]? = some 46 ∧ (tl x)[i + 1]? = some 46 ∧ (tl x)[i + 2]? = some 46 := by
  unfold At
  rw [subAt_eq, len_dots, beq_iff_eq]
  show i + 3 ≤ x.length ∧ ((tl x).drop i).take 3 = tl dots ↔ _
  rw [tl_dots, take3_drop]
  constructor
  · exact fun h => h.2
  · intro h
    refine ⟨?_, h⟩
    obtain ⟨hlt, _⟩ := List.getElem?_eq_some_iff.mp h.2.2
    rw [len_tl]
    (first | lia | omega)
theorem kind_dots (x : Str) : ¬ Builtin.Str.strKind x < Builtin.Str.strKind dots := by
  have e : Builtin.Str.strKind dots = 1 := by decide +kernel
  rw [e]
  unfold Builtin.Str.strKind
  split
  · (first | lia | omega)
  · split <;> (first | lia | omega)
theorem strSub_tl {x : Str} {i j : Nat} {a m b : List Nat} (h : tl x = a ++ (m ++ b)) (hi : i = a.length) (hj : j = a.length + m.length) : tl (strSub x i j) = m := by
  subst hi; subst hj
  show (strSub x _ _).cps.toList = m
  rw [strSub_toList]
  show ((tl x).drop _).take _ = m
  rw [h, List.drop_left, Nat.add_sub_cancel_left, List.take_left]
theorem occ_some {x : Str} {i : Nat} (h : At x dots x.length i) : (occurrences x dots 0 x.length 1).isEmpty = false := by
  have := (found_iff x dots).mpr ⟨i, h⟩
  simpa using this
theorem occ_no {x : Str} (h : 46 ∉ tl x) : (occurrences x dots 0 x.length 1).isEmpty = true := by
  cases e : (occurrences x dots 0 x.length 1).isEmpty with
  | true => rfl
  | false =>
    obtain ⟨i, hi⟩ := (found_iff x dots).mp (by rw [e]; rfl)
    exact absurd (List.mem_of_getElem? (at_dots.mp hi).1) h
theorem split_two {x A B : Str} (h : tl x = tl A ++ ([46, 46, 46] ++ tl B)) (hA : 46 ∉ tl A) (hB : 46 ∉ tl B) : (occurrences x dots 0 x.length 1).isEmpty = false ∧ Txt.split x dots = [A, B] := by
  have hat : ∀ i, At x dots x.length i ↔ i = (tl A).length := by
    intro i
    rw [at_dots]
    constructor
    · rintro ⟨h1, _, h3⟩
      have g1 : (tl A).length ≤ i := by
        refine Nat.le_of_not_lt fun hl => ?_
        rw [h, List.getElem?_append_left hl] at h1
        exact hA (List.mem_of_getElem? h1)
      have g2 : i + 2 < (tl A).length + 3 := by
        refine Nat.lt_of_not_le fun hl => ?_
        rw [h, List.getElem?_append_right (by (first | lia | omega)), List.getElem?_append_right (by show 3 ≤ _; (first | lia | omega))] at h3
        exact hB (List.mem_of_getElem? h3)
      (first | lia | omega)
    · rintro rfl
      rw [h]
      refine ⟨?_, ?_, ?_⟩ <;> rw [List.getElem?_append_right (by (first | lia | omega))] <;> simp
  have h0 := (hat _).mpr rfl
  refine ⟨occ_some h0, ?_⟩
  have ho : occurrences x dots 0 x.length (x.length + 1) = [(tl A).length] := by
    obtain ⟨f, hG, hn⟩ := occ_tight x dots (by decide)
    generalize occurrences x dots 0 x.length (x.length + 1) = cuts at hG
    cases cuts with
    | nil =>
      have e : f = 0 := hG
      exact absurd h0 (hn _ (by (first | lia | omega)))
    | cons c r =>
      have hc := (hat c).mp hG.2.1
      cases r with
      | nil => rw [hc]
      | cons d r =>
        have h1 := hG.2.2.2.1
        have h2 := (hat d).mp hG.2.2.2.2.1
        rw [len_dots] at h1
        (first | lia | omega)
  unfold Txt.split
  have hl : (decide (x.length < dots.length) || decide (Builtin.Str.strKind x < Builtin.Str.strKind dots)) = false := by
    rw [decide_eq_false (kind_dots x), Bool.or_false]
    have := h0.1
    exact decide_eq_false (by (first | lia | omega))
  rw [hl, ho, partsBetween_eq]
  show [strSub x 0 _, strSub x _ x.length] = _
  have e1 : strSub x 0 (tl A).length = A := tl_inj (strSub_tl (a := []) (m := tl A) (b := [46, 46, 46] ++ tl B) (by rw [h]; simp) rfl (by simp))
  have e2 : strSub x ((tl A).length + dots.length) x.length = B := tl_inj (strSub_tl (a := tl A ++ [46, 46, 46]) (m := tl B) (b := []) (by rw [h]; simp) (by rw [len_dots]; simp) (by rw [len_tl, h]; simp; (first | lia | omega)))
  rw [e1, e2]
theorem get_app {P R : List Nat} (j : Nat) : (P ++ R)[P.length + j]? = R[j]? := by
  rw [List.getElem?_append_right (Nat.le_add_right _ _), Nat.add_sub_cancel_left]
theorem no_dot_lt {P R : List Nat} {i c : Nat} (hP : c ∉ P) (h : (P ++ R)[i]? = some c) : ∃ j, i = P.length + j ∧ R[j]? = some c := by
  rcases Nat.lt_or_ge i P.length with l | l
  · rw [List.getElem?_append_left l] at h
    exact absurd (List.mem_of_getElem? h) hP
  · exact ⟨i - P.length, (Nat.add_sub_cancel' l).symm, by rw [List.getElem?_append_right l] at h; exact h⟩
theorem at_here {x : Str} {P Q : List Nat} (h : tl x = P ++ (46 :: 46 :: 46 :: Q)) : At x dots x.length P.length :=
  at_dots.mpr (by rw [h]; exact ⟨get_app 0, get_app 1, get_app 2⟩)
theorem at_back {x : Str} {P R : List Nat} {i : Nat} (h : tl x = P ++ R) (hP : 46 ∉ P) (hi : At x dots x.length i) : ∃ j, i = P.length + j ∧ R[j]? = some 46 ∧ R[j + 1]? = some 46 ∧ R[j + 2]? = some 46 := by
  obtain ⟨h1, h2, h3⟩ := at_dots.mp hi
  rw [h] at h1 h2 h3
  obtain ⟨j, rfl, hj⟩ := no_dot_lt hP h1
  exact ⟨j, rfl, hj, (get_app (j + 1)).symm.trans h2, (get_app (j + 2)).symm.trans h3⟩
theorem three_ats {x : Str} {A B C : List Nat} (h : tl x = A ++ (46 :: 46 :: 46 :: (B ++ (46 :: 46 :: 46 :: C)))) (hA : 46 ∉ A) (hB : 46 ∉ B) (hC : 46 ∉ C) (hb : B ≠ []) {i : Nat} (hi : At x dots x.length i) : i = A.length ∨ i = A.length + 3 + B.length := by
  obtain ⟨j, rfl, h1, h2, h3⟩ := at_back h hA hi
  have hB0 : (B ++ (46 :: 46 :: 46 :: C))[0]? ≠ some 46 := by
    cases B with
    | nil => exact absurd rfl hb
    | cons b B => exact fun e => hB (by cases e; exact .head _)
  match j with
  | 0 => exact .inl rfl
  | 1 => exact absurd h3 hB0
  | 2 => exact absurd h2 hB0
  | j + 3 =>
    obtain ⟨m, rfl, g1⟩ := no_dot_lt hB (show (B ++ (46 :: 46 :: 46 :: C))[j]? = some 46 from h1)
    match m with
    | 0 => exact .inr (by rw [Nat.add_zero, Nat.add_assoc, Nat.add_comm 3])
    | m + 1 => exact absurd (List.mem_of_getElem? (show C[m]? = some 46 from (get_app (P := B) (R := 46 :: 46 :: 46 :: C) (m + 3)).symm.trans h3)) hC
theorem split_three {x A B C : Str} (h : tl x = tl A ++ ([46, 46, 46] ++ (tl B ++ ([46, 46, 46] ++ tl C)))) (hA : 46 ∉ tl A) (hB : 46 ∉ tl B) (hC : 46 ∉ tl C) (hb : tl B ≠ []) : (occurrences x dots 0 x.length 1).isEmpty = false ∧ Txt.split x dots = [A, B, C] := by
  have hbl := List.length_pos_iff.mpr hb
  have e9 : (tl A ++ 46 :: 46 :: 46 :: tl B).length = (tl A).length + 3 + (tl B).length := by
    rw [List.length_append]; show (tl A).length + ((tl B).length + 3) = _; rw [Nat.add_comm (tl B).length 3, Nat.add_assoc]
  have hat : ∀ i, At x dots x.length i ↔ i = (tl A).length ∨ i = (tl A).length + 3 + (tl B).length := fun i =>
    ⟨three_ats h hA hB hC hb, fun hi => by
      rcases hi with rfl | rfl
      · exact at_here h
      · rw [← e9]
        exact at_here (Q := tl C) (by rw [h, List.append_assoc]; rfl)⟩
  have h0 := (hat _).mpr (.inl rfl)
  have h9 := (hat _).mpr (.inr rfl)
  refine ⟨occ_some h0, ?_⟩
  have ho : occurrences x dots 0 x.length (x.length + 1) = [(tl A).length, (tl A).length + 3 + (tl B).length] := by
    obtain ⟨f, hG, hn⟩ := occ_tight x dots (by decide)
    generalize occurrences x dots 0 x.length (x.length + 1) = cuts at hG
    cases cuts with
    | nil =>
      have e : f = 0 := hG
      exact absurd h0 (hn _ (by (first | lia | omega)))
    | cons c r =>
      have hc : c = (tl A).length := by
        rcases (hat c).mp hG.2.1 with e | e
        · exact e
        · exact absurd h0 (hG.2.2.1 _ (Nat.zero_le _) (by (first | lia | omega)))
      subst hc
      have hr := hG.2.2.2
      rw [len_dots] at hr
      cases r with
      | nil =>
        have e : f = (tl A).length + 3 := hr
        exact absurd h9 (hn _ (by (first | lia | omega)))
      | cons d r =>
        have hd : d = (tl A).length + 3 + (tl B).length := by
          rcases (hat d).mp hr.2.1 with e | e
          · have := hr.1; (first | lia | omega)
          · exact e
        subst hd
        have hs := hr.2.2.2
        rw [len_dots] at hs
        cases r with
        | nil => rfl
        | cons g r =>
          have h1 := hs.1
          have h2 := (hat g).mp hs.2.1
          (first | lia | omega)
  unfold Txt.split
  have hl : (decide (x.length < dots.length) || decide (Builtin.Str.strKind x < Builtin.Str.strKind dots)) = false := by
    rw [decide_eq_false (kind_dots x), Bool.or_false]
    have := h0.1
    exact decide_eq_false (by (first | lia | omega))
  rw [hl, ho, partsBetween_eq]
  show [strSub x 0 _, strSub x _ _, strSub x _ x.length] = _
  have e1 : strSub x 0 (tl A).length = A := tl_inj (strSub_tl (a := []) (m := tl A) (b := _) (by rw [h]; rfl) rfl (by simp))
  have e2 : strSub x ((tl A).length + dots.length) ((tl A).length + 3 + (tl B).length) = B := tl_inj (strSub_tl (a := tl A ++ [46, 46, 46]) (m := tl B) (b := [46, 46, 46] ++ tl C) (by rw [h]; simp) (by rw [len_dots]; simp) (by simp))
  have e3 : strSub x ((tl A).length + 3 + (tl B).length + dots.length) x.length = C := tl_inj (strSub_tl (a := tl A ++ ([46, 46, 46] ++ (tl B ++ [46, 46, 46]))) (m := tl C) (b := []) (by rw [h]; simp) (by rw [len_dots]; simp; (first | lia | omega)) (by rw [len_tl, h]; simp; (first | lia | omega)))
  rw [e1, e2, e3]
theorem sw_iff {x y : Str} : Txt.startswith x y = true ↔ tl y <+: tl x := by
  unfold Txt.startswith
  rw [Bool.and_eq_true, decide_eq_true_eq, subAt_eq, beq_iff_eq, List.drop_zero]
  show _ ∧ (tl x).take _ = tl y ↔ _
  rw [len_tl x, len_tl y]
  constructor
  · rintro ⟨_, h⟩; rw [← h]; exact List.take_prefix _ _
  · intro h
    exact ⟨by have := h.length_le; (first | lia | omega), (List.prefix_iff_eq_take.mp h).symm⟩
theorem ew_app {x y : Str} {a : List Nat} (h : tl x = a ++ tl y) : Txt.endswith x y = true := by
  unfold Txt.endswith
  rw [Bool.and_eq_true, decide_eq_true_eq, subAt_eq, beq_iff_eq]
  rw [len_tl x, len_tl y]
  refine ⟨by rw [h]; simp, ?_⟩
  show ((tl x).drop _).take _ = tl y
  rw [h]
  have e : (a ++ tl y).length - (tl y).length = a.length := by simp
  rw [e, List.drop_left, List.take_length]
theorem infix_at {c M : List Nat} : c <:+: M ↔ ∃ j, j + c.length ≤ M.length ∧ (M.drop j).take c.length = c := by
  constructor
  · rintro ⟨s, t, rfl⟩
    refine ⟨s.length, by simp, ?_⟩
    rw [List.append_assoc, List.drop_left, List.take_left]
  · rintro ⟨j, _, h⟩
    refine ⟨M.take j, (M.drop j).drop c.length, ?_⟩
    have e := List.take_append_drop c.length (M.drop j)
    rw [h] at e
    rw [List.append_assoc, e, List.take_append_drop]
theorem mid_iff {got x c y : Str} {M : List Nat} (h : tl got = tl x ++ (M ++ tl y)) : midIn got x c y = true ↔ tl c <:+: M := by
  have hlen : got.length - y.length = (tl x).length + M.length := by rw [len_tl, len_tl y, h]; simp; (first | lia | omega)
  unfold midIn
  rw [hlen, len_tl x, occ_eq]
  have key := occ_none got c ((tl x).length + M.length) (List.range' (tl x).length ((tl x).length + M.length + 1 - (tl x).length)) (tl x).length (fun i hi => by have := List.mem_range'_1.mp hi; (first | lia | omega))
  have hat : ∀ j, j + c.length ≤ M.length → (subAt got c ((tl x).length + j) = true ↔ (M.drop j).take c.length = tl c) := by
    intro j hj
    rw [subAt_eq, beq_iff_eq]
    show ((tl got).drop _).take _ = tl c ↔ _
    rw [h, ← List.drop_drop, List.drop_left, List.drop_append_of_le_length (by (first | lia | omega)), List.take_append_of_le_length (by rw [List.length_drop]; (first | lia | omega))]
  rw [infix_at, ← len_tl c]
  constructor
  · intro hm
    refine Classical.byContradiction fun hn => ?_
    have h0 := key.mpr fun i hi hc => by
      have hi' := List.mem_range'_1.mp hi
      have e : i = (tl x).length + (i - (tl x).length) := by (first | lia | omega)
      rw [e] at hc
      exact hn ⟨i - (tl x).length, by (first | lia | omega), (hat _ (by (first | lia | omega))).mp hc.2⟩
    rw [h0] at hm
    simp at hm
  · rintro ⟨j, hj, hc⟩
    have hne : (forIn (List.range' (tl x).length ((tl x).length + M.length + 1 - (tl x).length)) ((#[] : Array Nat), (tl x).length) (occBody got c ((tl x).length + M.length) 1)).run.fst ≠ #[] := fun h0 =>
      key.mp h0 ((tl x).length + j) (List.mem_range'_1.mpr (by (first | lia | omega))) ⟨by (first | lia | omega), (hat j hj).mpr hc⟩
    simpa using hne
end Mine
end PartP6

section PartP7
open PySem PySem.W PyProof.Rows PySem.StrLaws PySem.Builtin.Str
namespace Mine
/-- a reply without its last two signs -/
noncomputable def frontT (p : List Int) : Str := Txt.slice (replyT p) none (some (-2))
noncomputable def lastPc (d : Int) : List Nat := 32 :: (dg d ++ [32])
theorem body_snoc (q : List Int) (d : Int) : body (q ++ [d]) = body q ++ lastPc d ++ [47] := by
  simp only [body, lastPc, List.flatMap_append, List.flatMap_cons, List.flatMap_nil, entL, List.append_nil]
  simp
theorem front_tl (q : List Int) (d : Int) : tl (frontT (q ++ [d])) = hdL ++ (body q ++ lastPc d) := by
  have e : body (q ++ [d]) = (body q ++ 32 :: dg d) ++ [32, 47] := by rw [body_snoc]; simp [lastPc]
  unfold frontT
  rw [reply_cut e]
  simp [lastPc]
theorem cut_at {c : Nat} : ∀ {a a' b b' : List Nat}, c ∉ a → c ∉ a' → a ++ c :: b = a' ++ c :: b' → a = a' ∧ b = b'
  | [], [], _, _, _, _, h => by simpa using h
  | [], d :: a', _, _, _, h2, h => by
    simp only [List.nil_append, List.cons_append, List.cons.injEq] at h
    exact absurd (by rw [h.1]; exact .head _) h2
  | d :: a, [], _, _, h1, _, h => by
    simp only [List.nil_append, List.cons_append, List.cons.injEq] at h
    exact absurd (by rw [← h.1]; exact .head _) h1
  | d :: a, d' :: a', _, _, h1, h2, h => by
    simp only [List.cons_append, List.cons.injEq] at h
    obtain ⟨e1, e2⟩ := cut_at (fun hm => h1 (.tail _ hm)) (fun hm => h2 (.tail _ hm)) h.2
    exact ⟨by rw [h.1, e1], e2⟩
/-- a prefix of the texts is one of the rows -/
theorem pre_rows : ∀ {q s : List Int} {d : Int} {w X : List Nat}, (∀ n ∈ q ++ [d], 0 ≤ n) → (∀ n ∈ s, 0 ≤ n) → X.head? ≠ some 32 → body q ++ lastPc d ++ w = body s ++ X → (q ++ [d]) <+: s
  | q, [], d, w, X, _, _, hX, h => by
    cases q with
    | nil => exact absurd (by rw [← List.nil_append X]; show (body [] ++ X).head? = _; rw [← h]; rfl) hX
    | cons x q => exact absurd (by rw [← List.nil_append X]; show (body [] ++ X).head? = _; rw [← h, body_cons]; rfl) hX
  | [], e :: t, d, w, X, hq, hs, hX, h => by
    rw [body_cons] at h
    simp only [body, lastPc, List.flatMap_nil, List.nil_append, List.cons_append, List.append_assoc, List.cons.injEq, true_and] at h
    have hd := hq d (by simp)
    have he := hs e (.head _)
    have := (cut_at (dg_free hd (by decide)) (dg_free he (by decide)) h).1
    rw [dg_inj hd he this]
    exact ⟨t, rfl⟩
  | x :: q, e :: t, d, w, X, hq, hs, hX, h => by
    rw [body_cons, body_cons] at h
    simp only [List.cons_append, List.append_assoc, List.cons.injEq, true_and] at h
    have hx := hq x (by simp)
    have he := hs e (.head _)
    obtain ⟨e1, e2⟩ := cut_at (dg_free hx (by decide)) (dg_free he (by decide)) h
    rw [dg_inj hx he e1]
    simp only [List.cons.injEq, true_and] at e2
    rw [List.cons_append, List.cons_prefix_cons]
    exact ⟨rfl, pre_rows (w := w) (fun n hn => hq n (.tail _ hn)) (fun n hn => hs n (.tail _ hn)) hX (by rw [← e2, List.append_assoc])⟩
/-- what lies between the front and the end -/
noncomputable def reg : List Int → List Nat
  | [] => []
  | k :: t => 47 :: 32 :: (dg k ++ 32 :: reg t)
theorem reg_body : ∀ t : List Int, 47 :: body t = reg t ++ [47]
  | [] => rfl
  | k :: t => by
    rw [body_cons, reg]
    simp only [List.cons_append, List.append_assoc, List.cons.injEq, true_and]
    rw [reg_body t]
theorem got_tl {q t : List Int} {d : Int} : tl (replyT ((q ++ [d]) ++ t)) = tl (frontT (q ++ [d])) ++ (reg t ++ [47, 41]) := by
  rw [tl_reply, front_tl]
  have e : body ((q ++ [d]) ++ t) = body (q ++ [d]) ++ body t := by simp [body, List.flatMap_append]
  have e2 := reg_body t
  rw [e, body_snoc]
  have e3 : reg t ++ [47, 41] = (47 :: body t) ++ [41] := by rw [e2]; simp
  rw [e3]
  simp
theorem snoc_of {p : List Int} (h : p ≠ []) : ∃ q d, p = q ++ [d] := ⟨p.dropLast, p.getLast h, (List.dropLast_concat_getLast h).symm⟩
theorem front_pre {p s : List Int} (hp : p ≠ []) (hp0 : ∀ n ∈ p, 0 ≤ n) (hs0 : ∀ n ∈ s, 0 ≤ n) {w : List Nat} (h : tl (replyT s) = tl (frontT p) ++ w) : p <+: s := by
  obtain ⟨q, d, rfl⟩ := snoc_of hp
  rw [tl_reply, front_tl, List.append_assoc, List.append_assoc] at h
  exact pre_rows (w := w) (X := [41]) hp0 hs0 (by decide) (List.append_cancel_left h).symm
theorem got_pre {p t : List Int} (hp : p ≠ []) : tl (replyT (p ++ t)) = tl (frontT p) ++ (reg t ++ [47, 41]) := by
  obtain ⟨q, d, rfl⟩ := snoc_of hp
  exact got_tl
theorem tl_end : tl (Str.ofString "/)") = [47, 41] := by decide
theorem drop_in {c D R : List Nat} {k : Nat} (hc : c.head? = some k) (hD : k ∉ D) : c <:+: D ++ R → c <:+: R := by
  induction D with
  | nil => exact id
  | cons x D ih =>
    intro h
    rw [List.cons_append, List.infix_cons_iff] at h
    rcases h with h | h
    · cases c with
      | nil => cases hc
      | cons y c =>
        rw [List.cons_prefix_cons] at h
        cases hc
        exact absurd (by rw [h.1]; exact .head _) hD
    · exact ih (fun hm => hD (.tail _ hm)) h
theorem reg_mem {z : Int} (hz : 0 ≤ z) : ∀ {t : List Int}, (∀ n ∈ t, 0 ≤ n) → (lastPc z <:+: reg t ↔ z ∈ t)
  | [], _ => by
    constructor
    · intro h
      have := h.length_le
      simp [lastPc, reg] at this
    · intro h; cases h
  | k :: t, h => by
    have hk := h k (.head _)
    have ih := reg_mem hz fun n hn => h n (.tail _ hn)
    constructor
    · intro hi
      rw [reg, List.infix_cons_iff] at hi
      rcases hi with hi | hi
      · unfold lastPc at hi
        rw [List.cons_prefix_cons] at hi
        exact absurd hi.1 (by decide)
      · rw [List.infix_cons_iff] at hi
        rcases hi with hi | hi
        · unfold lastPc at hi
          rw [List.cons_prefix_cons] at hi
          obtain ⟨w, hw⟩ := hi.2
          rw [List.append_assoc] at hw
          have := (cut_at (dg_free hz (by decide)) (dg_free hk (by decide)) hw).1
          rw [dg_inj hz hk this]; exact .head _
        · have h2 := drop_in (k := 32) rfl (dg_free hk (by decide)) hi
          rw [List.infix_cons_iff] at h2
          rcases h2 with h2 | h2
          · exfalso
            unfold lastPc at h2
            rw [List.cons_prefix_cons] at h2
            obtain ⟨w, hw⟩ := h2.2
            obtain ⟨c, cs, hcs⟩ := List.exists_cons_of_ne_nil (dg_ne hz)
            have hcd := dg_digits hz c (by rw [hcs]; exact .head _)
            rw [hcs] at hw
            cases t with
            | nil => cases hw
            | cons j t =>
              rw [reg] at hw
              simp only [List.cons_append, List.cons.injEq] at hw
              (first | lia | omega)
          · exact .tail _ (ih.mp h2)
    · intro hm
      rcases List.mem_cons.mp hm with rfl | hm
      · exact ⟨[47], reg t, by simp [reg, lastPc]⟩
      · have hi := ih.mpr hm
        rw [reg]
        refine List.IsInfix.trans hi ⟨47 :: 32 :: (dg k ++ [32]), [], by simp⟩
theorem dec_of {b : Bool} {p : Prop} [Decidable p] (h : b = true ↔ p) : b = decide p := by
  rw [Bool.eq_iff_iff, decide_eq_true_eq]; exact h
theorem val_begins {p s : List Int} (hp : p ≠ []) (hp0 : ∀ n ∈ p, 0 ≤ n) (hs0 : ∀ n ∈ s, 0 ≤ n) :
    (Txt.startswith (replyT s) (frontT p) && Txt.endswith (replyT s) (Str.ofString "/)") && decide ((frontT p).length + (Str.ofString "/)").length ≤ (replyT s).length)) = decide (p <+: s) := by
  refine dec_of ⟨fun h => ?_, fun h => ?_⟩
  · rw [Bool.and_eq_true, Bool.and_eq_true, sw_iff] at h
    obtain ⟨w, hw⟩ := h.1.1
    exact front_pre hp hp0 hs0 hw.symm
  · obtain ⟨t, rfl⟩ := h
    have e := got_pre (t := t) hp
    rw [Bool.and_eq_true, Bool.and_eq_true, sw_iff, decide_eq_true_eq]
    refine ⟨⟨⟨_, e.symm⟩, ew_app (a := tl (frontT p) ++ reg t) (by rw [e, tl_end]; simp)⟩, ?_⟩
    rw [len_tl, len_tl, len_tl (replyT _), e, tl_end]
    simp
theorem val_more {p s : List Int} (hp : p ≠ []) (hp0 : ∀ n ∈ p, 0 ≤ n) (hs0 : ∀ n ∈ s, 0 ≤ n) :
    (Txt.startswith (replyT s) (frontT p ++ Str.ofString "/") && Txt.endswith (replyT s) (Str.ofString "/)") && decide ((frontT p ++ Str.ofString "/").length + (Str.ofString "/)").length ≤ (replyT s).length)) = decide (p <+: s ∧ p ≠ s) := by
  have e1 : tl (frontT p ++ Str.ofString "/") = tl (frontT p) ++ [47] := by rw [tl_app]; rfl
  refine dec_of ⟨fun h => ?_, fun h => ?_⟩
  · rw [Bool.and_eq_true, Bool.and_eq_true, sw_iff, decide_eq_true_eq, e1] at h
    obtain ⟨⟨⟨w, hw⟩, _⟩, hl⟩ := h
    have hpre := front_pre hp hp0 hs0 (w := 47 :: w) (by rw [← hw]; simp)
    refine ⟨hpre, ?_⟩
    rintro rfl
    have e := got_pre (t := []) hp
    rw [List.append_nil] at e
    rw [len_tl, len_tl, len_tl (replyT _), e, e1, tl_end] at hl
    simp [reg] at hl
    (first | lia | omega)
  · obtain ⟨⟨t, rfl⟩, hne⟩ := h
    have e := got_pre (t := t) hp
    cases t with
    | nil => exact absurd (List.append_nil p).symm hne
    | cons k t =>
      rw [reg] at e
      rw [Bool.and_eq_true, Bool.and_eq_true, sw_iff, decide_eq_true_eq, e1]
      refine ⟨⟨⟨32 :: (dg k ++ 32 :: reg t) ++ [47, 41], by rw [e]; simp⟩, ew_app (a := tl (frontT p) ++ 47 :: 32 :: (dg k ++ 32 :: reg t)) (by rw [e, tl_end]; simp)⟩, ?_⟩
      rw [len_tl, len_tl, len_tl (replyT _), e, e1, tl_end]
      simp; (first | lia | omega)
theorem val_later {p s : List Int} {z : Int} {c : Str} (hc : tl c = lastPc z) (hz : 0 ≤ z) (hp : p ≠ []) (hp0 : ∀ n ∈ p, 0 ≤ n) (hs0 : ∀ n ∈ s, 0 ≤ n) :
    (Txt.startswith (replyT s) (frontT p) && Txt.endswith (replyT s) (Str.ofString "/)") && decide ((frontT p).length + (Str.ofString "/)").length ≤ (replyT s).length) && midIn (replyT s) (frontT p) c (Str.ofString "/)")) = decide (p <+: s ∧ z ∈ s.drop p.length) := by
  rw [val_begins hp hp0 hs0]
  refine dec_of ?_
  rw [Bool.and_eq_true, decide_eq_true_eq]
  refine and_congr_right fun h => ?_
  obtain ⟨t, rfl⟩ := h
  have e := got_pre (t := t) hp
  rw [mid_iff (M := reg t) (by rw [e, tl_end]), hc, List.drop_left, reg_mem hz fun n hn => hs0 n (List.mem_append_right _ hn)]
theorem reply_inj {r s : List Int} (hr : r ≠ []) (hs : s ≠ []) (hr0 : ∀ n ∈ r, 0 ≤ n) (hs0 : ∀ n ∈ s, 0 ≤ n) : (replyT r == replyT s) = decide (r = s) := by
  refine dec_of ?_
  rw [beq_iff_eq]
  refine ⟨fun h => ?_, fun h => by rw [h]⟩
  have p1 := front_pre hr hr0 hs0 (w := reg [] ++ [47, 41]) (by rw [← h, ← got_pre hr, List.append_nil])
  have p2 := front_pre hs hs0 hr0 (w := reg [] ++ [47, 41]) (by rw [h, ← got_pre hs, List.append_nil])
  exact p1.eq_of_length_le p2.length_le
/-- no dot in a reply -/
theorem reply_nodot {r : List Int} (hr0 : ∀ n ∈ r, 0 ≤ n) : 46 ∉ tl (replyT r) := by
  rw [tl_reply]
  intro h
  rcases List.mem_append.mp h with h | h
  · rcases List.mem_append.mp h with h | h
    · exact absurd h (by decide)
    · exact body_free hr0 (by decide) (by decide) (by decide) h
  · exact absurd h (by decide)
theorem front_nodot {p : List Int} (hp : p ≠ []) (hr0 : ∀ n ∈ p, 0 ≤ n) : 46 ∉ tl (frontT p) := by
  have e := got_pre (t := []) hp
  have h := reply_nodot hr0
  rw [List.append_nil] at e
  rw [e] at h
  exact fun hm => h (List.mem_append_left _ hm)
theorem front_len {p : List Int} (h : RowOk p) : 1 ≤ (frontT p).length ∧ (frontT p).length ≤ 200 := by
  obtain ⟨q, d, hqd⟩ := snoc_of (row_ne h)
  have e := got_pre (t := []) (row_ne h)
  have h1 := row_body_len h
  rw [List.append_nil, tl_reply] at e
  have e2 := congrArg List.length e
  rw [len_tl]
  constructor
  · rw [hqd, front_tl]; simp [hdL]
  · simp [hdL] at e2 ⊢; (first | lia | omega)
end Mine
end PartP7

section PartH1
open PySem PySem.W PyProof.Rows PySem.Calls PySem.Spec PySem.StrLaws
set_option maxRecDepth 100000
namespace Mine
theorem want1_tl (f : Str) : tl (f ++ Str.ofString ".../)") = tl f ++ ([46, 46, 46] ++ tl (Str.ofString "/)")) := by
  rw [tl_app, tl_end]; rfl
theorem want2_tl (f : Str) : tl (f ++ Str.ofString "/.../)") = tl (f ++ Str.ofString "/") ++ ([46, 46, 46] ++ tl (Str.ofString "/)")) := by
  rw [tl_app, tl_app, tl_end, List.append_assoc]; rfl
theorem want3_tl (f : Str) (z : Int) : tl (f ++ Str.ofString "... " ++ Str.ofString (toString z) ++ Str.ofString " .../)") = tl f ++ ([46, 46, 46] ++ (tl (pc z) ++ ([46, 46, 46] ++ tl (Str.ofString "/)")))) := by
  rw [tl_app, tl_app, tl_app, tl_end, tl_pc]
  show tl f ++ [46, 46, 46, 32] ++ dg z ++ [32, 46, 46, 46, 47, 41] = _
  simp
theorem end_nodot : 46 ∉ tl (Str.ofString "/)") := by rw [tl_end]; decide
theorem end_len : (Str.ofString "/)").length = 2 := by rw [len_tl, tl_end]; rfl
section
variable {w : World} {p : Program} {loose : List Str} {mean : ExcName → Option Value} {mg mb : Str → Option Value}
   {dp un : Nat} {gd : Option (List Code)} {cn : Str} {cs : Scope} {a : Addr} {ccd : Value} {cl : List (Str × Addr)} {outer : List Env} {A₀ : Around} {base h₀ : Heap} {L : Addr} {m : Str → Option Value} {s : Shared} {Q E : Value → Shared → Prop}
/-- whether a reply begins as a row -/
theorem ell_begins {r q : List Int} {t1 t2 : Tok}
   (B : Below A₀ base outer h₀) (F : Fr h₀ L s.heap m) (X : (hd.heap_39 w.params).In h₀) (T : Top p loose mean mg mb h₀) (hk : cs.kind = .function)
   (hr : RowOk r) (hq : RowOk q) (hdp : dp + 10 < recursionLimit)
   (ret : ∀ h' tk', Kp s.heap h' → Q (.bool (decide (r <+: q))) { s with heap := h', toks := tk' }) :
   wpAny (model PySem.Challenge.rw_rw0066_01.row.prog w) (ktrTop dp un gd cn cs L a ccd cl outer) (call (.ref 63) [.str (frontT r ++ Str.ofString ".../)") t1, .str (replyT q) t2]) Q E s := by
  have hfl := front_len hr
  have hsp := split_two (want1_tl (frontT r)) (front_nodot (row_ne hr) (row_nn hr)) end_nodot
  refine ell2 B F X T hk ?_ (reply_len hq) hsp.1 hsp.2 hfl.1 (by (first | lia | omega)) (by rw [end_len]; decide) (by rw [end_len]; decide) hdp ?_
  · rw [len_tl, want1_tl, tl_end]
    have := hfl.2
    rw [len_tl] at this
    simp at this ⊢; (first | lia | omega)
  · rw [val_begins (row_ne hr) (row_nn hr) (row_nn hq)]; exact ret
/-- whether it goes on behind -/
theorem ell_more {r q : List Int} {t1 t2 : Tok}
   (B : Below A₀ base outer h₀) (F : Fr h₀ L s.heap m) (X : (hd.heap_39 w.params).In h₀) (T : Top p loose mean mg mb h₀) (hk : cs.kind = .function)
   (hr : RowOk r) (hq : RowOk q) (hdp : dp + 10 < recursionLimit)
   (ret : ∀ h' tk', Kp s.heap h' → Q (.bool (decide (r <+: q ∧ r ≠ q))) { s with heap := h', toks := tk' }) :
   wpAny (model PySem.Challenge.rw_rw0066_01.row.prog w) (ktrTop dp un gd cn cs L a ccd cl outer) (call (.ref 63) [.str (frontT r ++ Str.ofString "/.../)") t1, .str (replyT q) t2]) Q E s := by
  have hfl := front_len hr
  have e1 : tl (frontT r ++ Str.ofString "/") = tl (frontT r) ++ [47] := by rw [tl_app]; rfl
  have hsp := split_two (want2_tl (frontT r)) (fun h => by
    rw [e1] at h
    rcases List.mem_append.mp h with h | h
    · exact front_nodot (row_ne hr) (row_nn hr) h
    · exact absurd h (by decide)) end_nodot
  have h9 : (frontT r ++ Str.ofString "/").length = (frontT r).length + 1 := by rw [len_tl, e1, len_tl (frontT r)]; simp
  refine ell2 B F X T hk ?_ (reply_len hq) hsp.1 hsp.2 (by (first | lia | omega)) (by (first | lia | omega)) (by rw [end_len]; decide) (by rw [end_len]; decide) hdp ?_
  · rw [len_tl, want2_tl, e1, tl_end]
    have := hfl.2
    rw [len_tl] at this
    simp at this ⊢; (first | lia | omega)
  · rw [val_more (row_ne hr) (row_nn hr) (row_nn hq)]; exact ret
/-- whether a number comes later -/
theorem ell_later {r q : List Int} {z : Int} {t1 t2 : Tok}
   (B : Below A₀ base outer h₀) (F : Fr h₀ L s.heap m) (X : (hd.heap_39 w.params).In h₀) (T : Top p loose mean mg mb h₀) (hk : cs.kind = .function)
   (hr : RowOk r) (hq : RowOk q) (hz : 0 ≤ z) (hz2 : z ≤ 400000) (hdp : dp + 10 < recursionLimit)
   (ret : ∀ h' tk', Kp s.heap h' → Q (.bool (decide (r <+: q ∧ z ∈ q.drop r.length))) { s with heap := h', toks := tk' }) :
   wpAny (model PySem.Challenge.rw_rw0066_01.row.prog w) (ktrTop dp un gd cn cs L a ccd cl outer) (call (.ref 63) [.str (frontT r ++ Str.ofString "... " ++ Str.ofString (toString z) ++ Str.ofString " .../)") t1, .str (replyT q) t2]) Q E s := by
  have hfl := front_len hr
  have hdl := dg_len hz (small20 hz2)
  have hsp := split_three (want3_tl (frontT r) z) (front_nodot (row_ne hr) (row_nn hr)) (fun h => by
    rw [tl_pc] at h
    simp only [List.mem_cons, List.mem_append, List.not_mem_nil, or_false] at h
    rcases h with h | h | h
    · exact absurd h (by decide)
    · exact dg_free hz (by decide) h
    · exact absurd h (by decide)) end_nodot (by rw [tl_pc]; simp)
  have h9 : (pc z).length = (dg z).length + 2 := by rw [len_tl, tl_pc]; simp
  refine ell3 B F X T hk ?_ (reply_len hq) hsp.1 hsp.2 (by (first | lia | omega)) (by (first | lia | omega)) hfl.1 (by (first | lia | omega)) (by rw [end_len]; decide) (by rw [end_len]; decide) hdp ?_
  · rw [len_tl, want3_tl, tl_pc, tl_end]
    have := hfl.2
    rw [len_tl] at this
    simp at this ⊢; (first | lia | omega)
  · rw [val_later (c := pc z) rfl hz (row_ne hr) (row_nn hr) (row_nn hq)]; exact ret
/-- whether two replies are one -/
theorem ell_same {r q : List Int} {t1 t2 : Tok}
   (B : Below A₀ base outer h₀) (F : Fr h₀ L s.heap m) (X : (hd.heap_39 w.params).In h₀) (T : Top p loose mean mg mb h₀) (hk : cs.kind = .function)
   (hr : RowOk r) (hq : RowOk q) (hdp : dp + 10 < recursionLimit)
   (ret : ∀ h' tk', Kp s.heap h' → Q (.bool (decide (r = q))) { s with heap := h', toks := tk' }) :
   wpAny (model PySem.Challenge.rw_rw0066_01.row.prog w) (ktrTop dp un gd cn cs L a ccd cl outer) (call (.ref 63) [.str (replyT r) t1, .str (replyT q) t2]) Q E s := by
  refine ell1 B F X T hk (reply_len hr) (reply_len hq) (occ_no (reply_nodot (row_nn hr))) hdp ?_
  rw [reply_inj (row_ne hr) (row_ne hq) (row_nn hr) (row_nn hq)]; exact ret
end
end Mine
end PartH1

section PartM9
open PySem PySem.W PyProof.Rows PySem.Calls PySem.Spec
set_option maxRecDepth 100000
namespace Mine
theorem aside_app {lP sz : Nat} {l rest : List (Addr × Obj)} (h : Aside lP l) (hr : ∀ x ∈ rest, @LE.le Nat _ sz x.1) (h1 : 37 < sz) (h2 : 30 < sz) (h3 : lP < sz) : Aside lP (l ++ rest) := fun q hq => by
  rcases List.mem_append.mp hq with hq | hq
  · exact h q hq
  · exact ⟨Nat.ne_of_gt (Nat.lt_of_lt_of_le h1 (hr q hq)), Nat.ne_of_gt (Nat.lt_of_lt_of_le h2 (hr q hq)), Nat.ne_of_gt (Nat.lt_of_lt_of_le h3 (hr q hq))⟩
theorem size_of_mem {h₀ h : Heap} {L q : Addr} {o : Obj} {news : List (Addr × Obj)} (N : News h₀ L h news) (hm : (q, o) ∈ news) : @LT.lt Nat _ q h.objs.size := lt_of_news N hm
end Mine
end PartM9

section PartG2
open PySem PySem.W PyProof.Rows PySem.Calls PySem.Spec
set_option maxRecDepth 100000
namespace Mine
section
variable {w : World} {p : Program} {loose : List Str} {mean : ExcName → Option Value} {mg mb : Str → Option Value} {fa : Addr} {cd : Value} {h₀ : Heap} {L : Addr} {m₁ : Str → Option Value} {s : Shared} {Qf : Flow → Shared → Prop} {Qe : Value → Shared → Prop}
local macro_rules | `(tactic| lcg_off) => `(tactic| k_extra "my off")
set_option maxHeartbeats 8000000 in
theorem law_sums {lR D1 D2 : Addr} {mk : Str} {tm : Tok} {rv1 rv2 : List Value} {r1 r2 : List Int} {k1 k2 : Nat}
   (B : Below callerA h₀ [] h₀) (X : (hd.heap_39 w.params).In h₀) (T : Top p loose mean mg mb h₀)
   (F : Fr h₀ L s.heap (lawM1 m₁ lR mk tm)) (N : News h₀ L s.heap [(lR, listOf #[.ref D1, .ref D2] 0), (D1, listOf (List.toArray rv1) k1), (D2, listOf (List.toArray rv2) k2), (37, tabObj #[]), (30, tabObj #[])])
   (hI1 : IntsAre rv1 r1) (hr1 : RowOk r1) (hI2 : IntsAre rv2 r2) (hr2 : RowOk r2)
   (lL : @LT.lt Nat _ L lR ∧ @LT.lt Nat _ L D1 ∧ @LT.lt Nat _ L D2) (lt : @LT.lt Nat _ D1 lR ∧ @LT.lt Nat _ D2 lR ∧ @LT.lt Nat _ D1 D2 ∧ @LT.lt Nat _ 37 D1 ∧ @LT.lt Nat _ 30 D1)
   (ret : ∀ lS lP S1 S2 ts us ts2 us2 h' tk', Fr h₀ L h' (lawM2 m₁ lR lS lP mk tm) →
     News h₀ L h' [(lP, listOf #[] 0), (lS, listOf #[.ref S1, .ref S2] 2), (S2, tupO (.int (nm r2) ts2) (.int (dn r2) us2)), (S1, tupO (.int (nm r1) ts) (.int (dn r1) us)), (lR, listOf #[.ref D1, .ref D2] 0), (D1, listOf (List.toArray rv1) k1), (D2, listOf (List.toArray rv2) k2), (37, tabObj #[]), (30, tabObj #[])] →
     (@LT.lt Nat _ lS lP ∧ @LT.lt Nat _ S2 lP ∧ @LT.lt Nat _ S1 lP ∧ @LT.lt Nat _ lR lP ∧ @LT.lt Nat _ D1 lP ∧ @LT.lt Nat _ D2 lP ∧ @LT.lt Nat _ 37 lP ∧ @LT.lt Nat _ 30 lP) → ((@Ne Nat 37 lS ∧ @Ne Nat 30 lS) ∧ (@LT.lt Nat _ 37 S1 ∧ @LT.lt Nat _ 30 S1) ∧ (@LT.lt Nat _ 37 S2 ∧ @LT.lt Nat _ 30 S2)) →
     wpAny (model PySem.Challenge.rw_rw0066_01.row.prog w) (callerA.deeper (lawEnv L fa cd)) (execs (lawBody.drop 6) (lawEnv L fa cd)) Qf Qe { s with heap := h', toks := tk' }) :
   wpAny (model PySem.Challenge.rw_rw0066_01.row.prog w) (callerA.deeper (lawEnv L fa cd)) (execs (lawBody.drop 4) (lawEnv L fa cd)) Qf Qe s := by
  k_with_none
  k_with "execs cons" => ((with_reducible show wpAny _ _ _ _ _ (Shared.mk _ _ _ (_ + 1) _)); refine Mine.tok_gen fun _ => ?_)
  k_with "exec Assign" => k_fold
  k_with "exec If" => k_fold
  k_with "exec Return some" => k_fold
  k_with "exec For" => k_fold
  k_with "exec Expr" => k_fold
  k_with "exec AugAssign" => k_fold
  k_with "exec Try" => k_fold
  k_with "exec Delete" => k_fold
  k_with "exec Assert" => k_fold
  k_with "exec While" => k_fold
  k_with "eval Call" => k_fold
  k_with "eval Compare" => k_fold
  k_with "eval BinOp" => k_fold
  k_with "eval Tuple" => k_fold
  k_with "eval List" => k_fold
  k_with "isTrue" => k_fold
  k_with "callWith" => k_fold
  k_with "eval Subscript" => k_fold
  k_with "room" => first | exact Mine.room0 (dp := dp) hdp | exact Mine.room1 (dp := dp) hdp rfl
  k_with "lia" => lia
  revert X; k_fill; intro X
  unfold lawEnv
  conv in (occs := *) lawScope => all_goals whnf
  conv in (lawBody.drop 4) => whnf
  k_with "call ref" => first
   | (k_dflt (refine' sum_spec ?kB ?kF ?kX ?kT ?kK ?hl ?hI ?hlen ?hb ?kd ?_; (case kB => k_asm); (case kF => k_asm); (case kX => k_asm); (case kT => k_asm); (case kK => exact rfl); (case hl => exact isList_news (by assumption) (by k_mem)); (case hI => exact hI1); (case hlen => exact hr1.2.2); (case hb => exact row_b hr1); (case kd => ktr_room));
      intro S h' tk' ts us K1 hS eD; rename Fr _ _ _ _ => F1; rename News _ _ _ _ => N1; obtain ⟨F2, N2, lS1, l3⟩ := afterNew F1 N1 K1 hS eD; clear F1 N1 K1 eD l3; k_lt lS1; rename ((_ : Nat) ≠ _ ∧ (_ : Nat) ≠ _ ∧ (_ : Nat) ≠ _) ∧ _ => off8)
   | (k_dflt (refine' sum_spec ?kB ?kF ?kX ?kT ?kK ?hl ?hI ?hlen ?hb ?kd ?_; (case kB => k_asm); (case kF => k_asm); (case kX => k_asm); (case kT => k_asm); (case kK => exact rfl); (case hl => exact isList_news (by assumption) (by k_mem)); (case hI => exact hI2); (case hlen => exact hr2.2.2); (case hb => exact row_b hr2); (case kd => ktr_room));
      intro S h' tk' ts us K1 hS eD; rename Fr _ _ _ _ => F1; rename News _ _ _ _ => N1; obtain ⟨F2, N2, lS2, l3⟩ := afterNew F1 N1 K1 hS eD; clear F1 N1 K1 eD l3; k_lt lS2; rename ((_ : Nat) ≠ _ ∧ (_ : Nat) ≠ _ ∧ (_ : Nat) ≠ _) ∧ _ => off9)
  k_with "my off" => k_dflt (first
   | exact ⟨⟨Nat.ne_of_gt lS2.1, Nat.ne_of_gt lS2.2.1, Nat.ne_of_gt lS2.2.2.1⟩, off9.1, off9.2.1, off9.2.2.1, off9.2.2.2.1, off9.2.2.2.2.1, off9.2.2.2.2.2, trivial⟩
   | exact ⟨⟨Nat.ne_of_gt lS1.1, Nat.ne_of_gt lS1.2.1, Nat.ne_of_gt lS1.2.2.1⟩, off8.1, off8.2.1, off8.2.2.1, off8.2.2.2.1, off8.2.2.2.2, trivial⟩)
  k_with "execs cons" => (rename Fr _ _ _ _ => FZ; rename News _ _ _ _ => NZ; rename ((_ : Nat) ≠ _ ∧ (_ : Nat) ≠ _ ∧ (_ : Nat) ≠ _ ∧ (_ : Nat) ≠ _ ∧ (_ : Nat) ≠ _ ∧ (_ : Nat) ≠ _ ∧ (_ : Nat) ≠ _) => o9; (with_unfolding_all refine ret _ _ _ _ _ _ _ _ _ _ FZ NZ (by assumption) ⟨⟨o9.2.2.2.2.2.1, o9.2.2.2.2.2.2⟩, ⟨lS1.2.2.2.2.2.2.1, lS1.2.2.2.2.2.2.2⟩, ⟨lS2.2.2.2.2.2.2.2.1, lS2.2.2.2.2.2.2.2.2⟩⟩))
  k_steps
end
end Mine
end PartG2

section PartG3
open PySem PySem.W PyProof.Rows PySem.Calls PySem.Spec
set_option maxRecDepth 100000
namespace Mine
/-- the first loop's body -/
noncomputable def lawTurn : List Stmt := match lawBody.drop 6 with
  | .For _ _ b _ _ :: _ => b
  | _ => []
theorem turn_mem {a b c d e f g i j t : Addr × Obj} {l : List (Addr × Obj)} : ∀ q ∈ f :: c :: d :: g :: i :: j :: t :: l, q ∈ a :: b :: c :: d :: e :: f :: g :: i :: j :: t :: l := by
  repeat (refine List.forall_mem_cons.mpr ⟨by repeat (first | exact List.Mem.head _ | refine List.Mem.tail _ ?_), ?_⟩)
  intro q hq
  repeat (first | exact hq | (cases hq; done) | refine List.Mem.tail _ ?_)
theorem turn_ne {lP lS S lR D : Addr} {o1 o2 o3 o4 o5 o6 : Obj} {l : List (Addr × Obj)} (l1 : @Ne Nat 37 lP ∧ @Ne Nat 30 lP ∧ @Ne Nat lS lP ∧ @Ne Nat S lP ∧ @Ne Nat lR lP ∧ @Ne Nat D lP) (hA : Aside lP l) :
    ∀ q ∈ (37, o1) :: (30, o2) :: (lS, o3) :: (S, o4) :: (lR, o5) :: (D, o6) :: l, q.1 ≠ lP := fun q hq => by
  simp only [List.mem_cons] at hq
  rcases hq with rfl | rfl | rfl | rfl | rfl | rfl | hq
  · exact l1.1
  · exact l1.2.1
  · exact l1.2.2.1
  · exact l1.2.2.2.1
  · exact l1.2.2.2.2.1
  · exact l1.2.2.2.2.2
  · exact (hA q hq).2.2
theorem frLaw2 {h₀ h : Heap} {L : Addr} {m : Str → Option Value} {lR lS lP : Addr} {mk : Str} {tm : Tok} (F : Fr h₀ L h m) (h0 : m (Str.ofString "replies") = some (.ref lP)) (h1 : m (Str.ofString "sums") = some (.ref lS)) (h2 : m (Str.ofString "mark") = some (.str mk tm)) (h3 : m (Str.ofString "rows") = some (.ref lR)) : Fr h₀ L h (lawM2 m lR lS lP mk tm) :=
  Eq.mp (congrArg (Fr h₀ L h) (isLaw2 h0 h1 h2 h3)) F
theorem turn_drop {h₀ : Heap} {a1 a2 a3 a4 a5 a6 : Addr} {i1 i2 i3 i5 i6 : Array Value} {k1 k2 k3 k5 k6 : Nat} {x y : Value} {l : List (Addr × Obj)} {ps : Array Value} {ln c : Nat} {q : Str} (P : PsR h₀ ((a1, listOf i1 k1) :: (a2, listOf i2 k2) :: (a3, listOf i3 k3) :: (a4, tupO x y) :: (a5, listOf i5 k5) :: (a6, listOf i6 k6) :: l) ps ln c q) : PsR h₀ l ps ln c q :=
  (((((P.drop nofun).drop nofun).drop nofun).drop nofun).drop nofun).drop nofun
noncomputable abbrev lawM3 (m₁ : Str → Option Value) (n : Int) (tn : Tok) (lR lS lP : Addr) (mk : Str) (tm : Tok) : Str → Option Value := fun z =>
  if z = Str.ofString "n" then some (.int n tn) else lawM2 m₁ lR lS lP mk tm z
section
variable {w : World} {p : Program} {loose : List Str} {mean : ExcName → Option Value} {mg mb : Str → Option Value}
   {dp un : Nat} {gd : Option (List Code)} {cn : Str} {cs : Scope} {a : Addr} {ccd : Value} {A₀ : Around} {h₀ : Heap} {L : Addr} {m : Str → Option Value} {s : Shared} {Q E : Value → Shared → Prop}
theorem read_reply {r : List Int} {resp : Str} {t : Tok} {news : List (Addr × Obj)} {port : Int}
   (B : Below A₀ h₀ [] h₀) (F : Fr h₀ L s.heap m) (X : (hd.heap_39 w.params).In h₀) (N : News h₀ L s.heap news) (T : Top p loose mean mg mb h₀) (hk : cs.kind = .function)
   (hlen : resp.length ≤ 1000) (R : Reads229 resp port (if r.length = 3 then some port else none)) (hdp : dp + 10 < recursionLimit)
   (retN : r.length ≠ 3 → ∀ h' tk', Fr h₀ L h' m → News h₀ L h' news → Q .none { s with heap := h', toks := tk' })
   (retS : r.length = 3 → ∀ q h' tk' t t', Fr h₀ L h' m → News h₀ L h' ((q, { cls := .type "tuple", data := .seq #[.str (Str.ofString "there") t, .int port t'] }) :: news) → Q (.ref q) { s with heap := h', toks := tk' }) :
   wpAny (model PySem.Challenge.rw_rw0066_01.row.prog w) (ktrTop dp un gd cn cs L a ccd [] []) (call (.ref 152) [.str resp t]) Q E s :=
  read_spec B F X N T hk hlen R hdp (fun hq => retN fun h => by rw [if_pos h] at hq; cases hq) (fun hq => retS (Decidable.byContradiction fun h => by rw [if_neg h] at hq; cases hq))
end
section
variable {w : World} {p : Program} {loose : List Str} {mean : ExcName → Option Value} {mg mb : Str → Option Value} {fa : Addr} {cd : Value} {h₀ : Heap} {L : Addr} {m₁ : Str → Option Value} {s : Shared} {Qf : Flow → Shared → Prop} {Qe : Value → Shared → Prop}
set_option maxHeartbeats 8000000 in
theorem law_turn {n : Int} {tn : Tok} {lR lS lP S D : Addr} {mk : Str} {tm ts us : Tok} {rv sv dv : List Value} {r : List Int} {k kP kS kR : Nat} {its : Array Value} {p37 p30 : Array Value} {news : List (Addr × Obj)}
   (B : Below callerA h₀ [] h₀) (X : (hd.heap_39 w.params).In h₀) (T : Top p loose mean mg mb h₀) (CH1 : CodeHd h₀ 41 37) (CH2 : CodeHd h₀ 34 30)
   (hn0 : 0 ≤ n) (hn2 : n < 2) (hS : sv[n.toNat]? = some (.ref S)) (hD : dv[n.toNat]? = some (.ref D)) (hits : its.size ≤ sizeLine)
   (F : Fr h₀ L s.heap (lawM3 m₁ n tn lR lS lP mk tm)) (N : News h₀ L s.heap ((37, tabObj p37) :: (30, tabObj p30) :: (lP, listOf its kP) :: (lS, listOf sv.toArray kS) :: (S, tupO (.int (nm r) ts) (.int (dn r) us)) :: (lR, listOf dv.toArray kR) :: (D, listOf (List.toArray rv) k) :: news))
   (P37 : PsR h₀ news p37 47 4 digQ) (P30 : PsR h₀ news p30 32 4 intQ) (hA : Aside lP news)
   (hI : IntsAre rv r) (hr : RowOk r) (hmk : IsMark mk) {I0 : Addr} {oI : Obj} (hI0 : (I0, oI) ∈ news)
   (l1 : @Ne Nat 37 lP ∧ @Ne Nat 30 lP ∧ @Ne Nat lS lP ∧ @Ne Nat S lP ∧ @Ne Nat lR lP ∧ @Ne Nat D lP)
   (l2 : @Ne Nat lS 37 ∧ @Ne Nat lS 30 ∧ @Ne Nat S 37 ∧ @Ne Nat S 30 ∧ @Ne Nat lR 37 ∧ @Ne Nat lR 30 ∧ @Ne Nat D 37 ∧ @Ne Nat D 30)
   (ret : ∀ m' t9 h' tk' q37 q30 rest, Fr h₀ L h' (lawM2 m' lR lS lP mk tm) →
     News h₀ L h' ((37, tabObj q37) :: (30, tabObj q30) :: (lP, listOf (its.push (.str (replyT r) t9)) (kP + 1)) :: (lS, listOf sv.toArray kS) :: (S, tupO (.int (nm r) ts) (.int (dn r) us)) :: (lR, listOf dv.toArray kR) :: (D, listOf (List.toArray rv) k) :: (news ++ rest)) →
     PsR h₀ (news ++ rest) q37 47 4 digQ → PsR h₀ (news ++ rest) q30 32 4 intQ → Aside lP (news ++ rest) → (∀ x ∈ rest, @LT.lt Nat _ I0 x.1) → Qf .next { s with heap := h', toks := tk' }) :
   wpAny (model PySem.Challenge.rw_rw0066_01.row.prog w) (callerA.deeper (lawEnv L fa cd)) (execs lawTurn (lawEnv L fa cd)) Qf Qe s := by
  k_with_none
  k_with "execs cons" => ((with_reducible show wpAny _ _ _ _ _ (Shared.mk _ _ _ (_ + 1) _)); refine Mine.tok_gen fun _ => ?_)
  k_with "exec Assign" => k_fold
  k_with "exec If" => k_fold
  k_with "exec Return some" => k_fold
  k_with "exec For" => k_fold
  k_with "exec Expr" => k_fold
  k_with "exec AugAssign" => k_fold
  k_with "exec Try" => k_fold
  k_with "exec Delete" => k_fold
  k_with "exec Assert" => k_fold
  k_with "exec While" => k_fold
  k_with "eval Call" => k_fold
  k_with "eval Compare" => k_fold
  k_with "eval BinOp" => k_fold
  k_with "eval Tuple" => k_fold
  k_with "eval List" => k_fold
  k_with "isTrue" => k_fold
  k_with "callWith" => k_fold
  k_with "eval Subscript" => k_fold
  k_with "room" => first | exact Mine.room0 (dp := dp) hdp | exact Mine.room1 (dp := dp) hdp rfl
  k_with "lia" => lia
  k_with "ite" => (k_dflt (rw [if_neg (by first | ((simp only [decide_eq_true_eq]); (first | lia | omega)) | ((simp only [beq_iff_eq]); (first | lia | omega)))]))
  k_with "ite" => (k_dflt (rw [if_pos (by first | ((simp only [decide_eq_true_eq]); (first | lia | omega)) | ((simp only [beq_iff_eq]); (first | lia | omega)))]))
  revert X; k_fill; intro X
  unfold lawEnv
  conv in (occs := *) lawScope => all_goals whnf
  conv in lawTurn => whnf
  have hsm := nm_small hr
  have hl9 := reply_len hr
  have hne : ∀ q ∈ (lP, listOf its kP) :: (lS, listOf sv.toArray kS) :: (S, tupO (.int (nm r) ts) (.int (dn r) us)) :: (lR, listOf dv.toArray kR) :: (D, listOf (List.toArray rv) k) :: news, q.1 ≠ 37 ∧ q.1 ≠ 30 := by
    intro q hq
    simp only [List.mem_cons] at hq
    rcases hq with rfl | rfl | rfl | rfl | rfl | hq
    · exact ⟨fun e => l1.1 e.symm, fun e => l1.2.1 e.symm⟩
    · exact ⟨l2.1, l2.2.1⟩
    · exact ⟨l2.2.2.1, l2.2.2.2.1⟩
    · exact ⟨l2.2.2.2.2.1, l2.2.2.2.2.2.1⟩
    · exact ⟨l2.2.2.2.2.2.2.1, l2.2.2.2.2.2.2.2⟩
    · exact ⟨(hA q hq).1, (hA q hq).2.1⟩
  k_with "call ref" => k_dflt (first
   | ((with_reducible show wpAny _ _ (call (Value.ref 133) _) _ _ _); k_dflt (refine' port_spec ?kB ?kF ?kX ?kT ?kK (mark_len hmk) ?hn ?hn2 ?kR ?kd ?_; (case kB => k_asm); (case kF => k_asm); (case kX => k_asm); (case kT => k_asm); (case kK => exact rfl); (case hn => (first | lia | omega)); (case hn2 => (first | lia | omega)); (case kR => exact port_reads hmk (by (first | lia | omega)) (by (first | lia | omega))); (case kd => ktr_room));
      intro t9 h' tk' K1; rename Fr _ _ _ _ => F1; rename News _ _ _ _ => N1; (have F2 := frKp F1 K1); (have N2 := newsKp N1 K1); clear F1 N1 K1)
   | ((with_reducible show wpAny _ _ (call (Value.ref 140) _) _ _ _); k_dflt (refine' greedy_spec (r := r) ?kB ?kF ?kX ?kT ?kK CH1 CH2 ?kN hne ?kp ?kp2 hr ?kd ?_; (case kB => k_asm); (case kF => k_asm); (case kX => k_asm); (case kT => k_asm); (case kK => exact rfl); (case kN => k_asm); (case kp => exact P37.more fun _ hq => .tail _ (.tail _ (.tail _ (.tail _ (.tail _ hq))))); (case kp2 => exact P30.more fun _ hq => .tail _ (.tail _ (.tail _ (.tail _ (.tail _ hq))))); (case kd => ktr_room));
      intro Dg h' tk' rvg kg q37 q30 rest F2 N2 hIg lg1 lg2 lg3 lg4 R37 R30; (simp only [List.cons_append] at N2 R37 R30);
      (have sI4 := lg1 (I0, oI) (.tail _ (.tail _ (.tail _ (.tail _ (.tail _ hI0)))))); (have hAg := aside_app (sz := Dg) hA (fun q hq => Nat.le_of_lt (lg2 q hq)) lg3 lg4 (lg1 _ (.head _))); (have hg := hne_cons (x := (Dg, listOf (List.toArray rvg) kg)) (Nat.ne_of_gt lg3) (Nat.ne_of_gt lg4) (hne_app (sz := Dg) hne (fun q hq => Nat.le_of_lt (lg2 q hq)) lg3 lg4)); (simp only [List.cons_append] at hg))
   | ((with_reducible show wpAny _ _ (call (Value.ref 56) _) _ _ _); k_dflt (refine' idm0_law ?kB ?kF ?kX ?kT ?kK CH1 CH2 ?kN hg ?kp ?kp2 ?zh1 ?zh2 ?zh3 ?kd ?_; (case kB => k_asm); (case kF => k_asm); (case kX => k_asm); (case kT => k_asm); (case kK => exact rfl); (case kN => exact news_rot (by assumption)); (case kp => exact R37.more fun _ hq => .tail _ hq); (case kp2 => exact R30.more fun _ hq => .tail _ hq); (case zh1 => (first | lia | omega)); (case zh2 => (first | lia | omega)); (case zh3 => (first | lia | omega)); (case kd => ktr_room));
      rename News _ _ _ _ => NO; (have so1 := lt_of_news NO (.tail _ (.head _))); (have so2 := lt_of_news NO (.tail _ (.tail _ (.head _)))); (have so5 := size_of_mem (q := lP) NO (by k_mem)); (have sI5 := size_of_mem (q := I0) (o := oI) NO (by simp only [List.mem_cons, List.mem_append]; simp [hI0])); intro qa h' tk' ta ta' a37 a30 resta F2 N2 A37 A30 la1 la2 la3; (have hAa := aside_app hAg la3 so1 so2 so5); (have hga := hne_app hg la3 so1 so2); (simp only [List.cons_append] at N2 A37 A30 hga))
   | ((with_reducible show wpAny _ _ (call (Value.ref 56) _) _ _ _); k_dflt (refine' idm0_law ?kB ?kF ?kX ?kT ?kK CH1 CH2 ?kN hga A37 A30 ?zh1 ?zh2 ?zh3 ?kd ?_; (case kB => k_asm); (case kF => k_asm); (case kX => k_asm); (case kT => k_asm); (case kK => exact rfl); (case kN => exact news_dr2 (by assumption)); (case zh1 => (first | lia | omega)); (case zh2 => (first | lia | omega)); (case zh3 => (first | lia | omega)); (case kd => ktr_room));
      rename News _ _ _ _ => NO; (have so3 := lt_of_news (news_dr2 NO) (.head _)); (have so4 := lt_of_news (news_dr2 NO) (.tail _ (.head _))); (have so6 := size_of_mem (q := lP) NO (by k_mem)); (have sI6 := size_of_mem (q := I0) (o := oI) NO (by simp only [List.mem_cons, List.mem_append]; simp [hI0])); intro qb h' tk' tb tb' b37 b30 restb F2 N2 B37 B30 lb1 lb2 lb3; (have hAb := aside_app hAa lb3 so3 so4 so6); (have hgb := hne_app hga lb3 so3 so4); (simp only [List.cons_append] at N2 B37 B30 hgb))
   | ((with_reducible show wpAny _ _ (call (Value.ref 145) _) _ _ _); k_dflt (refine' reply_spec ?kB ?kF ?kX ?kT ?kK ?hl hIg hr.2.2 (row_b hr) ?kd ?_; (case kB => k_asm); (case kF => k_asm); (case kX => k_asm); (case kT => k_asm); (case kK => exact rfl); (case hl => exact isList_news (by assumption) (by k_mem)); (case kd => ktr_room));
      intro t9 h' tk' K1; rename Fr _ _ _ _ => F1; rename News _ _ _ _ => N1; (have F2 := frKp F1 K1); (have N2 := newsKp N1 K1); clear F1 N1 K1)
   | ((with_reducible show wpAny _ _ (call (Value.ref 152) [Value.str (replyT _) _]) _ _ _); k_dflt (refine' read_reply ?kB ?kF ?kX ?kN ?kT ?kK (Nat.le_trans (reply_len hr) (by decide)) (reply_reads hr) ?kd (fun h3 h' tk' F2 N2 => ?_) (fun h3 q9 h' tk' t9 t9' F2 N2 => ?_); (case kB => k_asm); (case kF => k_asm); (case kX => k_asm); (case kN => k_asm); (case kT => k_asm); (case kK => exact rfl); (case kd => ktr_room)))
   | ((with_reducible show wpAny _ _ (call (Value.ref 152) [Value.str (_ ++ Str.ofString ".") _]) _ _ _); k_dflt (refine' read_spec ?kB ?kF ?kX ?kN ?kT ?kK (reply_len3 hr) (reply_dotReads hr) ?kd (fun _ h' tk' F2 N2 => ?_) (by intro hq9; cases hq9); (case kB => k_asm); (case kF => k_asm); (case kX => k_asm); (case kN => k_asm); (case kT => k_asm); (case kK => exact rfl); (case kd => ktr_room)))
   | ((with_reducible show wpAny _ _ (call (Value.ref 152) [Value.str (_ ++ Str.ofString ")") _]) _ _ _); k_dflt (refine' read_spec ?kB ?kF ?kX ?kN ?kT ?kK (reply_len4 hr) (reply_cutReads hr) ?kd (fun _ h' tk' F2 N2 => ?_) (by intro hq9; cases hq9); (case kB => k_asm); (case kF => k_asm); (case kX => k_asm); (case kN => k_asm); (case kT => k_asm); (case kK => exact rfl); (case kd => ktr_room))))
  k_with "call builtin:len" => k_dflt (refine' len_ints_fit ?kl hIg ?kz ?_; (case kl => exact isList_news (by assumption) (by k_mem)); (case kz => (have := hr.2.2; (first | lia | omega))))
  k_with "subscriptTail Name Name ref int" => ((with_reducible show wpAny _ _ (subscriptTail _ _ (Value.ref _) (Value.int n _)) _ _ _); k_dflt (first
   | (refine' item_litK (vs := sv) ?kl hn0 ?kb hS ?_ ?k6; (case kl => exact isList_news (by assumption) (by k_mem)); (case kb => (first | lia | omega)); (case k6 => with_unfolding_all rfl))
   | (refine' item_litK (vs := dv) ?kl hn0 ?kb hD ?_ ?k6; (case kl => exact isList_news (by assumption) (by k_mem)); (case kb => (first | lia | omega)); (case k6 => with_unfolding_all rfl))))
  k_with "call builtin:list.append" => (rename Fr _ _ _ _ => FZ; rename News _ _ _ _ => NZ; k_dflt (refine' append_K (its := its) (n := kP) (news := (lP, listOf its kP) :: (37, tabObj b37) :: (30, tabObj b30) :: (lS, listOf sv.toArray kS) :: (S, tupO (.int (nm r) ts) (.int (dn r) us)) :: (lR, listOf dv.toArray kR) :: (D, listOf (List.toArray rv) k) :: (news ++ rest ++ resta ++ restb)) FZ (cb_drop NZ ?km) (Upd.head ?kh) ?_ hits; (case km => first | exact turn_mem | exact fun q hq => .tail _ (turn_mem q hq) | exact fun q hq => .tail _ (.tail _ (turn_mem q hq))); (case kh => exact turn_ne l1 hAb)); intro h9 F9 N9)
  k_steps
  all_goals first
   | (rename r.getD 2 0 ≠ _ => hx; exact absurd rfl hx)
   | (rename Fr _ _ _ _ => FX; rename News _ _ _ _ => NX
      have e9 : news ++ rest ++ resta ++ restb = news ++ (rest ++ (resta ++ restb)) := by simp only [List.append_assoc]
      rw [e9] at NX B37 B30 hAb
      exact ret _ _ _ _ b37 b30 (rest ++ (resta ++ restb)) (frLaw2 FX rfl rfl rfl rfl) (news_rot NX) (turn_drop B37) (turn_drop B30) hAb (fun x hx => by
        rcases List.mem_append.mp hx with hx | hx
        · exact Nat.lt_trans sI4 (lg2 x hx)
        · rcases List.mem_append.mp hx with hx | hx
          · exact Nat.lt_of_lt_of_le sI5 (la3 x hx)
          · exact Nat.lt_of_lt_of_le sI6 (lb3 x hx)))
end
end Mine
end PartG3

section PartL2
open PySem PySem.W PyProof.Rows PySem.Calls PySem.Spec
set_option maxRecDepth 100000
namespace Mine
/-- the second loop's body, and those within -/
noncomputable def lawRB : List Stmt := match lawBody.drop 7 with
  | .For _ _ b _ _ :: _ => b
  | _ => []
noncomputable def lawKB : List Stmt := match lawRB with
  | .For _ _ b _ _ :: _ => b
  | _ => []
noncomputable def lawNB : List Stmt := match lawKB.drop 3 with
  | .For _ _ b _ _ :: _ => b
  | _ => []
noncomputable abbrev lawM4 (m₁ : Str → Option Value) (lD lR lS lP : Addr) : Str → Option Value := fun z =>
  if z = Str.ofString "row" then some (.ref lD) else if z = Str.ofString "replies" then some (.ref lP) else if z = Str.ofString "sums" then some (.ref lS) else if z = Str.ofString "rows" then some (.ref lR) else m₁ z
theorem frLaw4 {h₀ h : Heap} {L : Addr} {m : Str → Option Value} {lD lR lS lP : Addr} (F : Fr h₀ L h m) (h0 : m (Str.ofString "row") = some (.ref lD)) (h1 : m (Str.ofString "replies") = some (.ref lP)) (h2 : m (Str.ofString "sums") = some (.ref lS)) (h3 : m (Str.ofString "rows") = some (.ref lR)) : Fr h₀ L h (lawM4 m lD lR lS lP) :=
  Eq.mp (congrArg (Fr h₀ L h) (funext fun _ => mstep h0 (mstep h1 (mstep h2 (mstep h3 rfl))) : m = lawM4 m lD lR lS lP)) F
noncomputable abbrev lawM5 (m₁ : Str → Option Value) (k : Int) (tk : Tok) (lD lR lS lP : Addr) : Str → Option Value := fun z =>
  if z = Str.ofString "k" then some (.int k tk) else lawM4 m₁ lD lR lS lP z
noncomputable abbrev lawM6 (m₁ : Str → Option Value) (f : Str) (tf : Tok) (lo : Int) (t1 : Tok) (lu : Int) (t2 : Tok) (hi : Int) (t3 : Tok) (hu : Int) (t4 : Tok) (k : Int) (tk : Tok) (lD lR lS lP : Addr) : Str → Option Value := fun z =>
  if z = Str.ofString "high_under" then some (.int hu t4) else if z = Str.ofString "high" then some (.int hi t3) else if z = Str.ofString "low_under" then some (.int lu t2) else if z = Str.ofString "low" then some (.int lo t1) else if z = Str.ofString "front" then some (.str f tf) else lawM5 m₁ k tk lD lR lS lP z
theorem frLaw6 {h₀ h : Heap} {L : Addr} {m : Str → Option Value} {f : Str} {tf : Tok} {lo : Int} {t1 : Tok} {lu : Int} {t2 : Tok} {hi : Int} {t3 : Tok} {hu : Int} {t4 : Tok} {k : Int} {tk : Tok} {lD lR lS lP : Addr} (F : Fr h₀ L h m)
   (g1 : m (Str.ofString "high_under") = some (.int hu t4)) (g2 : m (Str.ofString "high") = some (.int hi t3)) (g3 : m (Str.ofString "low_under") = some (.int lu t2)) (g4 : m (Str.ofString "low") = some (.int lo t1)) (g5 : m (Str.ofString "front") = some (.str f tf)) (g6 : m (Str.ofString "k") = some (.int k tk))
   (h0 : m (Str.ofString "row") = some (.ref lD)) (h1 : m (Str.ofString "replies") = some (.ref lP)) (h2 : m (Str.ofString "sums") = some (.ref lS)) (h3 : m (Str.ofString "rows") = some (.ref lR)) : Fr h₀ L h (lawM6 m f tf lo t1 lu t2 hi t3 hu t4 k tk lD lR lS lP) :=
  Eq.mp (congrArg (Fr h₀ L h) (funext fun _ => mstep g1 (mstep g2 (mstep g3 (mstep g4 (mstep g5 (mstep g6 (mstep h0 (mstep h1 (mstep h2 (mstep h3 rfl))))))))) : m = lawM6 m f tf lo t1 lu t2 hi t3 hu t4 k tk lD lR lS lP)) F
noncomputable abbrev lawM7 (m₁ : Str → Option Value) (n : Int) (tn : Tok) (f : Str) (tf : Tok) (lo : Int) (t1 : Tok) (lu : Int) (t2 : Tok) (hi : Int) (t3 : Tok) (hu : Int) (t4 : Tok) (k : Int) (tk : Tok) (lD lR lS lP : Addr) : Str → Option Value := fun z =>
  if z = Str.ofString "n" then some (.int n tn) else lawM6 m₁ f tf lo t1 lu t2 hi t3 hu t4 k tk lD lR lS lP z
noncomputable abbrev lawM8 (m₁ : Str → Option Value) (bg : Bool) (un : Int) (tu : Tok) (ov : Int) (tv : Tok) (n : Int) (tn : Tok) (f : Str) (tf : Tok) (lo : Int) (t1 : Tok) (lu : Int) (t2 : Tok) (hi : Int) (t3 : Tok) (hu : Int) (t4 : Tok) (k : Int) (tk : Tok) (lD lR lS lP : Addr) : Str → Option Value := fun z =>
  if z = Str.ofString "begins" then some (.bool bg) else if z = Str.ofString "under" then some (.int un tu) else if z = Str.ofString "over" then some (.int ov tv) else lawM7 m₁ n tn f tf lo t1 lu t2 hi t3 hu t4 k tk lD lR lS lP z
theorem nm_tight {r : List Int} (h : RowOk r) : 0 ≤ nm r ∧ nm r ≤ 20588724480 ∧ 1 ≤ dn r ∧ dn r ≤ 20588724480 := by
  have h1 := chain_dn h.1 h.2.2
  have h2 : nm r ≤ dn r := by
    cases r with
    | nil => have := h.2.1; simp at this
    | cons e r => exact nm_le h.1.two
  have hb := row_b h
  have h3 := dn_pos fun n hn => (hb n hn).1
  have h4 := nm_nonneg fun n hn => (hb n hn).1
  omega
/-- a product's size -/
theorem mulOk_of {x y : Int} (h0 : 0 ≤ x) (h : x < 2 ^ 64) : IntMulOk x y := IntMulOk.of_left (bits_le (k := 64) h0 h)
section
variable {prog : Program} {w : World} {A : Around} {E : Value → Shared → Prop} {s : Shared} {x y : Str} {t u : Tok} {Q : Value → Shared → Prop}
theorem add_short (hx : x.length ≤ 900) (hy : y.length ≤ 900) (h : ∀ t' tk, Q (.str (x ++ y) t') { s with toks := tk }) : wpAny (model prog w) A (binaryOp .Add (.str x t) (.str y u)) Q E s :=
  PyProof.Rows.add_str h (by rw [sizeLine_eq]; omega)
end
end Mine
end PartL2

section PartG4
open PySem PySem.W PyProof.Rows PySem.Calls PySem.Spec
set_option maxRecDepth 100000
namespace Mine
section
variable {w : World} {p : Program} {loose : List Str} {mean : ExcName → Option Value} {mg mb : Str → Option Value} {fa : Addr} {cd : Value} {h₀ : Heap} {L : Addr} {m₁ : Str → Option Value} {s : Shared} {Qf : Flow → Shared → Prop} {Qe : Value → Shared → Prop}
set_option maxHeartbeats 8000000 in
/-- the second loop's innermost body, from the third row -/
theorem law_nbT {n : Int} {tn : Tok} {lR lS lP Dq D : Addr} {tP : Tok} {tf t1 t2 t3 t4 tk : Tok} {hi hu : Int} {rv qv sv dv pv : List Value} {r q : List Int} {k kr kq kP kS kR : Nat} {tu tv : Tok} {bg : Bool} {news : List (Addr × Obj)}
   (B : Below callerA h₀ [] h₀) (X : (hd.heap_39 w.params).In h₀) (T : Top p loose mean mg mb h₀)
   (hn0 : 0 ≤ n) (hn2 : n < 2) (hP : pv[n.toNat]? = some (.str (replyT q) tP)) (hD : dv[n.toNat]? = some (.ref Dq))
   (F : Fr h₀ L s.heap (lawM8 m₁ bg (dn q) tu (nm q) tv n tn (frontT (r.take k)) tf (nm (r.take k)) t1 (dn (r.take k)) t2 hi t3 hu t4 (k : Int) tk D lR lS lP))
   (N : News h₀ L s.heap ((lP, listOf pv.toArray kP) :: (lS, listOf sv.toArray kS) :: (lR, listOf dv.toArray kR) :: (D, listOf rv.toArray kr) :: (Dq, listOf qv.toArray kq) :: news))
   (hI : IntsAre rv r) (hr : RowOk r) (hIq : IntsAre qv q) (hq : RowOk q) (hk1 : 1 ≤ k) (hk2 : k ≤ r.length) (hbg : bg = decide (r.take k <+: q))
   (ret : ∀ m' h' tk', Fr h₀ L h' (lawM6 m' (frontT (r.take k)) tf (nm (r.take k)) t1 (dn (r.take k)) t2 hi t3 hu t4 (k : Int) tk D lR lS lP) →
     News h₀ L h' ((lP, listOf pv.toArray kP) :: (lS, listOf sv.toArray kS) :: (lR, listOf dv.toArray kR) :: (D, listOf rv.toArray kr) :: (Dq, listOf qv.toArray kq) :: news) → Qf .next { s with heap := h', toks := tk' }) :
   wpAny (model PySem.Challenge.rw_rw0066_01.row.prog w) (callerA.deeper (lawEnv L fa cd)) (execs (lawNB.drop 2) (lawEnv L fa cd)) Qf Qe s := by
  have hp : RowOk (r.take k) := ⟨chain_take _ hr.1, by rw [List.length_take]; (first | lia | omega), by rw [List.length_take]; have := hr.2.2; (first | lia | omega)⟩
  have hfl := front_len hp
  have hpq := frac_inj hp.1.two hq.1.two
  have hsp := nm_tight hp
  have hsq := nm_tight hq
  have hz : 0 ≤ r.getD (-1 + (r.length : Int)).toNat 0 ∧ r.getD (-1 + (r.length : Int)).toNat 0 ≤ 400000 := by
    have := row_b hr _ (List.mem_of_getLast? (last_get hr.2.1))
    (first | lia | omega)
  have g2 := num_len hz.1 (small20 hz.2)
  have g1 : (frontT (r.take k) ++ Str.ofString "... ").length ≤ 300 := Nat.le_trans (KT.len_app hfl.2 (Nat.le_refl _)) (by decide)
  have g3 : (frontT (r.take k) ++ Str.ofString "... " ++ Str.ofString (toString (r.getD (-1 + (r.length : Int)).toNat 0))).length ≤ 400 := Nat.le_trans (KT.len_app g1 g2) (by decide)
  k_with_none
  k_with "execs cons" => ((with_reducible show wpAny _ _ _ _ _ (Shared.mk _ _ _ (_ + 1) _)); refine Mine.tok_gen fun _ => ?_)
  k_with "exec Assign" => k_fold
  k_with "exec If" => k_fold
  k_with "exec Return some" => k_fold
  k_with "exec For" => k_fold
  k_with "exec Expr" => k_fold
  k_with "exec AugAssign" => k_fold
  k_with "exec Try" => k_fold
  k_with "exec Delete" => k_fold
  k_with "exec Assert" => k_fold
  k_with "exec While" => k_fold
  k_with "eval Call" => k_fold
  k_with "eval Compare" => k_fold
  k_with "eval BinOp" => k_fold
  k_with "eval Tuple" => k_fold
  k_with "eval List" => k_fold
  k_with "isTrue" => k_fold
  k_with "callWith" => k_fold
  k_with "eval Subscript" => k_fold
  k_with "room" => first | exact Mine.room0 (dp := dp) hdp | exact Mine.room1 (dp := dp) hdp rfl
  k_with "lia" => lia
  k_with "binaryOp Mult int int" => (refine mul_int (mulOk_of (by (first | lia | omega)) (by (first | lia | omega))) ?_)
  k_with "binaryOp Add str str" => (k_dflt (refine add_short (by first | (first | lia | omega) | decide) (by first | (first | lia | omega) | decide) ?_); intro _ _)
  k_with "call type:str" => (refine P.str_of_int ?_ (log_small (by (first | lia | omega)) (by (first | lia | omega))))
  k_with "ite" => (k_dflt (rw [if_neg (by rw [bne_self_eq_false]; exact Bool.false_ne_true)]))
  revert X; k_fill; intro X
  unfold lawEnv
  conv in (occs := *) lawScope => all_goals whnf
  conv in (lawNB.drop 2) => whnf
  k_with "call ref" => k_dflt (first
   | ((with_reducible show wpAny _ _ (call (Value.ref 63) [Value.str (_ ++ Str.ofString ".../)") _, _]) _ _ _); refine' ell_begins ?kB ?kF ?kX ?kT ?kK hp hq ?kd ?_; (case kB => k_asm); (case kF => k_asm); (case kX => k_asm); (case kT => k_asm); (case kK => exact rfl); (case kd => ktr_room);
      (rw [e1]); intro h' tk' K1; rename Fr _ _ _ _ => F1; rename News _ _ _ _ => N1; (have F2 := frKp F1 K1); (have N2 := newsKp N1 K1); clear F1 N1 K1)
   | ((with_reducible show wpAny _ _ (call (Value.ref 63) [Value.str (_ ++ Str.ofString "/.../)") _, _]) _ _ _); refine' ell_more ?kB ?kF ?kX ?kT ?kK hp hq ?kd ?_; (case kB => k_asm); (case kF => k_asm); (case kX => k_asm); (case kT => k_asm); (case kK => exact rfl); (case kd => ktr_room);
      (rw [e2]); intro h' tk' K1; rename Fr _ _ _ _ => F1; rename News _ _ _ _ => N1; (have F2 := frKp F1 K1); (have N2 := newsKp N1 K1); clear F1 N1 K1)
   | ((with_reducible show wpAny _ _ (call (Value.ref 63) [Value.str (_ ++ Str.ofString " .../)") _, _]) _ _ _); refine' ell_later ?kB ?kF ?kX ?kT ?kK hp hq hz.1 hz.2 ?kd ?_; (case kB => k_asm); (case kF => k_asm); (case kX => k_asm); (case kT => k_asm); (case kK => exact rfl); (case kd => ktr_room);
      (rw [e3]); intro h' tk' K1; rename Fr _ _ _ _ => F1; rename News _ _ _ _ => N1; (have F2 := frKp F1 K1); (have N2 := newsKp N1 K1); clear F1 N1 K1))
  k_with "subscriptTail Name Name ref int" => ((with_reducible show wpAny _ _ (subscriptTail _ _ (Value.ref _) (Value.int n _)) _ _ _); k_dflt (first
   | (refine' item_litK (vs := pv) ?kl hn0 ?kb hP ?_ ?k6; (case kl => exact isList_news (by assumption) (by k_mem)); (case kb => (first | lia | omega)); (case k6 => with_unfolding_all rfl))
   | (refine' item_litK (vs := dv) ?kl hn0 ?kb hD ?_ ?k6; (case kl => exact isList_news (by assumption) (by k_mem)); (case kb => (first | lia | omega)); (case k6 => with_unfolding_all rfl))))
  cases bg
  · have e1 : decide (r.take k <+: q) = false := hbg.symm
    have e0 := of_decide_eq_false e1
    have e2 : decide (r.take k <+: q ∧ r.take k ≠ q) = false := decide_eq_false fun h => e0 h.1
    have e3 : decide (r.take k <+: q ∧ r.getD (-1 + (r.length : Int)).toNat 0 ∈ q.drop (r.take k).length) = false := decide_eq_false fun h => e0 h.1
    k_steps
    rename Fr _ _ _ _ => FX
    rename News _ _ _ _ => NX
    exact ret _ _ _ (frLaw6 FX rfl rfl rfl rfl rfl rfl rfl rfl rfl rfl) NX
  · have e1 : decide (r.take k <+: q) = true := hbg.symm
    have e0 := of_decide_eq_true e1
    have e2 : decide (r.take k <+: q ∧ r.take k ≠ q) = (nm (r.take k) * dn q != nm q * dn (r.take k)) := by
      rw [Bool.eq_iff_iff, decide_eq_true_eq, bne_iff_ne]
      exact ⟨fun h e => h.2 (hpq.mp e), fun h => ⟨e0, fun e => h (hpq.mpr e)⟩⟩
    have e3 : decide (r.take k <+: q ∧ r.getD (-1 + (r.length : Int)).toNat 0 ∈ q.drop (r.take k).length) = (q.drop (Int.toNat (k : Int))).any (· == r.getD (-1 + (r.length : Int)).toNat 0) := by
      rw [Bool.eq_iff_iff, decide_eq_true_eq, List.any_eq_true, List.length_take, Nat.min_eq_left hk2]
      exact ⟨fun h => ⟨_, h.2, beq_self_eq_true _⟩, fun ⟨x, hx, e⟩ => ⟨e0, by rw [← eq_of_beq e]; exact hx⟩⟩
    k_with "subscriptTail Name Slice ref ref" => (k_dflt (refine' kmk_slice_ints ?jF ?jN ?jl ?jp ?jq ?ji ?jm ?jc ?_ ?js ?jt ?jz; (case jF => k_asm); (case jN => k_asm); (case jl => exact isList_news (by k_asm) (by k_mem)); (case jp => kmk_part); (case jq => kmk_part); (case ji => exact hIq); (case jm => exact kmk_from hIq (Int.natCast_nonneg k)); (case jc => kmk_len); (case js => with_unfolding_all rfl); (case jt => kmk_pure); (case jz => exact kmk_sz hIq (by rw [sizeLine_eq]; have := hq.2.2; (first | lia | omega)))); intro D' ws' h' F' N' l1 hI' hC' hL'; (try k_lt l1))
    k_with "subscriptTail Subscript Slice ref ref" => (k_dflt (refine' kmk_slice_ints ?jF ?jN ?jl ?jp ?jq ?ji ?jm ?jc ?_ ?js ?jt ?jz; (case jF => k_asm); (case jN => k_asm); (case jl => exact isList_news (by k_asm) (by k_mem)); (case jp => kmk_part); (case jq => kmk_part); (case ji => exact hIq); (case jm => exact kmk_from hIq (Int.natCast_nonneg k)); (case jc => kmk_len); (case js => with_unfolding_all rfl); (case jt => kmk_pure); (case jz => exact kmk_sz hIq (by rw [sizeLine_eq]; have := hq.2.2; (first | lia | omega)))); intro D' ws' h' F' N' l1 hI' hC' hL'; (try k_lt l1))
    k_with "compareOp In int ref" => k_dflt (refine' in_list_ints ?hl ?hi ?_; (case hl => exact isList_news (by k_asm) (by k_mem)); (case hi => assumption))
    k_steps
    rename Fr _ _ _ _ => FX
    rename News _ _ _ _ => NX
    exact ret _ _ _ (frLaw6 FX rfl rfl rfl rfl rfl rfl rfl rfl rfl rfl) (cb_drop NX fun _ h => .tail _ h)
end
end Mine
end PartG4

section PartG5
open PySem PySem.W PyProof.Rows PySem.Calls PySem.Spec
set_option maxRecDepth 100000
namespace Mine
theorem nb_mem {a b c d e f : Addr × Obj} {l : List (Addr × Obj)} : ∀ q ∈ b :: c :: d :: e :: f :: a :: l, q ∈ a :: b :: c :: d :: e :: f :: l := by
  repeat (refine List.forall_mem_cons.mpr ⟨by repeat (first | exact List.Mem.head _ | refine List.Mem.tail _ ?_), ?_⟩)
  intro q hq
  repeat (first | exact hq | (cases hq; done) | refine List.Mem.tail _ ?_)
theorem nb_mem' {a b c d e f : Addr × Obj} {l : List (Addr × Obj)} : ∀ q ∈ a :: b :: c :: d :: e :: f :: l, q ∈ b :: c :: d :: e :: f :: a :: l := by
  repeat (refine List.forall_mem_cons.mpr ⟨by repeat (first | exact List.Mem.head _ | refine List.Mem.tail _ ?_), ?_⟩)
  intro q hq
  repeat (first | exact hq | (cases hq; done) | refine List.Mem.tail _ ?_)
section
variable {w : World} {p : Program} {loose : List Str} {mean : ExcName → Option Value} {mg mb : Str → Option Value} {fa : Addr} {cd : Value} {h₀ : Heap} {L : Addr} {m₁ : Str → Option Value} {s : Shared} {Qf : Flow → Shared → Prop} {Qe : Value → Shared → Prop}
set_option maxHeartbeats 8000000 in
/-- the second loop's innermost body -/
theorem law_nb {n : Int} {tn : Tok} {lR lS lP S Dq D : Addr} {tP ts us : Tok} {tf t1 t2 t3 t4 tk : Tok} {d : Int} {pp : List Int} {rv qv sv dv pv : List Value} {r q : List Int} {k kr kq kP kS kR : Nat} {news : List (Addr × Obj)}
   (B : Below callerA h₀ [] h₀) (X : (hd.heap_39 w.params).In h₀) (T : Top p loose mean mg mb h₀)
   (hn0 : 0 ≤ n) (hn2 : n < 2) (hP : pv[n.toNat]? = some (.str (replyT q) tP)) (hD : dv[n.toNat]? = some (.ref Dq)) (hS : sv[n.toNat]? = some (.ref S))
   (F : Fr h₀ L s.heap (lawM7 m₁ n tn (frontT (r.take k)) tf (nm (r.take k)) t1 (dn (r.take k)) t2 (nm (pp ++ [d - 1])) t3 (dn (pp ++ [d - 1])) t4 (k : Int) tk D lR lS lP))
   (N : News h₀ L s.heap ((S, tupO (.int (nm q) ts) (.int (dn q) us)) :: (lP, listOf pv.toArray kP) :: (lS, listOf sv.toArray kS) :: (lR, listOf dv.toArray kR) :: (D, listOf rv.toArray kr) :: (Dq, listOf qv.toArray kq) :: news))
   (hI : IntsAre rv r) (hr : RowOk r) (hIq : IntsAre qv q) (hq : RowOk q) (hk1 : 1 ≤ k) (hk2 : k ≤ r.length) (hpd : r.take k = pp ++ [d])
   (ret : ∀ m' h' tk', Fr h₀ L h' (lawM6 m' (frontT (r.take k)) tf (nm (r.take k)) t1 (dn (r.take k)) t2 (nm (pp ++ [d - 1])) t3 (dn (pp ++ [d - 1])) t4 (k : Int) tk D lR lS lP) →
     News h₀ L h' ((S, tupO (.int (nm q) ts) (.int (dn q) us)) :: (lP, listOf pv.toArray kP) :: (lS, listOf sv.toArray kS) :: (lR, listOf dv.toArray kR) :: (D, listOf rv.toArray kr) :: (Dq, listOf qv.toArray kq) :: news) → Qf .next { s with heap := h', toks := tk' }) :
   wpAny (model PySem.Challenge.rw_rw0066_01.row.prog w) (callerA.deeper (lawEnv L fa cd)) (execs lawNB (lawEnv L fa cd)) Qf Qe s := by
  have hp : RowOk (r.take k) := ⟨chain_take _ hr.1, by rw [List.length_take]; (first | lia | omega), by rw [List.length_take]; have := hr.2.2; (first | lia | omega)⟩
  have hbi := begins_iff (p' := pp) (d := d) (s := q) (by rw [← hpd]; exact hp.1.two) hq.1.two
  rw [← hpd] at hbi
  have hsp := nm_tight hp
  have hsq := nm_tight hq
  k_with_none
  k_with "execs cons" => ((with_reducible show wpAny _ _ _ _ _ (Shared.mk _ _ _ (_ + 1) _)); refine Mine.tok_gen fun _ => ?_)
  k_with "exec Assign" => k_fold
  k_with "exec If" => k_fold
  k_with "exec Return some" => k_fold
  k_with "exec For" => k_fold
  k_with "exec Expr" => k_fold
  k_with "exec AugAssign" => k_fold
  k_with "exec Try" => k_fold
  k_with "exec Delete" => k_fold
  k_with "exec Assert" => k_fold
  k_with "exec While" => k_fold
  k_with "eval Call" => k_fold
  k_with "eval Compare" => k_fold
  k_with "eval BinOp" => k_fold
  k_with "eval Tuple" => k_fold
  k_with "eval List" => k_fold
  k_with "isTrue" => k_fold
  k_with "callWith" => k_fold
  k_with "eval Subscript" => k_fold
  k_with "room" => first | exact Mine.room0 (dp := dp) hdp | exact Mine.room1 (dp := dp) hdp rfl
  k_with "lia" => lia
  k_with "binaryOp Mult int int" => (refine mul_int (mulOk_of (by (first | lia | omega)) (by (first | lia | omega))) ?_)
  revert X; k_fill; intro X
  unfold lawEnv
  conv in (occs := *) lawScope => all_goals whnf
  conv in lawNB => whnf
  k_with "subscriptTail Name Name ref int" => ((with_reducible show wpAny _ _ (subscriptTail _ _ (Value.ref _) (Value.int n _)) _ _ _); k_dflt 
   (refine' item_litK (vs := sv) ?kl hn0 ?kb hS ?_ ?k6; (case kl => exact isList_news (by assumption) (by k_mem)); (case kb => (first | lia | omega)); (case k6 => with_unfolding_all rfl)))
  k_with "execs cons" => k_dflt (change wpAny _ _ (execs (lawNB.drop 2) (lawEnv L fa cd)) _ _ _; rename Fr _ _ _ _ => FZ; rename News _ _ _ _ => NZ; (refine law_nbT (news := (S, tupO (.int (nm q) ts) (.int (dn q) us)) :: news) B X T hn0 hn2 hP hD FZ (cb_drop NZ nb_mem) hI hr hIq hq hk1 hk2 ?_ (fun m' h' tk' F9 N9 => ret m' h' tk' F9 (cb_drop N9 nb_mem')); rw [decide_eq_decide]; first | exact ⟨fun h => hbi.mp ⟨by assumption, h⟩, fun h => (hbi.mpr h).2⟩ | exact ⟨fun h => absurd h (by assumption), fun h => (hbi.mpr h).1⟩))
  k_steps
end
end Mine
end PartG5

section PartG7
open PySem PySem.W PyProof.Rows PySem.Calls PySem.Spec
set_option maxRecDepth 100000
namespace Mine
theorem l1_mem {a b c d e f i l p r : Addr × Obj} {k : List (Addr × Obj)} : ∀ q ∈ c :: d :: p :: l :: a :: r :: e :: i :: b :: f :: k, q ∈ i :: p :: l :: b :: a :: r :: e :: f :: c :: d :: k := by
  repeat (refine List.forall_mem_cons.mpr ⟨by repeat (first | exact List.Mem.head _ | refine List.Mem.tail _ ?_), ?_⟩)
  intro q hq
  repeat (first | exact hq | (cases hq; done) | refine List.Mem.tail _ ?_)
theorem l2_mem {a b c d e f i l p r : Addr × Obj} {k : List (Addr × Obj)} : ∀ q ∈ i :: c :: d :: p :: l :: a :: r :: e :: b :: f :: k, q ∈ c :: d :: p :: l :: a :: r :: e :: i :: b :: f :: k := by
  repeat (refine List.forall_mem_cons.mpr ⟨by repeat (first | exact List.Mem.head _ | refine List.Mem.tail _ ?_), ?_⟩)
  intro q hq
  repeat (first | exact hq | (cases hq; done) | refine List.Mem.tail _ ?_)
theorem l3_mem {a b c d e f i l p r : Addr × Obj} {k : List (Addr × Obj)} : ∀ q ∈ c :: d :: p :: l :: b :: r :: f :: i :: a :: e :: k, q ∈ i :: c :: d :: p :: l :: a :: r :: e :: b :: f :: k := by
  repeat (refine List.forall_mem_cons.mpr ⟨by repeat (first | exact List.Mem.head _ | refine List.Mem.tail _ ?_), ?_⟩)
  intro q hq
  repeat (first | exact hq | (cases hq; done) | refine List.Mem.tail _ ?_)
theorem l4_mem {a b c d e f l p r : Addr × Obj} {k : List (Addr × Obj)} : ∀ q ∈ p :: l :: b :: a :: r :: e :: f :: c :: d :: k, q ∈ c :: d :: p :: l :: b :: r :: f :: a :: e :: k := by
  repeat (refine List.forall_mem_cons.mpr ⟨by repeat (first | exact List.Mem.head _ | refine List.Mem.tail _ ?_), ?_⟩)
  intro q hq
  repeat (first | exact hq | (cases hq; done) | refine List.Mem.tail _ ?_)
theorem l_off {I0 a b c d e f l p r : Addr} {o1 o2 o3 o4 o5 o6 o7 o8 o9 : Obj} {k : List (Addr × Obj)} (h : @LT.lt Nat _ a I0 ∧ @LT.lt Nat _ b I0 ∧ @LT.lt Nat _ c I0 ∧ @LT.lt Nat _ d I0 ∧ @LT.lt Nat _ e I0 ∧ @LT.lt Nat _ f I0 ∧ @LT.lt Nat _ l I0 ∧ @LT.lt Nat _ p I0 ∧ @LT.lt Nat _ r I0)
    (hk : ∀ x ∈ k, @LT.lt Nat _ I0 x.1) : ∀ q ∈ (c, o1) :: (d, o2) :: (p, o3) :: (l, o4) :: (a, o5) :: (r, o6) :: (e, o7) :: (b, o8) :: (f, o9) :: k, q.1 ≠ I0 := fun q hq => by
  obtain ⟨ha, hb, hc, hd, he, hf, hl, hp, hr⟩ := h
  simp only [List.mem_cons] at hq
  rcases hq with rfl | rfl | rfl | rfl | rfl | rfl | rfl | rfl | rfl | hq
  · exact Nat.ne_of_lt hc
  · exact Nat.ne_of_lt hd
  · exact Nat.ne_of_lt hp
  · exact Nat.ne_of_lt hl
  · exact Nat.ne_of_lt ha
  · exact Nat.ne_of_lt hr
  · exact Nat.ne_of_lt he
  · exact Nat.ne_of_lt hb
  · exact Nat.ne_of_lt hf
  · exact Nat.ne_of_gt (hk q hq)
theorem aside3 {lP a b c : Addr} {o1 o2 o3 : Obj} {k : List (Addr × Obj)} (ha : @Ne Nat a 37 ∧ @Ne Nat a 30 ∧ @Ne Nat a lP) (hb : @Ne Nat b 37 ∧ @Ne Nat b 30 ∧ @Ne Nat b lP) (hc : @Ne Nat c 37 ∧ @Ne Nat c 30 ∧ @Ne Nat c lP) (hk : Aside lP k) : Aside lP ((a, o1) :: (b, o2) :: (c, o3) :: k) := fun q hq => by
  simp only [List.mem_cons] at hq
  rcases hq with rfl | rfl | rfl | hq
  · exact ha
  · exact hb
  · exact hc
  · exact hk q hq
theorem aside_tail {lP : Addr} {a b c : Addr × Obj} {k : List (Addr × Obj)} (h : Aside lP (a :: b :: c :: k)) : Aside lP k := fun q hq => h q (.tail _ (.tail _ (.tail _ hq)))
theorem ps_drop {h₀ : Heap} {x : Addr × Obj} {led : List (Addr × Obj)} {ps : Array Value} {l c : Nat} {q : Str} (P : PsR h₀ (x :: led) ps l c q) (hx : ¬ IsCd x.2 q) : PsR h₀ led ps l c q :=
  P.imp id fun ⟨c', e, C⟩ => ⟨c', e, C.imp id fun ⟨oc, hm, I⟩ => ⟨oc, (List.mem_cons.mp hm).resolve_left (fun h => hx (by rw [← h]; exact I)), I⟩⟩
theorem ps_off {h₀ : Heap} {I a b : Addr} {it : Obj} {x y : Value} {i1 : Array Value} {k1 : Nat} {k : List (Addr × Obj)} {ps : Array Value} {ln c : Nat} {q : Str} (hi : ¬ IsCd it q) (P : PsR h₀ ((I, it) :: (a, tupO x y) :: (b, listOf i1 k1) :: k) ps ln c q) : PsR h₀ k ps ln c q :=
  ((ps_drop P hi).drop nofun).drop nofun
theorem ps_on {h₀ : Heap} {a b c : Addr × Obj} {k : List (Addr × Obj)} {ps : Array Value} {ln cl : Nat} {q : Str} (P : PsR h₀ k ps ln cl q) : PsR h₀ (a :: b :: c :: k) ps ln cl q := P.more fun _ h => .tail _ (.tail _ (.tail _ h))
theorem itR_off {a b : Int} {q : Str} : ¬ IsCd (itR a b) q := by
  rintro ⟨vs, t, h1, h2⟩
  cases h1
  cases h2
section
variable {w : World} {p : Program} {loose : List Str} {mean : ExcName → Option Value} {mg mb : Str → Option Value} {fa : Addr} {cd : Value} {h₀ : Heap} {L : Addr} {m₁ : Str → Option Value} {s : Shared} {Qf : Flow → Shared → Prop} {Qe : Value → Shared → Prop}
set_option maxHeartbeats 8000000 in
theorem law_loop1 {lR lS lP S1 S2 D1 D2 : Addr} {mk : Str} {tm ts us ts2 us2 : Tok} {rv1 rv2 : List Value} {r1 r2 : List Int} {k1 k2 : Nat}
   (B : Below callerA h₀ [] h₀) (X : (hd.heap_39 w.params).In h₀) (T : Top p loose mean mg mb h₀) (CH1 : CodeHd h₀ 41 37) (CH2 : CodeHd h₀ 34 30)
   (F : Fr h₀ L s.heap (lawM2 m₁ lR lS lP mk tm)) (N : News h₀ L s.heap [(lP, listOf #[] 0), (lS, listOf #[.ref S1, .ref S2] 2), (S2, tupO (.int (nm r2) ts2) (.int (dn r2) us2)), (S1, tupO (.int (nm r1) ts) (.int (dn r1) us)), (lR, listOf #[.ref D1, .ref D2] 0), (D1, listOf (List.toArray rv1) k1), (D2, listOf (List.toArray rv2) k2), (37, tabObj #[]), (30, tabObj #[])])
   (hI1 : IntsAre rv1 r1) (hr1 : RowOk r1) (hI2 : IntsAre rv2 r2) (hr2 : RowOk r2) (hmk : IsMark mk)
   (l1 : @LT.lt Nat _ lS lP ∧ @LT.lt Nat _ S2 lP ∧ @LT.lt Nat _ S1 lP ∧ @LT.lt Nat _ lR lP ∧ @LT.lt Nat _ D1 lP ∧ @LT.lt Nat _ D2 lP ∧ @LT.lt Nat _ 37 lP ∧ @LT.lt Nat _ 30 lP) 
   (l2 : @Ne Nat lS 37 ∧ @Ne Nat lS 30 ∧ @Ne Nat S1 37 ∧ @Ne Nat S1 30 ∧ @Ne Nat S2 37 ∧ @Ne Nat S2 30) (l3 : @Ne Nat lR 37 ∧ @Ne Nat lR 30 ∧ @Ne Nat D1 37 ∧ @Ne Nat D1 30 ∧ @Ne Nat D2 37 ∧ @Ne Nat D2 30)
   (ret : ∀ m' ta tb kP q37 q30 rest h' tk', Fr h₀ L h' (lawM2 m' lR lS lP mk tm) →
     News h₀ L h' ((lP, listOf #[.str (replyT r1) ta, .str (replyT r2) tb] kP) :: (lS, listOf #[.ref S1, .ref S2] 2) :: (S2, tupO (.int (nm r2) ts2) (.int (dn r2) us2)) :: (S1, tupO (.int (nm r1) ts) (.int (dn r1) us)) :: (lR, listOf #[.ref D1, .ref D2] 0) :: (D1, listOf (List.toArray rv1) k1) :: (D2, listOf (List.toArray rv2) k2) :: (37, tabObj q37) :: (30, tabObj q30) :: rest) →
     PsR h₀ rest q37 47 4 digQ → PsR h₀ rest q30 32 4 intQ →
     wpAny (model PySem.Challenge.rw_rw0066_01.row.prog w) (callerA.deeper (lawEnv L fa cd)) (execs (lawBody.drop 7) (lawEnv L fa cd)) Qf (fun _ _ => False) { s with heap := h', toks := tk' }) :
   wpAny (model PySem.Challenge.rw_rw0066_01.row.prog w) (callerA.deeper (lawEnv L fa cd)) (execs (lawBody.drop 6) (lawEnv L fa cd)) Qf (fun _ _ => False) s := by
  k_with_none
  k_with "execs cons" => ((with_reducible show wpAny _ _ _ _ _ (Shared.mk _ _ _ (_ + 1) _)); refine Mine.tok_gen fun _ => ?_)
  k_with "exec Assign" => k_fold
  k_with "exec If" => k_fold
  k_with "exec Return some" => k_fold
  k_with "exec For" => k_fold
  k_with "exec Expr" => k_fold
  k_with "exec AugAssign" => k_fold
  k_with "exec Try" => k_fold
  k_with "exec Delete" => k_fold
  k_with "exec Assert" => k_fold
  k_with "exec While" => k_fold
  k_with "eval Call" => k_fold
  k_with "eval Compare" => k_fold
  k_with "eval BinOp" => k_fold
  k_with "eval Tuple" => k_fold
  k_with "eval List" => k_fold
  k_with "isTrue" => k_fold
  k_with "callWith" => k_fold
  k_with "eval Subscript" => k_fold
  k_with "room" => first | exact Mine.room0 (dp := dp) hdp | exact Mine.room1 (dp := dp) hdp rfl
  k_with "pyIter ref" => ((rename IsRange _ _ _ _ _ _ _ _ => rR'); (rename Fr _ _ _ _ => lF'); (rename News _ _ _ _ => lN'); (with_unfolding_all refine iter_rangeUnr (by rfl) rR' ?_ (rangeSize_nat _ _) lF' lN' ?_); rotate_left 1; intro I9 l9; (generalize hnn : Int.toNat _ = nn))
  k_with "call type:range" => ((rename Fr _ _ _ _ => F'); (rename News _ _ _ _ => N'); (with_unfolding_all refine range1_rows F' N' ?_; intro _ _ _ _ _ _ _ _ _))
  k_with "exec For" => ((rename Fr _ _ _ _ => lF'); (with_unfolding_all refine For_invVF lF' rfl rfl ?_))
  revert X; k_fill; intro X
  unfold lawEnv
  conv in (occs := *) lawScope => all_goals whnf
  conv in (lawBody.drop 6) => whnf
  k_steps
  obtain ⟨a1, a2, a3, a4, a5, a6, a7, a8⟩ := l1
  obtain ⟨b1, b2, b3, b4, b5, b6⟩ := l2
  obtain ⟨c1, c2, c3, c4, c5, c6⟩ := l3
  have z0 : (#[] : Array Value).size ≤ sizeLine := by rw [sizeLine_eq]; decide
  have z1 : ∀ x : Value, (#[x] : Array Value).size ≤ sizeLine := fun x => by rw [sizeLine_eq]; show 1 ≤ _; decide
  refine rng_name fun I0 hI0 => ?_
  subst hI0
  have hn2 : _ = 2 := (‹Int.toNat (2 - 0) = _›).symm
  subst hn2
  have lI := ‹∀ p ∈ (lP, listOf #[] 0) :: _, p.1 < I0›
  have d1 := lI (lP, _) (.head _)
  have d2 := lI (lS, _) (.tail _ (.head _))
  have d3 := lI (S2, _) (.tail _ (.tail _ (.head _)))
  have d4 := lI (S1, _) (.tail _ (.tail _ (.tail _ (.head _))))
  have d5 := lI (lR, _) (.tail _ (.tail _ (.tail _ (.tail _ (.head _)))))
  have d6 := lI (D1, _) (.tail _ (.tail _ (.tail _ (.tail _ (.tail _ (.head _))))))
  have d7 := lI (D2, _) (.tail _ (.tail _ (.tail _ (.tail _ (.tail _ (.tail _ (.head _)))))))
  have d8 := lI (37, _) (.tail _ (.tail _ (.tail _ (.tail _ (.tail _ (.tail _ (.tail _ (.head _))))))))
  have d9 := lI (30, _) (.tail _ (.tail _ (.tail _ (.tail _ (.tail _ (.tail _ (.tail _ (.tail _ (.head _)))))))))
  have n1 : @Ne Nat I0 37 ∧ @Ne Nat I0 30 ∧ @Ne Nat I0 lP := ⟨Nat.ne_of_gt d8, Nat.ne_of_gt d9, Nat.ne_of_gt d1⟩
  have nS1 : @Ne Nat S1 37 ∧ @Ne Nat S1 30 ∧ @Ne Nat S1 lP := ⟨b3, b4, Nat.ne_of_lt a3⟩
  have nS2 : @Ne Nat S2 37 ∧ @Ne Nat S2 30 ∧ @Ne Nat S2 lP := ⟨b5, b6, Nat.ne_of_lt a2⟩
  have nD1 : @Ne Nat D1 37 ∧ @Ne Nat D1 30 ∧ @Ne Nat D1 lP := ⟨c3, c4, Nat.ne_of_lt a5⟩
  have nD2 : @Ne Nat D2 37 ∧ @Ne Nat D2 30 ∧ @Ne Nat D2 lP := ⟨c5, c6, Nat.ne_of_lt a6⟩
  refine RangeRest.succ fun t h3 tk3 F6 N6 => ?_
  change wpAny _ _ (execs lawTurn (lawEnv L fa cd)) _ _ _
  k_dflt refine law_turn (n := 0) (sv := [.ref S1, .ref S2]) (dv := [.ref D1, .ref D2]) B X T CH1 CH2 (by decide) (by decide) rfl rfl z0 F6 (cb_drop N6 l1_mem) (.inl rfl) (.inl rfl) (aside3 n1 nS2 nD2 fun _ h => nomatch h) hI1 hr1 hmk (.head _) ⟨Nat.ne_of_lt a7, Nat.ne_of_lt a8, Nat.ne_of_lt a1, Nat.ne_of_lt a3, Nat.ne_of_lt a4, Nat.ne_of_lt a5⟩ ⟨b1, b2, b3, b4, c1, c2, c3, c4⟩ ?_
  intro m7 ta h7 tk7 q37 q30 rest F7 N7 P37 P30 hA7 hi7
  show UnrEnd _ _ _ _ _ _ _
  refine unr1 F7 (cb_drop N7 l2_mem) (l_off ⟨d4, d3, d8, d9, d6, d7, d2, d1, d5⟩ hi7) ?_
  refine RangeRest.succ fun t8 h8 tk8 F8 N8 => ?_
  change wpAny _ _ (execs lawTurn (lawEnv L fa cd)) _ _ _
  k_dflt refine law_turn (n := 1) (sv := [.ref S1, .ref S2]) (dv := [.ref D1, .ref D2]) B X T CH1 CH2 (by decide) (by decide) rfl rfl (z1 _) F8 (cb_drop N8 l3_mem) (ps_on (ps_off itR_off P37)) (ps_on (ps_off itR_off P30)) (aside3 n1 nS1 nD1 (aside_tail hA7)) hI2 hr2 hmk (.head _) ⟨Nat.ne_of_lt a7, Nat.ne_of_lt a8, Nat.ne_of_lt a1, Nat.ne_of_lt a2, Nat.ne_of_lt a4, Nat.ne_of_lt a6⟩ ⟨b1, b2, b5, b6, c1, c2, c5, c6⟩ ?_
  intro m9 tb h9 tk9 b37 b30 rest2 F9 N9 B37 B30 hA9 hi9
  show UnrEnd _ _ _ _ _ _ _
  refine unr1 F9 (cb_drop N9 l2_mem) (l_off ⟨d3, d4, d8, d9, d7, d6, d2, d1, d5⟩ (fun x hx => (List.mem_append.mp hx).elim (hi7 x) (hi9 x))) ?_
  refine RangeRest.zero fun hx tkx FX NX => ?_
  dsimp only
  change wpAny _ _ (execs (lawBody.drop 7) (lawEnv L fa cd)) _ _ _
  exact ret m9 ta tb _ b37 b30 (rest ++ rest2) hx tkx FX (cb_drop NX l4_mem) (ps_off itR_off B37) (ps_off itR_off B30)
end
end Mine
end PartG7

section PartG6
open PySem PySem.W PyProof.Rows PySem.Calls PySem.Spec
set_option maxRecDepth 100000
namespace Mine
theorem upto_nat {vs : List Value} {ns : List Int} (hi : IntsAre vs ns) (k : Nat) : IntsAre (slicePick vs.toArray none (some (k : Int)) none).toList (ns.take k) := kmk_upto hi (Int.natCast_nonneg k)
theorem upto_pred {vs : List Value} {ns : List Int} (hi : IntsAre vs ns) {k : Nat} (hk : 1 ≤ k) : IntsAre (slicePick vs.toArray none (some ((k : Int) - 1)) none).toList (ns.take (k - 1)) := by
  have e : (k : Int) - 1 = ((k - 1 : Nat) : Int) := by (first | lia | omega)
  rw [e]; exact upto_nat hi _
theorem kb_drop {a b c d e f g : Addr × Obj} {l : List (Addr × Obj)} : ∀ q ∈ l, q ∈ a :: b :: c :: d :: e :: f :: g :: l := fun _ h => .tail _ (.tail _ (.tail _ (.tail _ (.tail _ (.tail _ (.tail _ h))))))
theorem kb_dropI {i a b c d e f g : Addr × Obj} {l : List (Addr × Obj)} : ∀ q ∈ i :: l, q ∈ i :: a :: b :: c :: d :: e :: f :: g :: l := fun q h => by
  rcases List.mem_cons.mp h with rfl | h
  · exact .head _
  · exact .tail _ (kb_drop q h)
theorem kb_mem1 {i a b c d e f g j : Addr × Obj} {l : List (Addr × Obj)} : ∀ q ∈ e :: b :: c :: f :: a :: g :: i :: d :: j :: l, q ∈ i :: a :: b :: c :: d :: e :: f :: g :: j :: l := by
  repeat (refine List.forall_mem_cons.mpr ⟨by repeat (first | exact List.Mem.head _ | refine List.Mem.tail _ ?_), ?_⟩)
  intro q hq
  repeat (first | exact hq | (cases hq; done) | refine List.Mem.tail _ ?_)
theorem kb_mem1' {i a b c d e f g j : Addr × Obj} {l : List (Addr × Obj)} : ∀ q ∈ i :: a :: b :: c :: d :: e :: f :: g :: j :: l, q ∈ e :: b :: c :: f :: a :: g :: i :: d :: j :: l := by
  repeat (refine List.forall_mem_cons.mpr ⟨by repeat (first | exact List.Mem.head _ | refine List.Mem.tail _ ?_), ?_⟩)
  intro q hq
  repeat (first | exact hq | (cases hq; done) | refine List.Mem.tail _ ?_)
theorem kb_mem2 {i a b c d e f g j : Addr × Obj} {l : List (Addr × Obj)} : ∀ q ∈ d :: b :: c :: f :: a :: j :: i :: e :: g :: l, q ∈ i :: a :: b :: c :: d :: e :: f :: g :: j :: l := by
  repeat (refine List.forall_mem_cons.mpr ⟨by repeat (first | exact List.Mem.head _ | refine List.Mem.tail _ ?_), ?_⟩)
  intro q hq
  repeat (first | exact hq | (cases hq; done) | refine List.Mem.tail _ ?_)
theorem kb_mem2' {i a b c d e f g j : Addr × Obj} {l : List (Addr × Obj)} : ∀ q ∈ i :: a :: b :: c :: d :: e :: f :: g :: j :: l, q ∈ d :: b :: c :: f :: a :: j :: i :: e :: g :: l := by
  repeat (refine List.forall_mem_cons.mpr ⟨by repeat (first | exact List.Mem.head _ | refine List.Mem.tail _ ?_), ?_⟩)
  intro q hq
  repeat (first | exact hq | (cases hq; done) | refine List.Mem.tail _ ?_)
section
variable {w : World} {p : Program} {loose : List Str} {mean : ExcName → Option Value} {mg mb : Str → Option Value} {fa : Addr} {cd : Value} {h₀ : Heap} {L : Addr} {m₁ : Str → Option Value} {s : Shared} {Qf : Flow → Shared → Prop}
set_option maxHeartbeats 8000000 in
/-- the second loop's middle body -/
theorem law_kb {lR lS lP S1 S2 D D1 D2 : Addr} {ta tb ts us ts2 us2 tk : Tok} {rv rv1 rv2 : List Value} {r r1 r2 : List Int} {k kr k1 k2 kP : Nat} {news : List (Addr × Obj)}
   (B : Below callerA h₀ [] h₀) (X : (hd.heap_39 w.params).In h₀) (T : Top p loose mean mg mb h₀)
   (F : Fr h₀ L s.heap (lawM5 m₁ (k : Int) tk D lR lS lP))
   (N : News h₀ L s.heap ((D, listOf rv.toArray kr) :: (lP, listOf #[.str (replyT r1) ta, .str (replyT r2) tb] kP) :: (lS, listOf #[.ref S1, .ref S2] 2) :: (S2, tupO (.int (nm r2) ts2) (.int (dn r2) us2)) :: (S1, tupO (.int (nm r1) ts) (.int (dn r1) us)) :: (lR, listOf #[.ref D1, .ref D2] 0) :: (D1, listOf (List.toArray rv1) k1) :: (D2, listOf (List.toArray rv2) k2) :: news))
   (hI : IntsAre rv r) (hr : RowOk r) (hI1 : IntsAre rv1 r1) (hr1 : RowOk r1) (hI2 : IntsAre rv2 r2) (hr2 : RowOk r2) (hk1 : 1 ≤ k) (hk2 : k ≤ r.length)
   (ret : ∀ m' h' tk', Fr h₀ L h' (lawM4 m' D lR lS lP) →
     News h₀ L h' ((D, listOf rv.toArray kr) :: (lP, listOf #[.str (replyT r1) ta, .str (replyT r2) tb] kP) :: (lS, listOf #[.ref S1, .ref S2] 2) :: (S2, tupO (.int (nm r2) ts2) (.int (dn r2) us2)) :: (S1, tupO (.int (nm r1) ts) (.int (dn r1) us)) :: (lR, listOf #[.ref D1, .ref D2] 0) :: (D1, listOf (List.toArray rv1) k1) :: (D2, listOf (List.toArray rv2) k2) :: news) → Qf .next { s with heap := h', toks := tk' }) :
   wpAny (model PySem.Challenge.rw_rw0066_01.row.prog w) (callerA.deeper (lawEnv L fa cd)) (execs lawKB (lawEnv L fa cd)) Qf (fun _ _ => False) s := by
  have hp : RowOk (r.take k) := ⟨chain_take _ hr.1, by rw [List.length_take]; (first | lia | omega), by rw [List.length_take]; have := hr.2.2; (first | lia | omega)⟩
  obtain ⟨d, hd⟩ : ∃ d, r.getD ((k : Int) - 1).toNat 0 = d := ⟨_, rfl⟩
  have hkk : ((k : Int) - 1).toNat = k - 1 := by (first | lia | omega)
  have hpd : r.take k = r.take (k - 1) ++ [d] := by
    have h1 : k - 1 < r.length := by (first | lia | omega)
    have e : k = (k - 1) + 1 := by (first | lia | omega)
    rw [hkk, List.getD_eq_getElem?_getD, List.getElem?_eq_getElem h1, Option.getD_some] at hd
    rw [← hd]
    conv => lhs; rw [e]
    rw [List.take_add_one, List.getElem?_eq_getElem h1]; rfl
  have hb1 := row_b hp
  have hdb := chain_bounds hp.1 hp.2.2 d (by rw [hpd]; exact List.mem_append_right _ (.head _))
  have hb2 : ∀ n ∈ r.take (k - 1) ++ [d - 1], 1 ≤ n ∧ n ≤ 400000 := fun n hn => by
    rcases List.mem_append.mp hn with hn | hn
    · exact hb1 n (by rw [hpd]; exact List.mem_append_left _ hn)
    · rw [List.mem_singleton.mp hn]; (first | lia | omega)
  have hl1 := hp.2.2
  have hl2 : (r.take (k - 1) ++ [d - 1]).length ≤ 4 := by
    have := hp.2.2
    rw [hpd] at this
    simpa using this
  have hl9 := reply_len hp
  subst hd
  have hrl := hr.2.2
  k_with_none
  k_with "execs cons" => ((with_reducible show wpAny _ _ _ _ _ (Shared.mk _ _ _ (_ + 1) _)); refine Mine.tok_gen fun _ => ?_)
  k_with "exec Assign" => k_fold
  k_with "exec If" => k_fold
  k_with "exec Return some" => k_fold
  k_with "exec For" => k_fold
  k_with "exec Expr" => k_fold
  k_with "exec AugAssign" => k_fold
  k_with "exec Try" => k_fold
  k_with "exec Delete" => k_fold
  k_with "exec Assert" => k_fold
  k_with "exec While" => k_fold
  k_with "eval Call" => k_fold
  k_with "eval Compare" => k_fold
  k_with "eval BinOp" => k_fold
  k_with "eval Tuple" => k_fold
  k_with "eval List" => k_fold
  k_with "isTrue" => k_fold
  k_with "callWith" => k_fold
  k_with "eval Subscript" => k_fold
  k_with "room" => first | exact Mine.room0 (dp := dp) hdp | exact Mine.room1 (dp := dp) hdp rfl
  k_with "lia" => lia
  k_with "pyIter ref" => ((rename IsRange _ _ _ _ _ _ _ _ => rR'); (rename Fr _ _ _ _ => lF'); (rename News _ _ _ _ => lN'); (with_unfolding_all refine iter_rangeUnr (by rfl) rR' ?_ (rangeSize_nat _ _) lF' lN' ?_); rotate_left 1; intro I9 l9; (generalize hnn : Int.toNat _ = nn))
  k_with "call type:range" => ((rename Fr _ _ _ _ => F'); (rename News _ _ _ _ => N'); (with_unfolding_all refine range1_rows F' N' ?_; intro _ _ _ _ _ _ _ _ _))
  k_with "exec For" => ((rename Fr _ _ _ _ => lF'); (with_unfolding_all refine For_invVF lF' rfl rfl ?_))
  k_with "newList" => (k_dflt (refine' newList_KL ?k1 ?k2 ?_ ?hz; (case k1 => k_asm); (case k2 => k_asm); (case hz => size_fits); k_whole); intro l' h' F' N' _ _)
  revert X; k_fill; intro X
  unfold lawEnv
  conv in (occs := *) lawScope => all_goals whnf
  conv in lawKB => whnf
  k_with "call ref" => k_dflt (first
   | ((with_reducible show wpAny _ _ (call (Value.ref 145) _) _ _ _); refine' reply_spec (ns := r.take k) ?kB ?kF ?kX ?kT ?kK ?hl ?hI hl1 hb1 ?kd ?_; (case kB => k_asm); (case kF => k_asm); (case kX => k_asm); (case kT => k_asm); (case kK => exact rfl); (case hl => exact isList_news (by assumption) (by k_mem)); (case hI => assumption); (case kd => ktr_room);
      intro t9 h' tk' K1; rename Fr _ _ _ _ => F1; rename News _ _ _ _ => N1; (have F2 := frKp F1 K1); (have N2 := newsKp N1 K1); clear F1 N1 K1)
   | ((with_reducible show wpAny _ _ (call (Value.ref 126) _) _ _ _); refine' sum_spec (ns := r.take k) ?kB ?kF ?kX ?kT ?kK ?hl ?hI hl1 hb1 ?kd ?_; (case kB => k_asm); (case kF => k_asm); (case kX => k_asm); (case kT => k_asm); (case kK => exact rfl); (case hl => exact isList_news (by assumption) (by k_mem)); (case hI => assumption); (case kd => ktr_room);
      intro Sx h' tk' tx ux K1 hS eD; rename Fr _ _ _ _ => F1; rename News _ _ _ _ => N1; obtain ⟨F2, N2, -, -⟩ := afterNew F1 N1 K1 hS eD; clear F1 N1 K1 eD)
   | ((with_reducible show wpAny _ _ (call (Value.ref 126) _) _ _ _); refine' sum_spec (ns := r.take (k - 1) ++ [r.getD ((k : Int) - 1).toNat 0 - 1]) ?kB ?kF ?kX ?kT ?kK ?hl ?hI hl2 hb2 ?kd ?_; (case kB => k_asm); (case kF => k_asm); (case kX => k_asm); (case kT => k_asm); (case kK => exact rfl); (case hl => exact isList_news (by assumption) (by k_mem)); (case hI => assumption); (case kd => ktr_room);
      intro Sx h' tk' tx ux K1 hS eD; rename Fr _ _ _ _ => F1; rename News _ _ _ _ => N1; obtain ⟨F2, N2, -, -⟩ := afterNew F1 N1 K1 hS eD; clear F1 N1 K1 eD))
  k_with "subscriptTail Name Slice ref ref" => (k_dflt (refine' kmk_slice_ints ?jF ?jN ?jl ?jp ?jq ?ji ?jm ?jc ?_ ?js ?jt ?jz; (case jF => k_asm); (case jN => k_asm); (case jl => exact isList_news (by k_asm) (by k_mem)); (case jp => kmk_part); (case jq => kmk_part); (case ji => exact hI); (case jm => first | exact upto_nat hI k | exact upto_pred hI hk1); (case jc => kmk_len); (case js => with_unfolding_all rfl); (case jt => kmk_pure); (case jz => exact kmk_sz hI (by rw [sizeLine_eq]; (first | lia | omega)))); intro D' ws' h' F' N' _ hI' _ _)
  k_steps
  refine rng_name fun I0 hI0 => ?_
  subst hI0
  have hn2 : _ = 2 := (‹Int.toNat (2 - 0) = _›).symm
  subst hn2
  rename ∀ p : Addr × Obj, p ∈ (_ : List (Addr × Obj)) → @LT.lt Nat _ p.1 I0 => lI
  have hoff := fun (p : Addr × Obj) hp => Nat.ne_of_lt (lI p (kb_drop p hp))
  refine RangeRest.succ fun t h3 tk3 F6 N6 => ?_
  change wpAny _ _ (execs lawNB (lawEnv L fa cd)) _ _ _
  k_dflt refine law_nb (n := 0) (sv := [.ref S1, .ref S2]) (dv := [.ref D1, .ref D2]) (pv := [.str (replyT r1) ta, .str (replyT r2) tb]) B X T (by decide) (by decide) rfl rfl rfl F6 (cb_drop (cb_drop N6 kb_dropI) kb_mem1) hI hr hI1 hr1 hk1 hk2 hpd ?_
  intro m7 h7 tk7 F7 N7
  show UnrEnd _ _ _ _ _ _ _
  refine unr1 F7 (cb_drop N7 kb_mem1') hoff ?_
  refine RangeRest.succ fun t8 h8 tk8 F8 N8 => ?_
  change wpAny _ _ (execs lawNB (lawEnv L fa cd)) _ _ _
  k_dflt refine law_nb (n := 1) (sv := [.ref S1, .ref S2]) (dv := [.ref D1, .ref D2]) (pv := [.str (replyT r1) ta, .str (replyT r2) tb]) B X T (by decide) (by decide) rfl rfl rfl F8 (cb_drop N8 kb_mem2) hI hr hI2 hr2 hk1 hk2 hpd ?_
  intro m9 h9 tk9 F9 N9
  show UnrEnd _ _ _ _ _ _ _
  refine unr1 F9 (cb_drop N9 kb_mem2') hoff ?_
  refine RangeRest.zero fun hx tkx FX NX => ?_
  dsimp only
  k_steps
  exact ret _ _ _ (frLaw4 FX rfl rfl rfl rfl) NX
end
end Mine
end PartG6

section PartG8
open PySem PySem.W PyProof.Rows PySem.Calls PySem.Spec
set_option maxRecDepth 100000
namespace Mine
theorem rb_mem {i a b c d e f g j : Addr × Obj} {l : List (Addr × Obj)} : ∀ q ∈ a :: b :: c :: d :: e :: f :: g :: j :: i :: l, q ∈ i :: a :: b :: c :: d :: e :: f :: g :: j :: l := by
  repeat (refine List.forall_mem_cons.mpr ⟨by repeat (first | exact List.Mem.head _ | refine List.Mem.tail _ ?_), ?_⟩)
  intro q hq
  repeat (first | exact hq | (cases hq; done) | refine List.Mem.tail _ ?_)
theorem rb_mem' {i a b c d e f g j : Addr × Obj} {l : List (Addr × Obj)} : ∀ q ∈ i :: a :: b :: c :: d :: e :: f :: g :: j :: l, q ∈ a :: b :: c :: d :: e :: f :: g :: j :: i :: l := by
  repeat (refine List.forall_mem_cons.mpr ⟨by repeat (first | exact List.Mem.head _ | refine List.Mem.tail _ ?_), ?_⟩)
  intro q hq
  repeat (first | exact hq | (cases hq; done) | refine List.Mem.tail _ ?_)
section
variable {w : World} {p : Program} {loose : List Str} {mean : ExcName → Option Value} {mg mb : Str → Option Value} {fa : Addr} {cd : Value} {h₀ : Heap} {L : Addr} {m₁ : Str → Option Value} {s : Shared} {Qf : Flow → Shared → Prop}
set_option maxHeartbeats 8000000 in
/-- the second loop's body -/
theorem law_rb {lR lS lP S1 S2 D D1 D2 : Addr} {ta tb ts us ts2 us2 : Tok} {rv rv1 rv2 : List Value} {r r1 r2 : List Int} {kr k1 k2 kP : Nat} {news : List (Addr × Obj)}
   (B : Below callerA h₀ [] h₀) (X : (hd.heap_39 w.params).In h₀) (T : Top p loose mean mg mb h₀)
   (F : Fr h₀ L s.heap (lawM4 m₁ D lR lS lP))
   (N : News h₀ L s.heap ((D, listOf rv.toArray kr) :: (lP, listOf #[.str (replyT r1) ta, .str (replyT r2) tb] kP) :: (lS, listOf #[.ref S1, .ref S2] 2) :: (S2, tupO (.int (nm r2) ts2) (.int (dn r2) us2)) :: (S1, tupO (.int (nm r1) ts) (.int (dn r1) us)) :: (lR, listOf #[.ref D1, .ref D2] 0) :: (D1, listOf (List.toArray rv1) k1) :: (D2, listOf (List.toArray rv2) k2) :: news))
   (hI : IntsAre rv r) (hr : RowOk r) (hI1 : IntsAre rv1 r1) (hr1 : RowOk r1) (hI2 : IntsAre rv2 r2) (hr2 : RowOk r2)
   (ret : ∀ m' h' tk', Fr h₀ L h' (lawM4 m' D lR lS lP) →
     News h₀ L h' ((D, listOf rv.toArray kr) :: (lP, listOf #[.str (replyT r1) ta, .str (replyT r2) tb] kP) :: (lS, listOf #[.ref S1, .ref S2] 2) :: (S2, tupO (.int (nm r2) ts2) (.int (dn r2) us2)) :: (S1, tupO (.int (nm r1) ts) (.int (dn r1) us)) :: (lR, listOf #[.ref D1, .ref D2] 0) :: (D1, listOf (List.toArray rv1) k1) :: (D2, listOf (List.toArray rv2) k2) :: news) → Qf .next { s with heap := h', toks := tk' }) :
   wpAny (model PySem.Challenge.rw_rw0066_01.row.prog w) (callerA.deeper (lawEnv L fa cd)) (execs lawRB (lawEnv L fa cd)) Qf (fun _ _ => False) s := by
  have hrl := hr.2.2
  k_with_none
  k_with "execs cons" => ((with_reducible show wpAny _ _ _ _ _ (Shared.mk _ _ _ (_ + 1) _)); refine Mine.tok_gen fun _ => ?_)
  k_with "exec Assign" => k_fold
  k_with "exec If" => k_fold
  k_with "exec Return some" => k_fold
  k_with "exec For" => k_fold
  k_with "exec Expr" => k_fold
  k_with "exec AugAssign" => k_fold
  k_with "exec Try" => k_fold
  k_with "exec Delete" => k_fold
  k_with "exec Assert" => k_fold
  k_with "exec While" => k_fold
  k_with "eval Call" => k_fold
  k_with "eval Compare" => k_fold
  k_with "eval BinOp" => k_fold
  k_with "eval Tuple" => k_fold
  k_with "eval List" => k_fold
  k_with "isTrue" => k_fold
  k_with "callWith" => k_fold
  k_with "eval Subscript" => k_fold
  k_with "room" => first | exact Mine.room0 (dp := dp) hdp | exact Mine.room1 (dp := dp) hdp rfl
  k_with "lia" => lia
  k_with "pyIter ref" => ((rename IsRange _ _ _ _ _ _ _ _ => rR'); (rename Fr _ _ _ _ => lF'); (rename News _ _ _ _ => lN'); (with_unfolding_all refine iter_rangeUnr (by rfl) rR' ?_ (rangeSize_nat _ _) lF' lN' ?_); rotate_left 1; intro I9 l9; (generalize hnn : Int.toNat _ = nn))
  k_with "call type:range" => ((rename Fr _ _ _ _ => F'); (rename News _ _ _ _ => N'); (with_unfolding_all refine range2_rows F' N' ?_; intro _ _ _ _ _ _ _ _ _))
  k_with "exec For" => ((rename Fr _ _ _ _ => lF'); (with_unfolding_all refine For_invVF lF' rfl rfl ?_))
  revert X; k_fill; intro X
  unfold lawEnv
  conv in (occs := *) lawScope => all_goals whnf
  conv in lawRB => whnf
  k_with "call builtin:len" => k_dflt (refine' len_ints_fit ?kl hI ?kz ?_; (case kl => exact isList_news (by assumption) (by k_mem)); (case kz => (first | lia | omega)))
  k_steps
  rotate_left 1
  · exact small_one (by decide) (by decide) (by (first | lia | omega)) (by (first | lia | omega))
  refine rng_name fun I0 hI0 => ?_
  subst hI0
  have hn9 : _ = r.length := (‹Int.toNat ((r.length : Int) + 1 - 1) = _›).symm.trans (by (first | lia | omega))
  subst hn9
  rename ∀ p : Addr × Obj, p ∈ (_ : List (Addr × Obj)) → @LT.lt Nat _ p.1 I0 => lI
  have hoff := fun (p : Addr × Obj) hp => Nat.ne_of_lt (lI p hp)
  refine rng_ind (J := fun i m led => ∃ m1, m = lawM4 m1 D lR lS lP ∧ led = ((D, listOf rv.toArray kr) :: (lP, listOf #[.str (replyT r1) ta, .str (replyT r2) tb] kP) :: (lS, listOf #[.ref S1, .ref S2] 2) :: (S2, tupO (.int (nm r2) ts2) (.int (dn r2) us2)) :: (S1, tupO (.int (nm r1) ts) (.int (dn r1) us)) :: (lR, listOf #[.ref D1, .ref D2] 0) :: (D1, listOf (List.toArray rv1) k1) :: (D2, listOf (List.toArray rv2) k2) :: news)) ?_ ?_ _ _ _ _ (Nat.zero_add _) ⟨m₁, rfl, rfl⟩
  · rintro m led ⟨m1, rfl, rfl⟩
    refine RangeRest.zero fun h3 tk3 F6 N6 => ?_
    dsimp only
    k_steps
    exact ret _ _ _ F6 N6
  · rintro k i m led hki ⟨m1, rfl, rfl⟩ IH
    refine RangeRest.succ fun t h3 tk3 F6 N6 => ?_
    have e : (1 : Int) + (i : Int) = ((i + 1 : Nat) : Int) := by (first | lia | omega)
    rw [e] at F6
    change wpAny _ _ (execs lawKB (lawEnv L fa cd)) _ _ _
    k_dflt refine law_kb (k := i + 1) B X T F6 (cb_drop N6 rb_mem) hI hr hI1 hr1 hI2 hr2 (by (first | lia | omega)) (by (first | lia | omega)) ?_
    intro m9 h9 tk9 F9 N9
    show UnrEnd _ _ _ _ _ _ _
    exact unr1 F9 (cb_drop N9 rb_mem') hoff (IH _ _ ⟨m9, rfl, rfl⟩)
end
end Mine
end PartG8

section PartG9
open PySem PySem.W PyProof.Rows PySem.Calls PySem.Spec
set_option maxRecDepth 100000
namespace Mine
theorem rw_mem1 {i b c d e f g j : Addr × Obj} {l : List (Addr × Obj)} : ∀ q ∈ g :: b :: c :: d :: e :: f :: g :: j :: i :: l, q ∈ i :: b :: c :: d :: e :: f :: g :: j :: l := by
  repeat (refine List.forall_mem_cons.mpr ⟨by repeat (first | exact List.Mem.head _ | refine List.Mem.tail _ ?_), ?_⟩)
  intro q hq
  repeat (first | exact hq | (cases hq; done) | refine List.Mem.tail _ ?_)
theorem rw_mem2 {i b c d e f g j : Addr × Obj} {l : List (Addr × Obj)} : ∀ q ∈ j :: b :: c :: d :: e :: f :: g :: j :: i :: l, q ∈ i :: b :: c :: d :: e :: f :: g :: j :: l := by
  repeat (refine List.forall_mem_cons.mpr ⟨by repeat (first | exact List.Mem.head _ | refine List.Mem.tail _ ?_), ?_⟩)
  intro q hq
  repeat (first | exact hq | (cases hq; done) | refine List.Mem.tail _ ?_)
theorem rw_mem' {a i b c d e f g j : Addr × Obj} {l : List (Addr × Obj)} : ∀ q ∈ i :: b :: c :: d :: e :: f :: g :: j :: l, q ∈ a :: b :: c :: d :: e :: f :: g :: j :: i :: l := by
  repeat (refine List.forall_mem_cons.mpr ⟨by repeat (first | exact List.Mem.head _ | refine List.Mem.tail _ ?_), ?_⟩)
  intro q hq
  repeat (first | exact hq | (cases hq; done) | refine List.Mem.tail _ ?_)
theorem list_id {prog : Program} {w : World} {A : Around} {E : Value → Shared → Prop} {h₀ : Heap} {env : Env} {x : Str} {body : List Stmt} {Q : Flow → Shared → Prop} {s : Shared} {I : Addr} {lp : Addr × Obj} {vs : List Value} {m : Str → Option Value} {led : List (Addr × Obj)}
    (h : id (ListRest prog w A E h₀ env x body Q s I lp vs m led)) : ListRest prog w A E h₀ env x body Q s I lp vs m led := h
theorem list_name {prog : Program} {w : World} {A : Around} {E : Value → Shared → Prop} {h₀ : Heap} {env : Env} {x : Str} {body : List Stmt} {Q : Flow → Shared → Prop} {s : Shared} {I : Addr} {lp : Addr × Obj} {vs : List Value} {m : Str → Option Value} {led : List (Addr × Obj)}
    (h : ∀ I0 : Addr, I0 = I → ListRest prog w A E h₀ env x body Q s I0 lp vs m led) : ListRest prog w A E h₀ env x body Q s I lp vs m led := h I rfl
section
variable {w : World} {p : Program} {loose : List Str} {mean : ExcName → Option Value} {mg mb : Str → Option Value} {fa : Addr} {cd : Value} {h₀ : Heap} {L : Addr} {m₁ : Str → Option Value} {s : Shared} {Qf : Flow → Shared → Prop}
set_option maxHeartbeats 8000000 in
/-- the law from the second loop to its end -/
theorem law_rows {lR lS lP S1 S2 D1 D2 : Addr} {mk : Str} {ta tb ts us ts2 us2 tm : Tok} {rv1 rv2 : List Value} {r1 r2 : List Int} {k1 k2 kP : Nat} {news : List (Addr × Obj)}
   (B : Below callerA h₀ [] h₀) (X : (hd.heap_39 w.params).In h₀) (T : Top p loose mean mg mb h₀)
   (F : Fr h₀ L s.heap (lawM2 m₁ lR lS lP mk tm))
   (N : News h₀ L s.heap ((lP, listOf #[.str (replyT r1) ta, .str (replyT r2) tb] kP) :: (lS, listOf #[.ref S1, .ref S2] 2) :: (S2, tupO (.int (nm r2) ts2) (.int (dn r2) us2)) :: (S1, tupO (.int (nm r1) ts) (.int (dn r1) us)) :: (lR, listOf #[.ref D1, .ref D2] 0) :: (D1, listOf (List.toArray rv1) k1) :: (D2, listOf (List.toArray rv2) k2) :: news))
   (hI1 : IntsAre rv1 r1) (hr1 : RowOk r1) (hI2 : IntsAre rv2 r2) (hr2 : RowOk r2)
   (ret : ∀ m' h' tk', Fr h₀ L h' m' →
     News h₀ L h' ((lP, listOf #[.str (replyT r1) ta, .str (replyT r2) tb] kP) :: (lS, listOf #[.ref S1, .ref S2] 2) :: (S2, tupO (.int (nm r2) ts2) (.int (dn r2) us2)) :: (S1, tupO (.int (nm r1) ts) (.int (dn r1) us)) :: (lR, listOf #[.ref D1, .ref D2] 0) :: (D1, listOf (List.toArray rv1) k1) :: (D2, listOf (List.toArray rv2) k2) :: news) → Qf (.ret (.bool true)) { s with heap := h', toks := tk' }) :
   wpAny (model PySem.Challenge.rw_rw0066_01.row.prog w) (callerA.deeper (lawEnv L fa cd)) (execs (lawBody.drop 7) (lawEnv L fa cd)) Qf (fun _ _ => False) s := by
  have hs1 := nm_tight hr1
  have hs2 := nm_tight hr2
  have e1 : decide (r1 = r2) = (nm r1 * dn r2 == nm r2 * dn r1) := by
    rw [Bool.eq_iff_iff, decide_eq_true_eq, beq_iff_eq]
    exact (frac_inj hr1.1.two hr2.1.two).symm
  k_with_none
  k_with "execs cons" => ((with_reducible show wpAny _ _ _ _ _ (Shared.mk _ _ _ (_ + 1) _)); refine Mine.tok_gen fun _ => ?_)
  k_with "exec Assign" => k_fold
  k_with "exec If" => k_fold
  k_with "exec Return some" => k_fold
  k_with "exec For" => k_fold
  k_with "exec Expr" => k_fold
  k_with "exec AugAssign" => k_fold
  k_with "exec Try" => k_fold
  k_with "exec Delete" => k_fold
  k_with "exec Assert" => k_fold
  k_with "exec While" => k_fold
  k_with "eval Call" => k_fold
  k_with "eval Compare" => k_fold
  k_with "eval BinOp" => k_fold
  k_with "eval Tuple" => k_fold
  k_with "eval List" => k_fold
  k_with "isTrue" => k_fold
  k_with "callWith" => k_fold
  k_with "eval Subscript" => k_fold
  k_with "room" => first | exact Mine.room0 (dp := dp) hdp | exact Mine.room1 (dp := dp) hdp rfl
  k_with "lia" => lia
  k_with "exec For" => ((rename Fr _ _ _ _ => lF'); (with_unfolding_all refine For_invVF lF' rfl rfl ?_))
  k_with "binaryOp Mult int int" => (refine mul_int (mulOk_of (by (first | lia | omega)) (by (first | lia | omega))) ?_)
  revert X; k_fill; intro X
  unfold lawEnv
  conv in (occs := *) lawScope => all_goals whnf
  conv in (lawBody.drop 7) => whnf
  k_with "pyIter ref" => k_dflt (rename Fr _ _ _ _ => lF'; rename News _ _ _ _ => lN'; (refine iter_listUnr (ax := lR) (lo := listOf #[.ref D1, .ref D2] 0) (vs := [.ref D1, .ref D2]) (by rfl) lF' lN' (by k_mem) rfl rfl ?_); intro I9 l9; refine list_id ?_)
  k_with "call ref" => k_dflt ((with_reducible show wpAny _ _ (call (Value.ref 63) _) _ _ _); refine' ell_same ?kB ?kF ?kX ?kT ?kK hr1 hr2 ?kd ?_; (case kB => k_asm); (case kF => k_asm); (case kX => k_asm); (case kT => k_asm); (case kK => exact rfl); (case kd => ktr_room); (rw [e1]); intro h' tk' K1; rename Fr _ _ _ _ => F1; rename News _ _ _ _ => N1; (have F2 := frKp F1 K1); (have N2 := newsKp N1 K1); clear F1 N1 K1)
  k_steps
  rw [id]
  refine list_name fun I0 hI0 => ?_
  subst hI0
  rename ∀ p : Addr × Obj, p ∈ (_ : List (Addr × Obj)) → @LT.lt Nat _ p.1 I0 => lI
  have hoff := fun (p : Addr × Obj) hp => Nat.ne_of_lt (lI p hp)
  have hml : ∀ {a b c d e f : Addr × Obj} {l : List (Addr × Obj)}, e ∈ a :: b :: c :: d :: e :: f :: l := .tail _ (.tail _ (.tail _ (.tail _ (.head _))))
  refine ListRest.succ fun it h3 tk3 hit F6 N6 => ?_
  change wpAny _ _ (execs lawRB (lawEnv L fa cd)) _ _ _
  k_dflt refine law_rb (D := D1) B X T (frLaw4 F6 rfl rfl rfl rfl) (cb_drop N6 rw_mem1) hI1 hr1 hI1 hr1 hI2 hr2 ?_
  intro m7 h7 tk7 F7 N7
  show UnrEnd _ _ _ _ _ _ _
  refine unr1 F7 (cb_drop N7 rw_mem') hoff ⟨hml, ?_⟩
  refine ListRest.succ fun it8 h8 tk8 hit8 F8 N8 => ?_
  change wpAny _ _ (execs lawRB (lawEnv L fa cd)) _ _ _
  k_dflt refine law_rb (D := D2) B X T (frLaw4 F8 rfl rfl rfl rfl) (cb_drop N8 rw_mem2) hI2 hr2 hI1 hr1 hI2 hr2 ?_
  intro m9 h9 tk9 F9 N9
  show UnrEnd _ _ _ _ _ _ _
  refine unr1 F9 (cb_drop N9 rw_mem') hoff ⟨hml, ?_⟩
  refine ListRest.zero fun hx tkx FX NX => ?_
  dsimp only
  clear F6 N6 F7 N7 F8 N8 F9 N9
  k_steps
  rename Fr _ _ _ _ => FY
  rename News _ _ _ _ => NY
  rw [show ((nm r1 * dn r2 == nm r2 * dn r1) == (nm r1 * dn r2 == nm r2 * dn r1)) = true from beq_self_eq_true _]
  exact ret _ _ _ FY NY
end
end Mine
end PartG9

section PartG10
open PySem PySem.W PyProof.Rows PySem.Calls PySem.Spec
set_option maxRecDepth 100000
namespace Mine
section
variable {w : World} {p : Program} {loose : List Str} {mean : ExcName → Option Value} {mg mb : Str → Option Value} {fa : Addr} {cd : Value} {h₀ : Heap} {L : Addr} {m₁ : Str → Option Value} {s : Shared} {Qf : Flow → Shared → Prop}
/-- the law behind its first four rows -/
theorem law_tail {lR D1 D2 : Addr} {mk : Str} {tm : Tok} {rv1 rv2 : List Value} {r1 r2 : List Int} {k1 k2 : Nat}
   (B : Below callerA h₀ [] h₀) (X : (hd.heap_39 w.params).In h₀) (T : Top p loose mean mg mb h₀) (CH1 : CodeHd h₀ 41 37) (CH2 : CodeHd h₀ 34 30)
   (F : Fr h₀ L s.heap (lawM1 m₁ lR mk tm)) (N : News h₀ L s.heap [(lR, listOf #[.ref D1, .ref D2] 0), (D1, listOf (List.toArray rv1) k1), (D2, listOf (List.toArray rv2) k2), (37, tabObj #[]), (30, tabObj #[])])
   (hI1 : IntsAre rv1 r1) (hr1 : RowOk r1) (hI2 : IntsAre rv2 r2) (hr2 : RowOk r2) (hmk : IsMark mk)
   (lL : @LT.lt Nat _ L lR ∧ @LT.lt Nat _ L D1 ∧ @LT.lt Nat _ L D2) (lt : @LT.lt Nat _ D1 lR ∧ @LT.lt Nat _ D2 lR ∧ @LT.lt Nat _ D1 D2 ∧ @LT.lt Nat _ 37 D1 ∧ @LT.lt Nat _ 30 D1)
   (ret : ∀ m' q37 q30 rest h' tk', Fr h₀ L h' m' → News h₀ L h' ((37, tabObj q37) :: (30, tabObj q30) :: rest) → PsR h₀ rest q37 47 4 digQ → PsR h₀ rest q30 32 4 intQ → Qf (.ret (.bool true)) { s with heap := h', toks := tk' }) :
   wpAny (model PySem.Challenge.rw_rw0066_01.row.prog w) (callerA.deeper (lawEnv L fa cd)) (execs (lawBody.drop 4) (lawEnv L fa cd)) Qf (fun _ _ => False) s := by
  obtain ⟨t1, t2, t3, t4, t5⟩ := lt
  have u1 : @LT.lt Nat _ 37 D2 := Nat.lt_trans t4 t3
  have u2 : @LT.lt Nat _ 30 D2 := Nat.lt_trans t5 t3
  have u3 : @LT.lt Nat _ 37 lR := Nat.lt_trans t4 t1
  have u4 : @LT.lt Nat _ 30 lR := Nat.lt_trans t5 t1
  refine law_sums B X T F N hI1 hr1 hI2 hr2 lL ⟨t1, t2, t3, t4, t5⟩ fun lS lP S1 S2 ts us ts2 us2 h2 tk2 F2 N2 a1 a2 => ?_
  refine law_loop1 B X T CH1 CH2 F2 N2 hI1 hr1 hI2 hr2 hmk a1 ⟨a2.1.1.symm, a2.1.2.symm, Nat.ne_of_gt a2.2.1.1, Nat.ne_of_gt a2.2.1.2, Nat.ne_of_gt a2.2.2.1, Nat.ne_of_gt a2.2.2.2⟩ ⟨Nat.ne_of_gt u3, Nat.ne_of_gt u4, Nat.ne_of_gt t4, Nat.ne_of_gt t5, Nat.ne_of_gt u1, Nat.ne_of_gt u2⟩ fun m3 ta tb kP q37 q30 rest h3 tk3 F3 N3 P37 P30 => ?_
  refine law_rows B X T F3 N3 hI1 hr1 hI2 hr2 fun m4 h4 tk4 F4 N4 => ?_
  exact ret m4 q37 q30 rest h4 tk4 F4 (cb_drop N4 fun _ h => .tail _ (.tail _ (.tail _ (.tail _ (.tail _ (.tail _ (.tail _ h))))))) P37 P30
end
end Mine
end PartG10

section PartG1
open PySem PySem.W PyProof.Rows PySem.Calls PySem.Spec
set_option maxRecDepth 100000
namespace Mine
theorem frLaw1 {h₀ h : Heap} {L : Addr} {m : Str → Option Value} {lR : Addr} {mk : Str} {tm : Tok} (F : Fr h₀ L h m) (h0 : m (Str.ofString "mark") = some (.str mk tm)) (h1 : m (Str.ofString "rows") = some (.ref lR)) : Fr h₀ L h (lawM1 m lR mk tm) :=
  Eq.mp (congrArg (Fr h₀ L h) (isLaw1 h0 h1)) F
theorem top_mem {a b c d e f g j : Addr × Obj} : ∀ q ∈ [a, d, b, g, j], q ∈ [a, b, c, d, e, f, g, j] := by
  repeat (refine List.forall_mem_cons.mpr ⟨by repeat (first | exact List.Mem.head _ | refine List.Mem.tail _ ?_), ?_⟩)
  intro q hq
  repeat (first | exact hq | (cases hq; done) | refine List.Mem.tail _ ?_)
section
set_option maxHeartbeats 8000000 in
theorem top_all : PySem.Challenge.rw_rw0066_01.Holds := hd (by
  rw [says_of K0_eq]
  k_with_none
  k_with "execs cons" => ((with_reducible show wpAny _ _ _ _ _ (Shared.mk _ _ _ (_ + 1) _)); refine Mine.tok_gen fun _ => ?_)
  k_with "exec Assign" => k_fold
  k_with "exec If" => k_fold
  k_with "exec Return some" => k_fold
  k_with "exec For" => k_fold
  k_with "exec Expr" => k_fold
  k_with "exec AugAssign" => k_fold
  k_with "exec Try" => k_fold
  k_with "exec Delete" => k_fold
  k_with "exec Assert" => k_fold
  k_with "exec While" => k_fold
  k_with "eval Call" => k_fold
  k_with "eval Compare" => k_fold
  k_with "eval BinOp" => k_fold
  k_with "eval Tuple" => k_fold
  k_with "eval List" => k_fold
  k_with "isTrue" => k_fold
  k_with "callWith" => k_fold
  k_with "eval Subscript" => k_fold
  k_with "room" => first | exact Mine.room0 (dp := dp) hdp | exact Mine.room1 (dp := dp) hdp rfl
  k_go0
  all_goals try k_fold
  k_with "call ref" => first
   | (k_dflt (refine' cells_spec ?kB ?kF ?kX ?kT ?kK ?hl ?hI ?hlen ?kd ?_; (case kB => k_asm); (case kF => k_asm); (case kX => k_asm); (case kT => k_asm); (case kK => exact rfl); (case hl => exact isList_fr (by assumption) (by assumption)); (case hI => assumption); (case hlen => omega); (case kd => ktr_room));
      intro D h' tk' cv c k K1 hD eD hIc hc3 hcb; rename Fr _ _ _ _ => F1; rename News _ _ _ _ => N1; obtain ⟨F2, N2, l2, l3⟩ := afterNew F1 N1 K1 hD eD; clear F1 N1 K1 eD; (try k_lt l2); (obtain ⟨c0, t0, c1, t1, c2, t2, e1, e2⟩ := three_ints hIc hc3); subst e1; subst e2;
      (have b0 := hcb c0 (by simp)); (have b1 := hcb c1 (by simp)); (have b2 := hcb c2 (by simp)); clear hcb hIc hc3)
   | (k_dflt (refine' row_spec ?kB ?kF ?kX ?kT ?kK ?hc ?hl ?hI ?hlen ?hch ?kd ?_; (case kB => k_asm); (case kF => k_asm); (case kX => k_asm); (case kT => k_asm); (case kK => exact rfl); (case hc => exact b0.1); (case hl => exact isList_news (by assumption) (by k_mem)); (case hI => exact IntsAre.nil); (case hlen => decide); (case hch => trivial); (case kd => ktr_room));
      intro D1 h' tk' rv1 r1 k1 K1 hD1 eD hI1 hr1; rename Fr _ _ _ _ => F1; rename News _ _ _ _ => N1; obtain ⟨F2, N2, l2, l3⟩ := afterNew F1 N1 K1 hD1 eD; clear F1 N1 K1 eD; (try k_lt l2))
   | (k_dflt (refine' row_spec ?kB ?kF ?kX ?kT ?kK ?hc ?hl ?hI ?hlen ?hch ?kd ?_; (case kB => k_asm); (case kF => k_asm); (case kX => k_asm); (case kT => k_asm); (case kK => exact rfl); (case hc => exact b1.1); (case hl => exact isList_news (by assumption) (by k_mem)); (case hI => assumption); (case hlen => (rw [List.length_take]; have := hr1.2.2; omega)); (case hch => exact chain_take _ hr1.1); (case kd => ktr_room));
      intro D2 h' tk' rv2 r2 k2 K1 hD2 eD hI2 hr2; rename Fr _ _ _ _ => F1; rename News _ _ _ _ => N1; obtain ⟨F2, N2, l2, l3⟩ := afterNew F1 N1 K1 hD2 eD; clear F1 N1 K1 eD; (try k_lt l2))
   | (k_dflt (refine' sum_spec ?kB ?kF ?kX ?kT ?kK ?hl ?hI ?hlen ?hb ?kd ?_; (case kB => k_asm); (case kF => k_asm); (case kX => k_asm); (case kT => k_asm); (case kK => exact rfl); (case hl => exact isList_news (by assumption) (by k_mem)); (case hI => first | exact hI1 | exact hI2); (case hlen => first | exact hr1.2.2 | exact hr2.2.2); (case hb => first | exact row_b hr1 | exact row_b hr2); (case kd => ktr_room));
      intro S h' tk' ts us K1 hS eD; rename Fr _ _ _ _ => F1; rename News _ _ _ _ => N1; obtain ⟨F2, N2, l2, l3⟩ := afterNew F1 N1 K1 hS eD; clear F1 N1 K1 eD; (try k_lt l2))
  k_with "subscriptTail Name Slice ref ref" => (k_dflt (refine' kmk_slice_ints ?jF ?jN ?jl ?jp ?jq ?ji ?jm ?jc ?_ ?js ?jt ?jz; (case jF => k_asm); (case jN => k_asm); (case jl => exact isList_news (by k_asm) (by k_mem)); (case jp => kmk_part); (case jq => kmk_part); (case ji => assumption); (case jm => exact kmk_upto (by assumption) (by first | exact Int.emod_nonneg _ (by decide) | exact Int.fmod_nonneg_of_pos _ (by decide))); (case jc => kmk_len); (case js => with_unfolding_all rfl); (case jt => kmk_pure); (case jz => exact kmk_sz (by assumption) (by rw [sizeLine_eq]; have := hr1.2.2; omega))); intro D' ws' h' F' N' l1 hI' hC' hL'; (try k_lt l1))
  k_with "execs cons" => k_dflt (change wpAny _ _ (execs (lawBody.drop 4) (lawEnv _ _ _)) _ _ _; rename Fr _ _ _ _ => FZ; rename News _ _ _ _ => NZ; (refine wpAny_noRaise (law_tail (D1 := D1) (D2 := D2) (by assumption) (by assumption) (by assumption) (by assumption) (by assumption) (frLaw1 FZ rfl rfl) (cb_drop NZ top_mem) hI1 hr1 hI2 hr2 (mark_of _) ?lL ?lt ?_); (case lL => (refine ⟨?_, ?_, ?_⟩ <;> omega)); (case lt => (refine ⟨?_, ?_, ?_, ?_, ?_⟩ <;> omega))); intro m9 q37 q30 rest9 h9 tk9 F9 N9 P37 P30; clear P37 P30 FZ NZ)
  k_steps)
end
end Mine
end PartG1

set_option maxRecDepth 100000 in
theorem PySem.Challenge.cw_rw0066_01_holds : PySem.Challenge.rw_rw0066_01.Holds := by
  exact Mine.top_all
