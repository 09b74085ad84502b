import PyProof.Rows.All
import Wide.All
import OpenK.AllK
import Wide.FinOn
import KE.KSuperObj
import Lean
import PySem.Challenge.RW_wr0019_01
set_option Elab.async false
set_option linter.all false
set_option maxRecDepth 100000
set_option maxHeartbeats 16000000
set_option compiler.extract_closed false
namespace Mine.Hd
section
open PySem PySem.W PyProof.Rows
noncomputable def nth : List Stmt → Nat → Stmt
  | s :: _, 0 => s
  | _ :: l, n + 1 => nth l n
  | [], _ => .Pass ⟨0, 0, 0, 0⟩
noncomputable def top (i : Nat) : Stmt := nth PySem.Challenge.pw_wr0019_01.main.body i
noncomputable def meth (i : Nat) : Stmt := match top 10 with
  | .ClassDef _ _ _ body .. => nth body i
  | s => s
noncomputable def nam : Stmt → Str
  | .FunctionDef name .. => name
  | .ClassDef name .. => name
  | _ => ⟨#[]⟩
noncomputable def fob (s : Stmt) (q : Str) (m : Value) (c : Addr) (df : Value) (cl : List (Str × Addr)) (ct : Value) : Obj := match s with
  | .FunctionDef name args body _ _ _ scope _ _ _ => { cls := .type "function", data := .func { name := name, qualname := q, params := args, body := .stmts body, scope := scope, globals := 3, closure := cl, defaults := df, kwdefaults := .none, pyModule := m, code := .ref c, closureTuple := ct } }
  | _ => { cls := .none }
noncomputable def cob (n q : Str) (t line argc fl : Nat) (ct tb : Addr) (nm fr : Value) (tm : Addr) (k : Nat) : Obj :=
  { cls := .type "code", data := .fields #[.str n t, .str q (t + 1), .str (Str.ofString "/claim/cut.py") (t + 2), .int line 0, .int argc 0, .int 0 0, .int 0 0, .int fl 0, .ref ct, .bool true, .int 181 0, .ref tb, .none, nm, fr, .ref tm, .int k 0, .int line 0, .str (Str.ofString "/claim/cut.py") (k + 1)] }
noncomputable def ent (P : Params) (n : Str) (t : Nat) (v : Value) : DictEntry := ⟨PyData.keyHash P n, .str n t, v⟩
noncomputable def m0 : Value := Value.str (Str.ofString "__main__") 164
noncomputable def m1 : Value := Value.str (Str.ofString "cpy313.locale") 194
noncomputable def m2 : Value := Value.str (Str.ofString "cpy313.doctest") 215
noncomputable def m3 : Value := Value.str (Str.ofString "cpy313.email.header") 231
noncomputable def m4 : Value := Value.str (Str.ofString "cpy313.token") 329
noncomputable def m5 : Value := Value.str (Str.ofString "law_wr0019_01") 356
noncomputable def d3a (P : Params) : List DictEntry := [ent P (Str.ofString "__name__") 165 (Value.str (Str.ofString "law_wr0019_01") 356), ent P (Str.ofString "__doc__") 166 (Value.none), ent P (Str.ofString "__package__") 167 (Value.none), ent P (Str.ofString "__loader__") 168 (Value.builtin "__main__.__loader__#opaque"), ent P (Str.ofString "__spec__") 169 (Value.none), ent P (Str.ofString "__annotations__") 170 (Value.ref 6), ent P (Str.ofString "__builtins__") 171 (Value.ref 4), ent P (Str.ofString "__file__") 173 (Value.str (Str.ofString "/claim/cut.py") 172), ent P (Str.ofString "__cached__") 174 (Value.none), ent P (nam (top 0)) 193 (Value.ref 21), ent P (nam (top 2)) 203 (Value.ref 28), ent P (Str.ofString "CHAR_MAX") 205 (Value.int 127 204), ent P (nam (top 4)) 214 (Value.ref 35), ent P (Str.ofString "ELLIPSIS_MARKER") 218 (Value.str (Str.ofString "...") 217), ent P (nam (top 7)) 230 (Value.ref 42)]
noncomputable def d3b (P : Params) : List DictEntry := [ent P (Str.ofString "EMPTYSTRING") 234 (Value.str (Str.ofString "") 233), ent P (Str.ofString "_Accumulator") 328 (Value.ref 120), ent P (Str.ofString "ENDMARKER") 332 (Value.int 0 331), ent P (Str.ofString "NT_OFFSET") 334 (Value.int 256 333), ent P (nam (top 14)) 341 (Value.ref 131), ent P (nam (top 15)) 348 (Value.ref 138), ent P (nam (top 16)) 355 (Value.ref 145), ent P (nam (top 18)) 366 (Value.ref 152), ent P (nam (top 19)) 375 (Value.ref 159), ent P (nam (top 20)) 384 (Value.ref 166), ent P (nam (top 21)) 394 (Value.ref 173), ent P (nam (top 22)) 406 (Value.ref 180), ent P (nam (top 23)) 412 (Value.ref 185), ent P (nam (top 24)) 418 (Value.ref 190), ent P (nam (top 25)) 429 (Value.ref 197), ent P (nam (top 26)) 435 (Value.ref 202)]
noncomputable def d3 (P : Params) : Obj := { cls := .type "dict", data := .dict ⟨d3a P ++ d3b P⟩ 31 }
noncomputable def d119a (P : Params) : List DictEntry := [ent P (Str.ofString "__module__") 242 (Value.str (Str.ofString "cpy313.email.header") 231), ent P (Str.ofString "__firstlineno__") 246 (Value.int 52 245), ent P (nam (meth 0)) 256 (Value.ref 59), ent P (nam (meth 1)) 265 (Value.ref 66), ent P (nam (meth 2)) 275 (Value.ref 74), ent P (nam (meth 3)) 282 (Value.ref 81), ent P (nam (meth 4)) 289 (Value.ref 88)]
noncomputable def d119b (P : Params) : List DictEntry := [ent P (nam (meth 5)) 296 (Value.ref 95), ent P (nam (meth 6)) 304 (Value.ref 103), ent P (nam (meth 7)) 311 (Value.ref 110), ent P (nam (meth 8)) 318 (Value.ref 117), ent P (Str.ofString "__static_attributes__") 320 (Value.ref 118), ent P (Str.ofString "__dict__") 323 (Value.ref 121), ent P (Str.ofString "__weakref__") 325 (Value.ref 122), ent P (Str.ofString "__doc__") 326 (Value.none)]
noncomputable def d119 (P : Params) : Obj := { cls := .type "dict", data := .dict ⟨d119a P ++ d119b P⟩ 5 }
noncomputable def o43 : Obj := { cls := Value.type "tuple", data := Data.seq #[Value.type "list"] }
noncomputable def o46 : Obj := { cls := Value.type "cell", data := Data.cell (some (Value.ref 120)) }
noncomputable def o51 : Obj := { cls := Value.type "tuple", data := Data.seq #[Value.int 0 247] }
noncomputable def o52 : Obj := { cls := Value.type "tuple", data := Data.seq #[Value.ref 46] }
noncomputable def o67 : Obj := { cls := Value.type "tuple", data := Data.seq #[Value.int 0 266] }
noncomputable def o96 : Obj := { cls := Value.type "tuple", data := Data.seq #[Value.none] }
noncomputable def o118 : Obj := { cls := Value.type "tuple", data := Data.seq #[Value.str (Str.ofString "_initial_size") 319] }
noncomputable def o120 : Obj := { cls := Value.type "type", data := Data.cls { name := Str.ofString "_Accumulator", bases := [Value.type "list"], mro := [Value.ref 120, Value.type "list", Value.type "object"], ns := 119, qualname := Str.ofString "_Accumulator" }, slots := #[some (Value.ref 43), none, some (Value.str (Str.ofString "_Accumulator") 235), some (Value.str (Str.ofString "_Accumulator") 243), some (Value.builtin "list.__new__"), some (Value.bool true)] }
noncomputable def o121 : Obj := { cls := Value.type "getset_descriptor", data := Data.fields #[Value.str (Str.ofString "__dict__") 322, Value.ref 120, Value.builtin "function.__dict__", Value.builtin "function.__dict__#set"] }
noncomputable def o122 : Obj := { cls := Value.type "getset_descriptor", data := Data.fields #[Value.str (Str.ofString "__weakref__") 324, Value.ref 120, Value.builtin "ExceptionGroup.__weakref__", Value.none] }
noncomputable def f21 : Obj := fob (top 0) (nam (top 0)) m0 20 (Value.none) [] (Value.none)
noncomputable def c20 : Obj := cob (nam (top 0)) (nam (top 0)) 187 1 1 3 15 16 (Value.ref 17) (Value.ref 18) 19 191
noncomputable def f28 : Obj := fob (top 2) (nam (top 2)) m1 27 (Value.none) [] (Value.none)
noncomputable def c27 : Obj := cob (nam (top 2)) (nam (top 2)) 196 5 2 3 22 23 (Value.ref 24) (Value.ref 25) 26 201
noncomputable def f35 : Obj := fob (top 4) (nam (top 4)) m1 34 (Value.none) [] (Value.none)
noncomputable def c34 : Obj := cob (nam (top 4)) (nam (top 4)) 206 8 1 35 29 30 (Value.ref 31) (Value.ref 32) 33 212
noncomputable def f42 : Obj := fob (top 7) (nam (top 7)) m2 41 (Value.none) [] (Value.none)
noncomputable def c41 : Obj := cob (nam (top 7)) (nam (top 7)) 219 22 2 3 36 37 (Value.ref 38) (Value.ref 39) 40 228
noncomputable def f59 : Obj := fob (meth 0) (Str.ofString "_Accumulator.__init__") m3 58 (Value.ref 51) [(Str.ofString "__class__", 46)] (Value.ref 52)
noncomputable def c58 : Obj := cob (nam (meth 0)) (Str.ofString "_Accumulator.__init__") 248 54 2 3 53 54 (Value.ref 55) (Value.ref 56) 57 254
noncomputable def f66 : Obj := fob (meth 1) (Str.ofString "_Accumulator.push") m3 65 (Value.none) [] (Value.none)
noncomputable def c65 : Obj := cob (nam (meth 1)) (Str.ofString "_Accumulator.push") 257 58 3 3 60 61 (Value.ref 62) (Value.ref 63) 64 263
noncomputable def f74 : Obj := fob (meth 2) (Str.ofString "_Accumulator.pop_from") m3 73 (Value.ref 67) [] (Value.none)
noncomputable def c73 : Obj := cob (nam (meth 2)) (Str.ofString "_Accumulator.pop_from") 267 61 2 3 68 69 (Value.ref 70) (Value.ref 71) 72 273
noncomputable def f81 : Obj := fob (meth 3) (Str.ofString "_Accumulator.pop") m3 80 (Value.none) [] (Value.none)
noncomputable def c80 : Obj := cob (nam (meth 3)) (Str.ofString "_Accumulator.pop") 276 66 1 3 75 76 (Value.ref 77) (Value.ref 78) 79 280
noncomputable def f88 : Obj := fob (meth 4) (Str.ofString "_Accumulator.__len__") m3 87 (Value.none) [] (Value.none)
noncomputable def c87 : Obj := cob (nam (meth 4)) (Str.ofString "_Accumulator.__len__") 283 69 1 3 82 83 (Value.ref 84) (Value.ref 85) 86 287
noncomputable def f95 : Obj := fob (meth 5) (Str.ofString "_Accumulator.__str__") m3 94 (Value.none) [] (Value.none)
noncomputable def c94 : Obj := cob (nam (meth 5)) (Str.ofString "_Accumulator.__str__") 290 72 1 3 89 90 (Value.ref 91) (Value.ref 92) 93 294
noncomputable def f103 : Obj := fob (meth 6) (Str.ofString "_Accumulator.reset") m3 102 (Value.ref 96) [] (Value.none)
noncomputable def c102 : Obj := cob (nam (meth 6)) (Str.ofString "_Accumulator.reset") 297 75 2 3 97 98 (Value.ref 99) (Value.ref 100) 101 302
noncomputable def f110 : Obj := fob (meth 7) (Str.ofString "_Accumulator.is_onlyws") m3 109 (Value.none) [] (Value.none)
noncomputable def c109 : Obj := cob (nam (meth 7)) (Str.ofString "_Accumulator.is_onlyws") 305 78 1 3 104 105 (Value.ref 106) (Value.ref 107) 108 309
noncomputable def f117 : Obj := fob (meth 8) (Str.ofString "_Accumulator.part_count") m3 116 (Value.none) [] (Value.none)
noncomputable def c116 : Obj := cob (nam (meth 8)) (Str.ofString "_Accumulator.part_count") 312 81 1 3 111 112 (Value.ref 113) (Value.ref 114) 115 316
noncomputable def f131 : Obj := fob (top 14) (nam (top 14)) m4 130 (Value.none) [] (Value.none)
noncomputable def c130 : Obj := cob (nam (top 14)) (nam (top 14)) 335 86 1 3 125 126 (Value.ref 127) (Value.ref 128) 129 339
noncomputable def f138 : Obj := fob (top 15) (nam (top 15)) m4 137 (Value.none) [] (Value.none)
noncomputable def c137 : Obj := cob (nam (top 15)) (nam (top 15)) 342 88 1 3 132 133 (Value.ref 134) (Value.ref 135) 136 346
noncomputable def f145 : Obj := fob (top 16) (nam (top 16)) m4 144 (Value.none) [] (Value.none)
noncomputable def c144 : Obj := cob (nam (top 16)) (nam (top 16)) 349 90 1 3 139 140 (Value.ref 141) (Value.ref 142) 143 353
noncomputable def f152 : Obj := fob (top 18) (nam (top 18)) m5 151 (Value.none) [] (Value.none)
noncomputable def c151 : Obj := cob (nam (top 18)) (nam (top 18)) 358 93 1 3 146 147 (Value.ref 148) (Value.ref 149) 150 364
noncomputable def f159 : Obj := fob (top 19) (nam (top 19)) m5 158 (Value.none) [] (Value.none)
noncomputable def c158 : Obj := cob (nam (top 19)) (nam (top 19)) 367 98 1 3 153 154 (Value.ref 155) (Value.ref 156) 157 373
noncomputable def f166 : Obj := fob (top 20) (nam (top 20)) m5 165 (Value.none) [] (Value.none)
noncomputable def c165 : Obj := cob (nam (top 20)) (nam (top 20)) 376 105 1 3 160 161 (Value.ref 162) (Value.ref 163) 164 382
noncomputable def f173 : Obj := fob (top 21) (nam (top 21)) m5 172 (Value.none) [] (Value.none)
noncomputable def c172 : Obj := cob (nam (top 21)) (nam (top 21)) 385 112 2 3 167 168 (Value.ref 169) (Value.ref 170) 171 392
noncomputable def f180 : Obj := fob (top 22) (nam (top 22)) m5 179 (Value.none) [] (Value.none)
noncomputable def c179 : Obj := cob (nam (top 22)) (nam (top 22)) 395 118 3 3 174 175 (Value.ref 176) (Value.ref 177) 178 404
noncomputable def f185 : Obj := fob (top 23) (nam (top 23)) m5 184 (Value.none) [] (Value.none)
noncomputable def c184 : Obj := cob (nam (top 23)) (nam (top 23)) 407 125 2 3 181 182 Value.none Value.none 183 410
noncomputable def f190 : Obj := fob (top 24) (nam (top 24)) m5 189 (Value.none) [] (Value.none)
noncomputable def c189 : Obj := cob (nam (top 24)) (nam (top 24)) 413 127 2 3 186 187 Value.none Value.none 188 416
noncomputable def f197 : Obj := fob (top 25) (nam (top 25)) m5 196 (Value.none) [] (Value.none)
noncomputable def c196 : Obj := cob (nam (top 25)) (nam (top 25)) 419 129 3 3 191 192 (Value.ref 193) (Value.ref 194) 195 427
noncomputable def f202 : Obj := fob (top 26) (nam (top 26)) m5 201 (Value.none) [] (Value.none)
noncomputable def c201 : Obj := cob (nam (top 26)) (nam (top 26)) 430 135 1 3 198 199 Value.none Value.none 200 433
noncomputable def k0 (P : Params) : Frag := [(0, boot_o_0 P), (2, boot_o_2 P), (3, d3 P), (4, boot_o_4 P), (20, c20), (21, f21), (27, c27), (28, f28), (34, c34), (35, f35)]
noncomputable def a0 : List Addr := [0, 2, 3, 4, 20, 21, 27, 28, 34, 35]
noncomputable def k1 (P : Params) : Frag := [(41, c41), (42, f42), (43, o43), (46, o46), (51, o51), (52, o52), (58, c58), (59, f59), (65, c65), (66, f66)]
noncomputable def a1 : List Addr := [41, 42, 43, 46, 51, 52, 58, 59, 65, 66]
noncomputable def k2 (P : Params) : Frag := [(67, o67), (73, c73), (74, f74), (80, c80), (81, f81), (87, c87), (88, f88), (90, { cls := .none, data := .fields #[] }), (94, c94), (95, f95)]
noncomputable def a2 : List Addr := [67, 73, 74, 80, 81, 87, 88, 90, 94, 95]
noncomputable def k3 (P : Params) : Frag := [(96, o96), (102, c102), (103, f103), (109, c109), (110, f110), (116, c116), (117, f117), (118, o118), (119, d119 P), (120, o120)]
noncomputable def a3 : List Addr := [96, 102, 103, 109, 110, 116, 117, 118, 119, 120]
noncomputable def k4 (P : Params) : Frag := [(121, o121), (122, o122), (130, c130), (131, f131), (137, c137), (138, f138), (144, c144), (145, f145), (151, c151), (152, f152)]
noncomputable def a4 : List Addr := [121, 122, 130, 131, 137, 138, 144, 145, 151, 152]
noncomputable def k5 (P : Params) : Frag := [(158, c158), (159, f159), (165, c165), (166, f166), (172, c172), (173, f173), (179, c179), (180, f180), (184, c184), (185, f185)]
noncomputable def a5 : List Addr := [158, 159, 165, 166, 172, 173, 179, 180, 184, 185]
noncomputable def k6 (P : Params) : Frag := [(189, c189), (190, f190), (196, c196), (197, f197), (201, c201), (202, f202)]
noncomputable def a6 : List Addr := [189, 190, 196, 197, 201, 202]
noncomputable def Kp (P : Params) : Frag := k0 P ++ (k1 P ++ (k2 P ++ (k3 P ++ (k4 P ++ (k5 P ++ (k6 P))))))
noncomputable def as1 : List Addr := a0 ++ (a1 ++ (a2 ++ (a3 ++ (a4 ++ (a5 ++ (a6))))))
set_option smartUnfolding false in
noncomputable def g21 : { o : Obj // o = f21 } := ⟨⟨.type "function", none, .func ⟨_, _, _, .stmts _, _, 3, _, _, .none, .none, _, none, .ref 20, _, 0⟩, #[]⟩, rfl⟩
set_option smartUnfolding false in
noncomputable def g28 : { o : Obj // o = f28 } := ⟨⟨.type "function", none, .func ⟨_, _, _, .stmts _, _, 3, _, _, .none, .none, _, none, .ref 27, _, 0⟩, #[]⟩, rfl⟩
set_option smartUnfolding false in
noncomputable def g35 : { o : Obj // o = f35 } := ⟨⟨.type "function", none, .func ⟨_, _, _, .stmts _, _, 3, _, _, .none, .none, _, none, .ref 34, _, 0⟩, #[]⟩, rfl⟩
set_option smartUnfolding false in
noncomputable def g42 : { o : Obj // o = f42 } := ⟨⟨.type "function", none, .func ⟨_, _, _, .stmts _, _, 3, _, _, .none, .none, _, none, .ref 41, _, 0⟩, #[]⟩, rfl⟩
set_option smartUnfolding false in
noncomputable def g59 : { o : Obj // o = f59 } := ⟨⟨.type "function", none, .func ⟨_, _, _, .stmts _, _, 3, _, _, .none, .none, _, none, .ref 58, _, 0⟩, #[]⟩, rfl⟩
set_option smartUnfolding false in
noncomputable def g66 : { o : Obj // o = f66 } := ⟨⟨.type "function", none, .func ⟨_, _, _, .stmts _, _, 3, _, _, .none, .none, _, none, .ref 65, _, 0⟩, #[]⟩, rfl⟩
set_option smartUnfolding false in
noncomputable def g74 : { o : Obj // o = f74 } := ⟨⟨.type "function", none, .func ⟨_, _, _, .stmts _, _, 3, _, _, .none, .none, _, none, .ref 73, _, 0⟩, #[]⟩, rfl⟩
set_option smartUnfolding false in
noncomputable def g81 : { o : Obj // o = f81 } := ⟨⟨.type "function", none, .func ⟨_, _, _, .stmts _, _, 3, _, _, .none, .none, _, none, .ref 80, _, 0⟩, #[]⟩, rfl⟩
set_option smartUnfolding false in
noncomputable def g88 : { o : Obj // o = f88 } := ⟨⟨.type "function", none, .func ⟨_, _, _, .stmts _, _, 3, _, _, .none, .none, _, none, .ref 87, _, 0⟩, #[]⟩, rfl⟩
set_option smartUnfolding false in
noncomputable def g95 : { o : Obj // o = f95 } := ⟨⟨.type "function", none, .func ⟨_, _, _, .stmts _, _, 3, _, _, .none, .none, _, none, .ref 94, _, 0⟩, #[]⟩, rfl⟩
set_option smartUnfolding false in
noncomputable def g103 : { o : Obj // o = f103 } := ⟨⟨.type "function", none, .func ⟨_, _, _, .stmts _, _, 3, _, _, .none, .none, _, none, .ref 102, _, 0⟩, #[]⟩, rfl⟩
set_option smartUnfolding false in
noncomputable def g110 : { o : Obj // o = f110 } := ⟨⟨.type "function", none, .func ⟨_, _, _, .stmts _, _, 3, _, _, .none, .none, _, none, .ref 109, _, 0⟩, #[]⟩, rfl⟩
set_option smartUnfolding false in
noncomputable def g117 : { o : Obj // o = f117 } := ⟨⟨.type "function", none, .func ⟨_, _, _, .stmts _, _, 3, _, _, .none, .none, _, none, .ref 116, _, 0⟩, #[]⟩, rfl⟩
set_option smartUnfolding false in
noncomputable def g131 : { o : Obj // o = f131 } := ⟨⟨.type "function", none, .func ⟨_, _, _, .stmts _, _, 3, _, _, .none, .none, _, none, .ref 130, _, 0⟩, #[]⟩, rfl⟩
set_option smartUnfolding false in
noncomputable def g138 : { o : Obj // o = f138 } := ⟨⟨.type "function", none, .func ⟨_, _, _, .stmts _, _, 3, _, _, .none, .none, _, none, .ref 137, _, 0⟩, #[]⟩, rfl⟩
set_option smartUnfolding false in
noncomputable def g145 : { o : Obj // o = f145 } := ⟨⟨.type "function", none, .func ⟨_, _, _, .stmts _, _, 3, _, _, .none, .none, _, none, .ref 144, _, 0⟩, #[]⟩, rfl⟩
set_option smartUnfolding false in
noncomputable def g152 : { o : Obj // o = f152 } := ⟨⟨.type "function", none, .func ⟨_, _, _, .stmts _, _, 3, _, _, .none, .none, _, none, .ref 151, _, 0⟩, #[]⟩, rfl⟩
set_option smartUnfolding false in
noncomputable def g159 : { o : Obj // o = f159 } := ⟨⟨.type "function", none, .func ⟨_, _, _, .stmts _, _, 3, _, _, .none, .none, _, none, .ref 158, _, 0⟩, #[]⟩, rfl⟩
set_option smartUnfolding false in
noncomputable def g166 : { o : Obj // o = f166 } := ⟨⟨.type "function", none, .func ⟨_, _, _, .stmts _, _, 3, _, _, .none, .none, _, none, .ref 165, _, 0⟩, #[]⟩, rfl⟩
set_option smartUnfolding false in
noncomputable def g173 : { o : Obj // o = f173 } := ⟨⟨.type "function", none, .func ⟨_, _, _, .stmts _, _, 3, _, _, .none, .none, _, none, .ref 172, _, 0⟩, #[]⟩, rfl⟩
set_option smartUnfolding false in
noncomputable def g180 : { o : Obj // o = f180 } := ⟨⟨.type "function", none, .func ⟨_, _, _, .stmts _, _, 3, _, _, .none, .none, _, none, .ref 179, _, 0⟩, #[]⟩, rfl⟩
set_option smartUnfolding false in
noncomputable def g185 : { o : Obj // o = f185 } := ⟨⟨.type "function", none, .func ⟨_, _, _, .stmts _, _, 3, _, _, .none, .none, _, none, .ref 184, _, 0⟩, #[]⟩, rfl⟩
set_option smartUnfolding false in
noncomputable def g190 : { o : Obj // o = f190 } := ⟨⟨.type "function", none, .func ⟨_, _, _, .stmts _, _, 3, _, _, .none, .none, _, none, .ref 189, _, 0⟩, #[]⟩, rfl⟩
set_option smartUnfolding false in
noncomputable def g197 : { o : Obj // o = f197 } := ⟨⟨.type "function", none, .func ⟨_, _, _, .stmts _, _, 3, _, _, .none, .none, _, none, .ref 196, _, 0⟩, #[]⟩, rfl⟩
set_option smartUnfolding false in
noncomputable def g202 : { o : Obj // o = f202 } := ⟨⟨.type "function", none, .func ⟨_, _, _, .stmts _, _, 3, _, _, .none, .none, _, none, .ref 201, _, 0⟩, #[]⟩, rfl⟩
noncomputable def q0 (P : Params) : Frag := [(0, boot_o_0 P), (2, boot_o_2 P), (3, d3 P), (4, boot_o_4 P), (20, c20), (21, g21.1), (27, c27), (28, g28.1), (34, c34), (35, g35.1)]
noncomputable def q1 (P : Params) : Frag := [(41, c41), (42, g42.1), (43, o43), (46, o46), (51, o51), (52, o52), (58, c58), (59, g59.1), (65, c65), (66, g66.1)]
noncomputable def q2 (P : Params) : Frag := [(67, o67), (73, c73), (74, g74.1), (80, c80), (81, g81.1), (87, c87), (88, g88.1), (90, { cls := .none, data := .fields #[] }), (94, c94), (95, g95.1)]
noncomputable def q3 (P : Params) : Frag := [(96, o96), (102, c102), (103, g103.1), (109, c109), (110, g110.1), (116, c116), (117, g117.1), (118, o118), (119, d119 P), (120, o120)]
noncomputable def q4 (P : Params) : Frag := [(121, o121), (122, o122), (130, c130), (131, g131.1), (137, c137), (138, g138.1), (144, c144), (145, g145.1), (151, c151), (152, g152.1)]
noncomputable def q5 (P : Params) : Frag := [(158, c158), (159, g159.1), (165, c165), (166, g166.1), (172, c172), (173, g173.1), (179, c179), (180, g180.1), (184, c184), (185, g185.1)]
noncomputable def q6 (P : Params) : Frag := [(189, c189), (190, g190.1), (196, c196), (197, g197.1), (201, c201), (202, g202.1)]
noncomputable def Kq (P : Params) : Frag := q0 P ++ (q1 P ++ (q2 P ++ (q3 P ++ (q4 P ++ (q5 P ++ (q6 P))))))
theorem kq_eq (P : Params) : Kp P = Kq P := by kernel_rfl
noncomputable def vw : Program := view PySem.Challenge.pw_wr0019_01 [0, 2, 3, 4, 6, 7, 9, 10, 12, 13, 14, 15, 16, 18, 19, 20, 21, 22, 23, 24, 25, 26]
noncomputable def lo : List Str := [nam (top 10)]
noncomputable def xt (s : Shared) : Bool := xlAt vw [] s && recOk (RowW.records PySem.Challenge.rw_wr0019_01.row.toRowW) s
noncomputable def run1 (w : World) (os : OsState) := (topFrom treeTable PySem.Challenge.pw_wr0019_01 w 2268 ⟨boot_heap w.params, Array.mk [], boot_drawn, boot_toks, os⟩).map fun s =>
  (openSeen vw lo (importedModules PySem.Challenge.pw_wr0019_01.main.body) xt true s, as1.map s.heap.get?)
noncomputable def val1 (w : World) (_ : OsState) := some (openGood vw lo, (Kp w.params).map fun p => some p.2)
theorem tw_run : (fun (_ : World → OsState → _) => true) run1 = true := by k_qdec
theorem tw_val : (fun (_ : World → OsState → _) => true) val1 = true := by k_qdec
theorem mid : ∀ w os, PySem.W.Fast.tw15814158983496846818 w os = PySem.W.Fast.tw17463236102387503735 w os := fun w os => by kernel_rfl
theorem run1_eq (w : World) (os : OsState) : run1 w os = val1 w os :=
  (congrFun (congrFun PySem.W.Fast.te15814158983496846818 w) os).trans ((mid w os).trans (congrFun (congrFun PySem.W.Fast.te17463236102387503735 w) os).symm)
theorem leftO : LeftO PySem.Challenge.pw_wr0019_01 vw lo xt (fun s => as1.map s.heap.get?) (fun w => (Kp w.params).map fun p => some p.2) 2268 := fun w => by
  obtain ⟨⟨h, gs, d, k, os⟩, e, e'⟩ := Option.map_eq_some_iff.mp (boot_open (p := PySem.Challenge.pw_wr0019_01) (N := 2268) (by kernel_rfl) (by decide) (fun s => by kernel_rfl) w)
  obtain ⟨rfl, rfl, rfl, rfl⟩ : h = boot_heap w.params ∧ gs = Array.mk [] ∧ d = boot_drawn ∧ k = boot_toks := by simpa using e'
  unfold openEnds
  rw [e, Option.bind_some]
  exact run1_eq w os
end
end Mine.Hd
namespace Mine
section
open PySem PySem.W PyProof.Rows PySem.Calls
/-- one object that we may speak of: its address, and what is known of it -/
structure Cell where
  addr : Addr
  P : Obj → Prop
noncomputable def Cell.at (c : Cell) (h : Heap) : Prop := ∃ o, h.get? c.addr = some o ∧ c.P o
theorem Cell.at_of {c : Cell} {h h' : Heap} (x : c.at h) (e : ∀ o, h.get? c.addr = some o → h'.get? c.addr = some o) : c.at h' :=
  let ⟨o, ho, p⟩ := x; ⟨o, e o ho, p⟩
/-- what is fixed while a piece of code runs: the objects that stay, what is known of the generators, the rest -/
structure Amb where
  hb : Heap
  gp : Array GenState → Prop
  d : Drawn
  os : OsState
structure Sat (X : Amb) (Λ : List Cell) (s : Shared) : Prop where
  keep : ∀ b o, X.hb.get? b = some o → s.heap.get? b = some o
  own : ∀ c ∈ Λ, c.at s.heap
  new : ∀ c ∈ Λ, X.hb.get? c.addr = none
  nd : (Λ.map Cell.addr).Nodup
  gp : X.gp s.gens
  d : s.drawn = X.d
  os : s.os = X.os
variable {w : World} {A : Around} {X : Amb} {Λ Λ' : List Cell}
noncomputable abbrev Mod (w : World) : Model := model PySem.Challenge.pw_wr0019_01 w
/-- the tree t, from every state that the cells describe, ends; what it hands back and the cells then meet Q -/
noncomputable def Ev {α : Type} (w : World) (X : Amb) (A : Around) (Λ : List Cell) (t : Sem α) (Q : α → List Cell → Prop) : Prop :=
  ∀ s, Sat X Λ s → wpAny (Mod w) A t (fun v s' => ∃ Λ', Sat X Λ' s' ∧ Q v Λ') (fun _ _ => False) s
noncomputable def EvC (w : World) (X : Amb) (A : Around) (Λ : List Cell) (c : Code) (R : Flow → List Cell → Prop) : Prop :=
  ∀ s, Sat X Λ s → codeAny (Mod w) A c (fun r s' => match r with | .ok f => ∃ Λ', Sat X Λ' s' ∧ R f Λ' | .error _ => False) s
section
variable {α β : Type} {t : Sem α} {Q Q' : α → List Cell → Prop}
theorem Ev.mono (h : Ev w X A Λ t Q) (k : ∀ v Λ', Q v Λ' → Q' v Λ') : Ev w X A Λ t Q' :=
  fun s hs => wpAny_mono (h s hs) (fun v _ ⟨Λ', a, b⟩ => ⟨Λ', a, k v Λ' b⟩) fun _ _ x => x
theorem Ev.pur {v : α} (h : Q v Λ) : Ev w X A Λ (Pure.pure v) Q := fun _ hs => wpAny_pure ⟨Λ, hs, h⟩
theorem Ev.bnd {f : α → Sem β} {R : β → List Cell → Prop} (h : Ev w X A Λ t (fun v Λ' => Ev w X A Λ' (f v) R)) : Ev w X A Λ (t >>= f) R :=
  fun s hs => wpAny_bind (wpAny_mono (h s hs) (fun _ s' ⟨_, a, b⟩ => b s' a) fun _ _ x => x)
/-- from the inside of a rule of the library: the continuation in the library's form -/
theorem Ev.use {s : Shared} (h : Ev w X A Λ t Q) (hs : Sat X Λ s) : wpAny (Mod w) A t (fun v s' => ∃ Λ', Sat X Λ' s' ∧ Q v Λ') (fun _ _ => False) s := h s hs
theorem Ev.useE {s : Shared} {E : Value → Shared → Prop} (h : Ev w X A Λ t Q) (hs : Sat X Λ s) : wpAny (Mod w) A t (fun v s' => ∃ Λ', Sat X Λ' s' ∧ Q v Λ') E s :=
  wpAny_mono (h s hs) (fun _ _ x => x) fun _ _ x => x.elim
theorem Ev.useB {s : Shared} {E : Value → Shared → Prop} {Q' : α → Shared → Prop} (h : Ev w X A Λ t Q) (hs : Sat X Λ s) (k : ∀ v s' Λ', Sat X Λ' s' → Q v Λ' → Q' v s') : wpAny (Mod w) A t Q' E s :=
  wpAny_mono (h s hs) (fun v s' ⟨Λ', a, b⟩ => k v s' Λ' a b) fun _ _ x => x.elim
end
/-! cells -/
theorem Sat.tok {s : Shared} (hs : Sat X Λ s) (t : Nat) : Sat X Λ { s with toks := t } := ⟨hs.keep, hs.own, hs.new, hs.nd, hs.gp, hs.d, hs.os⟩
theorem Sat.lt {s : Shared} (hs : Sat X Λ s) {c : Cell} (hc : c ∈ Λ) : c.addr < s.heap.objs.size := let ⟨_, ho, _⟩ := hs.own c hc; Heap.lt_size ho
theorem Sat.fresh {s : Shared} (hs : Sat X Λ s) : X.hb.get? s.heap.objs.size = none := by
  cases e : X.hb.get? s.heap.objs.size with
  | none => rfl
  | some o => exact absurd (Heap.lt_size (hs.keep _ _ e)) (Nat.lt_irrefl _)
/-- all that stood is as it was: the cells hold on -/
theorem Sat.ext {s s' : Shared} (hs : Sat X Λ s) (k : ∀ b o, s.heap.get? b = some o → s'.heap.get? b = some o) (g : X.gp s'.gens) (d : s'.drawn = s.drawn) (os : s'.os = s.os) : Sat X Λ s' :=
  ⟨fun b o e => k b o (hs.keep b o e), fun c hc => Cell.at_of (hs.own c hc) (k c.addr), hs.new, hs.nd, g, d.trans hs.d, os.trans hs.os⟩
/-- one new object -/
theorem Sat.more {s' : Shared} {a : Addr} {P : Obj → Prop} (hs : Sat X Λ s') (ho : Cell.at ⟨a, P⟩ s'.heap) (hn : X.hb.get? a = none) (hl : ∀ c ∈ Λ, c.addr ≠ a) : Sat X (⟨a, P⟩ :: Λ) s' :=
  ⟨hs.keep, fun c hc => by
    rcases List.mem_cons.mp hc with rfl | hc
    · exact ho
    · exact hs.own c hc, fun c hc => by
    rcases List.mem_cons.mp hc with rfl | hc
    · exact hn
    · exact hs.new c hc, by
    rw [List.map_cons, List.nodup_cons]
    exact ⟨fun hm => by obtain ⟨c, hc, e⟩ := List.mem_map.mp hm; exact hl c hc e, hs.nd⟩, hs.gp, hs.d, hs.os⟩
theorem Sat.grow {s s' : Shared} {P : Obj → Prop} (hs : Sat X Λ s) (k : ∀ b o, s.heap.get? b = some o → s'.heap.get? b = some o) (g : X.gp s'.gens) (d : s'.drawn = s.drawn) (os : s'.os = s.os)
    (ho : Cell.at ⟨s.heap.objs.size, P⟩ s'.heap) : Sat X (⟨s.heap.objs.size, P⟩ :: Λ) s' :=
  Sat.more (hs.ext k g d os) ho hs.fresh fun c hc => Nat.ne_of_lt (hs.lt hc)
theorem Sat.push {s : Shared} {o : Obj} {P : Obj → Prop} (hs : Sat X Λ s) (hf : o.isFreed = false) (hp : P o) : Sat X (⟨s.heap.objs.size, P⟩ :: Λ) { s with heap := s.heap.push o } :=
  hs.grow (s' := { s with heap := s.heap.push o }) (fun _ _ e => Heap.get?_push_of_some o e) hs.gp rfl rfl ⟨o, Heap.get?_push_size _ hf, hp⟩
theorem Sat.sub {s : Shared} (hs : Sat X Λ s) (k : Λ'.Sublist Λ) : Sat X Λ' s :=
  ⟨hs.keep, fun c hc => hs.own c (k.subset hc), fun c hc => hs.new c (k.subset hc), hs.nd.sublist (k.map _), hs.gp, hs.d, hs.os⟩
theorem Sat.perm {s : Shared} (hs : Sat X Λ s) (k : Λ'.Perm Λ) : Sat X Λ' s :=
  ⟨hs.keep, fun c hc => hs.own c (k.subset hc), fun c hc => hs.new c (k.subset hc), (k.map _).nodup_iff.mpr hs.nd, hs.gp, hs.d, hs.os⟩
/-- the cell at the place turned, the rest as it was -/
inductive Put (a : Addr) (P P' : Obj → Prop) : List Cell → List Cell → Prop
  | head {r} : Put a P P' (⟨a, P⟩ :: r) (⟨a, P'⟩ :: r)
  | tail {c r r'} : Put a P P' r r' → Put a P P' (c :: r) (c :: r')
theorem Put.mem {a P P'} {l l' : List Cell} (h : Put a P P' l l') : (⟨a, P⟩ : Cell) ∈ l := by
  induction h with
  | head => exact .head _
  | tail _ ih => exact .tail _ ih
theorem Put.addrs {a P P'} {l l' : List Cell} (h : Put a P P' l l') : l'.map Cell.addr = l.map Cell.addr := by
  induction h with
  | head => rfl
  | tail _ ih => rw [List.map_cons, List.map_cons, ih]
theorem Put.back {a P P'} {l l' : List Cell} (h : Put a P P' l l') (nd : (l.map Cell.addr).Nodup) : ∀ c ∈ l', c = ⟨a, P'⟩ ∨ (c ∈ l ∧ c.addr ≠ a) := by
  induction h with
  | head =>
    intro c hc
    rcases List.mem_cons.mp hc with rfl | hc
    · exact .inl rfl
    · exact .inr ⟨.tail _ hc, fun e => (List.nodup_cons.mp nd).1 (List.mem_map.mpr ⟨c, hc, e⟩)⟩
  | tail h ih =>
    intro c hc
    rcases List.mem_cons.mp hc with rfl | hc
    · exact .inr ⟨.head _, fun e => (List.nodup_cons.mp nd).1 (List.mem_map.mpr ⟨_, h.mem, e.symm⟩)⟩
    · rcases ih (List.nodup_cons.mp nd).2 c hc with rfl | ⟨a, b⟩
      · exact .inl rfl
      · exact .inr ⟨.tail _ a, b⟩
theorem Sat.put {s s' : Shared} {a : Addr} {P P' : Obj → Prop} (hs : Sat X Λ s) (U : Put a P P' Λ Λ') (k : Heap.ExtBut a s.heap s'.heap) (ho : Cell.at ⟨a, P'⟩ s'.heap) (g : X.gp s'.gens) (d : s'.drawn = s.drawn) (os : s'.os = s.os) : Sat X Λ' s' := by
  have ha := hs.new _ U.mem
  refine ⟨fun b o e => k b o (fun q => by subst q; rw [ha] at e; cases e) (hs.keep b o e), fun c hc => ?_, fun c hc => ?_, U.addrs ▸ hs.nd, g, d.trans hs.d, os.trans hs.os⟩
  · rcases U.back hs.nd c hc with rfl | ⟨h1, h2⟩
    · exact ho
    · exact Cell.at_of (hs.own c h1) fun o e => k c.addr o h2 e
  · rcases U.back hs.nd c hc with rfl | ⟨h1, h2⟩
    · exact ha
    · exact hs.new c h1
/-- what is known of the objects that stay, or of a cell -/
noncomputable def Has (X : Amb) (Λ : List Cell) (a : Addr) (P : Obj → Prop) : Prop := (⟨a, P⟩ : Cell) ∈ Λ ∨ Cell.at ⟨a, P⟩ X.hb
theorem Has.at {a : Addr} {P : Obj → Prop} {s : Shared} (h : Has X Λ a P) (hs : Sat X Λ s) : Cell.at ⟨a, P⟩ s.heap := h.elim (hs.own _) fun h => Cell.at_of h (hs.keep a)
noncomputable abbrev lst (a : Addr) (xs : List Value) : Cell := ⟨a, fun o => ∃ n, o = { cls := .type "list", data := .seq xs.toArray n }⟩
noncomputable abbrev tup (a : Addr) (xs : List Value) : Cell := ⟨a, fun o => ∃ n, o = { cls := .type "tuple", data := .seq xs.toArray n }⟩
/-- names of a frame -/
noncomputable def al (l : List (Str × Value)) : Str → Option Value := fun x => l.lookup x
noncomputable def NsP (m : Str → Option Value) (o : Obj) : Prop := ∃ es ep, o.data = .dict es ep ∧ StrKeys es ∧ ∀ name, nsFind es name = m name
/-- names of a frame: these at least -/
noncomputable def NsW (l : List (Str × Value)) (o : Obj) : Prop := ∃ m, NsP m o ∧ ∀ x v, al l x = some v → m x = some v
noncomputable abbrev nsc (a : Addr) (l : List (Str × Value)) : Cell := ⟨a, NsW l⟩
noncomputable abbrev cel (a : Addr) (v : Option Value) : Cell := ⟨a, fun o => o.data = .cell v⟩
theorem ns_of {a : Addr} {m : Str → Option Value} {h : Heap} (x : Cell.at ⟨a, NsP m⟩ h) : h.Ns a m := let ⟨o, ho, es, ep, r⟩ := x; ⟨o, es, ep, ho, r⟩
theorem of_ns {a : Addr} {m : Str → Option Value} {h : Heap} (x : h.Ns a m) : Cell.at ⟨a, NsP m⟩ h := let ⟨o, es, ep, ho, r⟩ := x; ⟨o, ho, es, ep, r⟩
theorem nsw_of {a : Addr} {l : List (Str × Value)} {h : Heap} (x : Cell.at ⟨a, NsW l⟩ h) : ∃ m, h.Ns a m ∧ ∀ x v, al l x = some v → m x = some v := let ⟨o, ho, m, p, q⟩ := x; ⟨m, ns_of ⟨o, ho, p⟩, q⟩
theorem of_nsw {a : Addr} {m : Str → Option Value} {l : List (Str × Value)} {h : Heap} (x : h.Ns a m) (q : ∀ x v, al l x = some v → m x = some v) : Cell.at ⟨a, NsW l⟩ h := let ⟨o, ho, p⟩ := of_ns x; ⟨o, ho, m, p, q⟩
theorem list_of {a : Addr} {xs : List Value} {h : Heap} (x : (lst a xs).at h) : h.IsList a xs.toArray := let ⟨o, ho, n, e⟩ := x; ⟨o, ho, e ▸ rfl, n, e ▸ rfl⟩
/-- room on the stack -/
structure Rm (A : Around) (k : Nat) : Prop where
  hd : A.handled = none
  dp : A.depth + k ≤ 600
  un : A.units + 10 * k ≤ 9000
theorem Rm.le {j k : Nat} (h : Rm A k) (e : j ≤ k) : Rm A j := ⟨h.hd, by have := h.dp; omega, by have := h.un; omega⟩
theorem Rm.room {k : Nat} (h : Rm A k) : A.depth < recursionLimit := by have := h.dp; unfold recursionLimit; omega
theorem Rm.line {k : Nat} (h : Rm A k) : A.units < cLine := by have := h.un; rw [cLine_is]; omega
theorem Rm.deeper {k : Nat} {env : Env} (h : Rm A (k + 1)) : Rm (A.deeper env) k := ⟨h.hd, by have := h.dp; show A.depth + 1 + k ≤ 600; omega, by have := h.un; show A.units + 3 + 10 * k ≤ 9000; omega⟩
theorem Rm.in1 {k : Nat} (h : Rm A (k + 1)) : Rm A.in1 k := ⟨h.hd, by have := h.dp; show A.depth + k ≤ 600; omega, by have := h.un; show A.units + 1 + 10 * k ≤ 9000; omega⟩
end
section
open PySem PySem.W PyProof.Rows PySem.Calls
noncomputable abbrev K0 (w : World) : Frag := Hd.Kq w.params
structure Base (w : World) (hb : Heap) : Prop where
  k : ∀ a o, a ≠ 90 → (K0 w).lookup a = some o → hb.get? a = some o
theorem Base.ext {w : World} {h h' : Heap} (B : Base w h) (k : ∀ b o, h.get? b = some o → h'.get? b = some o) : Base w h' := ⟨fun a o n e => k a o (B.k a o n e)⟩
noncomputable def dictAt (w : World) (a : Addr) : Array DictEntry := match (K0 w).lookup a with
  | some ⟨_, _, .dict es _, _⟩ => es
  | _ => #[]
noncomputable def allStr (l : List DictEntry) : Bool := l.all fun e => match e.key with | .str .. => true | _ => false
theorem strKeys_of {es : Array DictEntry} (h : allStr es.toList = true) : StrKeys es := fun e he => by
  have := List.all_eq_true.mp h e (Array.mem_toList_iff.mpr he)
  cases hk : e.key <;> simp only [hk] at this <;> first | exact ⟨_, _, rfl⟩ | cases this
theorem Base.ns {w : World} {h : Heap} (B : Base w h) (a : Addr) (hn : a ≠ 90) {c : Value} {d : Option Addr} {es : Array DictEntry} {n : Nat} {sl} (e : (K0 w).lookup a = some ⟨c, d, .dict es n, sl⟩) (hs : allStr es.toList = true) : h.Ns a (nsFind (dictAt w a)) :=
  ⟨_, es, n, B.k a _ hn e, rfl, strKeys_of hs, fun x => by unfold dictAt; rw [e]⟩
theorem Base.main {w : World} {h : Heap} (B : Base w h) : h.Ns mainGlobals (nsFind (dictAt w mainGlobals)) := B.ns 3 (by decide) (by rfl) (by rfl)
theorem Base.blt {w : World} {h : Heap} (B : Base w h) : h.Ns builtinsNs (nsFind (dictAt w builtinsNs)) := B.ns 0 (by decide) (by rfl) (by rfl)
theorem Base.limit {w : World} {h : Heap} (B : Base w h) : h.NoLimit := ⟨_, B.ns 2 (by decide) (by rfl) (by rfl), by kernel_rfl⟩
/-- the text's names -/
noncomputable def gtab : List (Str × Value) := [("_strcoll", .ref 28), ("CHAR_MAX", .int 127 204), ("_grouping_intervals", .ref 35), ("ELLIPSIS_MARKER", .str "..." 217), ("_ellipsis_match", .ref 42), ("EMPTYSTRING", .str "" 233),
  ("_Accumulator", .ref 120), ("ENDMARKER", .int 0 331), ("NT_OFFSET", .int 256 333), ("ISTERMINAL", .ref 131), ("ISNONTERMINAL", .ref 138), ("ISEOF", .ref 145), ("_law_numbers", .ref 152), ("_law_told", .ref 159),
  ("_law_refused", .ref 166), ("_law_digits", .ref 173), ("_law_symbol", .ref 180), ("_law_let", .ref 185), ("_law_carry", .ref 190), ("_law_counted", .ref 197)]
noncomputable def btab : List (Str × Value) := [("chr", .builtin "chr"), ("isinstance", .builtin "isinstance"), ("len", .builtin "len"), ("max", .builtin "max"), ("min", .builtin "min"), ("ord", .builtin "ord"), ("sum", .builtin "sum"),
  ("bool", .type "bool"), ("int", .type "int"), ("range", .type "range"), ("str", .type "str"), ("super", .type "super"), ("ValueError", .type "ValueError")]
theorem gtab_ok (w : World) : gtab.map (fun p => nsFind (dictAt w mainGlobals) p.1) = gtab.map fun p => some p.2 := by kernel_rfl
theorem btab_no (w : World) : btab.map (fun p => nsFind (dictAt w mainGlobals) p.1) = btab.map fun _ => none := by kernel_rfl
theorem btab_ok (w : World) : btab.map (fun p => nsFind (dictAt w builtinsNs) p.1) = btab.map fun p => some p.2 := by kernel_rfl
theorem tab_at {f g : Str × Value → Option Value} {l : List (Str × Value)} (e : l.map f = l.map g) (p : Str × Value) (hp : p ∈ l) : f p = g p := List.map_eq_map_iff.mp e p hp
theorem mem_of_lookup {x : Str} {v : Value} : ∀ {l : List (Str × Value)}, l.lookup x = some v → (x, v) ∈ l
  | (y, u) :: r, h => by
    rw [List.lookup_cons] at h
    cases e : x == y with
    | true => rw [e] at h; cases h; rw [eq_of_beq e]; exact .head _
    | false => rw [e] at h; exact .tail _ (mem_of_lookup h)
theorem gtab_at {w : World} {x : Str} {v : Value} (h : gtab.lookup x = some v) : nsFind (dictAt w mainGlobals) x = some v := by
  have h1 := tab_at (gtab_ok w) (x, v) (mem_of_lookup h)
  dsimp only at h1
  exact h1
theorem btab_no' {w : World} {x : Str} {v : Value} (h : btab.lookup x = some v) : nsFind (dictAt w mainGlobals) x = none := by
  have h1 := tab_at (btab_no w) (x, v) (mem_of_lookup h)
  dsimp only at h1
  exact h1
theorem btab_at {w : World} {x : Str} {v : Value} (h : btab.lookup x = some v) : nsFind (dictAt w builtinsNs) x = some v := by
  have h1 := tab_at (btab_ok w) (x, v) (mem_of_lookup h)
  dsimp only at h1
  exact h1
variable {w : World} {A : Around} {X : Amb} {Λ Λ' : List Cell} {env : Env}
theorem Has.ns {a : Addr} {l : List (Str × Value)} {s : Shared} (h : Has X Λ a (NsW l)) (hs : Sat X Λ s) : ∃ m, s.heap.Ns a m ∧ ∀ x v, al l x = some v → m x = some v := nsw_of (h.at hs)
section
variable {Q : Value → List Cell → Prop}
theorem Ev.global {x : Str} {pos : Pos} {v : Value} (B : Base w X.hb) (hv : gtab.lookup x = some v) (h : Q v Λ)
    (hk : env.scope.kind = .function := by rfl) (hx : env.kindOf x = some .globalImplicit := by rfl) (hg : env.globals = mainGlobals := by rfl) (hd : (x == ("__debug__" : Str)) = false := by decide) : Ev w X A Λ (eval (.Name x pos) env) Q := fun s hs =>
  Name_function_global hk hx (loadGlobal_global (by rw [hg]; exact B.main.keeps hs.keep) (gtab_at hv) ⟨Λ, hs, h⟩) hd
theorem Ev.builtin {x : Str} {pos : Pos} {v : Value} (B : Base w X.hb) (hv : btab.lookup x = some v) (h : Q v Λ)
    (hk : env.scope.kind = .function := by rfl) (hx : env.kindOf x = some .globalImplicit := by rfl) (hg : env.globals = mainGlobals := by rfl) (hb : env.builtins = builtinsNs := by rfl) (hd : (x == ("__debug__" : Str)) = false := by decide) : Ev w X A Λ (eval (.Name x pos) env) Q := fun s hs =>
  Name_function_global hk hx (loadGlobal_builtin (by rw [hg]; exact B.main.keeps hs.keep) (btab_no' hv) (by rw [hb]; exact B.blt.keeps hs.keep) (btab_at hv) ⟨Λ, hs, h⟩) hd
theorem Ev.loadN {x : Str} {v : Value} {l : List (Str × Value)} (hn : Has X Λ env.locals (NsW l)) (hv : al l x = some v) (h : Q v Λ)
    (hk : env.scope.kind = .function := by rfl) (hx : env.kindOf x = some .local := by rfl) : Ev w X A Λ (loadName env x) Q := fun s hs => let ⟨_, hm, q⟩ := hn.ns hs; wpAny_loadName_local hk hx hm (q _ _ hv) ⟨Λ, hs, h⟩
theorem Ev.local {x : Str} {pos : Pos} {v : Value} {l : List (Str × Value)} (hn : Has X Λ env.locals (NsW l)) (hv : al l x = some v) (h : Q v Λ)
    (hk : env.scope.kind = .function := by rfl) (hx : env.kindOf x = some .local := by rfl) (hd : (x == ("__debug__" : Str)) = false := by decide) : Ev w X A Λ (eval (.Name x pos) env) Q := fun s hs => wpAny_Name (Ev.loadN hn hv h hk hx s hs) hd
theorem Ev.int {i : Int} {k : Nat} {pos : Pos} (h : ∀ t, Q (.int i t) Λ) : Ev w X A Λ (eval (.Constant (.int i) k pos) env) Q := fun s hs => wpAny_Constant_int ⟨Λ, hs.tok _, h _⟩
theorem Ev.str {x : Str} {k : Nat} {pos : Pos} (h : ∀ t, Q (.str x t) Λ) : Ev w X A Λ (eval (.Constant (.str x) k pos) env) Q := fun s hs => wpAny_Constant_str ⟨Λ, hs.tok _, h _⟩
theorem Ev.boolc {b : Bool} {k : Nat} {pos : Pos} (h : Q (.bool b) Λ) : Ev w X A Λ (eval (.Constant (.bool b) k pos) env) Q := fun s hs => wpAny_Constant_bool ⟨Λ, hs, h⟩
theorem Ev.nonec {k : Nat} {pos : Pos} (h : Q .none Λ) : Ev w X A Λ (eval (.Constant .none k pos) env) Q := fun s hs => wpAny_Constant_none ⟨Λ, hs, h⟩
theorem Ev.binop {l r : Expr} {op : Operator} {pos : Pos} (h : Ev w X A Λ (eval l env) fun a Λ₁ => Ev w X A Λ₁ (eval r env) fun b Λ₂ => Ev w X A Λ₂ (binaryOp op a b) Q) : Ev w X A Λ (eval (.BinOp l op r pos) env) Q :=
  fun _ hs => wpAny_BinOp (h.useB hs fun _ _ _ h₁ q => q.useB h₁ fun _ s₂ _ h₂ q => q s₂ h₂)
theorem Ev.cmp {l r : Expr} {op : CmpOp} {pos : Pos} (h : Ev w X A Λ (eval l env) fun a Λ₁ => Ev w X A Λ₁ (eval r env) fun b Λ₂ => Ev w X A Λ₂ (compareOp op a b) Q)
    (hm : behindInMarks op r = false := by with_unfolding_all rfl) : Ev w X A Λ (eval (.Compare l [op] [r] pos) env) Q :=
  fun _ hs => wpAny_Compare1 (h.useB hs fun _ _ _ h₁ q => q.useB h₁ fun _ s₂ _ h₂ q => q s₂ h₂) hm
theorem Ev.unary {op : UnaryOp} {x : Expr} {pos : Pos} (h : Ev w X A Λ (eval x env) fun v Λ₁ => Ev w X A Λ₁ (unaryOp op v) Q) : Ev w X A Λ (eval (.UnaryOp op x pos) env) Q :=
  fun _ hs => wpAny_UnaryOp (h.useB hs fun _ s₁ _ h₁ q => q s₁ h₁)
theorem Ev.addI {a b : Int} {t u : Tok} (h : ∀ t', Q (.int (a + b) t') Λ) : Ev w X A Λ (binaryOp .Add (.int a t) (.int b u)) Q := fun _ hs => add_int ⟨Λ, hs.tok _, h _⟩
theorem Ev.minI {a b : Int} {t u : Tok} (h : ∀ t', Q (.int (a - b) t') Λ) : Ev w X A Λ (binaryOp .Sub (.int a t) (.int b u)) Q := fun _ hs => sub_int ⟨Λ, hs.tok _, h _⟩
theorem Ev.mulI {a b : Int} {t u : Tok} (ok : IntMulOk a b) (h : ∀ t', Q (.int (a * b) t') Λ) : Ev w X A Λ (binaryOp .Mult (.int a t) (.int b u)) Q := fun _ hs => mul_int ⟨Λ, hs.tok _, h _⟩ ok
theorem Ev.divI {a b : Int} {t u : Tok} (hb : b ≠ 0) (ok : Builtin.divisionGoesByPylong a b = false) (h : ∀ t', Q (.int (a.fdiv b) t') Λ) : Ev w X A Λ (binaryOp .FloorDiv (.int a t) (.int b u)) Q := fun _ hs => floordiv_int hb ⟨Λ, hs.tok _, h _⟩ (.inl ok)
theorem Ev.imodI {a b : Int} {t u : Tok} (hb : b ≠ 0) (h : ∀ t', Q (.int (a.fmod b) t') Λ) : Ev w X A Λ (inplaceOp .Mod (.int a t) (.int b u)) Q := fun _ hs => AutoIntOps.imod_1 (by simpa using hb) ⟨Λ, hs.tok _, h _⟩
theorem Ev.iaddI {a b : Int} {t u : Tok} (h : ∀ t', Q (.int (a + b) t') Λ) : Ev w X A Λ (inplaceOp .Add (.int a t) (.int b u)) Q := fun _ hs => AutoIntOps.iadd_0 ⟨Λ, hs.tok _, h _⟩
theorem Ev.modI {a b : Int} {t u : Tok} (hb : b ≠ 0) (h : ∀ t', Q (.int (a.fmod b) t') Λ) : Ev w X A Λ (binaryOp .Mod (.int a t) (.int b u)) Q := fun _ hs => mod_int' hb ⟨Λ, hs.tok _, h _⟩
end
end
section
open PySem PySem.W PyProof.Rows PySem.Calls
variable {w : World} {A : Around} {X : Amb} {Λ Λ' : List Cell} {env : Env}
inductive Cut (c : Cell) : List Cell → List Cell → Prop
  | head {r} : Cut c (c :: r) r
  | tail {d r r'} : Cut c r r' → Cut c (d :: r) (d :: r')
theorem Cut.mem {c : Cell} {l l' : List Cell} (h : Cut c l l') : c ∈ l := by
  induction h with
  | head => exact .head _
  | tail _ ih => exact .tail _ ih
theorem Cut.sub {c : Cell} {l l' : List Cell} (h : Cut c l l') : l'.Sublist l := by
  induction h with
  | head => exact List.sublist_cons_self ..
  | tail _ ih => exact ih.cons_cons _
theorem Cut.off {c : Cell} {l l' : List Cell} (h : Cut c l l') (nd : (l.map Cell.addr).Nodup) : ∀ d ∈ l', d.addr ≠ c.addr := by
  induction h with
  | head => exact fun d hd e => (List.nodup_cons.mp nd).1 (List.mem_map.mpr ⟨d, hd, e⟩)
  | tail h ih =>
    intro d hd
    rcases List.mem_cons.mp hd with rfl | hd
    · exact fun e => (List.nodup_cons.mp nd).1 (List.mem_map.mpr ⟨_, h.mem, e.symm⟩)
    · exact ih (List.nodup_cons.mp nd).2 d hd
theorem Sat.cut {s s' : Shared} {c : Cell} (hs : Sat X Λ s) (U : Cut c Λ Λ') (k : Heap.ExtBut c.addr s.heap s'.heap) (g : X.gp s'.gens) (d : s'.drawn = s.drawn) (os : s'.os = s.os) : Sat X Λ' s' := by
  have ha := hs.new _ U.mem
  refine ⟨fun b o e => k b o (fun q => by subst q; rw [ha] at e; cases e) (hs.keep b o e), fun d hd => ?_, fun d hd => hs.new d (U.sub.subset hd), hs.nd.sublist (U.sub.map _), g, d.trans hs.d, os.trans hs.os⟩
  exact Cell.at_of (hs.own d (U.sub.subset hd)) fun o e => k d.addr o (U.off hs.nd d hd) e
theorem al_hit {x : Str} {v : Value} {l : List (Str × Value)} : al ((x, v) :: l) x = some v := by unfold al; rw [List.lookup_cons, beq_self_eq_true]
theorem al_skip {x y : Str} {u v : Value} {l : List (Str × Value)} (e : (x == y) = false) (h : al l x = some v) : al ((y, u) :: l) x = some v := by unfold al at h ⊢; rw [List.lookup_cons, e]; exact h
theorem al_cons {x : Str} {v : Value} {l : List (Str × Value)} : (fun y => if y = x then some v else al l y) = al ((x, v) :: l) := funext fun y => by
  show _ = List.lookup y ((x, v) :: l)
  rw [List.lookup_cons]
  by_cases h : y = x
  · subst h; rw [if_pos rfl, beq_self_eq_true]
  · rw [if_neg h, show (y == x) = false from by simpa using h]; rfl
section
variable {Q : Unit → List Cell → Prop}
theorem Ev.store {L : Addr} {x : Str} {v : Value} {l : List (Str × Value)} (U : Put L (NsW l) (NsW ((x, v) :: l)) Λ Λ') (h : Q () Λ')
    (hL : env.locals = L := by rfl) (hx : env.kindOf x = some .local := by rfl) (hp : (env.scope.kind == .class || (env.scope.kind == .module && env.locals != env.globals)) = false := by rfl) : Ev w X A Λ (storeName env x v) Q := fun s hs => by
  subst hL
  obtain ⟨m, hm, q⟩ := nsw_of (hs.own _ U.mem)
  refine wpAny_storeName_local hx hm (fun h' hn hs' => ⟨Λ', hs.put (s' := ⟨h', s.gens, s.drawn, s.toks + 1, s.os⟩) U hs'.extBut (of_nsw hn fun y u hy => ?_) hs.gp rfl rfl, h⟩) hp
  rw [← al_cons] at hy
  dsimp only at hy ⊢
  split at hy
  · rename_i e; rw [if_pos e]; exact hy
  · rename_i e; rw [if_neg e]; exact q y u hy
theorem Ev.assignN {x : Str} {v : Value} {pos : Pos} (h : Ev w X A Λ (storeName env x v) Q) : Ev w X A Λ (assign (.Name x pos) env v) Q := fun s hs => wpAny_assign_Name (h s hs)
end
section
variable {Q : Flow → List Cell → Prop}
theorem Ev.nil (h : Q .next Λ) : Ev w X A Λ (execs [] env) Q := fun s hs => wpAny_execs_nil ⟨Λ, hs, h⟩
/-- behind a statement -/
noncomputable def Aft (w : World) (X : Amb) (A : Around) (rest : List Stmt) (env : Env) (Q : Flow → List Cell → Prop) (f : Flow) (Λ : List Cell) : Prop := match f with
  | .next => Ev w X A Λ (execs rest env) Q
  | f => Q f Λ
theorem Ev.aft {rest : List Stmt} (h : Ev w X A Λ (execs rest env) Q) : Aft w X A rest env Q .next Λ := h
theorem Ev.aftR {rest : List Stmt} {v : Value} (h : Q (.ret v) Λ) : Aft w X A rest env Q (.ret v) Λ := h
theorem Ev.aftB {rest : List Stmt} (h : Q .brk Λ) : Aft w X A rest env Q .brk Λ := h
theorem Ev.seq {st : Stmt} {rest : List Stmt} (h : Ev w X A Λ (exec st env) (Aft w X A rest env Q)) : Ev w X A Λ (execs (st :: rest) env) Q := fun s hs =>
  wpAny_execs_cons (h.useB hs fun f s' Λ' h' q => by cases f <;> first | exact q s' h' | exact ⟨Λ', h', q⟩)
theorem Ev.asg {x : Str} {p pos : Pos} {e : Expr} (h : Ev w X A Λ (eval e env) fun v Λ₁ => Ev w X A Λ₁ (storeName env x v) fun _ => Q .next) (hs : swapsWith e (some (.Name x p)) pos.line env = pure false := by rfl) : Ev w X A Λ (exec (.Assign [.Name x p] e pos) env) Q := fun s hs' =>
  wpAny_Assign_Name (h.useB hs' fun _ s' _ h' q => q s' h') hs
theorem Ev.aug {x : Str} {p pos : Pos} {op : Operator} {e : Expr} (h : Ev w X A Λ (loadName env x) fun old Λ₁ => Ev w X A Λ₁ (eval e env) fun v Λ₂ => Ev w X A Λ₂ (inplaceOp op old v) fun r Λ₃ => Ev w X A Λ₃ (storeName env x r) fun _ => Q .next) : Ev w X A Λ (exec (.AugAssign (.Name x p) op e pos) env) Q := fun s hs =>
  wpAny_AugAssign_Name (h.useB hs fun _ _ _ h₁ q => q.useB h₁ fun _ _ _ h₂ q => q.useB h₂ fun _ s₃ _ h₃ q => q s₃ h₃)
theorem Ev.retE {e : Expr} {pos : Pos} (h : Ev w X A Λ (eval e env) fun v => Q (.ret v)) : Ev w X A Λ (exec (.Return (some e) pos) env) Q := fun s hs => wpAny_Return_some (h s hs)
theorem Ev.ret0 {pos : Pos} (h : Q (.ret .none) Λ) : Ev w X A Λ (exec (.Return none pos) env) Q := fun s hs => wpAny_Return_none ⟨Λ, hs, h⟩
theorem Ev.brk {pos : Pos} (h : Q .brk Λ) : Ev w X A Λ (exec (.Break pos) env) Q := fun s hs => wpAny_Break ⟨Λ, hs, h⟩
theorem Ev.pass {pos : Pos} (h : Q .next Λ) : Ev w X A Λ (exec (.Pass pos) env) Q := fun s hs => wpAny_Pass ⟨Λ, hs, h⟩
theorem Ev.ifs {t : Expr} {b o : List Stmt} {pos : Pos} (h : Ev w X A Λ (isTrue t env (eval t env)) fun c Λ' => (c = true → Ev w X A Λ' (execs b env) Q) ∧ (c = false → Ev w X A Λ' (execs o env) Q)) : Ev w X A Λ (exec (.If t b o pos) env) Q := fun s hs =>
  wpAny_If (h.useB hs fun c s' Λ' h' q => by cases c <;> first | exact q.1 rfl s' h' | exact q.2 rfl s' h')
/-- an expression that stands alone, and hands back no object -/
theorem Ev.expr {e : Expr} {pos : Pos} (h : Ev w X A Λ (eval e env) fun v Λ' => (∀ a, v ≠ .ref a) ∧ Q .next Λ') (hi : interactive env = false := by rfl) (hs : swapsWith e none pos.line env = pure false := by rfl) : Ev w X A Λ (exec (.Expr e pos) env) Q := fun s hs' =>
  wpAny_Expr (h.useB hs' fun v s' Λ' h' q => by cases v <;> first | exact ⟨Λ', h', q.2⟩ | exact absurd rfl (q.1 _)) hi hs
end
section
variable {Q : Bool → List Cell → Prop}
theorem Ev.tcmp {l r : Expr} {op : CmpOp} {pos : Pos} {whole : Sem Value} (h : Ev w X A Λ (eval l env) fun a Λ₁ => Ev w X A Λ₁ (eval r env) fun b Λ₂ => Ev w X A Λ₂ (compareOp op a b) fun c Λ₃ => Ev w X A Λ₃ (truthy c) Q)
    (hm : behindInMarks op r = false := by with_unfolding_all rfl) : Ev w X A Λ (isTrue (.Compare l [op] [r] pos) env whole) Q := fun s hs =>
  wpAny_isTrue_Compare1 (h.useB hs fun _ _ _ h₁ q => q.useB h₁ fun _ _ _ h₂ q => q.useB h₂ fun _ s₃ _ h₃ q => q s₃ h₃) hm
theorem Ev.tnot {x : Expr} {pos : Pos} {whole : Sem Value} (h : Ev w X A Λ (isTrue x env (eval x env)) fun b => Q (!b)) : Ev w X A Λ (isTrue (.UnaryOp .Not x pos) env whole) Q := fun s hs => wpAny_isTrue_Not (h s hs)
theorem Ev.tval {e : Expr} {whole : Sem Value} (h : Ev w X A Λ whole fun v Λ₁ => Ev w X A Λ₁ (truthy v) Q) (he : isTrue e env whole = (do let v ← whole; standAt e.pos; holding [v] (truthy v)) := by rfl) : Ev w X A Λ (isTrue e env whole) Q := fun s hs =>
  wpAny_isTrue_value (h.useB hs fun _ s' _ h' q => q s' h') he
theorem Ev.tbool {op : BoolOp} {vs : List Expr} {pos : Pos} {whole : Sem Value} (h : Ev w X A Λ (allTrue op vs env) Q) : Ev w X A Λ (isTrue (.BoolOp op vs pos) env whole) Q := fun s hs => wpAny_isTrue_BoolOp (h s hs)
theorem Ev.or0 (h : Q false Λ) : Ev w X A Λ (allTrue .Or [] env) Q := fun s hs => wpAny_allTrue_Or_nil ⟨Λ, hs, h⟩
theorem Ev.and0 (h : Q true Λ) : Ev w X A Λ (allTrue .And [] env) Q := fun s hs => wpAny_allTrue_And_nil ⟨Λ, hs, h⟩
theorem Ev.or1 {x : Expr} {rest : List Expr} (h : Ev w X A Λ (isTrue x env (eval x env)) fun b Λ₁ => (b = true → Q true Λ₁) ∧ (b = false → Ev w X A Λ₁ (allTrue .Or rest env) Q)) : Ev w X A Λ (allTrue .Or (x :: rest) env) Q := fun s hs =>
  wpAny_allTrue_Or_cons (h.useB hs fun b s' Λ' h' q => by cases b <;> first | exact q.2 rfl s' h' | exact ⟨Λ', h', q.1 rfl⟩)
theorem Ev.and1 {x : Expr} {rest : List Expr} (h : Ev w X A Λ (isTrue x env (eval x env)) fun b Λ₁ => (b = true → Ev w X A Λ₁ (allTrue .And rest env) Q) ∧ (b = false → Q false Λ₁)) : Ev w X A Λ (allTrue .And (x :: rest) env) Q := fun s hs =>
  wpAny_allTrue_And_cons (h.useB hs fun b s' Λ' h' q => by cases b <;> first | exact q.1 rfl s' h' | exact ⟨Λ', h', q.2 rfl⟩)
theorem Ev.truB {b : Bool} (h : Q b Λ) : Ev w X A Λ (truthy (.bool b)) Q := fun s hs => wpAny_truthy_bool ⟨Λ, hs, h⟩
end
theorem Ev.trim {α : Type} {t : Sem α} {P Q : α → List Cell → Prop} (h : Ev w X A Λ t P) (k : ∀ v Λ', P v Λ' → ∃ Λ'', Λ''.Sublist Λ' ∧ Q v Λ'') : Ev w X A Λ t Q := fun s hs =>
  wpAny_mono (h s hs) (fun v _ ⟨Λ', a, b⟩ => let ⟨Λ'', c, d⟩ := k v Λ' b; ⟨Λ'', a.sub c, d⟩) fun _ _ x => x
theorem Ev.trim1 {α : Type} {t : Sem α} {Q : α → List Cell → Prop} {c : Addr → Cell} {v : Addr → α} (h : Ev w X A Λ t fun r Λ' => ∃ a, r = v a ∧ c a ∈ Λ') (k : ∀ a, Q (v a) [c a]) : Ev w X A Λ t Q :=
  h.trim fun _ _ ⟨a, e, m⟩ => ⟨[c a], List.singleton_sublist.mpr m, e ▸ k a⟩
theorem noref_none : ∀ a, Value.none ≠ .ref a := fun _ e => nomatch e
/-! calls -/
section
variable {Q : Value → List Cell → Prop} {QL : List Value → List Cell → Prop}
theorem Ev.items0 {pos : Pos} (h : QL [] Λ) : Ev w X A Λ (spliced (backTo pos (starEach [] env))) QL := fun s hs => wpAny_items_nil ⟨Λ, hs, h⟩
theorem Ev.items1 {pos : Pos} {e : Expr} {rest : List Expr} (h : Ev w X A Λ (eval e env) fun v Λ₁ => Ev w X A Λ₁ (spliced (backTo pos (starEach rest env))) fun vs => QL (v :: vs))
    (he : starEach (e :: rest) env = (false, eval e env) :: starEach rest env := by rfl) : Ev w X A Λ (spliced (backTo pos (starEach (e :: rest) env))) QL := fun s hs =>
  wpAny_items_cons (h.useB hs fun _ s' _ h' q => q s' h') he
theorem Ev.callF {x : Str} {np pos : Pos} {e : Expr} {rest : List Expr} {a : Addr} {c : Value} {d : Option Addr} {fd : FuncData} {sl} (B : Base w X.hb) (hv : gtab.lookup x = some (.ref a)) (ho : (K0 w).lookup a = some ⟨c, d, .func fd, sl⟩) (ha : a ≠ 90)
    (h : Ev w X A Λ (spliced (backTo pos (starEach (e :: rest) env))) fun vs Λ₁ => Ev w X A Λ₁ (call (.ref a) vs) Q)
    (hk : env.scope.kind = .function := by rfl) (hx : env.kindOf x = some .globalImplicit := by rfl) (hg : env.globals = mainGlobals := by rfl) (hd : (x == ("__debug__" : Str)) = false := by decide)
    (he : starEach (e :: rest) env = (false, eval e env) :: starEach rest env := by rfl) : Ev w X A Λ (eval (.Call (.Name x np) (e :: rest) [] pos) env) Q := fun s hs => by
  refine Call_Name rfl (Ev.useB (Ev.global (Q := fun v Λ₁ => v = .ref a ∧ Λ₁ = Λ) B hv ⟨rfl, rfl⟩ hk hx hg hd) hs fun v s₁ Λ₁ h₁ q => ?_)
  obtain ⟨rfl, rfl⟩ := q
  refine callWith_function (o := ⟨c, d, .func fd, sl⟩) (fd := fd) ?_
  rw [he] at h ⊢
  refine evalArgs_plain (h.useB h₁ fun vs s₂ Λ₂ h₂ q => ⟨⟨h₂.keep _ _ (B.k a _ ha ho), rfl⟩, ?_⟩)
  exact q s₂ h₂
theorem Ev.callB {x : Str} {np pos : Pos} {e : Expr} {rest : List Expr} {id : String} (B : Base w X.hb) (hv : btab.lookup x = some (.builtin id))
    (h : Ev w X A Λ (spliced (backTo pos (starEach (e :: rest) env))) fun vs Λ₁ => Ev w X A Λ₁ (call (.builtin id) vs) Q)
    (hk : env.scope.kind = .function := by rfl) (hx : env.kindOf x = some .globalImplicit := by rfl) (hg : env.globals = mainGlobals := by rfl) (hb : env.builtins = builtinsNs := by rfl) (hd : (x == ("__debug__" : Str)) = false := by decide)
    (he : starEach (e :: rest) env = (false, eval e env) :: starEach rest env := by rfl) (hplain : (backTo pos (starEach rest env)).any (·.1) = false := by rfl) : Ev w X A Λ (eval (.Call (.Name x np) (e :: rest) [] pos) env) Q := fun s hs => by
  refine Call_Name rfl (Ev.useB (Ev.builtin (Q := fun v Λ₁ => v = .builtin id ∧ Λ₁ = Λ) B hv ⟨rfl, rfl⟩ hk hx hg hb hd) hs fun v s₁ Λ₁ h₁ q => ?_)
  obtain ⟨rfl, rfl⟩ := q
  rw [he] at h ⊢
  refine callWith_builtin (by show (false || (backTo pos (starEach rest env)).any (·.1)) = false; rw [hplain]; rfl) ?_
  refine evalArgs_plain (h.useB h₁ fun vs s₂ Λ₂ h₂ q => ?_)
  exact q s₂ h₂
theorem Ev.callT {x : Str} {np pos : Pos} {e : Expr} {rest : List Expr} {T : String} (B : Base w X.hb) (hv : btab.lookup x = some (.type T))
    (h : Ev w X A Λ (spliced (backTo pos (starEach (e :: rest) env))) fun vs Λ₁ => Ev w X A Λ₁ (call (.type T) vs) Q)
    (hk : env.scope.kind = .function := by rfl) (hx : env.kindOf x = some .globalImplicit := by rfl) (hg : env.globals = mainGlobals := by rfl) (hb : env.builtins = builtinsNs := by rfl) (hd : (x == ("__debug__" : Str)) = false := by decide)
    (he : starEach (e :: rest) env = (false, eval e env) :: starEach rest env := by rfl) (hplain : (backTo pos (starEach rest env)).any (·.1) = false := by rfl) : Ev w X A Λ (eval (.Call (.Name x np) (e :: rest) [] pos) env) Q := fun s hs => by
  refine Call_Name rfl (Ev.useB (Ev.builtin (Q := fun v Λ₁ => v = .type T ∧ Λ₁ = Λ) B hv ⟨rfl, rfl⟩ hk hx hg hb hd) hs fun v s₁ Λ₁ h₁ q => ?_)
  obtain ⟨rfl, rfl⟩ := q
  exact callWith_type1 (h.useB h₁ fun vs s₂ Λ₂ h₂ q => q s₂ h₂) he hplain
noncomputable def coded (w : World) (cd : Value) (q : Str) : Bool := match cd with
  | .ref c => c != 90 && (match (K0 w).lookup c with
    | some ⟨_, _, .fields vs, _⟩ => (match (vs[1]? : Option Value) with | some (.str x _) => x == q | _ => false)
    | _ => false)
  | _ => false
theorem codeRec_of_coded {h : Heap} (B : Base w h) {cd : Value} {q : Str} (e : coded w cd q = true) : h.CodeRec cd q := by
  unfold coded at e
  split at e <;> try cases e
  rename_i c
  obtain ⟨e1, e2⟩ := Bool.and_eq_true_iff.mp e
  split at e2 <;> try cases e2
  rename_i cl d vs sl hl
  split at e2 <;> try cases e2
  rename_i x t hx
  have := eq_of_beq e2
  subst this
  exact ⟨c, _, vs, t, rfl, B.k c _ (by simpa using e1) hl, rfl, hx⟩
noncomputable def retOf (f : Flow) : Value := match f with | .ret v => v | _ => .none
/-- a def without cells entered -/
theorem Ev.enter {k : Nat} {a : Addr} {c : Value} {d : Option Addr} {fd : FuncData} {sl} {args : List Value} {binds : List (Str × Value)} {body : List Stmt} (B : Base w X.hb) (R : Rm A (k + 1)) (ho : (K0 w).lookup a = some ⟨c, d, .func fd, sl⟩) (ha : a ≠ 90) (hcd : coded w fd.code fd.qualname = true)
    (hbody : fd.body = .stmts body) (hbind : bindArgs fd ⟨args, []⟩ = pure binds) (hcell : fd.scope.names.all (fun x => x.2 != .cell) = true) (hloc : binds.all (fun x => fd.scope.names.lookup x.1 == some .local) = true)
    (h : ∀ L A', Rm A' k → Ev w X A' (nsc L binds.reverse :: Λ) (execs body (callEnv fd L a)) fun f Λ' => Q (retOf f) Λ')
    (hco : fd.scope.isCoroutine = false := by rfl) (hgen : fd.scope.isGenerator = false := by rfl) (hk : fd.scope.kind = .function := by rfl) : Ev w X A Λ (call (.ref a) args) Q := fun s hs => by
  refine wpAny_call (codeAny_call_def R.room (hs.keep _ _ (B.k a _ ha ho)) rfl (B.limit.keeps hs.keep) ((codeRec_of_coded B hcd).keeps hs.keep) hbody (BindsTo.of_eq hbind)
    (fun x hx => by have := List.all_eq_true.mp hcell x hx; simpa using this) (fun x hx => by have := List.all_eq_true.mp hloc x hx; simpa using this) (fun h₀ hns hk₀ => ?_) hco hgen hk)
  refine Ev.useB (h _ _ R.deeper) (s := ⟨h₀, s.gens, s.drawn, s.toks + binds.length, s.os⟩) (hs.grow (s' := ⟨h₀, s.gens, s.drawn, s.toks + binds.length, s.os⟩) hk₀ hs.gp rfl rfl (of_nsw hns fun _ _ h => h)) fun f s' Λ' h' q => ⟨Λ', h', q⟩
end
/-! loops -/
noncomputable abbrev lit (it l : Addr) (i : Nat) : Cell := ⟨it, fun o => o.cls = .type "list_iterator" ∧ o.data = .fields #[.ref l, .int i 0]⟩
noncomputable abbrev rit (it : Addr) (x left step : Int) : Cell := ⟨it, fun o => o = { cls := .type "range_iterator", dict := none, data := .fields #[rawInt x, rawInt left, rawInt step], slots := #[] }⟩
theorem under_same {c : Code} (h : c.weight = 0) (hu : c.cUnits = 0) : A.under c = A := Around.under_of_weight h hu
theorem EvC.turn {target : Expr} {it : Value} {body orelse : List Stmt} {R : Flow → List Cell → Prop}
    (h : Ev w X A Λ (pyNext it) fun r Λ₁ => match r with
      | none => Ev w X A Λ₁ (execs orelse env) R
      | some v => Ev w X A Λ₁ (assign target env v) fun _ Λ₂ => Ev w X A Λ₂ (execs body env) fun f Λ₃ => match f with
          | .next | .cont => EvC w X A Λ₃ (.forLoop target it body orelse env) R
          | .brk => R .next Λ₃
          | .ret v => R (.ret v) Λ₃)
    (ht : ∀ v, letOwnedTupleGo target it v = Pure.pure () := by intro _; rfl) : EvC w X A Λ (.forLoop target it body orelse env) R := fun s hs => by
  refine codeAny_of_tree ?_
  rw [under_same rfl rfl]
  show wpAny _ _ ((PySem.forTurn target it body orelse env).onRaise (fun x => do noteFrame x env; theTreesLotGoes x)) _ _ s
  refine wpAny_noted ?_
  simp only [PySem.forTurn]
  refine wpAny_bind (wpAny_standAt (wpAny_bind (wpAny_onRaise (h.useB hs fun r s₁ Λ₁ h₁ q => ?_))))
  cases r with
  | none => exact wpAny_pure ⟨rfl, codeAny_block (Ev.useB q h₁ fun f s₂ Λ₂ h₂ q => ⟨Λ₂, h₂, q⟩)⟩
  | some v =>
    refine wpAny_bind (wpAny_of_eq (ht v) ?_)
    refine wpAny_bind (Ev.useB q h₁ fun _ s₂ Λ₂ h₂ q => wpAny_bind (Ev.useB q h₂ fun f s₃ Λ₃ h₃ q => ?_))
    cases f with
    | next => exact wpAny_pure ⟨rfl, q s₃ h₃⟩
    | cont => exact wpAny_pure ⟨rfl, q s₃ h₃⟩
    | brk => exact wpAny_pure ⟨Λ₃, h₃, q⟩
    | ret v => exact wpAny_pure ⟨Λ₃, h₃, q⟩
theorem Ev.for {target iter : Expr} {body orelse : List Stmt} {pos : Pos} {Q : Flow → List Cell → Prop}
    (h : Ev w X A Λ (eval iter env) fun x Λ₁ => Ev w X A Λ₁ (pyIter x) fun it Λ₂ => EvC w X A Λ₂ (.forLoop target it body orelse env) Q)
    (hs : ∀ x, foldedSetIterable iter env x = Pure.pure x := by intro _; rfl) : Ev w X A Λ (exec (.For target iter body orelse pos) env) Q := fun s hs' =>
  wpAny_For (h.useB hs' fun x s₁ Λ₁ h₁ q => q.useB h₁ fun it s₂ Λ₂ h₂ q => codeAny_mono (q s₂ h₂) fun r s' hr => by cases r <;> first | exact hr | exact hr.elim) hs
section
variable {Q : Option Value → List Cell → Prop} {QV : Value → List Cell → Prop}
/-- a list, of whatever make -/
noncomputable abbrev wl (l : Addr) (xs : List Value) : Cell := ⟨l, fun o => o.cls = .type "list" ∧ ∃ n, o.data = .seq xs.toArray n⟩
theorem wl_of {a : Addr} {xs : List Value} {h : Heap} (x : (wl a xs).at h) : h.IsList a xs.toArray := let ⟨o, ho, r⟩ := x; ⟨o, ho, r⟩
theorem Has.wl {l : Addr} {xs : List Value} (h : Has X Λ l (lst l xs).P) {s : Shared} (hs : Sat X Λ s) : s.heap.IsList l xs.toArray := list_of (h.at hs)
theorem Ev.iterList {l : Addr} {xs : List Value} (hl : Has X Λ l (lst l xs).P) (h : ∀ it, QV (.ref it) (lit it l 0 :: Λ)) : Ev w X A Λ (pyIter (.ref l)) QV := fun s hs =>
  wpAny_pyIter_list (list_of (hl.at hs)) ⟨_, hs.push rfl ⟨rfl, rfl⟩, h _⟩
theorem Ev.nextList {it l : Addr} {i : Nat} {xs : List Value} {v : Value} (U : Put it (lit it l i).P (lit it l (i + 1)).P Λ Λ') (hl : Has X Λ l (lst l xs).P) (hv : xs[i]? = some v) (h : Q (some v) Λ') : Ev w X A Λ (pyNext (.ref it)) Q := fun s hs =>
  wpAny_pyNext_list_item (hs.own _ U.mem) (list_of (hl.at hs)) (by rw [List.getElem?_toArray]; exact hv) fun h' hit hsb => ⟨Λ', hs.put (s' := ⟨h', s.gens, s.drawn, s.toks, s.os⟩) U hsb.extBut hit hs.gp rfl rfl, h⟩
theorem Ev.endList {k : Nat} {it l : Addr} {i : Nat} {xs : List Value} (R : Rm A k) (U : Cut (lit it l i) Λ Λ') (hl : Has X Λ l (lst l xs).P) (hv : xs.length ≤ i) (h : Q none Λ') : Ev w X A Λ (pyNext (.ref it)) Q := fun s hs =>
  wpAny_pyNext_list_end R.hd (hs.own _ U.mem) (list_of (hl.at hs)) (by rw [List.getElem?_toArray]; exact List.getElem?_eq_none hv) fun h' hsb => ⟨Λ', hs.cut (s' := ⟨h', s.gens, s.drawn, s.toks, s.os⟩) U hsb hs.gp rfl rfl, h⟩
noncomputable abbrev rng (r : Addr) (a b : Int) : Cell := ⟨r, fun o => ∃ t u v, o = { cls := .type "range", dict := none, data := .fields #[.int a t, .int b u, .int 1 v], slots := #[] }⟩
theorem Ev.range1 {n : Int} {t : Tok} (h : ∀ r, QV (.ref r) (rng r 0 n :: Λ)) : Ev w X A Λ (call (.type "range") [.int n t]) QV := fun s hs =>
  call_range_1 ⟨_, (hs.push (o := { cls := .type "range", data := .fields #[.int 0 s.toks, .int n t, .int 1 (s.toks + 1)] }) (P := (rng s.heap.objs.size 0 n).P) rfl ⟨_, _, _, rfl⟩).tok _, h _⟩
theorem Ev.range2 {a b : Int} {t u : Tok} (h : ∀ r, QV (.ref r) (rng r a b :: Λ)) : Ev w X A Λ (call (.type "range") [.int a t, .int b u]) QV := fun s hs =>
  call_range_2 ⟨_, (hs.push (o := { cls := .type "range", data := .fields #[.int a t, .int b u, .int 1 s.toks] }) (P := (rng s.heap.objs.size a b).P) rfl ⟨_, _, _, rfl⟩).tok _, h _⟩
theorem Ev.iterRange {r : Addr} {a b : Int} (hl : Has X Λ r (rng r a b).P) (ha : -(2 ^ 62) ≤ a) (ha' : a < 2 ^ 62) (hb : -(2 ^ 62) ≤ b) (hb' : b < 2 ^ 62) (h : ∀ it, QV (.ref it) (rit it a (if a < b then b - a else 0) 1 :: Λ)) : Ev w X A Λ (pyIter (.ref r)) QV := fun s hs => by
  obtain ⟨o, ho, t, u, v, rfl⟩ := hl.at hs
  refine wpAny_pyIter_range ho (small_one ha ha' hb hb') ⟨_, hs.push rfl ?_, h _⟩
  show _ = _
  rw [rangeSize_one]
theorem Ev.nextRange {it : Addr} {x left : Int} (U : Put it (rit it x left 1).P (rit it (x + 1) (left - 1) 1).P Λ Λ') (hl : 0 < left) (h : ∀ t, Q (some (.int x t)) Λ') : Ev w X A Λ (pyNext (.ref it)) Q := fun s hs => by
  obtain ⟨o, ho, rfl⟩ := hs.own _ U.mem
  exact wpAny_pyNext_range_item ho hl fun h' hit hsb => ⟨Λ', hs.put (s' := ⟨h', s.gens, s.drawn, s.toks + 1, s.os⟩) U hsb.extBut ⟨_, hit, rfl⟩ hs.gp rfl rfl, h _⟩
theorem Ev.endRange {k : Nat} {it : Addr} {x left : Int} (R : Rm A k) (U : Cut (rit it x left 1) Λ Λ') (hl : left ≤ 0) (h : Q none Λ') : Ev w X A Λ (pyNext (.ref it)) Q := fun s hs => by
  obtain ⟨o, ho, rfl⟩ := hs.own _ U.mem
  exact wpAny_pyNext_range_end R.hd ho hl fun h' hsb => ⟨Λ', hs.cut (s' := ⟨h', s.gens, s.drawn, s.toks, s.os⟩) U hsb hs.gp rfl rfl, h⟩
end
end
section
open PySem PySem.W PyProof.Rows PySem.Calls
variable {w : World} {A : Around} {X : Amb} {Λ Λ' : List Cell} {env : Env}
section
variable {Q : Value → List Cell → Prop}
theorem Ev.list {es : List Expr} {pos : Pos} (h : Ev w X A Λ (spliced (backTo pos (starEach es env))) fun vs Λ₁ => vs.length ≤ sizeLine ∧ ∀ a, Q (.ref a) (lst a vs :: Λ₁)) : Ev w X A Λ (eval (.List es pos) env) Q := fun s hs =>
  wpAny_List (h.useB hs fun vs s' Λ' h' q => ⟨q.1, _, h'.push rfl ⟨0, rfl⟩, q.2 _⟩)
theorem Ev.tuple {es : List Expr} {k : Nat} {pos : Pos} (h : Ev w X A Λ (spliced (backTo pos (starEach es env))) fun vs Λ₁ => vs.length ≤ sizeLine ∧ ∀ a, Q (.ref a) (tup a vs :: Λ₁)) : Ev w X A Λ (eval (.Tuple es k pos) env) Q := fun s hs =>
  wpAny_Tuple (h.useB hs fun vs s' Λ' h' q => ⟨q.1, _, h'.push rfl ⟨0, rfl⟩, q.2 _⟩)
/-- a method of a list that stands under a name, with an argument -/
theorem Ev.meth {v : Value} {o e : Expr} {rest : List Expr} {name : Str} {T id : String} {apos pos : Pos} {pl : Sem Bool} (slot : Slot T name id) (pa : PlainAttrs T) (hty : typeOf (.builtin id) = Pure.pure (.type "method_descriptor"))
    (h : Ev w X A Λ (eval o env) fun ov Λ₁ => ov = v ∧ (∀ s, Sat X Λ₁ s → s.TypeIs v T) ∧ (∀ s a, Sat X Λ₁ s → v = .ref a → ∃ ob, s.heap.get? a = some ob ∧ ob.dict = none) ∧ Ev w X A Λ₁ (spliced (backTo pos (starEach (e :: rest) env))) fun vs Λ₂ => Ev w X A Λ₂ (call (.builtin id) (v :: vs)) Q)
    (hp : (backTo pos (starEach rest env)).any (·.1) = false := by rfl) (hq : starEach (e :: rest) env = (false, eval e env) :: starEach rest env := by rfl)
    (he : eval (.Call (.Attribute o name apos) (e :: rest) [] pos) env = (do
      let ov ← eval o env
      standAt apos.atName
      let (f, first) ← holding [ov] (getMethod ov name pl)
      callWith pos f first (backTo pos (starEach (e :: rest) env)) []) := by rfl) : Ev w X A Λ (eval (.Call (.Attribute o name apos) (e :: rest) [] pos) env) Q := fun s hs => by
  refine MethodCall_ (h.useB hs fun ov s₁ Λ₁ h₁ q => ?_) he
  obtain ⟨rfl, hT, hd, q⟩ := q
  refine getMethod_builtin (hT s₁ h₁) pa slot hty (fun a => hd s₁ a h₁) ?_
  rw [hq] at q ⊢
  refine callWith_builtin (by show (false || (backTo pos (starEach rest env)).any (·.1)) = false; rw [hp]; rfl) ?_
  exact evalArgs_plain (q.useB h₁ fun vs s₂ Λ₂ h₂ q => q s₂ h₂)
theorem Has.typeL {l : Addr} {xs : List Value} (h : Has X Λ l (lst l xs).P) {s : Shared} (hs : Sat X Λ s) : s.TypeIs (.ref l) "list" := (h.wl hs).typeIs
theorem Has.dictL {l : Addr} {xs : List Value} (h : Has X Λ l (lst l xs).P) {s : Shared} (hs : Sat X Λ s) : ∃ ob, s.heap.get? l = some ob ∧ ob.dict = none := let ⟨o, ho, n, e⟩ := h.at hs; ⟨o, ho, e ▸ rfl⟩
/-- xs.m(e, ..) -/
theorem Ev.methL {x : Str} {l : Addr} {xs : List Value} {e : Expr} {rest : List Expr} {name : Str} {id : String} {p apos pos : Pos} {pl : Sem Bool} (slot : Slot "list" name id) (hty : typeOf (.builtin id) = Pure.pure (.type "method_descriptor"))
    (h : Ev w X A Λ (eval (.Name x p) env) fun ov Λ₁ => ov = .ref l ∧ Has X Λ₁ l (lst l xs).P ∧ Ev w X A Λ₁ (spliced (backTo pos (starEach (e :: rest) env))) fun vs Λ₂ => Ev w X A Λ₂ (call (.builtin id) (.ref l :: vs)) Q)
    (hp : (backTo pos (starEach rest env)).any (·.1) = false := by rfl) (hq : starEach (e :: rest) env = (false, eval e env) :: starEach rest env := by rfl)
    (he : eval (.Call (.Attribute (.Name x p) name apos) (e :: rest) [] pos) env = (do
      let ov ← eval (.Name x p) env
      standAt apos.atName
      let (f, first) ← holding [ov] (getMethod ov name pl)
      callWith pos f first (backTo pos (starEach (e :: rest) env)) []) := by rfl) : Ev w X A Λ (eval (.Call (.Attribute (.Name x p) name apos) (e :: rest) [] pos) env) Q :=
  Ev.meth slot PySem.F.plainAttrs_list hty (h.mono fun ov Λ₁ ⟨a, b, c⟩ => ⟨a, fun s hs => b.typeL hs, fun s a hs e => by cases e; exact b.dictL hs, c⟩) hp hq he
theorem Ev.append {l : Addr} {xs : List Value} {v : Value} (U : Put l (lst l xs).P (lst l (xs ++ [v])).P Λ Λ') (hz : xs.length ≤ sizeLine) (h : Q .none Λ') : Ev w X A Λ (call (.builtin "list.append") [.ref l, v]) Q := fun s hs => by
  obtain ⟨o, ho, n, rfl⟩ := hs.own _ U.mem
  refine append_at ho (fun h' hsb hd => ⟨Λ', hs.put (s' := ⟨h', s.gens, s.drawn, s.toks, s.os⟩) U hsb.extBut ⟨_, hd, n + 1, ?_⟩ hs.gp rfl rfl, h⟩) (by rw [List.size_toArray]; exact hz)
  rw [List.push_toArray]
theorem Ev.subV {value slice : Expr} {pos : Pos} {l : Addr} {xs : List Value} {k : Int} {v : Value}
    (h : Ev w X A Λ (eval value env) fun o Λ₁ => Ev w X A Λ₁ (eval slice env) fun i Λ₂ => o = .ref l ∧ (∃ t, i = .int k t) ∧ (∀ s, Sat X Λ₂ s → s.heap.IsList l xs.toArray) ∧ 0 ≤ k ∧ k < 2 ^ 63 ∧ xs[k.toNat]? = some v ∧ Q v Λ₂)
    (hs' : ∀ o i, subscripted slice false o i = operate [o, i] (getItem o i) := by intro _ _; with_unfolding_all rfl) : Ev w X A Λ (eval (.Subscript value slice pos) env) Q := fun s hs =>
  Subscript_ (h.useB hs fun o s₁ Λ₁ h₁ q => q.useB h₁ fun i s₂ Λ₂ h₂ q => by
    obtain ⟨rfl, ⟨t, rfl⟩, hl, h0, h1, hv, q⟩ := q
    exact tail_any (hl s₂ h₂).typeIs slot_list_getitem.lookup (getItem_listL (hl s₂ h₂) h0 h1 hv ⟨Λ₂, h₂, q⟩) (hs' _ _))
theorem Ev.lenL {l : Addr} {xs : List Value} (hl : Has X Λ l (lst l xs).P) (hz : xs.length < 2 ^ 62) (h : ∀ t, Q (.int xs.length t) Λ) : Ev w X A Λ (call (.builtin "len") [.ref l]) Q := fun s hs =>
  call_len_list (hl.wl hs) (by rw [List.size_toArray]; omega) ⟨Λ, hs.tok _, by rw [List.size_toArray]; exact h _⟩
end
/-- a list of ints; of texts -/
noncomputable abbrev ilst (a : Addr) (ns : List Int) : Cell := ⟨a, fun o => ∃ vs n, IntsAre vs ns ∧ o = { cls := .type "list", data := .seq vs.toArray n }⟩
noncomputable abbrev slst (a : Addr) (ns : List Str) : Cell := ⟨a, fun o => ∃ vs n, StrsAre vs ns ∧ o = { cls := .type "list", data := .seq vs.toArray n }⟩
theorem IsL.typeIs {h : Heap} {g} {d : Drawn} {t : Nat} {os : OsState} {l : Addr} {xs : Array Value} (x : h.IsList l xs) : Shared.TypeIs ⟨h, g, d, t, os⟩ (.ref l) "list" := let ⟨o, ho, hc, _⟩ := x; ⟨o, ho, hc⟩
/-- an object that is a plain list -/
noncomputable def LL (o : Obj) : Prop := ∃ vs n, o = { cls := .type "list", data := .seq vs n }
theorem ilst_LL {a : Addr} {ns : List Int} {o : Obj} (h : (ilst a ns).P o) : LL o := let ⟨vs, n, _, e⟩ := h; ⟨_, n, e⟩
theorem slst_LL {a : Addr} {ns : List Str} {o : Obj} (h : (slst a ns).P o) : LL o := let ⟨vs, n, _, e⟩ := h; ⟨_, n, e⟩
theorem lst_LL {a : Addr} {vs : List Value} {o : Obj} (h : (lst a vs).P o) : LL o := let ⟨n, e⟩ := h; ⟨_, n, e⟩
theorem has_ilst {l : Addr} {ns : List Int} (h : Has X Λ l (ilst l ns).P) {s : Shared} (hs : Sat X Λ s) : ∃ vs, s.heap.IsList l vs.toArray ∧ IntsAre vs ns := let ⟨o, ho, vs, n, hi, e⟩ := h.at hs; ⟨vs, ⟨o, ho, e ▸ rfl, n, e ▸ rfl⟩, hi⟩
theorem has_slst {l : Addr} {ns : List Str} (h : Has X Λ l (slst l ns).P) {s : Shared} (hs : Sat X Λ s) : ∃ vs, s.heap.IsList l vs.toArray ∧ StrsAre vs ns := let ⟨o, ho, vs, n, hi, e⟩ := h.at hs; ⟨vs, ⟨o, ho, e ▸ rfl, n, e ▸ rfl⟩, hi⟩
section
variable {Q : Value → List Cell → Prop}
theorem Ev.listI {es : List Expr} {pos : Pos} (h : Ev w X A Λ (spliced (backTo pos (starEach es env))) fun vs Λ₁ => vs.length ≤ sizeLine ∧ ∃ ns, IntsAre vs ns ∧ ∀ a, Q (.ref a) (ilst a ns :: Λ₁)) : Ev w X A Λ (eval (.List es pos) env) Q := fun s hs =>
  wpAny_List (h.useB hs fun vs s' Λ' h' q => let ⟨z, ns, hi, q⟩ := q; ⟨z, _, h'.push rfl ⟨vs, 0, hi, rfl⟩, q _⟩)
/-- xs.m(e, ..) of a plain list under a name -/
theorem Ev.methN {x : Str} {l : Addr} {P : Obj → Prop} {e : Expr} {rest : List Expr} {name : Str} {id : String} {p apos pos : Pos} {pl : Sem Bool} (slot : Slot "list" name id) (hty : typeOf (.builtin id) = Pure.pure (.type "method_descriptor")) (hP : ∀ o, P o → LL o)
    (h : Ev w X A Λ (eval (.Name x p) env) fun ov Λ₁ => ov = .ref l ∧ Has X Λ₁ l P ∧ Ev w X A Λ₁ (spliced (backTo pos (starEach (e :: rest) env))) fun vs Λ₂ => Ev w X A Λ₂ (call (.builtin id) (.ref l :: vs)) Q)
    (hp : (backTo pos (starEach rest env)).any (·.1) = false := by rfl) (hq : starEach (e :: rest) env = (false, eval e env) :: starEach rest env := by rfl)
    (he : eval (.Call (.Attribute (.Name x p) name apos) (e :: rest) [] pos) env = (do
      let ov ← eval (.Name x p) env
      standAt apos.atName
      let (f, first) ← holding [ov] (getMethod ov name pl)
      callWith pos f first (backTo pos (starEach (e :: rest) env)) []) := by rfl) : Ev w X A Λ (eval (.Call (.Attribute (.Name x p) name apos) (e :: rest) [] pos) env) Q :=
  Ev.meth slot PySem.F.plainAttrs_list hty (h.mono fun ov Λ₁ ⟨a, b, c⟩ => ⟨a, fun s hs => let ⟨o, ho, q⟩ := b.at hs; let ⟨_, _, e⟩ := hP o q; ⟨o, ho, e ▸ rfl⟩, fun s a hs e => by cases e; exact let ⟨o, ho, q⟩ := b.at hs; let ⟨_, _, e⟩ := hP o q; ⟨o, ho, e ▸ rfl⟩, c⟩) hp hq he
theorem Ev.appendI {l : Addr} {ns : List Int} {i : Int} {t : Tok} (U : Put l (ilst l ns).P (ilst l (ns ++ [i])).P Λ Λ') (hz : ns.length ≤ sizeLine) (h : Q .none Λ') : Ev w X A Λ (call (.builtin "list.append") [.ref l, .int i t]) Q := fun s hs => by
  obtain ⟨o, ho, vs, n, hi, rfl⟩ := hs.own _ U.mem
  refine append_at ho (fun h' hsb hd => ⟨Λ', hs.put (s' := ⟨h', s.gens, s.drawn, s.toks, s.os⟩) U hsb.extBut ⟨_, hd, vs ++ [.int i t], n + 1, hi.append (.cons _ _ .nil), ?_⟩ hs.gp rfl rfl, h⟩) (by rw [List.size_toArray, hi.length]; exact hz)
  rw [List.push_toArray]
theorem Ev.itemI {value slice : Expr} {pos : Pos} {l : Addr} {ns : List Int} {k i : Int}
    (h : Ev w X A Λ (eval value env) fun o Λ₁ => Ev w X A Λ₁ (eval slice env) fun i' Λ₂ => o = .ref l ∧ (∃ t, i' = .int k t) ∧ Has X Λ₂ l (ilst l ns).P ∧ 0 ≤ k ∧ k < 2 ^ 63 ∧ ns[k.toNat]? = some i ∧ ∀ t, Q (.int i t) Λ₂)
    (hs' : ∀ o i, subscripted slice false o i = operate [o, i] (getItem o i) := by intro _ _; with_unfolding_all rfl) : Ev w X A Λ (eval (.Subscript value slice pos) env) Q := fun s hs =>
  Subscript_ (h.useB hs fun o s₁ Λ₁ h₁ q => q.useB h₁ fun i s₂ Λ₂ h₂ q => by
    obtain ⟨rfl, ⟨t, rfl⟩, hl, h0, h1, hv, q⟩ := q
    obtain ⟨vs, hl, hi⟩ := has_ilst hl h₂
    obtain ⟨t', ht⟩ := hi.get _ _ hv
    exact tail_any hl.typeIs slot_list_getitem.lookup (getItem_listL hl h0 h1 ht ⟨Λ₂, h₂, q _⟩) (hs' _ _))
theorem Ev.lenI {l : Addr} {ns : List Int} (hl : Has X Λ l (ilst l ns).P) (hz : ns.length < 2 ^ 62) (h : ∀ t, Q (.int ns.length t) Λ) : Ev w X A Λ (call (.builtin "len") [.ref l]) Q := fun s hs => by
  obtain ⟨vs, hl, hi⟩ := has_ilst hl hs
  have := hi.length
  exact call_len_list hl (by rw [List.size_toArray]; omega) ⟨Λ, hs.tok _, by rw [List.size_toArray, this]; exact h _⟩
end
end
section
open PySem PySem.W PyProof.Rows PySem.Calls
variable {w : World} {A : Around} {X : Amb} {Λ Λ' : List Cell} {env : Env}
theorem Ev.next {Q : Option Value → List Cell → Prop} {it : Value} (h : Ev w X A Λ (pyNext it) Q) {s : Shared} (hs : Sat X Λ s) {Q' : Option Value → Shared → Prop} {E} (k : ∀ r s' Λ', Sat X Λ' s' → Q r Λ' → Q' r s') : wpAny (Mod w) A (pyNext it) Q' E s := h.useB hs k
/-- for x in range(a, a + n) -/
theorem EvC.range {k n : Nat} {a : Int} {x : Str} {px : Pos} {it : Addr} {body : List Stmt} {R : Flow → List Cell → Prop} (Rm' : Rm A k) (I : Nat → List Cell → Prop)
    (turn : ∀ i Λ t, i < n → I i Λ → Ev w X A (rit it (a + i + 1) (n - i - 1) 1 :: Λ) (storeName env x (.int (a + i) t)) fun _ Λ₂ => Ev w X A Λ₂ (execs body env) fun f Λ₃ => match f with
      | .next | .cont => ∃ Λ₄, Λ₃ = rit it (a + i + 1) (n - i - 1) 1 :: Λ₄ ∧ I (i + 1) Λ₄
      | .brk => R .next Λ₃
      | .ret v => R (.ret v) Λ₃)
    (done : ∀ Λ, I n Λ → R .next Λ) (h0 : I 0 Λ) {left : Int} (hl : left = n) : EvC w X A (rit it a left 1 :: Λ) (.forLoop (.Name x px) (.ref it) body [] env) R := by
  subst hl
  have go : ∀ m i Λ, i + m = n → I i Λ → EvC w X A (rit it (a + i) (n - i) 1 :: Λ) (.forLoop (.Name x px) (.ref it) body [] env) R := by
    intro m
    induction m with
    | zero =>
      intro i Λ e hI
      refine EvC.turn ?_
      refine Ev.endRange Rm' .head (by omega) ?_
      obtain rfl : i = n := by omega
      exact Ev.nil (done _ hI)
    | succ m ih =>
      intro i Λ e hI
      refine EvC.turn ?_
      refine Ev.nextRange .head (by omega) fun t => ?_
      refine Ev.assignN ((turn i Λ t (by omega) hI).mono fun _ Λ₂ q => q.mono fun f Λ₃ q => ?_)
      have back : ∀ Λ₄, I (i + 1) Λ₄ → EvC w X A (rit it (a + i + 1) (n - i - 1) 1 :: Λ₄) (.forLoop (.Name x px) (.ref it) body [] env) R := fun Λ₄ h => by
        have := ih (i + 1) Λ₄ (by omega) h
        have e1 : (a : Int) + ((i + 1 : Nat) : Int) = a + i + 1 := by omega
        have e2 : (n : Int) - ((i + 1 : Nat) : Int) = n - i - 1 := by omega
        rw [e1, e2] at this
        exact this
      cases f with
      | next => obtain ⟨Λ₄, rfl, q⟩ := q; exact back _ q
      | cont => obtain ⟨Λ₄, rfl, q⟩ := q; exact back _ q
      | brk => exact q
      | ret v => exact q
  have := go n 0 Λ (by omega) h0
  rw [show (a : Int) + ((0 : Nat) : Int) = a by omega, show (n : Int) - ((0 : Nat) : Int) = n by omega] at this
  exact this
/-- for x in xs -/
theorem EvC.list {k n : Nat} {l : Addr} {x : Str} {px : Pos} {it : Addr} {body : List Stmt} {R : Flow → List Cell → Prop} {P : Nat → Value → Prop} (Rm' : Rm A k) (I : Nat → List Cell → Prop)
    (hl : ∀ i Λ s, I i Λ → Sat X Λ s → ∃ vs : List Value, s.heap.IsList l vs.toArray ∧ vs.length = n ∧ ∀ j v, vs[j]? = some v → P j v)
    (turn : ∀ i Λ v, i < n → P i v → I i Λ → Ev w X A (lit it l (i + 1) :: Λ) (storeName env x v) fun _ Λ₂ => Ev w X A Λ₂ (execs body env) fun f Λ₃ => match f with
      | .next | .cont => ∃ Λ₄, Λ₃ = lit it l (i + 1) :: Λ₄ ∧ I (i + 1) Λ₄
      | .brk => R .next Λ₃
      | .ret v => R (.ret v) Λ₃)
    (done : ∀ Λ, I n Λ → R .next Λ) (h0 : I 0 Λ) : EvC w X A (lit it l 0 :: Λ) (.forLoop (.Name x px) (.ref it) body [] env) R := by
  have go : ∀ m i Λ, i + m = n → I i Λ → EvC w X A (lit it l i :: Λ) (.forLoop (.Name x px) (.ref it) body [] env) R := by
    intro m
    induction m with
    | zero =>
      intro i Λ e hI
      refine EvC.turn fun s hs => ?_
      obtain ⟨vs, hv, hn, -⟩ := hl i Λ s hI (hs.sub (List.sublist_cons_self ..))
      refine wpAny_pyNext_list_end Rm'.hd (hs.own _ (.head _)) hv (by rw [List.getElem?_toArray]; exact List.getElem?_eq_none (by omega)) fun h' hsb => ⟨Λ, hs.cut (s' := ⟨h', s.gens, s.drawn, s.toks, s.os⟩) .head hsb hs.gp rfl rfl, ?_⟩
      obtain rfl : i = n := by omega
      exact Ev.nil (done _ hI)
    | succ m ih =>
      intro i Λ e hI
      refine EvC.turn fun s hs => ?_
      obtain ⟨vs, hv, hn, hP⟩ := hl i Λ s hI (hs.sub (List.sublist_cons_self ..))
      have hlt : i < vs.length := by omega
      refine wpAny_pyNext_list_item (x := vs[i]) (hs.own _ (.head _)) hv (by rw [List.getElem?_toArray, List.getElem?_eq_getElem hlt]) fun h' hit hsb => ⟨lit it l (i + 1) :: Λ, hs.put (s' := ⟨h', s.gens, s.drawn, s.toks, s.os⟩) .head hsb.extBut hit hs.gp rfl rfl, ?_⟩
      refine Ev.assignN ((turn i Λ vs[i] (by omega) (hP i _ (List.getElem?_eq_getElem hlt)) hI).mono fun _ Λ₂ q => q.mono fun f Λ₃ q => ?_)
      cases f with
      | next => obtain ⟨Λ₄, rfl, q⟩ := q; exact ih (i + 1) Λ₄ (by omega) q
      | cont => obtain ⟨Λ₄, rfl, q⟩ := q; exact ih (i + 1) Λ₄ (by omega) q
      | brk => exact q
      | ret v => exact q
  exact go n 0 Λ (by omega) h0
end
section
open PySem PySem.W PyProof.Rows PySem.Calls
variable {w : World} {A : Around} {X : Amb} {Λ Λ' : List Cell} {env : Env}
section
variable {Q : Value → List Cell → Prop} {a b : Int} {t u : Tok} {x y : Str}
theorem Ev.gtS (h : Q (.bool (decide (y.cps.toList < x.cps.toList))) Λ) : Ev w X A Λ (compareOp .Gt (.str x t) (.str y u)) Q := fun _ hs => P.gt_str ⟨Λ, hs, h⟩
theorem Ev.ltS (h : Q (.bool (decide (x.cps.toList < y.cps.toList))) Λ) : Ev w X A Λ (compareOp .Lt (.str x t) (.str y u)) Q := fun _ hs => P.lt_str ⟨Λ, hs, h⟩
theorem Ev.eqS (h : Q (.bool (x == y)) Λ) : Ev w X A Λ (compareOp .Eq (.str x t) (.str y u)) Q := fun _ hs => eq_str ⟨Λ, hs, h⟩
theorem Ev.ltI (h : Q (.bool (decide (a < b))) Λ) : Ev w X A Λ (compareOp .Lt (.int a t) (.int b u)) Q := fun _ hs => lt_int ⟨Λ, hs, h⟩
theorem Ev.leI (h : Q (.bool (decide (a ≤ b))) Λ) : Ev w X A Λ (compareOp .LtE (.int a t) (.int b u)) Q := fun _ hs => le_int ⟨Λ, hs, h⟩
theorem Ev.gtI (h : Q (.bool (decide (b < a))) Λ) : Ev w X A Λ (compareOp .Gt (.int a t) (.int b u)) Q := fun _ hs => gt_int ⟨Λ, hs, h⟩
theorem Ev.geI (h : Q (.bool (decide (b ≤ a))) Λ) : Ev w X A Λ (compareOp .GtE (.int a t) (.int b u)) Q := fun _ hs => ge_int ⟨Λ, hs, h⟩
theorem Ev.eqI (h : Q (.bool (a == b)) Λ) : Ev w X A Λ (compareOp .Eq (.int a t) (.int b u)) Q := fun _ hs => eq_int ⟨Λ, hs, h⟩
theorem Ev.neI (h : Q (.bool (a != b)) Λ) : Ev w X A Λ (compareOp .NotEq (.int a t) (.int b u)) Q := fun _ hs => ne_int ⟨Λ, hs, h⟩
theorem Ev.subB {p q : Bool} (h : ∀ t, Q (.int (b2i p - b2i q) t) Λ) : Ev w X A Λ (binaryOp .Sub (.bool p) (.bool q)) Q := fun _ hs => sub_bool ⟨Λ, hs.tok _, h _⟩
theorem Ev.intB {p : Bool} (h : ∀ t, Q (.int (if p = true then 1 else 0) t) Λ) : Ev w X A Λ (call (.type "int") [.bool p]) Q := fun _ hs => call_int_bool ⟨Λ, hs.tok _, h _⟩
end
end
section
open PySem PySem.W PyProof.Rows PySem.Calls
variable {w : World} {A : Around} {X : Amb} {Λ Λ' : List Cell} {env : Env}
/-! more and less of what is known -/
theorem Sat.app {Λn : List Cell} {s : Shared} (hs : Sat X Λ s) (ho : ∀ c ∈ Λn, c.at s.heap) (hn : ∀ c ∈ Λn, X.hb.get? c.addr = none) (hl : ∀ c ∈ Λ, ∀ d ∈ Λn, d.addr ≠ c.addr) (nd : (Λn.map Cell.addr).Nodup) : Sat X (Λn ++ Λ) s :=
  ⟨hs.keep, fun c hc => (List.mem_append.mp hc).elim (ho c) (hs.own c), fun c hc => (List.mem_append.mp hc).elim (hn c) (hs.new c), by
    rw [List.map_append, List.nodup_append]
    exact ⟨nd, hs.nd, fun a ha b hb e => by
      obtain ⟨c, hc, rfl⟩ := List.mem_map.mp ha
      obtain ⟨d, hd, rfl⟩ := List.mem_map.mp hb
      exact hl d hd c hc e⟩, hs.gp, hs.d, hs.os⟩
theorem Sat.weak {a : Addr} {P P' : Obj → Prop} {s : Shared} (hs : Sat X (⟨a, P⟩ :: Λ) s) (k : ∀ o, P o → P' o) : Sat X (⟨a, P'⟩ :: Λ) s :=
  ⟨hs.keep, fun c hc => by
    rcases List.mem_cons.mp hc with rfl | hc
    · obtain ⟨o, ho, p⟩ := hs.own _ (.head _); exact ⟨o, ho, k o p⟩
    · exact hs.own c (.tail _ hc), fun c hc => by
    rcases List.mem_cons.mp hc with rfl | hc
    · exact (show X.hb.get? a = none from hs.new ⟨a, P⟩ (List.mem_cons_self ..))
    · exact hs.new c (.tail _ hc), hs.nd, hs.gp, hs.d, hs.os⟩
theorem Sat.hb_none {s : Shared} (hs : Sat X Λ s) {a : Addr} (h : s.heap.get? a = none) : X.hb.get? a = none := by
  cases e : X.hb.get? a with
  | none => rfl
  | some o => rw [hs.keep a o e] at h; cases h
/-- the state as it stands is what stays -/
theorem Ev.base {α : Type} {t : Sem α} {Q : α → List Cell → Prop} (h : ∀ hb, (∀ b o, X.hb.get? b = some o → hb.get? b = some o) → (∀ c ∈ Λ, c.at hb) → Ev w ⟨hb, X.gp, X.d, X.os⟩ A [] t fun v Λ' => Q v (Λ' ++ Λ)) : Ev w X A Λ t Q := fun s hs => by
  refine Ev.useB (h s.heap hs.keep hs.own) (s := s) ⟨fun _ _ e => e, fun c hc => (nomatch hc), fun c hc => (nomatch hc), List.nodup_nil, hs.gp, hs.d, hs.os⟩ fun v s' Λ' h' q => ⟨Λ' ++ Λ, ?_, q⟩
  refine Sat.app ⟨fun b o e => h'.keep b o (hs.keep b o e), fun c hc => Cell.at_of (hs.own c hc) fun o e => h'.keep _ o e, hs.new, hs.nd, h'.gp, h'.d, h'.os⟩ h'.own (fun c hc => hs.hb_none (h'.new c hc)) (fun c hc d hd e => ?_) h'.nd
  obtain ⟨o, ho, -⟩ := hs.own c hc
  have := h'.new d hd
  rw [e] at this
  exact absurd (ho.symm.trans this) (fun x => nomatch x)
theorem at_base {a : Addr} {P : Obj → Prop} {hb : Heap} (h : Has X Λ a P) (k : ∀ b o, X.hb.get? b = some o → hb.get? b = some o) (c : ∀ c ∈ Λ, c.at hb) : Cell.at ⟨a, P⟩ hb := h.elim (c _) fun h => Cell.at_of h (k a)
theorem Ev.weak {α : Type} {t : Sem α} {Q : α → List Cell → Prop} {a : Addr} {P P' : Obj → Prop} (k : ∀ o, P o → P' o) (h : Ev w X A (⟨a, P'⟩ :: Λ) t Q) : Ev w X A (⟨a, P⟩ :: Λ) t Q := fun s hs => h s (hs.weak k)
theorem Ev.sub {α : Type} {t : Sem α} {Q : α → List Cell → Prop} (k : Λ'.Sublist Λ) (h : Ev w X A Λ' t Q) : Ev w X A Λ t Q := fun s hs => h s (hs.sub k)
theorem Ev.perm {α : Type} {t : Sem α} {Q : α → List Cell → Prop} (k : Λ'.Perm Λ) (h : Ev w X A Λ' t Q) : Ev w X A Λ t Q := fun s hs => h s (hs.perm k)
theorem EvC.sub {c : Code} {R : Flow → List Cell → Prop} (k : Λ'.Sublist Λ) (h : EvC w X A Λ' c R) : EvC w X A Λ c R := fun s hs => h s (hs.sub k)
theorem EvC.perm {c : Code} {R : Flow → List Cell → Prop} (k : Λ'.Perm Λ) (h : EvC w X A Λ' c R) : EvC w X A Λ c R := fun s hs => h s (hs.perm k)
/-! names that are cells -/
section
variable {Q : Value → List Cell → Prop}
theorem Ev.loadC {x : Str} {v : Value} {c : Addr} (hc : env.cells.lookup x = some c) (hn : Has X Λ c (cel c (some v)).P) (h : Q v Λ)
    (hk : env.scope.kind = .function := by rfl) (hx : env.kindOf x = some .cell := by rfl) : Ev w X A Λ (loadName env x) Q := fun s hs => wpAny_loadName_cell hk hx hc (let ⟨o, ho, e⟩ := hn.at hs; ⟨o, ho, e⟩) ⟨Λ, hs, h⟩
theorem Ev.nameC {x : Str} {pos : Pos} {v : Value} {c : Addr} (hc : env.cells.lookup x = some c) (hn : Has X Λ c (cel c (some v)).P) (h : Q v Λ)
    (hk : env.scope.kind = .function := by rfl) (hx : env.kindOf x = some .cell := by rfl) (hd : (x == ("__debug__" : Str)) = false := by decide) : Ev w X A Λ (eval (.Name x pos) env) Q := fun s hs => wpAny_Name (Ev.loadC hc hn h hk hx s hs) hd
theorem Ev.storeC {x : Str} {v : Value} {u : Option Value} {c : Addr} {Q : Unit → List Cell → Prop} (U : Put c (cel c u).P (cel c (some v)).P Λ Λ') (h : Q () Λ') (hc : env.cells.lookup x = some c := by rfl)
    (hk : env.scope.kind = .function := by rfl) (hx : env.kindOf x = some .cell := by rfl) : Ev w X A Λ (storeName env x v) Q := fun s hs => by
  obtain ⟨o, ho, e⟩ := hs.own _ U.mem
  exact wpAny_storeName_cell hk hx hc ⟨o, ho, e⟩ fun h' hc' hs' => ⟨Λ', hs.put (s' := ⟨h', s.gens, s.drawn, s.toks, s.os⟩) U hs'.extBut hc' hs.gp rfl rfl, h⟩
end
/-! a def with cells -/
theorem nodup_of_apart {cs : List (Str × Addr)} {f : Str × Addr → Cell} (hf : ∀ p, (f p).addr = p.2) (ap : cs.Pairwise fun x y => x.2 ≠ y.2) : ((cs.map f).map Cell.addr).Nodup := by
  rw [List.map_map]
  induction ap with
  | nil => exact List.nodup_nil
  | cons h _ ih =>
    rw [List.map_cons, List.nodup_cons]
    refine ⟨fun hm => ?_, ih⟩
    obtain ⟨p, hp, e⟩ := List.mem_map.mp hm
    simp only [Function.comp, hf] at e
    exact h p hp e.symm
theorem isSome_names : ∀ (l : List (Str × Addr)) (x : Str), (l.lookup x).isSome = (l.map Prod.fst).contains x
  | [], _ => rfl
  | (y, a) :: r, x => by
    rw [List.lookup_cons, List.map_cons, List.contains_cons]
    cases x == y with
    | true => rfl
    | false => rw [isSome_names r x]; rfl
theorem Ev.enterC {Q : Value → List Cell → Prop} {k : Nat} {a : Addr} {c : Value} {d : Option Addr} {fd : FuncData} {sl} {args : List Value} {binds : List (Str × Value)} {body : List Stmt} (lb : List (Str × Value)) (cs : Nat → List (Str × Addr)) (cb : Nat → List Cell)
    (B : Base w X.hb) (R : Rm A (k + 1)) (ho : (K0 w).lookup a = some ⟨c, d, .func fd, sl⟩) (ha : a ≠ 90) (hcd : coded w fd.code fd.qualname = true)
    (hbody : fd.body = .stmts body) (hbind : bindArgs fd ⟨args, []⟩ = pure binds) (hclo : fd.closure = [])
    (hcs : ∀ n, cellsFrom n fd.scope.names [] = cs n)
    (hkind : binds.all (fun x => fd.scope.names.lookup x.1 == some .local || (fd.scope.names.lookup x.1 == some .cell && ((cs 0).lookup x.1).isSome)) = true)
    (hnm : ∀ n, (cs n).map Prod.fst = (cs 0).map Prod.fst)
    (hlb : ∀ x v, al lb x = some v → bindL (callEnvC fd 0 a).kindOf binds (fun _ => none) x = some v)
    (hcb : ∀ n, (cs n).map (fun p => cel p.2 (bindC (callEnvC fd 0 a).kindOf binds (fun _ => none) p.1)) = cb n) (hcn : ((cs 0).map Prod.fst).Nodup)
    (h : ∀ L A', Rm A' k → Ev w X A' (nsc L lb :: (cb (L + 1) ++ Λ)) (execs body (callEnvC fd L a)) fun f Λ' => Q (retOf f) Λ')
    (hco : fd.scope.isCoroutine = false := by rfl) (hgen : fd.scope.isGenerator = false := by rfl) (hk : fd.scope.kind = .function := by rfl) : Ev w X A Λ (call (.ref a) args) Q := fun s hs => by
  refine wpAny_call (codeAny_call_cells R.room (hs.keep _ _ (B.k a _ ha ho)) rfl (B.limit.keeps hs.keep) ((codeRec_of_coded B hcd).keeps hs.keep) hbody hbind hclo (fun x hx => ?_) (fun s₁ x => ?_) hco hgen hk)
  · have := List.all_eq_true.mp hkind x hx
    rw [hcs, isSome_names, hnm, ← isSome_names]
    simpa using this
  · have cells : (callEnvC fd s.heap.objs.size a).cells = cs (s.heap.objs.size + 1) := hcs _
    obtain ⟨h₁, tk, rfl⟩ := x.toInCall.same
    have hlt : ∀ b o, s.heap.get? b = some o → b < s.heap.objs.size := fun b o e => Heap.lt_size e
    have none_of : ∀ b, s.heap.objs.size ≤ b → X.hb.get? b = none := fun b hb => hs.hb_none (by
      cases e : s.heap.get? b with
      | none => rfl
      | some o => exact absurd (Heap.lt_size e) (Nat.not_lt.mpr hb))
    refine Ev.useB (h s.heap.objs.size _ R.deeper) (s := { s with heap := h₁, toks := tk }) ?_ fun f s' Λ' h' q => ⟨Λ', h', q⟩
    have S1 : Sat X Λ { s with heap := h₁, toks := tk } := hs.ext (s' := { s with heap := h₁, toks := tk }) x.toInCall.keep hs.gp rfl rfl
    have key : ∀ p ∈ cs (s.heap.objs.size + 1), s.heap.objs.size < p.2 ∧ ((cs (s.heap.objs.size + 1)).lookup p.1 = some p.2) := fun p hp => by
      refine ⟨x.above p.1 p.2 (by rw [cells]; exact hp), ?_⟩
      have hn : ((cs (s.heap.objs.size + 1)).map Prod.fst).Nodup := by rw [hnm]; exact hcn
      revert hn hp
      generalize cs (s.heap.objs.size + 1) = l
      intro hp hn
      induction l with
      | nil => cases hp
      | cons q r ih =>
        rw [List.map_cons, List.nodup_cons] at hn
        rw [List.lookup_cons]
        rcases List.mem_cons.mp hp with rfl | hp
        · simp
        · have : (p.1 == q.1) = false := by
            have : p.1 ≠ q.1 := fun e => hn.1 (List.mem_map.mpr ⟨p, hp, e⟩)
            simpa using this
          rw [this]; exact ih hp hn.2
    have hap : (cs (s.heap.objs.size + 1)).Pairwise fun x y => x.2 ≠ y.2 := cells ▸ x.apart
    have e2 := hcb (s.heap.objs.size + 1)
    have S2 : Sat X (cb (s.heap.objs.size + 1) ++ Λ) { s with heap := h₁, toks := tk } := by
      rw [← e2]
      refine Sat.app S1 (fun c hc => ?_) (fun c hc => ?_) (fun c hc d hd => ?_) (nodup_of_apart (fun _ => rfl) hap)
      · obtain ⟨p, hp, rfl⟩ := List.mem_map.mp hc
        have := x.cell p.1 p.2 (by rw [cells]; exact (key p hp).2)
        obtain ⟨o, ho, e⟩ := this
        exact ⟨o, ho, e⟩
      · obtain ⟨p, hp, rfl⟩ := List.mem_map.mp hc
        exact none_of _ (Nat.le_of_lt (key p hp).1)
      · obtain ⟨p, hp, rfl⟩ := List.mem_map.mp hd
        exact fun e => absurd (hs.lt hc) (Nat.not_lt.mpr (Nat.le_of_lt (e ▸ (key p hp).1)))
    refine S2.more (of_nsw x.toInCall.ns hlb) (none_of _ (Nat.le_refl _)) fun c hc e => ?_
    rcases List.mem_append.mp hc with hc | hc
    · rw [← e2] at hc
      obtain ⟨p, hp, rfl⟩ := List.mem_map.mp hc
      exact absurd e (Nat.ne_of_gt (key p hp).1)
    · exact absurd e (Nat.ne_of_lt (hs.lt hc))
end
section
open PySem PySem.W PyProof.Rows PySem.Calls
variable {w : World} {A : Around} {X : Amb} {Λ Λ' : List Cell} {env : Env}
theorem EvC.mono {c : Code} {R R' : Flow → List Cell → Prop} (h : EvC w X A Λ c R) (k : ∀ f Λ', R f Λ' → R' f Λ') : EvC w X A Λ c R' := fun s hs =>
  codeAny_mono (h s hs) fun r s' hr => by
    cases r with
    | ok f => exact let ⟨Λ', a, b⟩ := hr; ⟨Λ', a, k f Λ' b⟩
    | error e => exact hr.elim
/-- the tests of a comprehension -/
noncomputable def tests (ifs : List Expr) (env : Env) : Sem Bool := forIn ifs true fun c r => if r = true then do let ok ← isTrue c env (eval c env); pure (ForInStep.yield ok) else pure (ForInStep.yield r)
theorem Ev.tests0 {Q : Bool → List Cell → Prop} (h : Q true Λ) : Ev w X A Λ (tests [] env) Q := fun s hs => wpAny_tests_nil ⟨Λ, hs, h⟩
theorem Ev.tests1 {c : Expr} {Q : Bool → List Cell → Prop} (h : Ev w X A Λ (isTrue c env (eval c env)) Q) : Ev w X A Λ (tests [c] env) Q := fun s hs => wpAny_tests_one (h s hs)
theorem EvC.cturn {elt target iter : Expr} {ifs : List Expr} {scope : Scope} {pos : Pos} {it acc : Value} {R : Flow → List Cell → Prop}
    (h : Ev w X A Λ (pyNext it) fun r Λ₁ => match r with
      | none => R .next Λ₁
      | some v => Ev w X A Λ₁ (assign target env v) fun _ Λ₂ => Ev w X A Λ₂ (tests ifs env) fun ok Λ₃ =>
          (ok = true → Ev w X A Λ₃ (eval elt env) fun x Λ₄ => Ev w X A Λ₄ (call (.builtin "list.append") [acc, x]) fun _ Λ₅ => EvC w X A Λ₅ (.compLoop (.ListComp elt [⟨target, iter, ifs, 0⟩] scope pos) 0 it acc env) R) ∧
          (ok = false → EvC w X A Λ₃ (.compLoop (.ListComp elt [⟨target, iter, ifs, 0⟩] scope pos) 0 it acc env) R))
    (ht : ∀ v, letOwnedTupleGo target it v = Pure.pure () := by intro _; rfl) : EvC w X A Λ (.compLoop (.ListComp elt [⟨target, iter, ifs, 0⟩] scope pos) 0 it acc env) R := fun s hs => by
  refine codeAny_of_tree ?_
  rw [under_same rfl rfl]
  show wpAny _ A ((compTurn (.ListComp elt [⟨target, iter, ifs, 0⟩] scope pos) 0 it acc env).onRaise (fun x => do noteFrame x env; theTreesLotGoes x)) _ _ s
  refine wpAny_noted ?_
  rw [compTurn_list]
  refine wpAny_bind (wpAny_standAt (wpAny_bind (h.useB hs fun r s₁ Λ₁ h₁ q => ?_)))
  cases r with
  | none => exact wpAny_pure ⟨Λ₁, h₁, q⟩
  | some v =>
    refine wpAny_bind (wpAny_of_eq (ht v) ?_)
    refine wpAny_bind (Ev.useB q h₁ fun _ s₂ Λ₂ h₂ q => wpAny_bind (Ev.useB q h₂ fun ok s₃ Λ₃ h₃ q => ?_))
    cases ok with
    | false => exact wpAny_pure ⟨rfl, q.2 rfl s₃ h₃⟩
    | true => exact wpAny_bind (wpAny_bind ((q.1 rfl).useB h₃ fun x s₄ Λ₄ h₄ q => wpAny_bind (q.useB h₄ fun _ s₅ Λ₅ h₅ q => wpAny_pure (wpAny_pure ⟨rfl, q s₅ h₅⟩))))
theorem EvC.cstart {elt target iter : Expr} {ifs : List Expr} {scope : Scope} {pos : Pos} {it acc : Value} {R : Flow → List Cell → Prop}
    (h : EvC w X A Λ (.compLoop (.ListComp elt [⟨target, iter, ifs, 0⟩] scope pos) 0 it acc env) R)
    (hi : Ev w X A Λ (pyIter it) fun v Λ' => v = it ∧ Λ' = Λ) : EvC w X A Λ (.compStart (.ListComp elt [⟨target, iter, ifs, 0⟩] scope pos) 0 it acc env) R := fun s hs =>
  codeAny_compStart_list (h s hs) (hi.useB hs fun v s' Λ' h' q => by obtain ⟨rfl, rfl⟩ := q; exact h s' h')
/-- what an iterator hands out -/
structure Src (w : World) (A : Around) (X : Amb) (Λ₀ : List Cell) (it : Addr) (src : Nat → Cell) (n : Nat) (P : Nat → Value → Prop) : Prop where
  item : ∀ Λ i, Λ₀ ⊆ Λ → i < n → Ev w X A (src i :: Λ) (pyNext (.ref it)) fun r Λ' => ∃ v, r = some v ∧ P i v ∧ Λ' = src (i + 1) :: Λ
  done : ∀ Λ, Λ₀ ⊆ Λ → Ev w X A (src n :: Λ) (pyNext (.ref it)) fun r Λ' => r = none ∧ Λ' = Λ
  self : ∀ Λ, Ev w X A (src 0 :: Λ) (pyIter (.ref it)) fun v Λ' => v = .ref it ∧ Λ' = src 0 :: Λ
theorem Src.range {k n : Nat} {it : Addr} {a : Int} (R : Rm A k) : Src w A X Λ it (fun i => rit it (a + i) (n - i) 1) n fun i v => ∃ t, v = .int (a + i) t where
  item := fun Λ i _ hi => by
    refine Ev.nextRange .head (by omega) fun t => ⟨_, rfl, ⟨t, rfl⟩, ?_⟩
    rw [show (a : Int) + ((i + 1 : Nat) : Int) = a + i + 1 by omega, show (n : Int) - ((i + 1 : Nat) : Int) = n - i - 1 by omega]
  done := fun Λ _ => Ev.endRange R .head (by omega) ⟨rfl, rfl⟩
  self := fun Λ s hs => by
    obtain ⟨o, ho, rfl⟩ := hs.own _ (.head _)
    exact wpAny_pyIter_rangeiter ho ⟨_, hs, rfl, rfl⟩
theorem Src.list {k n : Nat} {it l : Addr} {P : Obj → Prop} {PV : Nat → Value → Prop} (R : Rm A k) (hl : Has X Λ l P) (hP : ∀ o, P o → ∃ vs m, o = { cls := .type "list", data := .seq vs m } ∧ vs.size = n ∧ ∀ j v, vs[j]? = some v → PV j v) : Src w A X Λ it (fun i => lit it l i) n PV where
  item := fun Λ' i hk hi s hs => by
    obtain ⟨o, ho, p⟩ := Has.at (hl.elim (fun h => Or.inl (List.Mem.tail _ (hk h))) Or.inr : Has X (lit it l i :: Λ') l P) hs
    obtain ⟨vs, m, rfl, rfl, hv⟩ := hP o p
    exact wpAny_pyNext_list_item (x := vs[i]) (hs.own _ (.head _)) ⟨_, ho, rfl, m, rfl⟩ (Array.getElem?_eq_getElem hi) fun h' hit hsb => ⟨lit it l (i + 1) :: Λ', hs.put (s' := ⟨h', s.gens, s.drawn, s.toks, s.os⟩) .head hsb.extBut hit hs.gp rfl rfl, vs[i], rfl, hv _ _ (Array.getElem?_eq_getElem hi), rfl⟩
  done := fun Λ' hk s hs => by
    obtain ⟨o, ho, p⟩ := Has.at (hl.elim (fun h => Or.inl (List.Mem.tail _ (hk h))) Or.inr : Has X (lit it l n :: Λ') l P) hs
    obtain ⟨vs, m, rfl, rfl, hv⟩ := hP o p
    exact wpAny_pyNext_list_end R.hd (hs.own _ (.head _)) ⟨_, ho, rfl, m, rfl⟩ (Array.getElem?_eq_none (Nat.le_refl _)) fun h' hsb => ⟨Λ', hs.cut (s' := ⟨h', s.gens, s.drawn, s.toks, s.os⟩) .head hsb hs.gp rfl rfl, rfl, rfl⟩
  self := fun Λ s hs => wpAny_pyIter_listiter (hs.own _ (.head _)) ⟨_, hs, rfl, rfl⟩
/-- what a comprehension gathers -/
inductive Coll (T : Nat → Bool) (G : Nat → Value → List Cell → Prop) : Nat → List Value → List Cell → Prop
  | nil : Coll T G 0 [] []
  | skip {i ys cs} : T i = false → Coll T G i ys cs → Coll T G (i + 1) ys cs
  | take {i ys cs y c} : T i = true → G i y c → Coll T G i ys cs → Coll T G (i + 1) (ys ++ [y]) (c ++ cs)
theorem Coll.len {T G n ys cs} (h : Coll T G n ys cs) : ys.length ≤ n := by
  induction h with
  | nil => exact Nat.le_refl _
  | skip _ _ ih => exact Nat.le_succ_of_le ih
  | take _ _ _ ih => rw [List.length_append]; exact Nat.succ_le_succ ih
/-- where the name of a comprehension lies -/
structure Tgt (w : World) (A : Around) (cenv : Env) (x : Str) (C : Addr) (K : Option Value → List Cell) : Prop where
  st : ∀ X Λ u v, Ev w X A (K u ++ Λ) (storeName cenv x v) fun _ Λ' => Λ' = K (some v) ++ Λ
  cut : ∀ u, ∃ l r, K u = nsc C l :: r
theorem Tgt.local {cenv : Env} {x : Str} (hx : cenv.kindOf x = some .local := by rfl) (hp : (cenv.scope.kind == .class || (cenv.scope.kind == .module && cenv.locals != cenv.globals)) = false := by rfl) :
    Tgt w A cenv x cenv.locals fun u => [nsc cenv.locals (match u with | some v => [(x, v)] | none => [])] where
  st := fun X Λ u v s hs => by
    obtain ⟨m, hm, q⟩ := nsw_of (hs.own _ (.head _))
    refine wpAny_storeName_local hx hm (fun h' hn hs' => ⟨_, hs.put (s' := ⟨h', s.gens, s.drawn, s.toks + 1, s.os⟩) .head hs'.extBut (P' := NsW [(x, v)]) (of_nsw hn fun y u hy => ?_) hs.gp rfl rfl, rfl⟩) hp
    unfold al at hy
    rw [List.lookup_cons] at hy
    cases e : y == x with
    | true => rw [e] at hy; cases hy; rw [if_pos (eq_of_beq e)]
    | false => rw [e] at hy; cases hy
  cut := fun u => ⟨_, _, rfl⟩
theorem Tgt.cell {cenv : Env} {x : Str} {c : Addr} (hc : cenv.cells.lookup x = some c := by rfl) (hx : cenv.kindOf x = some .cell := by rfl) (hk : cenv.scope.kind = .function := by rfl) :
    Tgt w A cenv x cenv.locals fun u => [nsc cenv.locals [], cel c u] where
  st := fun X Λ u v => Ev.storeC (.tail .head) rfl hc hk hx
  cut := fun u => ⟨_, _, rfl⟩
theorem EvC.comp {elt iter : Expr} {x : Str} {px : Pos} {ifs : List Expr} {scope : Scope} {pos : Pos} {it D C : Addr} {n : Nat} {src : Nat → Cell} {P : Nat → Value → Prop} {K : Option Value → List Cell} {R : Flow → List Cell → Prop}
    (T : Nat → Bool) (G : Nat → Value → List Cell → Prop) (S : Src w A X Λ it src n P) (Kt : Tgt w A env x C K) (hn : n ≤ sizeLine)
    (ht : ∀ hb i v, (∀ b o, X.hb.get? b = some o → hb.get? b = some o) → (∀ c ∈ K (some v), c.at hb) → (∀ c ∈ Λ, c.at hb) → i < n → P i v → Ev w ⟨hb, X.gp, X.d, X.os⟩ A [] (tests ifs env) fun ok _ => ok = T i)
    (he : ∀ hb i v, (∀ b o, X.hb.get? b = some o → hb.get? b = some o) → (∀ c ∈ K (some v), c.at hb) → (∀ c ∈ Λ, c.at hb) → i < n → P i v → T i = true → Ev w ⟨hb, X.gp, X.d, X.os⟩ A [] (eval elt env) fun y Λ' => G i y Λ')
    (h : ∀ ys cs u, Coll T G n ys cs → R .next (K u ++ (lst D ys :: (cs ++ Λ)))) :
    EvC w X A (src 0 :: (K none ++ (lst D [] :: Λ))) (.compStart (.ListComp elt [⟨.Name x px, iter, ifs, 0⟩] scope pos) 0 (.ref it) (.ref D) env) R := by
  have go : ∀ m i u ys cs, i + m = n → Coll T G i ys cs → EvC w X A (src i :: (K u ++ (lst D ys :: (cs ++ Λ)))) (.compLoop (.ListComp elt [⟨.Name x px, iter, ifs, 0⟩] scope pos) 0 (.ref it) (.ref D) env) R := by
    intro m
    induction m with
    | zero =>
      intro i u ys cs e hC
      obtain rfl : i = n := by omega
      refine EvC.cturn ((S.done _ fun c h => List.mem_append_right _ (.tail _ (List.mem_append_right _ h))).mono fun r Λ' q => ?_)
      obtain ⟨rfl, rfl⟩ := q
      exact h ys cs u hC
    | succ m ih =>
      intro i u ys cs e hC
      refine EvC.cturn ((S.item _ i (fun c h => List.mem_append_right _ (.tail _ (List.mem_append_right _ h))) (by omega)).mono fun r Λ' q => ?_)
      obtain ⟨v, rfl, hP, rfl⟩ := q
      refine Ev.assignN ?_
      refine Ev.perm (Λ' := K u ++ (src (i + 1) :: lst D ys :: (cs ++ Λ))) List.perm_middle ?_
      refine (Kt.st X _ u v).mono fun _ Λ' q => ?_
      subst q
      have sub : ∀ (hb : Heap), (∀ c ∈ K (some v) ++ (src (i + 1) :: lst D ys :: (cs ++ Λ)), c.at hb) → (∀ c ∈ K (some v), c.at hb) ∧ (∀ c ∈ Λ, c.at hb) := fun hb hc =>
        ⟨fun c h => hc c (List.mem_append_left _ h), fun c h => hc c (List.mem_append_right _ (.tail _ (.tail _ (List.mem_append_right _ h))))⟩
      refine Ev.base fun hb hk hc => ((ht hb i v hk (sub hb hc).1 (sub hb hc).2 (by omega) hP).trim (Q := fun ok Λ' => Λ' = [] ∧ ok = T i) fun ok Λ' q => ⟨[], List.nil_sublist _, rfl, q⟩).mono fun ok Λ' q => ?_
      obtain ⟨rfl, rfl⟩ := q
      refine ⟨fun hT => ?_, fun hT => ?_⟩
      · refine Ev.base fun hb hk hc => (he hb i v hk (sub hb hc).1 (sub hb hc).2 (by omega) hP hT).mono fun y Λy q => ?_
        have pm : (Λy ++ (K (some v) ++ (src (i + 1) :: lst D (ys) :: (cs ++ Λ)))).Perm (lst D ys :: (src (i + 1) :: (K (some v) ++ ((Λy ++ cs) ++ Λ)))) := by
          have h1 : (K (some v) ++ (src (i + 1) :: lst D ys :: (cs ++ Λ))).Perm (lst D ys :: src (i + 1) :: (K (some v) ++ (cs ++ Λ))) :=
            (List.perm_middle.trans ((List.perm_middle).cons _)).trans (.swap _ _ _)
          refine ((List.Perm.append_left Λy h1).trans (List.perm_middle.trans (List.Perm.cons _ (List.perm_middle.trans (List.Perm.cons _ ?_)))))
          rw [List.append_assoc]
          rw [← List.append_assoc, ← List.append_assoc (K (some v))]
          exact List.Perm.append_right _ List.perm_append_comm
        refine Ev.perm pm.symm ?_
        refine Ev.append .head (by have := hC.len; omega) ?_
        have := ih (i + 1) (some v) (ys ++ [y]) (Λy ++ cs) (by omega) (.take hT q hC)
        refine EvC.perm ?_ this
        exact (List.Perm.cons _ List.perm_middle).trans (.swap _ _ _)
      · have := ih (i + 1) (some v) ys cs (by omega) (.skip hT hC)
        exact EvC.perm List.perm_middle.symm this
  exact EvC.cstart (go n 0 none [] [] (by omega) .nil) (S.self _)
theorem cellsFrom_app : ∀ (names : List (Str × NameKind)) (n : Nat) (acc : List (Str × Addr)), cellsFrom n names acc = cellsFrom n names [] ++ acc
  | [], _, _ => rfl
  | (x, k) :: r, n, acc => by
    unfold cellsFrom
    split
    · rw [cellsFrom_app r (n + 1) ((x, n) :: acc), cellsFrom_app r (n + 1) [(x, n)], List.append_assoc]; rfl
    · exact cellsFrom_app r n acc
/-- the names of a comprehension are laid -/
theorem Ev.newEnvC {scope : Scope} {cl : List (Str × Addr)} {g : Addr} {q : Str} {Q : Env → List Cell → Prop}
    (h : ∀ C, Q (newEnv scope C g (cellsFrom (C + 1) scope.names [] ++ cl) q none .none (some env) builtinsNs) (nsc C [] :: ((cellsFrom (C + 1) scope.names []).map (fun p => cel p.2 none) ++ Λ))) : Ev w X A Λ (newFunctionEnv scope g cl [] q none .none (some env)) Q := fun s hs => by
  simp only [newFunctionEnv, Option.isSome_some, if_true]
  refine wpAny_bind (wpAny_alloc ?_)
  refine wpAny_bind (wpAny_layCells _ (fun name kind cells => by cases hkc : kind == NameKind.cell <;> simp [hkc]) _ _ _ _ ?_)
  have ok := cellsFrom_ok scope.names (s.heap.push { cls := .type "dict", data := .dict #[] }) (s.heap.objs.size + 1) [] ⟨fun _ _ hm => (nomatch hm), List.Pairwise.nil⟩ (by rw [Heap.size_push]; exact Nat.le_refl _)
  rw [Heap.size_push] at ok
  rw [show ({ s with heap := s.heap.push { cls := .type "dict", data := .dict #[] } } : Shared).heap.objs.size = s.heap.objs.size + 1 from Heap.size_push ..]
  rw [cellsFrom_app]
  rw [List.forIn_nil]
  refine wpAny_bind (wpAny_pure (wpAny_pure ⟨_, ?_, h s.heap.objs.size⟩))
  have none_of : ∀ b, s.heap.objs.size ≤ b → X.hb.get? b = none := fun b hb => hs.hb_none (by
    cases e : s.heap.get? b with
    | none => rfl
    | some o => exact absurd (Heap.lt_size e) (Nat.not_lt.mpr hb))
  have S1 : Sat X Λ { s with heap := pushCells (s.heap.push { cls := .type "dict", data := .dict #[] }) scope.names } :=
    hs.ext (s' := { s with heap := pushCells (s.heap.push { cls := .type "dict", data := .dict #[] }) scope.names }) (fun b o e => pushCells_keeps _ _ b o (Heap.get?_push_of_some _ e)) hs.gp rfl rfl
  have S2 : Sat X ((cellsFrom (s.heap.objs.size + 1) scope.names []).map (fun p => cel p.2 none) ++ Λ) { s with heap := pushCells (s.heap.push { cls := .type "dict", data := .dict #[] }) scope.names } := by
    refine Sat.app S1 (fun c hc => ?_) (fun c hc => ?_) (fun c hc d hd => ?_) (nodup_of_apart (fun _ => rfl) ok.apart)
    · obtain ⟨p, hp, rfl⟩ := List.mem_map.mp hc
      obtain ⟨o, ho, e⟩ := (ok.empty p.1 p.2 hp).1
      exact ⟨o, ho, e⟩
    · obtain ⟨p, hp, rfl⟩ := List.mem_map.mp hc
      exact none_of _ (Nat.le_of_succ_le (ok.empty p.1 p.2 hp).2)
    · obtain ⟨p, hp, rfl⟩ := List.mem_map.mp hd
      exact fun e => absurd (hs.lt hc) (Nat.not_lt.mpr (Nat.le_of_succ_le (e ▸ (ok.empty p.1 p.2 hp).2)))
  refine S2.more (of_nsw ((Heap.Ns.new s.heap (.type "dict")).keeps (pushCells_keeps _ _)) fun x v e => (nomatch e)) (none_of _ (Nat.le_refl _)) fun c hc e => ?_
  rcases List.mem_append.mp hc with hc | hc
  · obtain ⟨p, hp, rfl⟩ := List.mem_map.mp hc
    exact absurd e (Nat.ne_of_gt (ok.empty p.1 p.2 hp).2)
  · exact absurd e (Nat.ne_of_lt (hs.lt hc))
theorem Ev.newList {Q : Value → List Cell → Prop} (h : ∀ D, Q (.ref D) (lst D [] :: Λ)) : Ev w X A Λ (newList []) Q := fun s hs =>
  wpAny_newObj_type ⟨_, hs.push (P := (lst s.heap.objs.size []).P) rfl ⟨0, rfl⟩, h _⟩ (by size_fits)
theorem Ev.compE {elt iter : Expr} {x : Str} {px : Pos} {ifs : List Expr} {scope : Scope} {cl : List (Str × Addr)} {pos : Pos} {Q : Value → List Cell → Prop}
    (hclos : closureFor scope env = Pure.pure cl) (hnames : scope.names.all (fun y => y.2 != .local || scope.names.lookup y.1 == some .local) = true)
    (h : Ev w X A Λ (eval iter env) fun xv Λ₁ => Ev w X A Λ₁ (pyIter xv) fun it Λ₂ => ∀ D C, EvC w X A (nsc C [] :: ((cellsFrom (C + 1) scope.names []).map (fun p => cel p.2 none) ++ (lst D [] :: Λ₂)))
      (.compStart (.ListComp elt [⟨.Name x px, iter, ifs, 0⟩] scope pos) 0 it (.ref D) (compEnvC scope (cellsFrom (C + 1) scope.names [] ++ cl) C env)) fun f Λ₃ => ∃ l Λ₄, Cut (nsc C l) Λ₃ Λ₄ ∧ Q (.ref D) Λ₄)
    (hkind : scope.kind = .function := by rfl) (hs : ∀ x, foldedSetIterable iter env x = Pure.pure x := by intro _; rfl) : Ev w X A Λ (eval (.ListComp elt [⟨.Name x px, iter, ifs, 0⟩] scope pos) env) Q := fun s hs' => by
  rw [eval_ListComp]
  refine wpAny_comprehension_free (use := none) rfl hs hclos hkind (fun y hy e => by have := List.all_eq_true.mp hnames y hy; rw [e] at this; simpa using this) (h.useB hs' fun xv s₁ Λ₁ h₁ q => q.useB h₁ fun it s₂ Λ₂ h₂ q => ?_)
  refine Ev.useB (Ev.newList (Q := fun v Λ' => ∃ D, v = .ref D ∧ Λ' = lst D [] :: Λ₂) fun D => ⟨D, rfl, rfl⟩) h₂ fun v s₃ Λ₃ h₃ e => ?_
  obtain ⟨D, rfl, rfl⟩ := e
  refine Ev.useB (Ev.newEnvC (env := env) (scope := scope) (cl := cl) (g := env.globals) (q := env.qual) (Q := fun e Λ' => ∃ C, e = newEnv scope C env.globals (cellsFrom (C + 1) scope.names [] ++ cl) env.qual none .none (some env) builtinsNs ∧ Λ' = nsc C [] :: ((cellsFrom (C + 1) scope.names []).map (fun p => cel p.2 none) ++ (lst D [] :: Λ₂))) fun C => ⟨C, rfl, rfl⟩) h₃ fun ce s₄ Λ₄ h₄ e => ?_
  obtain ⟨C, rfl, rfl⟩ := e
  refine codeAny_mono (q D C s₄ h₄) fun r s' hr => ?_
  cases r with
  | error e => exact hr.elim
  | ok f =>
    obtain ⟨Λ₅, h₅, l, Λ₆, U, q⟩ := hr
    obtain ⟨m, hm, -⟩ := nsw_of (h₅.own _ U.mem)
    exact ⟨m, hm, fun h' hs'' => ⟨Λ₆, h₅.cut (s' := { s' with heap := h' }) U hs''.extBut h₅.gp rfl rfl, q⟩⟩
theorem Ev.compA {elt iter : Expr} {x y : Str} {px py : Pos} {ifs : List Expr} {scope : Scope} {cl : List (Str × Addr)} {pos spos : Pos} {Q : Flow → List Cell → Prop}
    (hclos : closureFor scope env = Pure.pure cl) (hnames : scope.names.all (fun y => y.2 != .local || scope.names.lookup y.1 == some .local) = true)
    (h : Ev w X A Λ (eval iter env) fun xv Λ₁ => Ev w X A Λ₁ (pyIter xv) fun it Λ₂ => ∀ D C, EvC w X A (nsc C [] :: ((cellsFrom (C + 1) scope.names []).map (fun p => cel p.2 none) ++ (lst D [] :: Λ₂)))
      (.compStart (.ListComp elt [⟨.Name x px, iter, ifs, 0⟩] scope pos) 0 it (.ref D) (compEnvC scope (cellsFrom (C + 1) scope.names [] ++ cl) C env)) fun f Λ₃ => Ev w X A Λ₃ (storeName env y (.ref D)) fun _ Λ₃ => ∃ l Λ₄, Cut (nsc C l) Λ₃ Λ₄ ∧ Q .next Λ₄)
    (hsw : swapsWith (.ListComp elt [⟨.Name x px, iter, ifs, 0⟩] scope pos) (some (.Name y py)) spos.line env = Pure.pure true := by rfl)
    (hkind : scope.kind = .function := by rfl) (hs : ∀ x, foldedSetIterable iter env x = Pure.pure x := by intro _; rfl) : Ev w X A Λ (exec (.Assign [.Name y py] (.ListComp elt [⟨.Name x px, iter, ifs, 0⟩] scope pos) spos) env) Q := fun s hs' => by
  rw [exec_Assign_Name_used _ _ _ _ hsw]
  refine wpAny_bind (wpAny_standAt (wpAny_bind ?_))
  show wpAny _ A (do let _ ← comprehension (.ListComp elt [⟨.Name x px, iter, ifs, 0⟩] scope pos) scope env _ (PySem.newList []) false (eval iter env) (some (assign (.Name y py) env))) _ _ s
  refine wpAny_bind (wpAny_mono (wpAny_comprehension_free (use := some (assign (.Name y py) env)) (Q := fun _ s' => ∃ Λ', Sat X Λ' s' ∧ Q .next Λ') rfl hs hclos hkind (fun y hy e => by have := List.all_eq_true.mp hnames y hy; rw [e] at this; simpa using this) (h.useB hs' fun xv s₁ Λ₁ h₁ q => q.useB h₁ fun it s₂ Λ₂ h₂ q => ?_)) (fun _ s' hq => wpAny_pure (wpAny_pure hq)) fun _ _ e => e)
  refine Ev.useB (Ev.newList (Q := fun v Λ' => ∃ D, v = .ref D ∧ Λ' = lst D [] :: Λ₂) fun D => ⟨D, rfl, rfl⟩) h₂ fun v s₃ Λ₃ h₃ e => ?_
  obtain ⟨D, rfl, rfl⟩ := e
  refine Ev.useB (Ev.newEnvC (env := env) (scope := scope) (cl := cl) (g := env.globals) (q := env.qual) (Q := fun e Λ' => ∃ C, e = newEnv scope C env.globals (cellsFrom (C + 1) scope.names [] ++ cl) env.qual none .none (some env) builtinsNs ∧ Λ' = nsc C [] :: ((cellsFrom (C + 1) scope.names []).map (fun p => cel p.2 none) ++ (lst D [] :: Λ₂))) fun C => ⟨C, rfl, rfl⟩) h₃ fun ce s₄ Λ₄ h₄ e => ?_
  obtain ⟨C, rfl, rfl⟩ := e
  refine codeAny_mono (q D C s₄ h₄) fun r s' hr => ?_
  cases r with
  | error e => exact hr.elim
  | ok f =>
    obtain ⟨Λ₅, h₅, q⟩ := hr
    refine (Ev.assignN q).useB h₅ fun _ s'' Λ₅ h₅ q => ?_
    obtain ⟨l, Λ₆, U, q⟩ := q
    obtain ⟨m, hm, -⟩ := nsw_of (h₅.own _ U.mem)
    exact ⟨m, hm, fun h' hs'' => ⟨Λ₆, h₅.cut (s' := { s'' with heap := h' }) U hs''.extBut h₅.gp rfl rfl, q⟩⟩
end
section
open PySem PySem.W PyProof.Rows PySem.Calls
/-- a text of these signs -/
noncomputable def tx (l : List Nat) : Str := ⟨l.toArray⟩
theorem tx_len (l : List Nat) : (tx l).length = l.length := by simp [tx, Str.length]
theorem tx_list (l : List Nat) : (tx l).cps.toList = l := rfl
theorem tx_app (a b : List Nat) : tx a ++ tx b = tx (a ++ b) := Str.ext' (by simp [tx, Str.cps_append])
theorem tx_one (i : Nat) : (⟨#[i]⟩ : Str) = tx [i] := rfl
theorem tx_inj {a b : List Nat} : tx a = tx b ↔ a = b := ⟨fun h => by have := congrArg (fun s : Str => s.cps.toList) h; exact this, fun h => h ▸ rfl⟩
theorem tx_beq (a b : List Nat) : (tx a == tx b) = (a == b) := by
  rw [Bool.eq_iff_iff, beq_iff_eq, beq_iff_eq]; exact tx_inj
theorem clip_hi (l : Option Int) (b n : Nat) : Builtin.Str.strSliceIndices l (some (b : Int)) 1 n = Builtin.Str.strSliceIndices l (some ((min b n : Nat) : Int)) 1 n := by
  have a : ¬ ((b : Int) < 0) := by omega
  have c : ¬ (((min b n : Nat) : Int) < 0) := by omega
  have e : max (0 : Int) (min (b : Int) (n : Int)) = max 0 (min ((min b n : Nat) : Int) (n : Int)) := by omega
  simp only [Builtin.Str.strSliceIndices, if_neg a, if_neg c, e, show (1 : Int) > 0 by decide, if_true]
theorem clip_lo (u : Option Int) (b n : Nat) : Builtin.Str.strSliceIndices (some (b : Int)) u 1 n = Builtin.Str.strSliceIndices (some ((min b n : Nat) : Int)) u 1 n := by
  have a : ¬ ((b : Int) < 0) := by omega
  have c : ¬ (((min b n : Nat) : Int) < 0) := by omega
  have e : max (0 : Int) (min (b : Int) (n : Int)) = max 0 (min ((min b n : Nat) : Int) (n : Int)) := by omega
  simp only [Builtin.Str.strSliceIndices, if_neg a, if_neg c, e, show (1 : Int) > 0 by decide, if_true]
theorem slice_none {a b n : Nat} (h : b ≤ a) (hb : b ≤ n) (ha : a ≤ n) : Builtin.Str.strSliceIndices (some (a : Int)) (some (b : Int)) 1 n = [] := by
  have h1 : ¬ ((a : Int) < 0) := by omega
  have h2 : ¬ ((b : Int) < 0) := by omega
  have e1 : max (0 : Int) (min (a : Int) (n : Int)) = a := by omega
  have e2 : max (0 : Int) (min (b : Int) (n : Int)) = b := by omega
  have h3 : ¬ ((a : Int) < b) := by omega
  simp [Builtin.Str.strSliceIndices, sliceRange, h1, h2, e1, e2, h3]
theorem sliceT_eq (x : Str) (l u : Option Int) : Txt.slice x l u = StrLaws.sliceText x l u := rfl
theorem slice_ab (l : List Nat) (a b : Nat) : Txt.slice (tx l) (some (a : Int)) (some (b : Int)) = tx ((l.drop a).take (b - a)) := by
  rw [sliceT_eq]
  unfold StrLaws.sliceText
  rw [clip_lo, clip_hi]
  by_cases h : min a (tx l).length ≤ min b (tx l).length
  · have := StrLaws.sliceText_nat (tx l) h (Nat.min_le_right _ _)
    unfold StrLaws.sliceText at this
    rw [this, tx_list]
    show tx _ = tx _
    rw [tx_inj, tx_len]
    by_cases ha : a ≤ l.length
    · rw [Nat.min_eq_left ha]
      by_cases hb : b ≤ l.length
      · rw [Nat.min_eq_left hb]
      · rw [Nat.min_eq_right (by omega), List.take_of_length_le (by simp), List.take_of_length_le (by simp; omega)]
    · rw [List.drop_of_length_le (by omega), List.drop_of_length_le (by omega)]; simp
  · have hba : min b (tx l).length ≤ min a (tx l).length := by omega
    rw [slice_none hba (Nat.min_le_right _ _) (Nat.min_le_right _ _)]
    have : b - a = 0 := by omega
    rw [this, List.take_zero]
    split
    · rename_i h0
      have : (tx l).length = 0 := by simp at h0; omega
      rw [tx_len] at this
      rw [List.length_eq_zero_iff.mp this]
    · rfl
theorem slice_b (l : List Nat) (b : Nat) : Txt.slice (tx l) none (some (b : Int)) = tx (l.take b) := by
  have : Txt.slice (tx l) none (some (b : Int)) = Txt.slice (tx l) (some ((0 : Nat) : Int)) (some (b : Int)) := by
    rw [sliceT_eq, sliceT_eq]; unfold StrLaws.sliceText; rw [StrLaws.sliceIdx_none_lo]; rfl
  rw [this, slice_ab]; rfl
theorem slice_a (l : List Nat) (a : Nat) : Txt.slice (tx l) (some (a : Int)) none = tx (l.drop a) := by
  have : Txt.slice (tx l) (some (a : Int)) none = Txt.slice (tx l) (some (a : Int)) (some ((l.length : Nat) : Int)) := by
    rw [sliceT_eq, sliceT_eq]; unfold StrLaws.sliceText; rw [StrLaws.sliceIdx_none_hi, tx_len]
  rw [this, slice_ab, tx_inj, List.take_of_length_le (by simp)]
/-! three dots -/
noncomputable def dots : List Nat := [46, 46, 46]
theorem dots_eq : ("..." : Str) = tx dots := by rfl
noncomputable def nodots (l : List Nat) : Prop := ∀ c ∈ l, c ≠ 46
theorem at_dots {l : List Nat} {i : Nat} (h : StrLaws.At (tx l) (tx dots) (tx l).length i) : l[i]? = some 46 ∧ l[i + 1]? = some 46 ∧ l[i + 2]? = some 46 := by
  obtain ⟨-, h⟩ := h
  rw [StrLaws.subAt_eq, beq_iff_eq, tx_list, tx_list, tx_len] at h
  have e : ∀ j, j < 3 → l[i + j]? = some 46 := fun j hj => by
    have h1 : ((l.drop i).take dots.length)[j]? = dots[j]? := by rw [h]
    rw [List.getElem?_take_of_lt (show j < dots.length from hj), List.getElem?_drop] at h1
    rw [h1]
    rcases j with _ | _ | _ | j
    · rfl
    · rfl
    · rfl
    · omega
  exact ⟨e 0 (by omega), e 1 (by omega), e 2 (by omega)⟩
theorem contains_no {l : List Nat} (h : nodots l) : Txt.contains (tx l) (tx dots) = false := by
  unfold Txt.contains
  rcases StrLaws.occ_head (tx l) (tx dots) 1 (Nat.le_refl 1) with ⟨e, -⟩ | ⟨i, r, e, ha, -⟩
  · rw [e]; rfl
  · exact absurd rfl (h 46 (List.mem_of_getElem? (at_dots ha).1))
theorem at_pq (p q : List Nat) : StrLaws.At (tx (p ++ (dots ++ q))) (tx dots) (tx (p ++ (dots ++ q))).length p.length := by
  refine ⟨by simp only [tx_len, List.length_append]; omega, ?_⟩
  rw [StrLaws.subAt_eq, beq_iff_eq, tx_list, tx_list, tx_len, List.drop_left, List.take_left]
theorem only_pq {p q : List Nat} (hp : nodots p) (hq : nodots q) {i : Nat} (h : StrLaws.At (tx (p ++ (dots ++ q))) (tx dots) (tx (p ++ (dots ++ q))).length i) : i = p.length := by
  obtain ⟨h0, h1, h2⟩ := at_dots h
  have np : ∀ j, p[j]? ≠ some 46 := fun j e => hp 46 (List.mem_of_getElem? e) rfl
  have nq : ∀ j, q[j]? ≠ some 46 := fun j e => hq 46 (List.mem_of_getElem? e) rfl
  have lp : ¬ i < p.length := fun hi => np i (by rwa [List.getElem?_append_left hi] at h0)
  have : ¬ i + 2 ≥ p.length + 3 := fun hi => by
    rw [List.getElem?_append_right (by omega), List.getElem?_append_right (show dots.length ≤ _ by show 3 ≤ _; omega)] at h2
    exact nq _ h2
  omega
theorem occ_pq {p q : List Nat} (hp : nodots p) (hq : nodots q) (n : Nat) (hn : 1 ≤ n) : Builtin.Str.occurrences (tx (p ++ (dots ++ q))) (tx dots) 0 (tx (p ++ (dots ++ q))).length n = [p.length] := by
  obtain ⟨f, hc⟩ := StrLaws.occ_chain (tx (p ++ (dots ++ q))) (tx dots) n
  rcases StrLaws.occ_head (tx (p ++ (dots ++ q))) (tx dots) n hn with ⟨e, no⟩ | ⟨i, r, e, ha, -⟩
  · exact absurd (at_pq p q) (no _)
  · rw [e] at hc ⊢
    have hi := only_pq hp hq ha
    subst hi
    cases r with
    | nil => rfl
    | cons c r =>
      obtain ⟨-, -, h1, h2, -⟩ := hc
      have := only_pq hp hq h2
      have h3 : (tx dots).length = 3 := rfl
      omega
theorem contains_pq {p q : List Nat} (hp : nodots p) (hq : nodots q) : Txt.contains (tx (p ++ (dots ++ q))) (tx dots) = true := by
  unfold Txt.contains; rw [occ_pq hp hq 1 (Nat.le_refl 1)]; rfl
theorem parts_pq (p q : List Nat) : Builtin.Str.partsBetween (tx (p ++ (dots ++ q))) [p.length] (tx dots).length = [tx p, tx q] := by
  rw [StrLaws.partsBetween_eq]
  show [Builtin.Str.strSub _ 0 p.length, Builtin.Str.strSub _ (p.length + 3) _] = _
  have e : ∀ a b, Builtin.Str.strSub (tx (p ++ (dots ++ q))) a b = tx (((p ++ (dots ++ q)).drop a).take (b - a)) := fun a b => StrLaws.mk_of_toList (StrLaws.strSub_toList _ _ _)
  rw [e, e, tx_len, List.drop_zero, Nat.sub_zero, List.take_left, ← List.drop_drop, List.drop_left, List.take_of_length_le (by simp [dots]; omega)]
  rfl
theorem split_pq {p q : List Nat} (hp : nodots p) (hq : nodots q) (h1 : (decide ((tx (p ++ (dots ++ q))).length < (tx dots).length) || decide (Builtin.Str.strKind (tx (p ++ (dots ++ q))) < Builtin.Str.strKind (tx dots))) = false) : Txt.split (tx (p ++ (dots ++ q))) (tx dots) = [tx p, tx q] := by
  unfold Txt.split
  rw [if_neg (by rw [h1]; decide), occ_pq hp hq _ (by omega), if_neg (by show ¬ (false = true); decide), parts_pq]
theorem kind_ok (p q : List Nat) : (decide ((tx (p ++ (dots ++ q))).length < (tx dots).length) || decide (Builtin.Str.strKind (tx (p ++ (dots ++ q))) < Builtin.Str.strKind (tx dots))) = false := by
  have a : ¬ (tx (p ++ (dots ++ q))).length < (tx dots).length := by rw [tx_len, tx_len, List.length_append, List.length_append]; omega
  have b : ¬ Builtin.Str.strKind (tx (p ++ (dots ++ q))) < Builtin.Str.strKind (tx dots) := by
    have : Builtin.Str.strKind (tx dots) = 1 := by decide +kernel
    rw [this]
    unfold Builtin.Str.strKind
    split
    · omega
    · split <;> omega
  rw [decide_eq_false a, decide_eq_false b]; rfl
theorem starts_tx (g p : List Nat) : Txt.startswith (tx g) (tx p) = (decide (p.length ≤ g.length) && g.take p.length == p) := by
  unfold Txt.startswith
  rw [StrLaws.subAt_eq, tx_len, tx_len, tx_list, tx_list, List.drop_zero, Nat.zero_add]
theorem ends_tx (g p : List Nat) : Txt.endswith (tx g) (tx p) = (decide (p.length ≤ g.length) && g.drop (g.length - p.length) == p) := by
  unfold Txt.endswith
  rw [StrLaws.subAt_eq, tx_len, tx_len, tx_list, tx_list, Nat.zero_add]
  by_cases h : p.length ≤ g.length
  · rw [List.take_of_length_le (by simp; omega)]
  · rw [decide_eq_false h]; rfl
end
section
open PySem PySem.W PyProof.Rows PySem.Calls
variable {w : World} {A : Around} {X : Amb} {Λ Λ' : List Cell} {env : Env}
section
variable {Q : Value → List Cell → Prop} {x y : Str} {t u : Tok}
theorem Ev.notinS (h : Q (.bool (!Txt.contains x y)) Λ) : Ev w X A Λ (compareOp .NotIn (.str y u) (.str x t)) Q := fun _ hs => P.notIn_str ⟨Λ, hs, h⟩
theorem Ev.addS (h : ∀ t, Q (.str (x ++ y) t) Λ) (hz : x.length + y.length ≤ sizeLine) : Ev w X A Λ (binaryOp .Add (.str x t) (.str y u)) Q := fun _ hs => SB.add (fun _ _ => ⟨Λ, hs.tok _, h _⟩) hz
theorem Ev.lenS (hz : (x.length : Int) < 2 ^ 63) (h : ∀ t, Q (.int x.length t) Λ) : Ev w X A Λ (call (.builtin "len") [.str x t]) Q := fun _ hs => P.len_str (by omega) ⟨Λ, hs.tok _, h _⟩
theorem Ev.chr {i : Int} (h0 : 0 ≤ i) (h1 : i ≤ 1114111) (h : ∀ t, Q (.str ⟨#[i.toNat]⟩ t) Λ) : Ev w X A Λ (call (.builtin "chr") [.int i t]) Q := fun _ hs => chr_of_range h0 h1 ⟨Λ, hs.tok _, h _⟩
theorem Ev.ord (h1 : x.length = 1) (h : ∀ t, Q (.int (x.cps.getD 0 0 : Nat) t) Λ) : Ev w X A Λ (call (.builtin "ord") [.str x t]) Q := fun _ hs => ord_of_one h1 ⟨Λ, hs.tok _, h _⟩
theorem Ev.truS {Q : Bool → List Cell → Prop} (hz : (x.length : Int) < 2 ^ 63) (h : Q ((x.length : Int) != 0) Λ) : Ev w X A Λ (truthy (.str x t)) Q := fun _ hs => P.truthy_str (by omega) ⟨Λ, hs.tok _, h⟩
theorem Ev.startsS (h : Q (.bool (Txt.startswith x y)) Λ) : Ev w X A Λ (call (.builtin "str.startswith") [.str x t, .str y u]) Q := fun _ hs => call_gives F.slot_str_startswith (typeIs_str _ _ _) F.entry_str_startswith (F.args_str_startswith_2 _ _) (gives_str_startswith x y t u) ⟨Λ, hs, h⟩
theorem Ev.endsS (h : Q (.bool (Txt.endswith x y)) Λ) : Ev w X A Λ (call (.builtin "str.endswith") [.str x t, .str y u]) Q := fun _ hs => call_gives F.slot_str_endswith (typeIs_str _ _ _) F.entry_str_endswith (F.args_str_endswith_2 _ _) (gives_str_endswith x y t u) ⟨Λ, hs, h⟩
theorem Ev.methS {o e : Expr} {rest : List Expr} {name : Str} {id : String} {apos pos : Pos} {pl : Sem Bool} (slot : Slot "str" name id) (hty : typeOf (.builtin id) = Pure.pure (.type "method_descriptor"))
    (h : Ev w X A Λ (eval o env) fun ov Λ₁ => ∃ x t, ov = .str x t ∧ Ev w X A Λ₁ (spliced (backTo pos (starEach (e :: rest) env))) fun vs Λ₂ => Ev w X A Λ₂ (call (.builtin id) (.str x t :: vs)) Q)
    (hp : (backTo pos (starEach rest env)).any (·.1) = false := by rfl) (hq : starEach (e :: rest) env = (false, eval e env) :: starEach rest env := by rfl)
    (he : eval (.Call (.Attribute o name apos) (e :: rest) [] pos) env = (do
      let ov ← eval o env
      standAt apos.atName
      let (f, first) ← holding [ov] (getMethod ov name pl)
      callWith pos f first (backTo pos (starEach (e :: rest) env)) []) := by rfl) : Ev w X A Λ (eval (.Call (.Attribute o name apos) (e :: rest) [] pos) env) Q := fun s hs => by
  refine MethodCall_ (h.useB hs fun ov s₁ Λ₁ h₁ q => ?_) he
  obtain ⟨x, t, rfl, q⟩ := q
  refine getMethod_builtin (typeIs_str _ _ _) F.plainAttrs_str slot hty (fun _ e => nomatch e) ?_
  rw [hq] at q ⊢
  refine callWith_builtin (by show (false || (backTo pos (starEach rest env)).any (·.1)) = false; rw [hp]; rfl) ?_
  exact evalArgs_plain (q.useB h₁ fun vs s₂ Λ₂ h₂ q => q s₂ h₂)
/-- a part of a text -/
theorem sliceMade_post {s : Shared} {x : Str} {t : Tok} (l u : Option (Int × Tok)) {R : Value → Shared → Prop} (hz : x.length ≤ sizeLine) (h : ∀ t' k, R (.str (Txt.slice x (l.map (·.1)) (u.map (·.1))) t') { s with toks := k }) : (sliceMade x t l u none).post R s := by
  have hz' : (Txt.slice x (l.map (·.1)) (u.map (·.1))).length ≤ sizeLine := Nat.le_trans (Txt.slice_le x _ _) hz
  unfold Txt.slice at hz' h
  exact post_val_or_str ⟨hz', h⟩
theorem Ev.sliceS {value : Expr} {lower upper : Option Expr} {p pos : Pos}
    (h : Ev w X A Λ (eval value env) fun o Λ₁ => Ev w X A Λ₁ (evalPart lower env) fun vl Λ₂ => Ev w X A Λ₂ (evalPart upper env) fun vu Λ₃ => ∃ x t l u, o = .str x t ∧ vl = partValue l ∧ vu = partValue u ∧ x.length ≤ sizeLine ∧ ∀ t, Q (.str (Txt.slice x (l.map (·.1)) (u.map (·.1))) t) Λ₃)
    (ht : ∀ o r, letTemporaryGo value o r = Pure.pure () := by intro _ _; rfl) : Ev w X A Λ (eval (.Subscript value (.Slice lower upper none p) pos) env) Q := fun s hs => by
  refine wpAny_Subscript_str_slice (h.useB hs fun o s₁ Λ₁ h₁ q => q.useB h₁ fun vl s₂ Λ₂ h₂ q => q.useB h₂ fun vu s₃ Λ₃ h₃ q => ?_) ht
  obtain ⟨x, t, l, u, rfl, rfl, rfl, hz, q⟩ := q
  have hs' : ∀ tk, Sat X Λ₃ { s₃ with heap := s₃.heap.push { cls := .type "slice", data := .fields #[partValue l, partValue u, .none] }, toks := tk } := fun tk => (h₃.ext (s' := { s₃ with heap := s₃.heap.push { cls := .type "slice", data := .fields #[partValue l, partValue u, .none] } }) (fun b o e => Heap.get?_push_of_some _ e) h₃.gp rfl rfl).tok tk
  exact ⟨x, t, l, u, rfl, rfl, rfl, sliceMade_post l u hz fun t' k => ⟨Λ₃, hs' k, q t'⟩⟩
theorem Ev.part0 (h : Q .none Λ) : Ev w X A Λ (evalPart none env) Q := fun s hs => by rw [evalPart_none]; exact wpAny_pure ⟨Λ, hs, h⟩
theorem Ev.part1 {e : Expr} (h : Ev w X A Λ (eval e env) Q) : Ev w X A Λ (evalPart (some e) env) Q := fun s hs => h s hs
/-- a text cut at another -/
theorem Ev.splitS {p q : List Nat} (hp : nodots p) (hq : nodots q) (hsz : p.length + q.length + 3 ≤ sizeLine)
    (h : ∀ D, Q (.ref D) (slst D [tx p, tx q] :: Λ)) : Ev w X A Λ (call (.builtin "str.split") [.str (tx (p ++ (dots ++ q))) t, .str (tx dots) u]) Q := fun s hs => by
  have ho := occ_pq hp hq ((tx (p ++ (dots ++ q))).length + 1) (by omega)
  refine call_meets F.slot_str_split (typeIs_str _ _ _) F.entry_str_split (F.args_str_split_2 _ _) (meets_str_split_sep (tx (p ++ (dots ++ q))) (tx dots) t u (kind_ok p q) rfl (by rw [ho]; rfl) (by rw [tx_len]; simp [dots]; omega) (by rw [ho, parts_pq]; show 2 ≤ _; decide)) ?_
  rw [ho, parts_pq]
  show wants _ _ (.ok (.ret (.ref s.heap.objs.size))) { s with toks := _, heap := s.heap.push { cls := .type "list", data := .seq (strsFrom s.toks [tx p, tx q]).toArray } }
  exact ⟨_, (hs.push (o := { cls := .type "list", data := .seq (strsFrom s.toks [tx p, tx q]).toArray }) (P := (slst s.heap.objs.size [tx p, tx q]).P) rfl ⟨strsFrom s.toks [tx p, tx q], 0, .cons _ _ (.cons _ _ .nil), rfl⟩).tok _, h _⟩
theorem occ_empty (x : Str) {lo hi : Nat} (h : lo ≤ hi) : ∃ r, Builtin.Str.occurrences x Str.empty lo hi 1 = lo :: r := by
  rw [StrLaws.occ_eq, show hi + 1 - lo = (hi - lo) + 1 by omega, List.range'_succ]
  have hat : StrLaws.At x Str.empty hi lo := ⟨h, by rw [StrLaws.subAt_eq]; rfl⟩
  rcases StrLaws.occ_first x Str.empty hi 1 (Nat.le_refl 1) (lo :: List.range' (lo + 1) (hi - lo)) lo (fun i hi => by
    rcases List.mem_cons.mp hi with rfl | hi
    · exact Nat.le_refl _
    · have := List.mem_range'_1.mp hi; omega) with ⟨-, no⟩ | ⟨pre, a, post, e, h0, -, no⟩
  · exact absurd hat (no lo (.head _))
  · cases pre with
    | cons b pre =>
      injection e with e1 e2
      subst e1
      exact absurd hat (no lo (.head _))
    | nil =>
      injection e with e1 e2
      subst e1
      generalize (forIn (lo :: List.range' (lo + 1) (hi - lo)) ((#[] : Array Nat), lo) (StrLaws.occBody x Str.empty hi 1)).run.fst = arr at h0
      obtain ⟨l⟩ := arr
      cases l with
      | nil => cases h0
      | cons b r => simp at h0; subst h0; exact ⟨r, rfl⟩
theorem gives_find4 (x : Str) {i j : Nat} (t u v v' : Tok) (h : i ≤ j) (hj : j ≤ x.length) : Gives (Builtin.«str.find» ⟨[.str x t, .str Str.empty u, .int i v, .int j v'], []⟩) (.int (i : Nat)) := by
  have e1 : fromIndex x.length (i : Int) = i := by unfold fromIndex; rw [if_neg (by omega)]; omega
  have e2 : fromIndex x.length (j : Int) = j := by unfold fromIndex; rw [if_neg (by omega)]; omega
  show Gives (match Builtin.Str.occurrences x Str.empty (fromIndex x.length i) (min (fromIndex x.length j) x.length) 1 with | k :: _ => retInt k | [] => (do rule "str.find.not-found"; retInt (-1))) _
  rw [e1, e2, Nat.min_eq_left hj]
  obtain ⟨r, e⟩ := occ_empty x h
  rw [e]
  exact .of_eq rfl
theorem Ev.find4 {i j : Nat} {v v' : Tok} (hi : i ≤ j) (hj : j ≤ x.length) (h : ∀ t, Q (.int i t) Λ) : Ev w X A Λ (call (.builtin "str.find") [.str x t, .str Str.empty u, .int i v, .int j v']) Q := fun s hs =>
  call_gives F.slot_str_find (typeIs_str _ _ _) F.entry_str_find (F.args_str_find_4 _ _ _ _) (gives_find4 x t u v v' hi hj) ⟨Λ, hs.tok _, h _⟩
/-- an item of a list of texts -/
theorem Ev.itemT {value slice : Expr} {pos : Pos} {l : Addr} {ns : List Str} {k : Int} {i : Str}
    (h : Ev w X A Λ (eval value env) fun o Λ₁ => Ev w X A Λ₁ (eval slice env) fun i' Λ₂ => o = .ref l ∧ (∃ t, i' = .int k t) ∧ Has X Λ₂ l (slst l ns).P ∧ 0 ≤ k ∧ k < 2 ^ 63 ∧ ns[k.toNat]? = some i ∧ ∀ t, Q (.str i t) Λ₂)
    (hs' : ∀ o i, subscripted slice false o i = operate [o, i] (getItem o i) := by intro _ _; with_unfolding_all rfl) : Ev w X A Λ (eval (.Subscript value slice pos) env) Q := fun s hs =>
  Subscript_ (h.useB hs fun o s₁ Λ₁ h₁ q => q.useB h₁ fun i s₂ Λ₂ h₂ q => by
    obtain ⟨rfl, ⟨t, rfl⟩, hl, h0, h1, hv, q⟩ := q
    obtain ⟨vs, hl, hi⟩ := has_slst hl h₂
    obtain ⟨t', ht⟩ := hi.get _ _ hv
    exact tail_any hl.typeIs slot_list_getitem.lookup (getItem_listL hl h0 h1 ht ⟨Λ₂, h₂, q _⟩) (hs' _ _))
end
end
section
open PySem PySem.W PyProof.Rows PySem.Calls
variable {w : World} {A : Around} {X : Amb} {Λ Λ' : List Cell} {env : Env}
section
variable {Q : Flow → List Cell → Prop}
theorem Ev.assert {test : Expr} {msg : Option Expr} {pos : Pos} (h : Ev w X A Λ (isTrue test env (eval test env)) fun b Λ' => b = true ∧ Q .next Λ') : Ev w X A Λ (exec (.Assert test msg pos) env) Q := fun s hs =>
  wpAny_Assert_holds (h.useB hs fun b s' Λ' h' q => ⟨q.1, Λ', h', q.2⟩)
theorem Ev.unpackT {k : Nat} {t : Addr} {vs : List Value} {Q : List Value → List Cell → Prop} (R : Rm A k) (hl : Has X Λ t (tup t vs).P) (h : Q vs Λ) : Ev w X A Λ (unpackItems (.ref t) vs.length none) Q := fun s hs => by
  obtain ⟨o, ho, n, rfl⟩ := hl.at hs
  have := wpAny_unpackItems_tuple (items := vs.toArray) (prog := PySem.Challenge.pw_wr0019_01) (w := w) (A := A) (E := fun _ _ => False) (s := s) (t := t) (Q := fun v s' => ∃ Λ', Sat X Λ' s' ∧ Q v Λ') R.hd ⟨_, ho, rfl, n, rfl⟩ fun h' he => ⟨Λ, ⟨fun b o e => he b o (fun q => by subst q; exact absurd (Heap.lt_size (hs.keep _ _ e)) (Nat.lt_irrefl _)) (hs.keep b o e), fun c hc => Cell.at_of (hs.own c hc) fun o e => he _ _ (Nat.ne_of_lt (hs.lt hc)) e, hs.new, hs.nd, hs.gp, hs.d, hs.os⟩, h⟩
  rwa [List.size_toArray] at this
theorem Ev.aio0 {vs : List Value} {Q : Unit → List Cell → Prop} (h : Q () Λ) : Ev w X A Λ (assignInOrder [] vs) Q := fun s hs => wpAny_pure ⟨Λ, hs, h⟩
theorem Ev.aioB {x : Str} {rest : List (Value → Sem Unit)} {v : Value} {vs : List Value} {Q : Unit → List Cell → Prop} (h : Ev w X A Λ (storeName env x v) fun _ Λ' => Ev w X A Λ' (assignInOrder rest vs) Q) : Ev w X A Λ (assignInOrder ((fun v => bindName env x v) :: rest) (v :: vs)) Q := fun s hs => by
  unfold assignInOrder
  exact wpAny_bind (wpAny_holding (wpAny_bindName (h.useB hs fun _ s' _ h' q => q s' h')))
theorem Ev.asgT2 {k : Nat} {elts : List Expr} {kk : Nat} {tpos pos : Pos} {value : Expr} {x y : Str} (R : Rm A k)
    (h : Ev w X A Λ (eval value env) fun v Λ₁ => ∃ t a b, v = .ref t ∧ Has X Λ₁ t (tup t [a, b]).P ∧ Ev w X A Λ₁ (storeName env y b) fun _ Λ₂ => Ev w X A Λ₂ (storeName env x a) fun _ Λ₃ => Q .next Λ₃)
    (hs : swapsWithSole [.Tuple elts kk tpos] value pos.line env = Pure.pure false := by rfl)
    (hw : swappedStores [.Tuple elts kk tpos] value env = Pure.pure (some [x, y]) := by rfl) : Ev w X A Λ (exec (.Assign [.Tuple elts kk tpos] value pos) env) Q := fun s hs' => by
  refine Assign_Tuple_swapped (h.useB hs' fun v s₁ Λ₁ h₁ q => ?_) hs hw
  obtain ⟨t, a, b, rfl, hl, q⟩ := q
  have h2 : Ev w X A Λ₁ (assignInOrder (([x, y] : List Str).reverse.map fun n => bindName env n) ([a, b] : List Value).reverse) fun _ => Q .next :=
    Ev.aioB (q.mono fun _ Λ₂ q => Ev.aioB (q.mono fun _ Λ₃ q => Ev.aio0 q))
  have h3 : Ev w X A Λ₁ (unpackItems (.ref t) ([x, y] : List Str).length none) fun items Λ₂ => Ev w X A Λ₂ (assignInOrder (([x, y] : List Str).reverse.map fun n => bindName env n) items.reverse) fun _ => Q .next :=
    Ev.unpackT (vs := [a, b]) R hl h2
  exact h3.useB h₁ fun items s₂ Λ₂ h₂ q => q.useB h₂ fun _ s₃ Λ₃ h₃ q => ⟨Λ₃, h₃, q⟩
theorem strs_erase {vs : List Value} {ns : List Str} (h : StrsAre vs ns) : ∀ j, StrsAre (vs.eraseIdx j) (ns.eraseIdx j) := by
  induction h with
  | nil => exact fun _ => .nil
  | cons y t h ih => intro j; cases j with
    | zero => exact h
    | succ j => exact .cons y t (ih j)
theorem erase_arr (vs : List Value) (j : Nat) : vs.toArray.eraseIdxIfInBounds j = (vs.eraseIdx j).toArray := by
  unfold Array.eraseIdxIfInBounds
  split
  · rw [List.eraseIdx_toArray]
  · rename_i h
    rw [List.eraseIdx_of_length_le (by simpa using h)]
/-- del xs[k], of a list of texts -/
theorem Ev.delT {o i : Expr} {p pos : Pos} (h : Ev w X A Λ (eval o env) fun ov Λ₁ => Ev w X A Λ₁ (eval i env) fun iv Λ₂ => ∃ l ns k j Λ₃, ov = .ref l ∧ (∃ t, iv = .int k t) ∧ Put l (slst l ns).P (slst l (ns.eraseIdx j)).P Λ₂ Λ₃ ∧ Builtin.List.listFitsIndex k = true ∧ seqIndex? k ns.length = some j ∧ ns.length ≤ sizeLine ∧ Q .next Λ₃) :
    Ev w X A Λ (exec (.Delete [.Subscript o i p] pos) env) Q := fun s hs => by
  refine wpAny_Delete (wpAny_deleteEach_cons (wpAny_delete_Subscript (h.useB hs fun ov s₁ Λ₁ h₁ q => q.useB h₁ fun iv s₂ Λ₂ h₂ q => ?_)))
  obtain ⟨l, ns, k, j, Λ₃, rfl, ⟨t, rfl⟩, U, hf, hj, hz, q⟩ := q
  obtain ⟨ob, ho, vs, n, hi, rfl⟩ := h₂.own _ U.mem
  refine wpAny_delItem_plain (items := vs.toArray) ⟨n, ho⟩ hf (by rw [List.size_toArray, hi.length]; exact hj) (fun h' hp hsb => wpAny_deleteEach_nil ⟨Λ₃, h₂.put (s' := { s₂ with heap := h' }) U hsb.extBut ?_ h₂.gp rfl rfl, q⟩) (by rw [List.size_toArray, hi.length]; exact hz)
  obtain ⟨n', ho'⟩ := hp
  exact ⟨_, ho', vs.eraseIdx j, n', strs_erase hi j, by rw [erase_arr]⟩
end
section
variable {Q : Value → List Cell → Prop}
theorem Ev.lenT {l : Addr} {ns : List Str} (hl : Has X Λ l (slst l ns).P) (hz : ns.length < 2 ^ 62) (h : ∀ t, Q (.int ns.length t) Λ) : Ev w X A Λ (call (.builtin "len") [.ref l]) Q := fun s hs => by
  obtain ⟨vs, hl, hi⟩ := has_slst hl hs
  have := hi.length
  exact call_len_list hl (by rw [List.size_toArray]; omega) ⟨Λ, hs.tok _, by rw [List.size_toArray, this]; exact h _⟩
theorem Ev.negI {i : Int} {t : Tok} (h : ∀ t, Q (.int (-i) t) Λ) : Ev w X A Λ (unaryOp .USub (.int i t)) Q := fun s hs => neg_int ⟨Λ, hs.tok _, h _⟩
theorem Ev.isubI {a b : Int} {t u : Tok} (h : ∀ t', Q (.int (a - b) t') Λ) : Ev w X A Λ (inplaceOp .Sub (.int a t) (.int b u)) Q := fun _ hs => AutoIntOps.isub_0 ⟨Λ, hs.tok _, h _⟩
/-- the last item of a list of texts -/
theorem Ev.lastT {value slice : Expr} {pos : Pos} {l : Addr} {ns : List Str} {i : Str}
    (h : Ev w X A Λ (eval value env) fun o Λ₁ => Ev w X A Λ₁ (eval slice env) fun i' Λ₂ => o = .ref l ∧ (∃ t, i' = .int (-1) t) ∧ Has X Λ₂ l (slst l (ns ++ [i])).P ∧ ns.length < 2 ^ 62 ∧ ∀ t, Q (.str i t) Λ₂)
    (hs' : ∀ o i, subscripted slice false o i = operate [o, i] (getItem o i) := by intro _ _; with_unfolding_all rfl) : Ev w X A Λ (eval (.Subscript value slice pos) env) Q := fun s hs =>
  Subscript_ (h.useB hs fun o s₁ Λ₁ h₁ q => q.useB h₁ fun i' s₂ Λ₂ h₂ q => by
    obtain ⟨rfl, ⟨t, rfl⟩, hl, hz, q⟩ := q
    obtain ⟨vs, hl, hi⟩ := has_slst hl h₂
    have hlen := hi.length
    rw [List.length_append, List.length_singleton] at hlen
    obtain ⟨t', ht⟩ := hi.get ns.length i (by rw [List.getElem?_append_right (Nat.le_refl _), Nat.sub_self]; rfl)
    refine tail_any hl.typeIs slot_list_getitem.lookup ?_ (hs' _ _)
    refine wpAny_getItem_list_neg hl (by decide) (by rw [List.size_toArray, hlen]; omega) (by decide) ?_ ⟨Λ₂, h₂, q t'⟩
    rw [List.getElem?_toArray, List.size_toArray, hlen, show ((-1 : Int) + ((ns.length + 1 : Nat) : Int)).toNat = ns.length by omega]
    exact ht)
end
theorem Ev.iterP {QV : Value → List Cell → Prop} {l : Addr} {P : Obj → Prop} (hP : ∀ o, P o → LL o) (hl : Has X Λ l P) (h : ∀ it, QV (.ref it) (lit it l 0 :: Λ)) : Ev w X A Λ (pyIter (.ref l)) QV := fun s hs => by
  obtain ⟨o, ho, p⟩ := hl.at hs
  obtain ⟨vs, n, rfl⟩ := hP o p
  exact wpAny_pyIter_list (items := vs) ⟨_, ho, rfl, n, rfl⟩ ⟨_, hs.push rfl ⟨rfl, rfl⟩, h _⟩
theorem StrsAre.at {vs : List Value} {ns : List Str} (h : StrsAre vs ns) {j : Nat} {v : Value} (e : vs[j]? = some v) : ∃ y t, ns[j]? = some y ∧ v = .str y t := by
  have hj : j < ns.length := by rw [← h.length]; exact (List.getElem?_eq_some_iff.mp e).1
  obtain ⟨t, ht⟩ := h.get j ns[j] (List.getElem?_eq_getElem hj)
  rw [e] at ht
  exact ⟨ns[j], t, List.getElem?_eq_getElem hj, Option.some.inj ht⟩
theorem IntsAre.at {vs : List Value} {ns : List Int} (h : IntsAre vs ns) {j : Nat} {v : Value} (e : vs[j]? = some v) : ∃ y t, ns[j]? = some y ∧ v = .int y t := by
  have hj : j < ns.length := by rw [← h.length]; exact (List.getElem?_eq_some_iff.mp e).1
  obtain ⟨t, ht⟩ := h.get j ns[j] (List.getElem?_eq_getElem hj)
  rw [e] at ht
  exact ⟨ns[j], t, List.getElem?_eq_getElem hj, Option.some.inj ht⟩
end
section
open PySem PySem.W PyProof.Rows PySem.Calls
variable {w : World} {A : Around} {X : Amb} {Λ Λ' : List Cell} {env : Env}
theorem reads_ints {h : Heap} {vs : List Value} {ns : List Int} (r : IntsAre vs ns) : ReadsAll h vs (ns.map .int) [] := by
  induction r with
  | nil => exact .nil
  | cons n t _ ih => exact .cons (as := []) (bs := []) (.int n t) ih
theorem lay_ints : ∀ ns : List Int, PyData.canLayAll0 (ns.map .int) = true
  | [] => rfl
  | n :: ns => by rw [List.map_cons, PyData.canLayAll0, lay_ints ns]; rfl
theorem depth_ints : ∀ ns : List Int, PyData.depthAll (ns.map .int) = 0
  | [] => rfl
  | n :: ns => by rw [List.map_cons, PyData.depthAll, depth_ints ns]; rfl
theorem eqv_ints : ∀ ns ms : List Int, PyData.eqvAll (ns.map .int) (ms.map .int) = (ns == ms)
  | [], [] => rfl
  | [], _ :: _ => rfl
  | _ :: _, [] => rfl
  | n :: ns, m :: ms => by
    rw [List.map_cons, List.map_cons, PyData.eqvAll, eqv_ints ns ms, PyData.eqv]; rfl
theorem ilst_reads {a : Addr} {ns : List Int} {s : Shared} (h : Has X Λ a (ilst a ns).P) (hs : Sat X Λ s) : Reads s.heap (.ref a) (.list (ns.map .int)) [a] := by
  obtain ⟨o, ho, vs, n, hi, rfl⟩ := h.at hs
  exact .list ho rfl rfl (reads_ints hi)
section
variable {Q : Value → List Cell → Prop}
theorem Ev.eqII {k : Nat} {a b : Addr} {ns ms : List Int} (R : Rm A k) (ha : Has X Λ a (ilst a ns).P) (hb : Has X Λ b (ilst b ms).P) (h : Q (.bool (ns == ms)) Λ) : Ev w X A Λ (compareOp .Eq (.ref a) (.ref b)) Q := fun s hs => by
  have hu := R.un
  exact SeqAt.rcAt_reads (ilst_reads ha hs) (ilst_reads hb hs) (lay_ints ns) (lay_ints ms) (by rw [cLine_is, PyData.depth, PyData.depth, depth_ints, depth_ints]; omega) PySem.Challenge.pw_wr0019_01 w _ _ ⟨Λ, hs, by
    show Q (.bool (PyData.eqvAll _ _)) Λ
    rw [eqv_ints]; exact h⟩
theorem Ev.neII {k : Nat} {a b : Addr} {ns ms : List Int} (R : Rm A k) (ha : Has X Λ a (ilst a ns).P) (hb : Has X Λ b (ilst b ms).P) (h : Q (.bool (ns != ms)) Λ) : Ev w X A Λ (compareOp .NotEq (.ref a) (.ref b)) Q := fun s hs => by
  have hu := R.un
  exact SeqAt.rcNeAt_reads (ilst_reads ha hs) (ilst_reads hb hs) (lay_ints ns) (lay_ints ms) (by rw [cLine_is, PyData.depth, PyData.depth, depth_ints, depth_ints]; omega) PySem.Challenge.pw_wr0019_01 w _ _ ⟨Λ, hs, by
    show Q (.bool (!PyData.eqvAll _ _)) Λ
    rw [eqv_ints]; exact h⟩
/-- a list held against the empty list -/
theorem Ev.eqNil {k n : Nat} {a b : Addr} {P : Obj → Prop} (R : Rm A k) (hP : ∀ o, P o → ∃ vs m, o = { cls := .type "list", data := .seq vs m } ∧ vs.size = n) (ha : Has X Λ a P) (hb : Has X Λ b (ilst b []).P) (h : Q (.bool (n == 0)) Λ) : Ev w X A Λ (compareOp .Eq (.ref a) (.ref b)) Q := fun s hs => by
  have hu := R.line
  obtain ⟨o, ho, p⟩ := ha.at hs
  obtain ⟨vs, m, rfl, rfl⟩ := hP o p
  obtain ⟨vb, hb, hi⟩ := has_ilst hb hs
  cases hi
  by_cases hz : vs.size = 0
  · refine SeqAt.eq_listAt (e := fun _ => true) ⟨_, ho, rfl, m, rfl⟩ hb hz hu (fun j h1 h2 => absurd h2 (Nat.not_lt_zero _)) ⟨Λ, hs, ?_⟩
    rw [hz] at h ⊢; exact h
  · refine SeqAt.eq_list_lengthsAt ⟨_, ho, rfl, m, rfl⟩ hb (by simpa using hz) hu ⟨Λ, hs, ?_⟩
    rw [show (vs.size == 0) = false by simpa using hz] at h; exact h
theorem Ev.sum {k : Nat} {a : Addr} {ns : List Int} (R : Rm A k) (ha : Has X Λ a (ilst a ns).P) (h : ∀ t, Q (.int ns.sum t) Λ) : Ev w X A Λ (call (.builtin "sum") [.ref a]) Q := fun s hs => by
  obtain ⟨vs, hl, hi⟩ := has_ilst ha hs
  obtain ⟨xs, e⟩ := hi.allInts.items
  rw [e] at hl
  refine sum_intListG R.hd hl fun h' tk t' hk => ⟨Λ, (hs.ext (s' := { s with heap := h' }) hk hs.gp rfl rfl).tok tk, ?_⟩
  have e2 : preSum (numAt xs) xs.size = ns.sum := by
    rw [preSum_eq, List.take_of_length_le (by simp), ← nums_intItems, ← e]
    exact congrArg List.sum hi.numsOf
  rw [e2]; exact h t'
theorem Ev.maxL {k : Nat} {a : Addr} {ns : List Int} (R : Rm A k) (ha : Has X Λ a (ilst a ns).P) (hne : 0 < ns.length) (h : ∀ M t, M ∈ ns → (∀ a, a ∈ ns → a ≤ M) → Q (.int M t) Λ) : Ev w X A Λ (call (.builtin "max") [.ref a]) Q := fun s hs => by
  obtain ⟨vs, hl, hi⟩ := has_ilst ha hs
  obtain ⟨xs, e⟩ := hi.allInts.items
  have hv : xs.toList.map (·.1) = ns := by rw [← nums_intItems, ← e]; exact hi.numsOf
  have hn : xs.size = ns.length := by rw [← hv, List.length_map, Array.length_toList]
  rw [e] at hl
  refine max_intList R.hd hl (by omega) fun v h' tk hx hk => ?_
  obtain ⟨t, rfl⟩ := intItems_at hx
  obtain ⟨h1, h2⟩ := argBest_gt (numAt xs) (xs.size - 1)
  refine ⟨Λ, (hs.ext (s' := { s with heap := h' }) hk hs.gp rfl rfl).tok tk, h _ t ?_ fun a ha => ?_⟩
  · rw [← hv, numAt_eq]; exact getD_mem (by rw [List.length_map, Array.length_toList]; omega)
  · rw [← hv] at ha
    obtain ⟨j, hj, rfl⟩ := mem_getD ha
    rw [List.length_map, Array.length_toList] at hj
    have := h2 j (by omega)
    rwa [numAt_eq xs j] at this
theorem Ev.max2 {k : Nat} {a b : Int} {t u : Tok} (R : Rm A k) (h : ∀ t, Q (.int (if b > a then b else a) t) Λ) : Ev w X A Λ (call (.builtin "max") [.int a t, .int b u]) Q := fun s hs => by
  refine max_two_ints R.hd fun h' tk hk => ⟨Λ, (hs.ext (s' := { s with heap := h' }) hk hs.gp rfl rfl).tok tk, ?_⟩
  by_cases hc : b > a
  · rw [if_pos hc]; have := h u; rwa [if_pos hc] at this
  · rw [if_neg hc]; have := h t; rwa [if_neg hc] at this
theorem Ev.min2 {k : Nat} {a b : Int} {t u : Tok} (R : Rm A k) (h : ∀ t, Q (.int (if b < a then b else a) t) Λ) : Ev w X A Λ (call (.builtin "min") [.int a t, .int b u]) Q := fun s hs => by
  refine min_two_ints R.hd fun h' tk hk => ⟨Λ, (hs.ext (s' := { s with heap := h' }) hk hs.gp rfl rfl).tok tk, ?_⟩
  by_cases hc : b < a
  · rw [if_pos hc]; have := h u; rwa [if_pos hc] at this
  · rw [if_neg hc]; have := h t; rwa [if_neg hc] at this
end
end
section
open PySem PySem.W PyProof.Rows PySem.Calls
variable {w : World} {A : Around} {X : Amb} {Λ Λ₁ Λ₂ Λ' : List Cell} {env : Env}
noncomputable abbrev sit (it : Addr) (ty : String) (x : Str) (t : Tok) (i : Nat) : Cell := ⟨it, fun o => o.cls = .type ty ∧ o.data = .fields #[.str x t, .int i 0]⟩
theorem Src.ascii {k : Nat} {it : Addr} {x : Str} {t : Tok} (R : Rm A k) : Src w A X Λ it (sit it "str_ascii_iterator" x t) x.cps.size (SignAt x) where
  item := fun Λ' i _ hi s hs => wpAny_pyNext_ascii_item (hs.own _ (.head _)) (c := x.cps[i]) (Array.getElem?_eq_getElem hi) fun h' hit hsb => ⟨_, hs.put (s' := ⟨h', s.gens, s.drawn, s.toks + 1, s.os⟩) .head hsb.extBut hit hs.gp rfl rfl, _, rfl, ⟨_, _, Array.getElem?_eq_getElem hi, rfl⟩, rfl⟩
  done := fun Λ' _ s hs => wpAny_pyNext_ascii_end R.hd (hs.own _ (.head _)) (Array.getElem?_eq_none (Nat.le_refl _)) fun h' hsb => ⟨Λ', hs.cut (s' := ⟨h', s.gens, s.drawn, s.toks, s.os⟩) .head hsb hs.gp rfl rfl, rfl, rfl⟩
  self := fun Λ s hs => wpAny_pyIter_striter_ascii (hs.own _ (.head _)) ⟨_, hs, rfl, rfl⟩
theorem Src.wide {k : Nat} {it : Addr} {x : Str} {t : Tok} (R : Rm A k) : Src w A X Λ it (sit it "str_iterator" x t) x.cps.size (SignAt x) where
  item := fun Λ' i _ hi s hs => wpAny_pyNext_wide_item (hs.own _ (.head _)) (c := x.cps[i]) (Array.getElem?_eq_getElem hi) fun h' hit hsb => ⟨_, hs.put (s' := ⟨h', s.gens, s.drawn, s.toks + 1, s.os⟩) .head hsb.extBut hit hs.gp rfl rfl, _, rfl, ⟨_, _, Array.getElem?_eq_getElem hi, rfl⟩, rfl⟩
  done := fun Λ' _ s hs => wpAny_pyNext_wide_end R.hd (hs.own _ (.head _)) (Array.getElem?_eq_none (Nat.le_refl _)) fun h' hsb => ⟨Λ', hs.cut (s' := ⟨h', s.gens, s.drawn, s.toks, s.os⟩) .head hsb hs.gp rfl rfl, rfl, rfl⟩
  self := fun Λ s hs => wpAny_pyIter_striter_wide (hs.own _ (.head _)) ⟨_, hs, rfl, rfl⟩
theorem Src.mono {it : Addr} {src : Nat → Cell} {n : Nat} {P P' : Nat → Value → Prop} (h : Src w A X Λ it src n P) (k : ∀ i v, i < n → P i v → P' i v) : Src w A X Λ it src n P' :=
  ⟨fun Λ i a b => (h.item Λ i a b).mono fun _ _ ⟨v, c, d, e⟩ => ⟨v, c, k i v b d, e⟩, h.done, h.self⟩
/-- a value that hands out n things; Λ₂ is what is known besides -/
noncomputable def IterOf (w : World) (X : Amb) (A : Around) (xv : Value) (Λ₁ Λ₂ : List Cell) (n : Nat) (PV : Nat → Value → Prop) : Prop :=
  ∀ Q : Value → List Cell → Prop, (∀ it src, Src w A X Λ₂ it src n PV → Q (.ref it) (src 0 :: Λ₂)) → Ev w X A Λ₁ (pyIter xv) Q
theorem IterOf.range {k n : Nat} {r : Addr} (R : Rm A k) (hn : n < 2 ^ 60) {m : Int} (hm : m = n) : IterOf w X A (.ref r) (rng r 0 m :: Λ) Λ n fun i v => ∃ t, v = .int i t := fun Q h => by
  subst hm
  refine Ev.trim (P := fun v Λ' => ∃ it, v = .ref it ∧ Λ' = rit it 0 n 1 :: rng r 0 n :: Λ) (Ev.iterRange (Or.inl (.head _)) (by decide) (by decide) (by omega) (by omega) fun it => ⟨it, rfl, ?_⟩) fun v Λ' ⟨it, e1, e2⟩ => ⟨rit it 0 n 1 :: Λ, ?_, ?_⟩
  · have e : (if (0 : Int) < n then (n : Int) - 0 else 0) = n := by split <;> omega
    rw [e]
  · subst e2; exact (List.sublist_cons_self _ _).cons_cons _
  · subst e1
    have := h it (fun i => rit it (0 + i) (n - i) 1) ((Src.range R).mono fun i v _ ⟨t, e⟩ => ⟨t, by rw [e, Int.zero_add]⟩)
    have e : rit it (0 + ((0 : Nat) : Int)) (n - ((0 : Nat) : Int)) 1 = rit it 0 n 1 := by simp
    simp only [e] at this
    exact this
theorem IterOf.list {k n : Nat} {l : Addr} {P : Obj → Prop} {PV : Nat → Value → Prop} (R : Rm A k) (hl : Has X Λ l P) (hP : ∀ o, P o → ∃ vs m, o = { cls := .type "list", data := .seq vs m } ∧ vs.size = n ∧ ∀ j v, vs[j]? = some v → PV j v) : IterOf w X A (.ref l) Λ Λ n PV := fun Q h =>
  Ev.iterP (fun o p => let ⟨vs, m, e, _⟩ := hP o p; ⟨vs, m, e⟩) hl fun it => h it _ (Src.list R hl hP)
theorem IterOf.str {k : Nat} {x : Str} {t : Tok} (R : Rm A k) : IterOf w X A (.str x t) Λ Λ x.cps.size (SignAt x) := fun Q h s hs => by
  cases ha : x.cps.all (· < 128)
  · exact wpAny_pyIter_wide ha ⟨_, hs.push rfl ⟨rfl, rfl⟩, h _ _ (Src.wide R)⟩
  · exact wpAny_pyIter_ascii ha ⟨_, hs.push rfl ⟨rfl, rfl⟩, h _ _ (Src.ascii R)⟩
/-- a comprehension whose name is its own local -/
theorem EvC.comp1 {elt iter : Expr} {x : Str} {px : Pos} {ifs : List Expr} {scope : Scope} {cl : List (Str × Addr)} {pos : Pos} {it D C : Addr} {n : Nat} {src : Nat → Cell} {P : Nat → Value → Prop} {R : Flow → List Cell → Prop}
    (T : Nat → Bool) (G : Nat → Value → List Cell → Prop) (S : Src w A X Λ it src n P) (hn : n ≤ sizeLine)
    (ht : ∀ hb C i v, (∀ b o, X.hb.get? b = some o → hb.get? b = some o) → Cell.at (nsc C [(x, v)]) hb → (∀ c ∈ Λ, c.at hb) → i < n → P i v → Ev w ⟨hb, X.gp, X.d, X.os⟩ A [] (tests ifs (compEnvC scope cl C env)) fun ok _ => ok = T i)
    (he : ∀ hb C i v, (∀ b o, X.hb.get? b = some o → hb.get? b = some o) → Cell.at (nsc C [(x, v)]) hb → (∀ c ∈ Λ, c.at hb) → i < n → P i v → T i = true → Ev w ⟨hb, X.gp, X.d, X.os⟩ A [] (eval elt (compEnvC scope cl C env)) fun y Λ' => G i y Λ')
    (hcs : cellsFrom (C + 1) scope.names [] = []) (hx : (compEnvC scope cl C env).kindOf x = some .local) (hk : scope.kind = .function)
    (h : ∀ ys cs l, Coll T G n ys cs → R .next (nsc C l :: lst D ys :: (cs ++ Λ))) :
    EvC w X A (nsc C [] :: ((cellsFrom (C + 1) scope.names []).map (fun p => cel p.2 none) ++ (lst D [] :: (src 0 :: Λ))))
      (.compStart (.ListComp elt [⟨.Name x px, iter, ifs, 0⟩] scope pos) 0 (.ref it) (.ref D) (compEnvC scope (cellsFrom (C + 1) scope.names [] ++ cl) C env)) R := by
  rw [hcs]
  have K : Tgt w A (compEnvC scope cl C env) x C fun u => [nsc C (match u with | some v => [(x, v)] | none => [])] := Tgt.local (cenv := compEnvC scope cl C env) hx (by simp [compEnvC, relabel, hk])
  refine EvC.perm ?_ (EvC.comp T G S K hn (fun hb i v a b c d e => ht hb C i v a (b _ (.head _)) c d e) (fun hb i v a b c d e => he hb C i v a (b _ (.head _)) c d e) fun ys cs u hC => h ys cs _ hC)
  exact (List.perm_middle (l₁ := [nsc C [], lst D []]) (a := src 0) (l₂ := Λ)).symm
theorem coll_ints {T : Nat → Bool} {f : Nat → Int} {n ys cs} (hC : Coll T (fun i y c => (∃ t, y = .int (f i) t) ∧ c = []) n ys cs) : IntsAre ys (((List.range n).filter T).map f) ∧ cs = [] := by
  induction hC with
  | nil => exact ⟨.nil, rfl⟩
  | skip h hC this =>
    rw [List.range_succ, List.filter_append, List.filter_cons_of_neg (by simp [h]), List.filter_nil, List.append_nil]; exact this
  | take h hG hC this =>
    obtain ⟨⟨t, rfl⟩, rfl⟩ := hG
    rw [List.range_succ, List.filter_append, List.filter_cons_of_pos h, List.filter_nil, List.map_append]
    exact ⟨this.1.append (.cons _ _ .nil), this.2⟩
theorem strs_append {vs : List Value} {ns : List Str} {ws : List Value} {ms : List Str} (a : StrsAre vs ns) (h : StrsAre ws ms) : StrsAre (vs ++ ws) (ns ++ ms) := by
  induction a with
  | nil => exact h
  | cons y t _ ih => exact .cons y t ih
theorem Ev.conv {α : Type} {t : Sem α} {P Q : α → List Cell → Prop} (h : Ev w X A Λ t P) (k : ∀ v Λ' s, Sat X Λ' s → P v Λ' → ∃ Λ'', Sat X Λ'' s ∧ Q v Λ'') : Ev w X A Λ t Q := fun s hs =>
  wpAny_mono (h s hs) (fun v s' ⟨Λ', a, b⟩ => k v Λ' s' a b) fun _ _ x => x
theorem coll_strs {T : Nat → Bool} {f : Nat → Str} {n ys cs} (hC : Coll T (fun i y c => (∃ t, y = .str (f i) t) ∧ c = []) n ys cs) : StrsAre ys (((List.range n).filter T).map f) ∧ cs = [] := by
  induction hC with
  | nil => exact ⟨.nil, rfl⟩
  | skip h hC this =>
    rw [List.range_succ, List.filter_append, List.filter_cons_of_neg (by simp [h]), List.filter_nil, List.append_nil]; exact this
  | take h hG hC this =>
    obtain ⟨⟨t, rfl⟩, rfl⟩ := hG
    rw [List.range_succ, List.filter_append, List.filter_cons_of_pos h, List.filter_nil, List.map_append]
    exact ⟨strs_append this.1 (.cons _ _ .nil), this.2⟩
/-- [elt for x in iter if ..], of numbers -/
noncomputable def CompI (w : World) (X : Amb) (A : Around) (env : Env) (scope : Scope) (cl : List (Str × Addr)) (x : Str) (ifs : List Expr) (elt : Expr) (Λ₂ : List Cell) (n : Nat) (P : Nat → Value → Prop) (T : Nat → Bool) (F : Nat → Value → Prop) : Prop :=
  n ≤ sizeLine ∧
  (∀ hb C i v, (∀ b o, X.hb.get? b = some o → hb.get? b = some o) → Cell.at (nsc C [(x, v)]) hb → (∀ c ∈ Λ₂, c.at hb) → i < n → P i v → Ev w ⟨hb, X.gp, X.d, X.os⟩ A [] (tests ifs (compEnvC scope cl C env)) fun ok _ => ok = T i) ∧
  (∀ hb C i v, (∀ b o, X.hb.get? b = some o → hb.get? b = some o) → Cell.at (nsc C [(x, v)]) hb → (∀ c ∈ Λ₂, c.at hb) → i < n → P i v → T i = true → Ev w ⟨hb, X.gp, X.d, X.os⟩ A [] (eval elt (compEnvC scope cl C env)) fun y _ => F i y)
theorem Ev.compI {elt iter : Expr} {x : Str} {px : Pos} {ifs : List Expr} {scope : Scope} {cl : List (Str × Addr)} {pos : Pos} {Q : Value → List Cell → Prop} (T : Nat → Bool) (f : Nat → Int)
    (hclos : closureFor scope env = Pure.pure cl)
    (h : Ev w X A Λ (eval iter env) fun xv Λ₁ => ∃ n P Λ₂, IterOf w X A xv Λ₁ Λ₂ n P ∧ CompI w X A env scope cl x ifs elt Λ₂ n P T (fun i y => ∃ t, y = .int (f i) t) ∧ ∀ D, Q (.ref D) (ilst D (((List.range n).filter T).map f) :: Λ₂))
    (hnames : scope.names.all (fun y => y.2 != .local || scope.names.lookup y.1 == some .local) = true := by rfl) (hcs : ∀ n, cellsFrom n scope.names [] = [] := by intro _; rfl) (hx : scope.names.lookup x = some .local := by rfl)
    (hkind : scope.kind = .function := by rfl) (hs : ∀ x, foldedSetIterable iter env x = Pure.pure x := by intro _; rfl) : Ev w X A Λ (eval (.ListComp elt [⟨.Name x px, iter, ifs, 0⟩] scope pos) env) Q := by
  refine Ev.conv (P := fun v Λ' => ∃ D n ys Λ₂, v = .ref D ∧ Λ' = lst D ys :: Λ₂ ∧ IntsAre ys (((List.range n).filter T).map f) ∧ Q (.ref D) (ilst D (((List.range n).filter T).map f) :: Λ₂)) ?_ fun v Λ' s hs q => ?_
  · refine Ev.compE hclos hnames (h.mono fun xv Λ₁ q => ?_) hkind hs
    obtain ⟨n, P, Λ₂, hI, ⟨hn, ht, he⟩, hQ⟩ := q
    refine hI _ fun it src S D C => ?_
    refine EvC.comp1 T (fun i y c => (∃ t, y = .int (f i) t) ∧ c = []) S hn ht (fun hb C i v a b c d e g => (he hb C i v a b c d e g).trim fun y Λ' q => ⟨[], List.nil_sublist _, q, rfl⟩) (hcs _) (lookup_relabel_local hx) hkind fun ys cs l hC => ?_
    obtain ⟨h1, rfl⟩ := coll_ints hC
    exact ⟨l, _, .head, D, n, ys, Λ₂, rfl, rfl, h1, hQ D⟩
  · obtain ⟨D, n, ys, Λ₂, rfl, rfl, h1, q⟩ := q
    exact ⟨_, hs.weak fun o ⟨m, e⟩ => ⟨ys, m, h1, e⟩, q⟩
theorem Ev.compAI {elt iter : Expr} {x y : Str} {px py : Pos} {ifs : List Expr} {scope : Scope} {cl : List (Str × Addr)} {pos spos : Pos} {Q : Flow → List Cell → Prop} (T : Nat → Bool) (f : Nat → Int)
    (hclos : closureFor scope env = Pure.pure cl)
    (h : Ev w X A Λ (eval iter env) fun xv Λ₁ => ∃ n P Λ₂, IterOf w X A xv Λ₁ Λ₂ n P ∧ CompI w X A env scope cl x ifs elt Λ₂ n P T (fun i y => ∃ t, y = .int (f i) t) ∧ ∀ D, ∃ ll Λ₃, Put env.locals (NsW ll) (NsW ((y, .ref D) :: ll)) Λ₂ Λ₃ ∧ Q .next (ilst D (((List.range n).filter T).map f) :: Λ₃))
    (hsw : swapsWith (.ListComp elt [⟨.Name x px, iter, ifs, 0⟩] scope pos) (some (.Name y py)) spos.line env = Pure.pure true := by rfl) (hy : env.kindOf y = some .local := by rfl) (hp : (env.scope.kind == .class || (env.scope.kind == .module && env.locals != env.globals)) = false := by rfl)
    (hnames : scope.names.all (fun y => y.2 != .local || scope.names.lookup y.1 == some .local) = true := by rfl) (hcs : ∀ n, cellsFrom n scope.names [] = [] := by intro _; rfl) (hx : scope.names.lookup x = some .local := by rfl)
    (hkind : scope.kind = .function := by rfl) (hs : ∀ x, foldedSetIterable iter env x = Pure.pure x := by intro _; rfl) : Ev w X A Λ (exec (.Assign [.Name y py] (.ListComp elt [⟨.Name x px, iter, ifs, 0⟩] scope pos) spos) env) Q := by
  refine Ev.conv (P := fun v Λ' => ∃ D n ys Λ₂, v = .next ∧ Λ' = lst D ys :: Λ₂ ∧ IntsAre ys (((List.range n).filter T).map f) ∧ Q .next (ilst D (((List.range n).filter T).map f) :: Λ₂)) ?_ fun v Λ' s hs q => ?_
  · refine Ev.compA hclos hnames (h.mono fun xv Λ₁ q => ?_) hsw hkind hs
    obtain ⟨n, P, Λ₂, hI, ⟨hn, ht, he⟩, hQ⟩ := q
    refine hI _ fun it src S D C => ?_
    refine EvC.comp1 T (fun i y c => (∃ t, y = .int (f i) t) ∧ c = []) S hn ht (fun hb C i v a b c d e g => (he hb C i v a b c d e g).trim fun y Λ' q => ⟨[], List.nil_sublist _, q, rfl⟩) (hcs _) (lookup_relabel_local hx) hkind fun ys cs l hC => ?_
    obtain ⟨h1, rfl⟩ := coll_ints hC
    obtain ⟨ll, Λ₃, U, q⟩ := hQ D
    exact Ev.store (.tail (.tail U)) ⟨l, _, .head, D, n, ys, Λ₃, rfl, rfl, h1, q⟩ rfl hy hp
  · obtain ⟨D, n, ys, Λ₂, rfl, rfl, h1, q⟩ := q
    exact ⟨_, hs.weak fun o ⟨m, e⟩ => ⟨ys, m, h1, e⟩, q⟩
theorem Ev.compT {elt iter : Expr} {x : Str} {px : Pos} {ifs : List Expr} {scope : Scope} {cl : List (Str × Addr)} {pos : Pos} {Q : Value → List Cell → Prop} (T : Nat → Bool) (f : Nat → Str)
    (hclos : closureFor scope env = Pure.pure cl)
    (h : Ev w X A Λ (eval iter env) fun xv Λ₁ => ∃ n P Λ₂, IterOf w X A xv Λ₁ Λ₂ n P ∧ CompI w X A env scope cl x ifs elt Λ₂ n P T (fun i y => ∃ t, y = .str (f i) t) ∧ ∀ D, Q (.ref D) (slst D (((List.range n).filter T).map f) :: Λ₂))
    (hnames : scope.names.all (fun y => y.2 != .local || scope.names.lookup y.1 == some .local) = true := by rfl) (hcs : ∀ n, cellsFrom n scope.names [] = [] := by intro _; rfl) (hx : scope.names.lookup x = some .local := by rfl)
    (hkind : scope.kind = .function := by rfl) (hs : ∀ x, foldedSetIterable iter env x = Pure.pure x := by intro _; rfl) : Ev w X A Λ (eval (.ListComp elt [⟨.Name x px, iter, ifs, 0⟩] scope pos) env) Q := by
  refine Ev.conv (P := fun v Λ' => ∃ D n ys Λ₂, v = .ref D ∧ Λ' = lst D ys :: Λ₂ ∧ StrsAre ys (((List.range n).filter T).map f) ∧ Q (.ref D) (slst D (((List.range n).filter T).map f) :: Λ₂)) ?_ fun v Λ' s hs q => ?_
  · refine Ev.compE hclos hnames (h.mono fun xv Λ₁ q => ?_) hkind hs
    obtain ⟨n, P, Λ₂, hI, ⟨hn, ht, he⟩, hQ⟩ := q
    refine hI _ fun it src S D C => ?_
    refine EvC.comp1 T (fun i y c => (∃ t, y = .str (f i) t) ∧ c = []) S hn ht (fun hb C i v a b c d e g => (he hb C i v a b c d e g).trim fun y Λ' q => ⟨[], List.nil_sublist _, q, rfl⟩) (hcs _) (lookup_relabel_local hx) hkind fun ys cs l hC => ?_
    obtain ⟨h1, rfl⟩ := coll_strs hC
    exact ⟨l, _, .head, D, n, ys, Λ₂, rfl, rfl, h1, hQ D⟩
  · obtain ⟨D, n, ys, Λ₂, rfl, rfl, h1, q⟩ := q
    exact ⟨_, hs.weak fun o ⟨m, e⟩ => ⟨ys, m, h1, e⟩, q⟩
theorem Ev.compAT {elt iter : Expr} {x y : Str} {px py : Pos} {ifs : List Expr} {scope : Scope} {cl : List (Str × Addr)} {pos spos : Pos} {Q : Flow → List Cell → Prop} (T : Nat → Bool) (f : Nat → Str)
    (hclos : closureFor scope env = Pure.pure cl)
    (h : Ev w X A Λ (eval iter env) fun xv Λ₁ => ∃ n P Λ₂, IterOf w X A xv Λ₁ Λ₂ n P ∧ CompI w X A env scope cl x ifs elt Λ₂ n P T (fun i y => ∃ t, y = .str (f i) t) ∧ ∀ D, ∃ ll Λ₃, Put env.locals (NsW ll) (NsW ((y, .ref D) :: ll)) Λ₂ Λ₃ ∧ Q .next (slst D (((List.range n).filter T).map f) :: Λ₃))
    (hsw : swapsWith (.ListComp elt [⟨.Name x px, iter, ifs, 0⟩] scope pos) (some (.Name y py)) spos.line env = Pure.pure true := by rfl) (hy : env.kindOf y = some .local := by rfl) (hp : (env.scope.kind == .class || (env.scope.kind == .module && env.locals != env.globals)) = false := by rfl)
    (hnames : scope.names.all (fun y => y.2 != .local || scope.names.lookup y.1 == some .local) = true := by rfl) (hcs : ∀ n, cellsFrom n scope.names [] = [] := by intro _; rfl) (hx : scope.names.lookup x = some .local := by rfl)
    (hkind : scope.kind = .function := by rfl) (hs : ∀ x, foldedSetIterable iter env x = Pure.pure x := by intro _; rfl) : Ev w X A Λ (exec (.Assign [.Name y py] (.ListComp elt [⟨.Name x px, iter, ifs, 0⟩] scope pos) spos) env) Q := by
  refine Ev.conv (P := fun v Λ' => ∃ D n ys Λ₂, v = .next ∧ Λ' = lst D ys :: Λ₂ ∧ StrsAre ys (((List.range n).filter T).map f) ∧ Q .next (slst D (((List.range n).filter T).map f) :: Λ₂)) ?_ fun v Λ' s hs q => ?_
  · refine Ev.compA hclos hnames (h.mono fun xv Λ₁ q => ?_) hsw hkind hs
    obtain ⟨n, P, Λ₂, hI, ⟨hn, ht, he⟩, hQ⟩ := q
    refine hI _ fun it src S D C => ?_
    refine EvC.comp1 T (fun i y c => (∃ t, y = .str (f i) t) ∧ c = []) S hn ht (fun hb C i v a b c d e g => (he hb C i v a b c d e g).trim fun y Λ' q => ⟨[], List.nil_sublist _, q, rfl⟩) (hcs _) (lookup_relabel_local hx) hkind fun ys cs l hC => ?_
    obtain ⟨h1, rfl⟩ := coll_strs hC
    obtain ⟨ll, Λ₃, U, q⟩ := hQ D
    exact Ev.store (.tail (.tail U)) ⟨l, _, .head, D, n, ys, Λ₃, rfl, rfl, h1, q⟩ rfl hy hp
  · obtain ⟨D, n, ys, Λ₂, rfl, rfl, h1, q⟩ := q
    exact ⟨_, hs.weak fun o ⟨m, e⟩ => ⟨ys, m, h1, e⟩, q⟩
end
section
open PySem PySem.W PyProof.Rows PySem.Calls
variable {w : World} {A : Around} {X : Amb} {Λ Λ₁ Λ₂ Λ' : List Cell} {env : Env}
section
variable {Q : Value → List Cell → Prop}
theorem Ev.sliceF {value lower : Expr} {p pos : Pos} (l : List Nat) (a : Nat) (h : Ev w X A Λ (eval value env) fun o Λ₁ => Ev w X A Λ₁ (evalPart (some lower) env) fun vl Λ₂ => (∃ t, o = .str (tx l) t) ∧ (∃ i t, vl = .int i t ∧ i = a) ∧ l.length ≤ 1000 ∧ ∀ t, Q (.str (tx (l.drop a)) t) Λ₂)
    (ht : ∀ o r, letTemporaryGo value o r = Pure.pure () := by intro _ _; rfl) : Ev w X A Λ (eval (.Subscript value (.Slice (some lower) none none p) pos) env) Q := by
  refine Ev.sliceS (h.mono fun o Λ₁ q => q.mono fun vl Λ₂ q => Ev.part0 ?_) ht
  obtain ⟨⟨t, rfl⟩, ⟨i, t', rfl, rfl⟩, hz, q⟩ := q
  refine ⟨tx l, t, some ((a : Int), t'), none, rfl, rfl, rfl, by rw [tx_len, sizeLine_eq]; omega, fun t => ?_⟩
  have := q t
  rw [← slice_a] at this
  exact this
theorem Ev.sliceU {value upper : Expr} {p pos : Pos} (l : List Nat) (a : Nat) (h : Ev w X A Λ (eval value env) fun o Λ₁ => Ev w X A Λ₁ (evalPart (some upper) env) fun vl Λ₂ => (∃ t, o = .str (tx l) t) ∧ (∃ i t, vl = .int i t ∧ i = a) ∧ l.length ≤ 1000 ∧ ∀ t, Q (.str (tx (l.take a)) t) Λ₂)
    (ht : ∀ o r, letTemporaryGo value o r = Pure.pure () := by intro _ _; rfl) : Ev w X A Λ (eval (.Subscript value (.Slice none (some upper) none p) pos) env) Q := by
  refine Ev.sliceS (h.mono fun o Λ₁ q => Ev.part0 (q.mono fun vl Λ₂ q => ?_)) ht
  obtain ⟨⟨t, rfl⟩, ⟨i, t', rfl, rfl⟩, hz, q⟩ := q
  refine ⟨tx l, t, none, some ((a : Int), t'), rfl, rfl, rfl, by rw [tx_len, sizeLine_eq]; omega, fun t => ?_⟩
  have := q t
  rw [← slice_b] at this
  exact this
theorem Ev.sliceM {value lower upper : Expr} {p pos : Pos} (l : List Nat) (a b : Nat) (h : Ev w X A Λ (eval value env) fun o Λ₁ => Ev w X A Λ₁ (evalPart (some lower) env) fun vl Λ₂ => Ev w X A Λ₂ (evalPart (some upper) env) fun vu Λ₃ => (∃ t, o = .str (tx l) t) ∧ (∃ i t, vl = .int i t ∧ i = a) ∧ (∃ i t, vu = .int i t ∧ i = b) ∧ l.length ≤ 1000 ∧ ∀ t, Q (.str (tx ((l.drop a).take (b - a))) t) Λ₃)
    (ht : ∀ o r, letTemporaryGo value o r = Pure.pure () := by intro _ _; rfl) : Ev w X A Λ (eval (.Subscript value (.Slice (some lower) (some upper) none p) pos) env) Q := by
  refine Ev.sliceS (h.mono fun o Λ₁ q => q.mono fun vl Λ₂ q => q.mono fun vu Λ₃ q => ?_) ht
  obtain ⟨⟨t, rfl⟩, ⟨i, t', rfl, rfl⟩, ⟨i, t'', rfl, rfl⟩, hz, q⟩ := q
  refine ⟨tx l, t, some ((a : Int), t'), some ((b : Int), t''), rfl, rfl, rfl, by rw [tx_len, sizeLine_eq]; omega, fun t => ?_⟩
  have := q t
  rw [← slice_ab] at this
  exact this
theorem Ev.addT {a b : List Nat} {t u : Tok} (h : ∀ t, Q (.str (tx (a ++ b)) t) Λ) (hz : a.length + b.length ≤ 1000) : Ev w X A Λ (binaryOp .Add (.str (tx a) t) (.str (tx b) u)) Q :=
  Ev.addS (fun t => by rw [tx_app]; exact h t) (by rw [tx_len, tx_len, sizeLine_eq]; omega)
theorem Ev.itemX {value slice : Expr} {pos : Pos}
    (h : Ev w X A Λ (eval value env) fun o Λ₁ => Ev w X A Λ₁ (eval slice env) fun i' Λ₂ => ∃ l ns k i, o = .ref l ∧ (∃ t, i' = .int k t) ∧ Has X Λ₂ l (ilst l ns).P ∧ 0 ≤ k ∧ k < 2 ^ 63 ∧ ns[k.toNat]? = some i ∧ ∀ t, Q (.int i t) Λ₂)
    (hs' : ∀ o i, subscripted slice false o i = operate [o, i] (getItem o i) := by intro _ _; with_unfolding_all rfl) : Ev w X A Λ (eval (.Subscript value slice pos) env) Q := fun s hs =>
  Subscript_ (h.useB hs fun o s₁ Λ₁ h₁ q => q.useB h₁ fun i s₂ Λ₂ h₂ q => by
    obtain ⟨l, ns, k, i, rfl, ⟨t, rfl⟩, hl, h0, h1, hv, q⟩ := q
    obtain ⟨vs, hl, hi⟩ := has_ilst hl h₂
    obtain ⟨t', ht⟩ := hi.get _ _ hv
    exact tail_any hl.typeIs slot_list_getitem.lookup (getItem_listL hl h0 h1 ht ⟨Λ₂, h₂, q _⟩) (hs' _ _))
theorem intsAt {l : Addr} {ns : List Int} {i : Nat} {n : Nat} (hn : ns.length = n) {Λ : List Cell} {s : Shared} (h : Has X Λ l (ilst l ns).P) (hs : Sat X Λ s) : ∃ vs : List Value, s.heap.IsList l vs.toArray ∧ vs.length = n ∧ ∀ j v, vs[j]? = some v → ∃ t, v = Value.int (ns.getD j 0) t := by
  obtain ⟨vs, hv, hi⟩ := has_ilst h hs
  refine ⟨vs, hv, hi.length.trans hn, fun j v e => ?_⟩
  obtain ⟨y, t, e1, rfl⟩ := IntsAre.at hi e
  exact ⟨t, by rw [List.getD_eq_getElem?_getD, e1]; rfl⟩
end
end
section
open PySem PySem.W PyProof.Rows PySem.Calls
variable {w : World} {A : Around} {X : Amb} {Λ Λ₁ Λ₂ Λ' : List Cell} {env : Env}
theorem ints_set {vs : List Value} {ns : List Int} (h : IntsAre vs ns) : ∀ (j : Nat) (i : Int) (t : Tok), IntsAre (vs.set j (.int i t)) (ns.set j i) := by
  induction h with
  | nil => exact fun _ _ _ => .nil
  | cons n u h ih => intro j i t; cases j with
    | zero => exact .cons i t h
    | succ j => exact .cons n u (ih j i t)
/-- xs[k] = i, of a list of ints -/
theorem Ev.setI {Q : Unit → List Cell → Prop} {l : Addr} {ns : List Int} {k i : Int} {t u : Tok} (U : Put l (ilst l ns).P (ilst l (ns.set k.toNat i)).P Λ Λ') (h0 : 0 ≤ k) (hfit : k < 2 ^ 63) (hn : k < ns.length) (h : Q () Λ') : Ev w X A Λ (setItem (.ref l) (.int k t) (.int i u)) Q := fun s hs => by
  obtain ⟨o, ho, vs, n, hi, rfl⟩ := hs.own _ U.mem
  have hl : s.heap.IsList l vs.toArray := ⟨_, ho, rfl, n, rfl⟩
  have hlen := hi.length
  have hfx := fitsIndex_of h0 hfit
  clear hfit
  unfold setItem
  try with_reducible refine wpAny_holding ?_
  first | refine wpAny_bind (wpAny_pure ?_) | skip
  refine wpAny_bind (wpAny_sequenceKey hl.typeIs (by decide) ?_)
  refine wpAny_bind (wpAny_callSpecial?_slot (name := Str.ofString "__setitem__") hl.typeIs PySem.slot_list_setitem (wpAny_call_entry PySem.slot_list_setitem hl.typeIs PySem.entry_list_setitem ?_ (PySem.args_list_setitem _ _ _)))
  show wpAny _ _ (Builtin.List.listSubscript? (.int k t) >>= _) _ _ s
  refine wpAny_bind (wpAny_listSubscript_int hfx ?_)
  obtain ⟨j, rfl⟩ := Int.eq_ofNat_of_zero_le h0
  have hj : j < vs.length := by omega
  show wpAny _ _ ((seqItemAt l j >>= fun r => pure (r.map (j, ·))) >>= _) _ _ s
  refine wpAny_bind (wpAny_bind (wpAny_seqItemAt ho rfl (wpAny_pure ?_)))
  rw [List.getElem?_toArray, List.getElem?_eq_getElem hj]
  show wpAny _ _ (setSeqItemAt l j (.int i u) >>= _) _ _ s
  have hfin : Cell.at ⟨l, (ilst l (ns.set j i)).P⟩ (s.heap.update l (Obj.mapSeq (·.setIfInBounds j (.int i u)))) := by
    obtain ⟨n', hd'⟩ := Obj.data_mapSeq (o := { cls := .type "list", data := .seq vs.toArray n }) rfl (·.setIfInBounds j (.int i u))
    refine ⟨_, Heap.get?_update_self _ ho (Obj.isFreed_of_seq hd'), vs.set j (.int i u), n, ints_set hi j i u, ?_⟩
    simp [Obj.mapSeq]
  refine wpAny_bind (wpAny_setSeqItemAt ho rfl ?_)
  have fin := hs.put (s' := { s with heap := s.heap.update l (Obj.mapSeq (·.setIfInBounds j (.int i u))) }) U (Heap.SameBut.update ..).extBut hfin hs.gp rfl rfl
  first
    | exact wpAny_bind (wpAny_pure (wpAny_pure ⟨.none, rfl, wpAny_pure ⟨Λ', fin, h⟩⟩))
    | exact wpAny_pure ⟨.none, rfl, wpAny_pure ⟨Λ', fin, h⟩⟩
theorem Ev.augI {Q : Flow → List Cell → Prop} {o i value : Expr} {tpos pos : Pos} {op : Operator} (h : Ev w X A Λ (eval o env) fun ov Λ₁ => Ev w X A Λ₁ (eval i env) fun iv Λ₂ => Ev w X A Λ₂ (getItem ov iv) fun old Λ₃ => Ev w X A Λ₃ (eval value env) fun v Λ₄ => Ev w X A Λ₄ (inplaceOp op old v) fun new Λ₅ => Ev w X A Λ₅ (setItem ov iv new) fun _ => Q .next)
    (hi : ∀ ov iv new, augStore i ov iv new = (do holding [new, ov, iv] (setItem ov iv new); release [new, ov, iv] []; pure .next) := by intros; rfl) : Ev w X A Λ (exec (.AugAssign (.Subscript o i tpos) op value pos) env) Q := fun s hs =>
  wpAny_AugAssign_SubscriptAny (h.useB hs fun _ _ _ h₁ q => q.useB h₁ fun _ _ _ h₂ q => q.useB h₂ fun _ _ _ h₃ q => q.useB h₃ fun _ _ _ h₄ q => q.useB h₄ fun _ s₅ _ h₅ q => q s₅ h₅) hi
theorem Ev.getI {Q : Value → List Cell → Prop} {l : Addr} {ns : List Int} {k i : Int} {t : Tok} (hl : Has X Λ l (ilst l ns).P) (h0 : 0 ≤ k) (h1 : k < 2 ^ 63) (hv : ns[k.toNat]? = some i) (h : ∀ t, Q (.int i t) Λ) : Ev w X A Λ (getItem (.ref l) (.int k t)) Q := fun s hs => by
  obtain ⟨vs, hl, hi⟩ := has_ilst hl hs
  obtain ⟨t', ht⟩ := hi.get _ _ hv
  exact getItem_listL hl h0 h1 ht ⟨Λ, hs, h _⟩
end
open PySem PySem.W PyProof.Rows PySem.Calls
set_option hygiene false in
local macro_rules | `(tactic| walk_at "mem") => `(tactic| first | exact List.Mem.head _ | (apply List.Mem.tail; walk_at "mem"))
set_option hygiene false in
local macro_rules | `(tactic| walk_at "has") => `(tactic| first | exact Or.inl (by walk_at "mem") | exact Or.inr (by assumption))
set_option hygiene false in
local macro_rules | `(tactic| walk_at "al") => `(tactic| first | with_reducible exact al_hit | with_reducible assumption | (with_reducible apply al_skip); (· kernel_rfl); walk_at "al")
set_option hygiene false in
local macro_rules | `(tactic| walk_at "put") => `(tactic| first | exact Put.head | (apply Put.tail; walk_at "put"))
set_option hygiene false in
local macro_rules | `(tactic| walk_at "cut") => `(tactic| first | exact Cut.head | (apply Cut.tail; walk_at "cut"))
set_option hygiene false in
local macro_rules | `(tactic| walk_at "S") => `(tactic| first
  | ((with_reducible show Ev _ _ _ _ (eval (Expr.Name _ _) _) _); first
      | refine Ev.local (by walk_at "has") (by walk_at "al") ?_
      | refine Ev.nameC (by rfl) (by walk_at "has") ?_
      | refine Ev.global (by assumption) (by rfl) ?_
      | refine Ev.builtin (by assumption) (by rfl) ?_)
  | ((with_reducible show Aft _ _ _ _ _ _ _ _); first | refine Ev.aft ?_ | refine Ev.aftR ?_ | refine Ev.aftB ?_)
  | with_reducible first
    | refine Ev.int fun _ => ?_
    | refine Ev.str fun _ => ?_
    | refine Ev.boolc ?_
    | refine Ev.nonec ?_
    | refine Ev.binop ?_
    | refine Ev.unary ?_
    | refine Ev.cmp ?_
    | refine Ev.addI fun _ => ?_
    | refine Ev.minI fun _ => ?_
    | refine Ev.gtS ?_
    | refine Ev.ltS ?_
    | refine Ev.eqS ?_
    | refine Ev.ltI ?_
    | refine Ev.leI ?_
    | refine Ev.gtI ?_
    | refine Ev.geI ?_
    | refine Ev.eqI ?_
    | refine Ev.neI ?_
    | refine Ev.subB fun _ => ?_
    | refine Ev.intB fun _ => ?_
    | refine Ev.notinS ?_
    | refine Ev.part0 ?_
    | refine Ev.part1 ?_
    | refine Ev.assert ?_
    | refine Ev.tuple ?_
    | refine Ev.negI fun _ => ?_
    | refine Ev.isubI fun _ => ?_
    | refine Ev.iaddI fun _ => ?_
    | refine Ev.tests0 ?_
    | refine Ev.tests1 ?_
    | refine Ev.nil ?_
    | refine Ev.seq ?_
  | ((with_reducible show Ev _ _ _ _ (exec (Stmt.Assign [Expr.Name _ _] _ _) _) _); refine Ev.asg ?_)
  | with_reducible first
    | refine Ev.aug ?_
    | refine Ev.retE ?_
  | ((with_reducible show Ev _ _ _ _ (exec (Stmt.Expr _ _) _) _); refine Ev.expr ?_)
  | with_reducible first
    | refine Ev.brk ?_
  | ((with_reducible show Ev _ _ _ _ (storeName _ _ _) _); refine Ev.store (by walk_at "put") ?_)
  | ((with_reducible show Ev _ _ _ _ (PySem.loadName _ _) _); refine Ev.loadN (by walk_at "has") (by walk_at "al") ?_)
  | with_reducible first
    | refine Ev.items0 ?_
  | ((with_reducible show Ev _ _ _ _ (spliced (backTo _ (starEach (_ :: _) _))) _); refine Ev.items1 ?_)
  | with_reducible first
    | refine Ev.truB ?_
    | refine Ev.tcmp ?_
    | refine Ev.tnot ?_
    | refine Ev.tbool ?_
  | ((with_reducible show Ev _ _ _ _ (isTrue (Expr.Name _ _) _ _) _); refine Ev.tval ?_)
  | ((with_reducible show Ev _ _ _ _ (isTrue (Expr.Call _ _ _ _) _ _) _); refine Ev.tval ?_)
  | with_reducible first
    | refine Ev.or0 ?_
    | refine Ev.and0 ?_
    | refine Ev.or1 ?_
    | refine Ev.and1 ?_
    | refine Ev.range1 fun _ => ?_
    | refine Ev.range2 fun _ => ?_
  | ((with_reducible show Ev _ _ _ _ (eval (Expr.Call (Expr.Name _ _) _ _ _) _) _); first
      | refine Ev.callB (by assumption) (by rfl) ?_
      | refine Ev.callT (by assumption) (by rfl) ?_
      | refine Ev.callF (by assumption) (by rfl) (by rfl) (by decide) ?_))
set_option hygiene false in
local macro_rules | `(tactic| walk_at "E") => `(tactic| first | walk_at "S" | ((with_reducible show Ev _ _ _ _ (exec (Stmt.If _ _ _ _) _) _); refine Ev.ifs ?_) | ((with_reducible show Ev _ _ _ _ (exec (Stmt.For _ _ _ _ _) _) _); refine Ev.for ?_))
set_option hygiene false in
local macro_rules | `(tactic| walk_at "sub") => `(tactic| first | with_reducible exact List.Sublist.refl _ | ((with_reducible apply List.Sublist.cons_cons); walk_at "sub") | ((with_reducible apply List.Sublist.cons); walk_at "sub"))
section
open PySem PySem.W PyProof.Rows PySem.Calls
/-- the first i digits; what is left behind them -/
noncomputable def dig1 (ps : List Int) : Nat → Int → Int
  | 0, n => n
  | i + 1, n => (dig1 ps i n).fmod (ps.getD (4 - i) 0)
noncomputable def dig0 (ps : List Int) : Nat → Int → List Int
  | 0, _ => []
  | i + 1, n => dig0 ps i n ++ [(dig1 ps i n).fdiv (ps.getD (4 - i) 0)]
variable {w : World} {A : Around} {X : Amb}
theorem digits_spec {n : Int} {tn : Tok} {lp : Addr} {ps : List Int} {Q : Value → List Cell → Prop} (B : Base w X.hb) (R : Rm A 4) (hl : Cell.at (ilst lp ps) X.hb) (hz : ps.length = 6) (hp : ∀ p ∈ ps, 0 < p ∧ p < 2 ^ 20)
    (h : ∀ a, Q (.ref a) [ilst a (dig0 ps 5 n)]) : Ev w X A [] (call (.ref 173) [.int n tn, .ref lp]) Q := by
  refine Ev.trim1 (c := fun a => ilst a (dig0 ps 5 n)) (v := .ref) ?_ h
  refine Ev.enter (k := 3) (binds := [("number", .int n tn), ("places", .ref lp)]) B R (by rfl) (by decide) (by kernel_rfl) (by rfl) (by rfl) (by rfl) (by rfl) fun L A' R' => ?_
  dsimp only [List.reverse, List.reverseAux]
  repeat walk_at "E"
  refine Ev.listI ?_
  walk_at "E"
  refine ⟨by decide, [], .nil, fun D => ?_⟩
  repeat walk_at "E"
  refine Ev.iterRange (Or.inl (by walk_at "mem")) (by decide) (by decide) (by decide) (by decide) fun it => ?_
  refine EvC.range (n := 5) R' (fun i Λ => ∃ r l m tm, Λ = [rng r 0 5, ilst D (dig0 ps i n), nsc L l] ∧ al l "digits" = some (.ref D) ∧ al l "places" = some (.ref lp) ∧ al l "number" = some (.int m tm) ∧ m = dig1 ps i n ∧ (dig0 ps i n).length = i) ?_ ?_ ⟨_, _, n, _, rfl, by walk_at "al", by walk_at "al", by walk_at "al", rfl, rfl⟩ (by decide)
  · rintro i Λ t hi ⟨r, l, m, tm, rfl, h1, h2, h3, rfl, h4⟩
    have hk : ps[((4 : Int) - (0 + i)).toNat]? = some (ps.getD (4 - i) 0) := by
      rw [show ((4 : Int) - (0 + i)).toNat = 4 - i by omega, List.getD_eq_getElem?_getD, List.getElem?_eq_getElem (by omega)]; rfl
    have hm := hp _ (List.mem_of_getElem? hk)
    repeat walk_at "E"
    refine Ev.methN (l := D) slot_list_append type_list_append (P := (ilst D (dig0 ps i n)).P) (fun _ => ilst_LL) ?_
    repeat walk_at "E"
    refine ⟨rfl, Or.inl (by walk_at "mem"), ?_⟩
    repeat walk_at "E"
    refine Ev.itemI (l := lp) (ns := ps) (k := 4 - (0 + i)) (i := ps.getD (4 - i) 0) ?_
    repeat walk_at "E"
    refine ⟨rfl, ⟨_, rfl⟩, Or.inr hl, by omega, by omega, hk, fun _ => ?_⟩
    refine Ev.divI (by omega) (PyProof.noPylong_small (by omega)) fun _ => ?_
    repeat walk_at "E"
    refine Ev.appendI (by walk_at "put") (by rw [h4, sizeLine_eq]; omega) ?_
    refine ⟨noref_none, ?_⟩
    repeat walk_at "E"
    refine Ev.itemI (l := lp) (ns := ps) (k := 4 - (0 + i)) (i := ps.getD (4 - i) 0) ?_
    repeat walk_at "E"
    refine ⟨rfl, ⟨_, rfl⟩, Or.inr hl, by omega, by omega, hk, fun _ => ?_⟩
    refine Ev.imodI (by omega) fun _ => ?_
    repeat walk_at "E"
    exact ⟨_, rfl, _, _, (dig1 ps i n).fmod (ps.getD (4 - i) 0), _, rfl, by walk_at "al", by walk_at "al", by walk_at "al", rfl, by rw [dig0, List.length_append, h4]; rfl⟩
  · rintro Λ ⟨r, l, m, tm, rfl, h1, h2, h3, rfl, h4⟩
    repeat walk_at "E"
    exact ⟨D, rfl, by walk_at "mem"⟩
end
section
open PySem PySem.W PyProof.Rows PySem.Calls
/-- how two texts stand -/
noncomputable def coll (x y : Str) : Int := b2i (decide (y.cps.toList < x.cps.toList)) - b2i (decide (x.cps.toList < y.cps.toList))
variable {w : World} {A : Around} {X : Amb} {Λ : List Cell} {Q : Value → List Cell → Prop}
theorem Ev.trim0 {α : Type} {t : Sem α} {Q : α → List Cell → Prop} {P : α → Prop} (h : Ev w X A [] t fun r _ => P r) (k : ∀ v, P v → Q v []) : Ev w X A [] t Q :=
  h.trim fun v Λ' p => ⟨[], List.nil_sublist _, k v p⟩
theorem strcoll_spec {x y : Str} {t u : Tok} (B : Base w X.hb) (R : Rm A 4) (h : ∀ t, Q (.int (coll x y) t) []) : Ev w X A [] (call (.ref 28) [.str x t, .str y u]) Q := by
  refine Ev.trim0 (P := fun r => ∃ t, r = .int (coll x y) t) ?_ (fun v ⟨t, e⟩ => e ▸ h t)
  refine Ev.enter (k := 3) (binds := [("a", .str x t), ("b", .str y u)]) B R (by rfl) (by decide) (by kernel_rfl) (by rfl) (by rfl) (by rfl) (by rfl) fun L A' R' => ?_
  dsimp only [List.reverse, List.reverseAux]
  repeat walk_at "E"
  exact ⟨_, rfl⟩
theorem isterm_spec {i : Int} {t : Tok} (B : Base w X.hb) (R : Rm A 4) (h : Q (.bool (decide (i < 256))) []) : Ev w X A [] (call (.ref 131) [.int i t]) Q := by
  refine Ev.trim0 (P := fun r => r = .bool (decide (i < 256))) ?_ (fun v e => e ▸ h)
  refine Ev.enter (k := 3) (binds := [("x", .int i t)]) B R (by rfl) (by decide) (by kernel_rfl) (by rfl) (by rfl) (by rfl) (by rfl) fun L A' R' => ?_
  dsimp only [List.reverse, List.reverseAux]
  repeat walk_at "E"
  rfl
theorem isnon_spec {i : Int} {t : Tok} (B : Base w X.hb) (R : Rm A 4) (h : Q (.bool (decide (256 ≤ i))) []) : Ev w X A [] (call (.ref 138) [.int i t]) Q := by
  refine Ev.trim0 (P := fun r => r = .bool (decide (256 ≤ i))) ?_ (fun v e => e ▸ h)
  refine Ev.enter (k := 3) (binds := [("x", .int i t)]) B R (by rfl) (by decide) (by kernel_rfl) (by rfl) (by rfl) (by rfl) (by rfl) fun L A' R' => ?_
  dsimp only [List.reverse, List.reverseAux]
  repeat walk_at "E"
  rfl
theorem iseof_spec {i : Int} {t : Tok} (B : Base w X.hb) (R : Rm A 4) (h : Q (.bool (i == 0)) []) : Ev w X A [] (call (.ref 145) [.int i t]) Q := by
  refine Ev.trim0 (P := fun r => r = .bool (i == 0)) ?_ (fun v e => e ▸ h)
  refine Ev.enter (k := 3) (binds := [("x", .int i t)]) B R (by rfl) (by decide) (by kernel_rfl) (by rfl) (by rfl) (by rfl) (by rfl) fun L A' R' => ?_
  dsimp only [List.reverse, List.reverseAux]
  repeat walk_at "E"
  rfl
end
section
open PySem PySem.W PyProof.Rows PySem.Calls
variable {w : World} {A : Around} {X : Amb} {Λ : List Cell} {Q : Value → List Cell → Prop}
theorem ell_plain {p g : List Nat} {t u : Tok} (B : Base w X.hb) (R : Rm A 4) (hp : nodots p) (h : Q (.bool (p == g)) []) : Ev w X A [] (call (.ref 42) [.str (tx p) t, .str (tx g) u]) Q := by
  refine Ev.trim0 (P := fun r => r = .bool (p == g)) ?_ (fun v e => e ▸ h)
  refine Ev.enter (k := 3) (binds := [("want", .str (tx p) t), ("got", .str (tx g) u)]) B R (by rfl) (by decide) (by kernel_rfl) (by rfl) (by rfl) (by rfl) (by rfl) fun L A' R' => ?_
  dsimp only [List.reverse, List.reverseAux]
  repeat walk_at "E"
  rw [dots_eq, contains_no hp]
  refine ⟨fun _ => ?_, fun e => nomatch e⟩
  repeat walk_at "E"
  rw [tx_beq]
  rfl
noncomputable def ell (p q g : List Nat) : Bool := decide (p.length + q.length ≤ g.length) && (g.take p.length == p && g.drop (g.length - q.length) == q)
theorem ell_no1 {p q g : List Nat} (h : (decide (p.length ≤ g.length) && g.take p.length == p) = false) : ell p q g = false := by
  unfold ell
  by_cases hl : p.length + q.length ≤ g.length
  · rw [decide_eq_true (show p.length ≤ g.length by omega), Bool.true_and] at h
    rw [h, Bool.false_and, Bool.and_false]
  · rw [decide_eq_false hl, Bool.false_and]
theorem ell_no2 {p q g : List Nat} (h : (decide (q.length ≤ g.length) && g.drop (g.length - q.length) == q) = false) : ell p q g = false := by
  unfold ell
  by_cases hl : p.length + q.length ≤ g.length
  · rw [decide_eq_true (show q.length ≤ g.length by omega), Bool.true_and] at h
    rw [h, Bool.and_false, Bool.and_false]
  · rw [decide_eq_false hl, Bool.false_and]
theorem ell_no3 {p q g : List Nat} (h : ¬ p.length + q.length ≤ g.length) : ell p q g = false := by
  unfold ell
  rw [decide_eq_false h, Bool.false_and]
theorem ell_yes {p q g : List Nat} (h1 : (decide (p.length ≤ g.length) && g.take p.length == p) = true) (h2 : (decide (q.length ≤ g.length) && g.drop (g.length - q.length) == q) = true) (h : p.length + q.length ≤ g.length) : ell p q g = true := by
  unfold ell
  rw [decide_eq_true h, (Bool.and_eq_true_iff.mp h1).2, (Bool.and_eq_true_iff.mp h2).2]; rfl
theorem ell_pq {p q g : List Nat} {t u : Tok} (B : Base w X.hb) (R : Rm A 4) (hp : nodots p) (hq : nodots q) (hz : p.length + q.length + g.length ≤ 100) (h : Q (.bool (ell p q g)) []) : Ev w X A [] (call (.ref 42) [.str (tx (p ++ (dots ++ q))) t, .str (tx g) u]) Q := by
  refine Ev.trim0 (P := fun r => r = .bool (ell p q g)) ?_ (fun v e => e ▸ h)
  refine Ev.enter (k := 3) (binds := [("want", .str (tx (p ++ (dots ++ q))) t), ("got", .str (tx g) u)]) B R (by rfl) (by decide) (by kernel_rfl) (by rfl) (by rfl) (by rfl) (by rfl) fun L A' R' => ?_
  dsimp only [List.reverse, List.reverseAux]
  repeat walk_at "E"
  rw [dots_eq, contains_pq hp hq]
  refine ⟨(fun e => nomatch e), fun _ => ?_⟩
  repeat walk_at "E"
  refine Ev.methS F.slot_str_split F.type_str_split ?_
  repeat walk_at "E"
  refine ⟨_, _, rfl, ?_⟩
  repeat walk_at "E"
  rw [dots_eq]
  refine Ev.splitS hp hq (by rw [sizeLine_eq]; omega) fun D => ?_
  repeat walk_at "E"
  refine Ev.lenT (Or.inl (by walk_at "mem")) (by show 2 < _; decide) fun _ => ?_
  repeat walk_at "E"
  refine ⟨rfl, ?_⟩
  repeat walk_at "E"
  refine Ev.asgT2 (x := "startpos") (y := "endpos") R' ?_
  repeat walk_at "E"
  have hgl : (tx g).length < 200 := by rw [tx_len]; omega
  refine Ev.lenS (by omega) fun _ => ?_
  repeat walk_at "E"
  refine ⟨by show 2 ≤ sizeLine; decide, fun T => ⟨T, _, _, rfl, Or.inl (by walk_at "mem"), ?_⟩⟩
  repeat walk_at "S"
  refine Ev.itemT (l := D) (ns := [tx p, tx q]) (k := 0) (i := tx p) ?_
  repeat walk_at "S"
  refine ⟨rfl, ⟨_, rfl⟩, Or.inl (by walk_at "mem"), by decide, by decide, rfl, fun _ => ?_⟩
  repeat walk_at "S"
  refine Ev.mono (Q := fun f Λ' => (f = .next ∧ (decide (p.length ≤ g.length) && g.take p.length == p) = true ∧ ∃ l ns vs t1 t2 t3, Λ' = [tup T vs, slst D (ns ++ [tx q]), nsc L l] ∧ (∀ y ∈ ns, y = Str.empty) ∧ ns.length ≤ 1 ∧
      al l "startpos" = some (.int p.length t1) ∧ al l "endpos" = some (.int g.length t2) ∧ al l "ws" = some (.ref D) ∧ al l "got" = some (.str (tx g) t3)) ∨ (f = .ret (.bool false) ∧ (decide (p.length ≤ g.length) && g.take p.length == p) = false)) (Ev.ifs ?_) ?_
  · repeat walk_at "S"
    refine Ev.truS (by rw [tx_len]; omega) ?_
    rw [tx_len]
    refine ⟨fun h0 => ?_, fun h0 => ?_⟩
    · repeat walk_at "E"
      refine Ev.methS F.slot_str_startswith F.type_str_startswith ?_
      repeat walk_at "E"
      refine ⟨_, _, rfl, ?_⟩
      repeat walk_at "E"
      refine Ev.startsS ?_
      rw [starts_tx]
      repeat walk_at "E"
      refine ⟨fun h1 => ?_, fun h1 => ?_⟩
      · repeat walk_at "E"
        refine Ev.lenS (by rw [tx_len]; omega) fun _ => ?_
        rw [tx_len]
        repeat walk_at "E"
        refine Ev.delT ?_
        repeat walk_at "E"
        refine ⟨D, [tx p, tx q], 0, 0, _, rfl, ⟨_, rfl⟩, by walk_at "put", rfl, rfl, by show 2 ≤ sizeLine; decide, ?_⟩
        repeat walk_at "E"
        rw [tx_len]
        exact .inl ⟨rfl, h1, _, [], _, _, _, _, rfl, (fun _ h => nomatch h), by show 0 ≤ 1; decide, by walk_at "al", by walk_at "al", by walk_at "al", by walk_at "al"⟩
      · repeat walk_at "E"
        exact .inr ⟨rfl, h1⟩
    · repeat walk_at "E"
      rw [tx_len]
      have hp0 : p = [] := by
        have : p.length = 0 := by simpa using h0
        exact List.length_eq_zero_iff.mp this
      subst hp0
      exact .inl ⟨rfl, rfl, _, [Str.empty], _, _, _, _, rfl, (fun y h => by simpa using h), by show 1 ≤ 1; decide, (by rw [show ((([] : List Nat).length : Nat) : Int) = 0 from rfl]; walk_at "al"), by walk_at "al", by walk_at "al", by walk_at "al"⟩
  rintro f Λ' (⟨rfl, hpg, l, ns, vs, t1, t2, t3, rfl, hns, hn1, a1, a2, a3, a4⟩ | ⟨rfl, hpg⟩)
  rotate_left
  · refine Ev.aftR ?_
    show Value.bool false = _
    rw [ell_no1 hpg]
  repeat walk_at "S"
  refine Ev.lastT (l := D) (ns := ns) (i := tx q) ?_
  repeat walk_at "S"
  refine ⟨rfl, ⟨_, rfl⟩, Or.inl (by walk_at "mem"), by omega, fun _ => ?_⟩
  repeat walk_at "S"
  refine Ev.mono (Q := fun f Λ' => (f = .next ∧ (decide (q.length ≤ g.length) && g.drop (g.length - q.length) == q) = true ∧ ∃ l ns vs t1 t2 t3, Λ' = [tup T vs, slst D ns, nsc L l] ∧ (∀ y ∈ ns, y = Str.empty) ∧ ns.length ≤ 2 ∧
      al l "startpos" = some (.int p.length t1) ∧ al l "endpos" = some (.int ((g.length : Int) - q.length) t2) ∧ al l "ws" = some (.ref D) ∧ al l "got" = some (.str (tx g) t3)) ∨ (f = .ret (.bool false) ∧ (decide (q.length ≤ g.length) && g.drop (g.length - q.length) == q) = false)) (Ev.ifs ?_) ?_
  · repeat walk_at "S"
    refine Ev.truS (by rw [tx_len]; omega) ?_
    rw [tx_len]
    refine ⟨fun h0 => ?_, fun h0 => ?_⟩
    · repeat walk_at "E"
      refine Ev.methS F.slot_str_endswith F.type_str_endswith ?_
      repeat walk_at "E"
      refine ⟨_, _, rfl, ?_⟩
      repeat walk_at "E"
      refine Ev.endsS ?_
      rw [ends_tx]
      repeat walk_at "E"
      refine ⟨fun h1 => ?_, fun h1 => ?_⟩
      · repeat walk_at "E"
        refine Ev.lenS (by rw [tx_len]; omega) fun _ => ?_
        rw [tx_len]
        repeat walk_at "E"
        refine Ev.delT ?_
        repeat walk_at "E"
        refine ⟨D, ns ++ [tx q], -1, ns.length, _, rfl, ⟨_, rfl⟩, by walk_at "put", rfl, by rw [StrLaws.seqIndex_neg (by decide) (by rw [List.length_append, List.length_singleton]; omega), List.length_append, List.length_singleton]; congr 1; omega, by rw [List.length_append, List.length_singleton, sizeLine_eq]; omega, ?_⟩
        repeat walk_at "E"
        exact .inl ⟨rfl, h1, _, ns, _, _, _, _, by rw [List.eraseIdx_append_of_length_le (Nat.le_refl _), Nat.sub_self]; show [_, slst D (ns ++ []), _] = _; rw [List.append_nil], hns, by omega, by walk_at "al", by walk_at "al", by walk_at "al", by walk_at "al"⟩
      · repeat walk_at "E"
        exact .inr ⟨rfl, h1⟩
    · repeat walk_at "E"
      have hq0 : q = [] := by
        have : q.length = 0 := by simpa using h0
        exact List.length_eq_zero_iff.mp this
      subst hq0
      exact .inl ⟨rfl, by simp, _, ns ++ [Str.empty], _, _, _, _, rfl, fun y h => (List.mem_append.mp h).elim (hns y) (fun h => by simpa using h), by rw [List.length_append, List.length_singleton]; omega, by walk_at "al", (by rw [show ((g.length : Int) - (([] : List Nat).length : Nat)) = g.length by simp]; walk_at "al"), by walk_at "al", by walk_at "al"⟩
  rintro f Λ' (⟨rfl, hqg, l, ns, vs, t1, t2, t3, rfl, hns, hn1, a1, a2, a3, a4⟩ | ⟨rfl, hqg⟩)
  rotate_left
  · refine Ev.aftR ?_
    show Value.bool false = _
    rw [ell_no2 hqg]
  repeat walk_at "E"
  refine ⟨fun h0 => ?_, fun h0 => ?_⟩
  · repeat walk_at "E"
    have h0 := of_decide_eq_true h0
    show Value.bool false = _
    rw [ell_no3 (by omega)]
  have h0 := of_decide_eq_false h0
  repeat walk_at "E"
  have hE : ell p q g = true := ell_yes hpg hqg (by omega)
  refine Ev.iterP (P := (slst D ns).P) (fun _ => slst_LL) (Or.inl (by walk_at "mem")) fun it => ?_
  refine EvC.list (n := ns.length) (P := fun _ v => ∃ t, v = .str Str.empty t) R' (fun _ Λ => ∃ l t1 t2 t3, Λ = [tup T vs, slst D ns, nsc L l] ∧ al l "startpos" = some (.int p.length t1) ∧ al l "endpos" = some (.int ((g.length : Int) - q.length) t2) ∧ al l "got" = some (.str (tx g) t3)) ?_ ?_ ?_ ⟨_, _, _, _, rfl, a1, a2, a4⟩
  · rintro _ Λ s ⟨l, t1, t2, t3, rfl, -⟩ hs
    obtain ⟨vs, hv, hi⟩ := has_slst (l := D) (ns := ns) (Or.inl (by walk_at "mem")) hs
    refine ⟨vs, hv, hi.length, fun j v e => ?_⟩
    obtain ⟨y, t, e1, rfl⟩ := StrsAre.at hi e
    exact ⟨t, by rw [hns y (List.mem_of_getElem? e1)]⟩
  · rintro i Λ v hi ⟨t, rfl⟩ ⟨l, t1, t2, t3, rfl, b1, b2, b3⟩
    repeat walk_at "E"
    refine Ev.methS F.slot_str_find F.type_str_find ?_
    repeat walk_at "E"
    refine ⟨_, _, rfl, ?_⟩
    repeat walk_at "E"
    rw [show ((g.length : Int) - q.length) = ((g.length - q.length : Nat) : Int) by omega]
    refine Ev.find4 (by omega) (by rw [tx_len]; omega) fun _ => ?_
    repeat walk_at "E"
    refine ⟨fun h => ?_, fun h => ?_⟩
    · exact absurd (of_decide_eq_true h) (by omega)
    repeat walk_at "E"
    refine Ev.lenS (by decide) fun _ => ?_
    repeat walk_at "E"
    exact ⟨_, rfl, _, _, t2, t3, rfl, (by rw [show ((p.length : Int) + (Str.empty.length : Nat)) = p.length from Int.add_zero _]; walk_at "al"), by rw [show ((g.length - q.length : Nat) : Int) = ((g.length : Int) - q.length) by omega]; walk_at "al", by walk_at "al"⟩
  · rintro Λ ⟨l, t1, t2, t3, rfl, -⟩
    repeat walk_at "E"
    show Value.bool true = _
    rw [hE]
end
section
open PySem PySem.W PyProof.Rows PySem.Calls
variable {w : World} {A : Around} {X : Amb} {Λ : List Cell} {Q : Value → List Cell → Prop}
noncomputable def letOk (p d : List Nat) : Bool := (((List.range 5).filter fun k => coll (tx (p.drop k)) (tx d) == 1).map fun (k : Nat) => (k : Int)) == []
theorem let_spec {p d : List Nat} {t u : Tok} (B : Base w X.hb) (R : Rm A 6) (hp : p.length ≤ 100) (h : Q (.bool (letOk p d)) []) : Ev w X A [] (call (.ref 185) [.str (tx p) t, .str (tx d) u]) Q := by
  refine Ev.trim0 (P := fun r => r = .bool (letOk p d)) ?_ (fun v e => e ▸ h)
  refine Ev.enterC (k := 5) (binds := [("word", .str (tx p) t), ("front", .str (tx d) u)]) [] (fun n => [("front", n + 1), ("word", n)]) (fun n => [cel (n + 1) (some (.str (tx d) u)), cel n (some (.str (tx p) t))])
    B R (by rfl) (by decide) (by kernel_rfl) (by rfl) (by rfl) (by rfl) (fun _ => by rfl) (by rfl) (fun _ => rfl) (fun _ _ h => nomatch h) (fun _ => by kernel_rfl) (by decide) fun L A' R' => ?_
  repeat walk_at "E"
  refine Ev.compI (fun k => coll (tx (p.drop k)) (tx d) == 1) (fun k => (k : Int)) (by rfl) ?_
  repeat walk_at "E"
  refine ⟨5, _, _, IterOf.range R' (by decide) rfl, ⟨by show 5 ≤ sizeLine; decide, ?_, ?_⟩, fun D => ?_⟩
  · rintro hb C i v hk hC hΛ hi ⟨tk, rfl⟩
    have B' := B.ext hk
    have c1 := hΛ _ (List.Mem.tail _ (List.Mem.head _))
    have c2 := hΛ _ (List.Mem.tail _ (List.Mem.tail _ (List.Mem.head _)))
    repeat walk_at "E"
    refine Ev.sliceF p i ?_
    repeat walk_at "E"
    refine ⟨⟨_, rfl⟩, ⟨_, _, rfl, rfl⟩, by omega, fun _ => ?_⟩
    repeat walk_at "E"
    refine strcoll_spec (by assumption) (R'.le (by decide)) fun _ => ?_
    repeat walk_at "E"
    rfl
  · rintro hb C i v hk hC hΛ hi ⟨tk, rfl⟩ hT
    have B' := B.ext hk
    repeat walk_at "E"
    exact ⟨_, rfl⟩
  repeat walk_at "E"
  refine Ev.listI ?_
  walk_at "E"
  refine ⟨by decide, [], .nil, fun D2 => ?_⟩
  repeat walk_at "E"
  refine Ev.eqII R' (Or.inl (by walk_at "mem")) (Or.inl (by walk_at "mem")) ?_
  repeat walk_at "E"
  rfl
/-- the longest end of p with which d begins -/
noncomputable def bd (p d : List Nat) (c : Nat) : Bool := ell (p.drop (5 - c)) [] d
theorem bd_zero {p d : List Nat} (hp : p.length = 5) : bd p d 0 = true := by
  unfold bd ell
  rw [List.drop_of_length_le (by omega)]; simp
theorem carry_spec {p d : List Nat} {t u : Tok} (B : Base w X.hb) (R : Rm A 6) (hp : p.length = 5) (hd : d.length = 5) (np : nodots p)
    (h : ∀ (c : Nat) t, c ≤ 5 → bd p d c = true → (∀ j, j ≤ 5 → bd p d j = true → j ≤ c) → Q (.int c t) []) : Ev w X A [] (call (.ref 190) [.str (tx p) t, .str (tx d) u]) Q := by
  refine Ev.trim0 (P := fun r => ∃ (c : Nat) (t : Tok), r = .int c t ∧ c ≤ 5 ∧ bd p d c = true ∧ ∀ j, j ≤ 5 → bd p d j = true → j ≤ c) ?_ (fun v ⟨c, t, e, a, b, g⟩ => e ▸ h c t a b g)
  refine Ev.enterC (k := 5) (binds := [("word", .str (tx p) t), ("front", .str (tx d) u)]) [] (fun n => [("front", n + 1), ("word", n)]) (fun n => [cel (n + 1) (some (.str (tx d) u)), cel n (some (.str (tx p) t))])
    B R (by rfl) (by decide) (by kernel_rfl) (by rfl) (by rfl) (by rfl) (fun _ => by rfl) (by rfl) (fun _ => rfl) (fun _ _ h => nomatch h) (fun _ => by kernel_rfl) (by decide) fun L A' R' => ?_
  repeat walk_at "E"
  refine Ev.compI (fun k => bd p d k) (fun k => (k : Int)) (by rfl) ?_
  repeat walk_at "E"
  refine ⟨6, _, _, IterOf.range R' (by decide) rfl, ⟨by show 6 ≤ sizeLine; decide, ?_, ?_⟩, fun D => ?_⟩
  · rintro hb C i v hk hC hΛ hi ⟨tk, rfl⟩
    have B' := B.ext hk
    have c1 := hΛ _ (List.Mem.tail _ (List.Mem.head _))
    have c2 := hΛ _ (List.Mem.tail _ (List.Mem.tail _ (List.Mem.head _)))
    repeat walk_at "E"
    refine Ev.sliceF p (5 - i) ?_
    repeat walk_at "E"
    refine ⟨⟨_, rfl⟩, ⟨_, _, rfl, by omega⟩, by omega, fun _ => ?_⟩
    repeat walk_at "E"
    rw [dots_eq]
    refine Ev.addT (fun _ => ?_) (by rw [List.length_drop]; show _ + 3 ≤ _; omega)
    repeat walk_at "E"
    rw [show p.drop (5 - i) ++ dots = p.drop (5 - i) ++ (dots ++ []) by rw [List.append_nil]]
    refine ell_pq (by assumption) (R'.le (by decide)) (fun c h => np c (List.mem_of_mem_drop h)) (fun c h => nomatch h) (by rw [List.length_drop]; simp; omega) ?_
    repeat walk_at "E"
    rfl
  · rintro hb C i v hk hC hΛ hi ⟨tk, rfl⟩ hT
    have B' := B.ext hk
    repeat walk_at "E"
    exact ⟨_, rfl⟩
  repeat walk_at "E"
  refine Ev.maxL R' (Or.inl (by walk_at "mem")) ?_ fun M t hM hm => ?_
  · rw [List.length_map]
    exact List.length_pos_of_mem (a := 0) (List.mem_filter.mpr ⟨List.mem_range.mpr (by decide), bd_zero hp⟩)
  · repeat walk_at "E"
    obtain ⟨c, hc, rfl⟩ := List.mem_map.mp hM
    obtain ⟨hc1, hc2⟩ := List.mem_filter.mp hc
    have hc1 := List.mem_range.mp hc1
    refine ⟨c, t, rfl, by omega, hc2, fun j hj hb => ?_⟩
    have := hm j (List.mem_map.mpr ⟨j, List.mem_filter.mpr ⟨List.mem_range.mpr (by omega), hb⟩, rfl⟩)
    omega
end
section
open PySem PySem.W PyProof.Rows PySem.Calls
variable {w : World} {A : Around} {X : Amb} {Λ : List Cell} {Q : Value → List Cell → Prop}
noncomputable def symS (ss : List Int) (lost : Int) (σ d : Int) : Int :=
  if 256 ≤ σ then (if d < ss.getD (σ - 256).toNat 0 then 256 else if d ≤ ss.getD (σ - 256).toNat 0 then σ + 1 else lost) else σ
noncomputable def symN (ss ds : List Int) (lost : Int) : Nat → Int
  | 0 => 256
  | i + 1 => symS ss lost (symN ss ds lost i) (ds.getD i 0)
theorem symN_le (ss ds : List Int) {lost : Int} (hl : lost < 256) : ∀ i : Nat, symN ss ds lost i ≤ 256 + i
  | 0 => by show (256 : Int) ≤ _; omega
  | i + 1 => by
    have := symN_le ss ds hl i
    show symS ss lost (symN ss ds lost i) (ds.getD i 0) ≤ _
    unfold symS
    split
    · split
      · omega
      · split <;> omega
    · omega
theorem symbol_spec {ld ls : Addr} {ds ss : List Int} {lost : Int} {tl : Tok} (B : Base w X.hb) (R : Rm A 8) (hd : Cell.at (ilst ld ds) X.hb) (hs : Cell.at (ilst ls ss) X.hb) (nd : ds.length = 5) (ns : ss.length = 5) (hl : lost < 256)
    (h : ∀ t, Q (.int (symN ss ds lost 5) t) []) : Ev w X A [] (call (.ref 180) [.ref ld, .ref ls, .int lost tl]) Q := by
  refine Ev.trim0 (P := fun r => ∃ t, r = .int (symN ss ds lost 5) t) ?_ (fun v ⟨t, e⟩ => e ▸ h t)
  refine Ev.enter (k := 7) (binds := [("digits", .ref ld), ("steps", .ref ls), ("lost", .int lost tl)]) B R (by rfl) (by decide) (by kernel_rfl) (by rfl) (by rfl) (by rfl) (by rfl) fun L A' R' => ?_
  dsimp only [List.reverse, List.reverseAux]
  repeat walk_at "E"
  refine Ev.iterP (P := (ilst ld ds).P) (fun _ => ilst_LL) (Or.inr hd) fun it => ?_
  refine EvC.list (n := 5) (P := fun j v => ∃ t, v = .int (ds.getD j 0) t) R' (fun i Λ => ∃ l σ t, Λ = [nsc L l] ∧ al l "steps" = some (.ref ls) ∧ al l "lost" = some (.int lost tl) ∧ al l "symbol" = some (.int σ t) ∧ σ = symN ss ds lost i) ?_ ?_ ?_ ⟨_, 256, _, rfl, by walk_at "al", by walk_at "al", by walk_at "al", rfl⟩
  · rintro i Λ s - hs
    exact intsAt (i := i) nd (Or.inr hd) hs
  · rintro i Λ v hi ⟨t, rfl⟩ ⟨l, σ, t1, rfl, a1, a2, a3, hσ⟩
    repeat walk_at "E"
    refine Ev.base fun hb hk hc => ?_
    have B' := B.ext hk
    refine isnon_spec (by assumption) (R'.le (by decide)) ?_
    dsimp only [List.nil_append]
    repeat walk_at "E"
    have hle := symN_le ss ds hl i
    refine ⟨fun h0 => ?_, fun h0 => ?_⟩
    · have h0 := of_decide_eq_true h0
      repeat walk_at "E"
      refine Ev.itemI (l := ls) (ns := ss) (k := σ - 256) (i := ss.getD (σ - 256).toNat 0) ?_
      repeat walk_at "E"
      refine ⟨rfl, ⟨_, rfl⟩, Or.inr (by assumption), by omega, by omega, ?_, fun _ => ?_⟩
      · rw [List.getD_eq_getElem?_getD, List.getElem?_eq_getElem (by omega)]; rfl
      repeat walk_at "E"
      refine Ev.itemX ?_
      refine Ev.listI ?_
      repeat walk_at "E"
      refine ⟨by show 3 ≤ sizeLine; decide, [lost, σ + 1, 256], .cons _ _ (.cons _ _ (.cons _ _ .nil)), fun D => ?_⟩
      repeat walk_at "E"
      refine ⟨D, _, _, symS ss lost σ (ds.getD i 0), rfl, ⟨_, rfl⟩, Or.inl (by walk_at "mem"), ?_, ?_, ?_, fun t => ?_⟩
      · split <;> split <;> decide
      · split <;> split <;> decide
      · unfold symS
        rw [if_pos h0]
        by_cases h1 : ds.getD i 0 < ss.getD (σ - 256).toNat 0
        · rw [if_pos h1, decide_eq_true h1, decide_eq_true (show ds.getD i 0 ≤ _ by omega)]; rfl
        · rw [if_neg h1, decide_eq_false h1]
          by_cases h2 : ds.getD i 0 ≤ ss.getD (σ - 256).toNat 0
          · rw [if_pos h2, decide_eq_true h2]; rfl
          · rw [if_neg h2, decide_eq_false h2]; rfl
      refine Ev.sub (List.sublist_cons_self _ _) ?_
      repeat walk_at "E"
      exact ⟨_, rfl, _, symS ss lost σ (ds.getD i 0), _, rfl, by walk_at "al", by walk_at "al", by walk_at "al", by rw [hσ]; rfl⟩
    · have h0 := of_decide_eq_false h0
      repeat walk_at "E"
      refine ⟨_, rfl, _, σ, _, rfl, by walk_at "al", by walk_at "al", by walk_at "al", ?_⟩
      show σ = symS ss lost (symN ss ds lost i) _
      unfold symS
      rw [← hσ, if_neg h0]
  · rintro Λ ⟨l, σ, t, rfl, a1, a2, a3, rfl⟩
    repeat walk_at "E"
    exact ⟨_, rfl⟩
end
section
open PySem PySem.W PyProof.Rows PySem.Calls
/-- some objects out of sight -/
noncomputable def hide (h : Heap) (l : List Addr) : Heap := l.foldl (fun h a => h.update a fun _ => ⟨.none, none, .freed, #[]⟩) h
theorem hide_ne : ∀ (l : List Addr) (h : Heap) {b : Addr}, b ∉ l → (hide h l).get? b = h.get? b
  | [], _, _, _ => rfl
  | a :: l, h, b, hb => by
    have := hide_ne l (h.update a fun _ => ⟨.none, none, .freed, #[]⟩) (b := b) (fun m => hb (.tail _ m))
    exact this.trans (Heap.get?_update_ne h b a _ fun e => hb (e ▸ .head _))
theorem upd_none (h : Heap) (a : Addr) : (h.update a fun _ => ⟨.none, none, .freed, #[]⟩).get? a = none := by
  obtain ⟨objs, l⟩ := h
  simp only [Heap.update, Heap.get?, Array.getElem?_modify, if_true]
  cases objs[a]? <;> rfl
theorem hide_none : ∀ (l : List Addr) (h : Heap) {b : Addr}, h.get? b = none → (hide h l).get? b = none
  | [], _, _, e => e
  | a :: l, h, b, e => by
    refine hide_none l (h.update a fun _ => ⟨.none, none, .freed, #[]⟩) ?_
    by_cases hab : b = a
    · subst hab; exact upd_none h b
    · exact (Heap.get?_update_ne h b a _ hab).trans e
theorem hide_mem (l : List Addr) (h : Heap) {b : Addr} (hb : b ∈ l) : (hide h l).get? b = none := by
  induction l generalizing h with
  | nil => exact absurd hb List.not_mem_nil
  | cons a l ih =>
    rcases List.mem_cons.mp hb with rfl | hb
    · exact hide_none l _ (upd_none h b)
    · exact ih _ hb
theorem hide_some {h : Heap} {l : List Addr} {b : Addr} {o : Obj} (e : (hide h l).get? b = some o) : b ∉ l ∧ h.get? b = some o := by
  by_cases hb : b ∈ l
  · rw [hide_mem l h hb] at e; cases e
  · exact ⟨hb, by rw [hide_ne l h hb] at e; exact e⟩
variable {w : World} {A : Around} {X : Amb} {Λ Λ' Λ₁ Λ₂ : List Cell} {env : Env}
/-- what was hidden is seen again -/
theorem Ev.over {α : Type} {t : Sem α} {Q : α → List Cell → Prop} (h : ∀ hb, (∀ b o, X.hb.get? b = some o → hb.get? b = some o) → (∀ c ∈ Λ₂, c.at hb) → Ev w ⟨hb, X.gp, X.d, X.os⟩ A Λ₁ t fun v Λ' => Q v (Λ' ++ Λ₂)) : Ev w X A (Λ₁ ++ Λ₂) t Q := fun s hs => by
  have hs1 : Sat X Λ₁ s := hs.sub (List.sublist_append_left ..)
  have hs2 : Sat X Λ₂ s := hs.sub (List.sublist_append_right ..)
  have out : ∀ c ∈ Λ₂, c.addr ∉ Λ₁.map Cell.addr := fun c hc hm => by
    have nd := hs.nd
    rw [List.map_append, List.nodup_append] at nd
    exact nd.2.2 _ hm _ (List.mem_map.mpr ⟨c, hc, rfl⟩) rfl
  have out2 : ∀ b o, X.hb.get? b = some o → b ∉ Λ₁.map Cell.addr := fun b o e hm => by
    obtain ⟨c, hc, rfl⟩ := List.mem_map.mp hm
    rw [hs1.new c hc] at e; cases e
  have at2 : ∀ c ∈ Λ₂, c.at (hide s.heap (Λ₁.map Cell.addr)) := fun c hc => Cell.at_of (hs2.own c hc) fun o e => (hide_ne _ _ (out c hc)).trans e
  refine Ev.useB (h (hide s.heap (Λ₁.map Cell.addr)) (fun b o e => (hide_ne _ _ (out2 b o e)).trans (hs.keep b o e)) at2) (s := s)
    ⟨fun b o e => (hide_some e).2, hs1.own, fun c hc => hide_mem _ _ (List.mem_map.mpr ⟨c, hc, rfl⟩), hs1.nd, hs.gp, hs.d, hs.os⟩ fun v s' Λ' h' q => ⟨Λ' ++ Λ₂, ?_, q⟩
  refine Sat.app ⟨fun b o e => h'.keep b o ((hide_ne _ _ (out2 b o e)).trans (hs.keep b o e)), fun c hc => Cell.at_of (at2 c hc) fun o e => h'.keep _ o e, hs2.new, hs2.nd, h'.gp, h'.d, h'.os⟩ h'.own (fun c hc => ?_) (fun c hc d hd e => ?_) h'.nd
  · cases e : X.hb.get? c.addr with
    | none => rfl
    | some o =>
      have := h'.new c hc
      rw [show (hide s.heap (Λ₁.map Cell.addr)).get? c.addr = some o from (hide_ne _ _ (out2 _ _ e)).trans (hs.keep _ _ e)] at this
      cases this
  · obtain ⟨o, ho, -⟩ := at2 c hc
    have := h'.new d hd
    rw [e] at this
    exact absurd (ho.symm.trans this) (fun x => nomatch x)
/-! a generator's body -/
section
variable {M : Model} {R : GenEnd} {Y : Protocol} {n : Nat} {s₀ : Shared} {c : Code} {fs : List Frame} {s : Shared} {K : Flow → Sem Fin} {H : Value → Sem Fin} {gd : Bool → Bool} {lv : List Value → List Value}
theorem seg_pure {α : Type} {m : Sem α} {K : α → Sem Fin} {H : Value → Sem Fin} {gd lv} (h : wpAny M (A.over c fs) m (fun a s' => Seg M A R Y n s₀ c (K a) fs s') (fun _ _ => False) s) : Seg M A R Y n s₀ c (m.wrap K H gd lv) fs s :=
  seg_wrap (wpAny_mono h (fun _ _ x => x) fun _ _ x => x.elim)
theorem seg_bindw {α β : Type} {m : Sem α} {K : α → Sem β} {K' : β → Sem Fin} {H' : Value → Sem Fin} {gd lv}
    (h : wpAny M (A.over c fs) m (fun a s' => Seg M A R Y n s₀ c ((K a).wrap K' H' gd lv) fs s') (fun _ _ => False) s) : Seg M A R Y n s₀ c ((m >>= K).wrap K' H' gd lv) fs s :=
  seg_bind_wrap (wpAny_mono h (fun _ _ x => x) fun _ _ x => x.elim)
theorem seg_run {c' : Code} (h : ∀ k p, (∀ f, k (.ok f) = K f) → Seg M A R Y n s₀ c' (M.den c') (.ret k none (gd false) (lv []) c p [] :: fs) s) :
    Seg M A R Y n s₀ c ((runOwn c' env).wrap K H gd lv) fs s := by
  have : ∀ p, Seg M A R Y n s₀ c' (M.den c') (.ret (fun r => ((match r with | .ok f => (.pure f : Sem Flow) | .error e => .raise e).onRaise fun (x : Value) => do
        if (← field x 1) == Value.none then unsupported "frame.own-activation:exception-without-traceback"
        setFlight x env.frame).wrap K H gd lv) none (gd false) (lv []) c p [] :: fs) s := fun p => h _ p (fun f => rfl)
  exact seg_call this
theorem seg_If {t : Expr} {b o : List Stmt} {pos : Pos} (h : wpAny M (A.over c fs) (isTrue t env (eval t env)) (fun v s' => if v = true then Seg M A R Y n s₀ c ((execs b env).wrap K H gd lv) fs s' else Seg M A R Y n s₀ c ((execs o env).wrap K H gd lv) fs s') (fun _ _ => False) s) :
    Seg M A R Y n s₀ c ((exec (.If t b o pos) env).wrap K H gd lv) fs s := by
  rw [show exec (.If t b o pos) env = (do standAt pos; if ← isTrue t env (eval t env) then execs b env else execs o env) from rfl]
  refine seg_bindw (wpAny_standAt (seg_bindw (wpAny_mono h (fun v s' hv => ?_) fun _ _ x => x)))
  cases v <;> simpa using hv
end
end
section
open PySem PySem.W PyProof.Rows PySem.Calls
variable {w : World} {A : Around} {X : Amb} {Λ Λ' Λ₁ Λ₂ : List Cell} {env : Env}
section
variable {R : GenEnd} {Y : Protocol} {n : Nat} {s₀ : Shared} {c : Code} {fs : List Frame} {s : Shared} {K : Flow → Sem Fin} {H : Value → Sem Fin} {gd : Bool → Bool} {lv : List Value → List Value}
theorem seg_For {target iter : Expr} {body orelse : List Stmt} {pos : Pos}
    (h : wpAny (Mod w) (A.over c fs) (eval iter env) (fun x s₁ => wpAny (Mod w) (A.over c fs) (pyIter x) (fun it s₂ =>
      ∀ k p, (∀ f, k (.ok f) = K f) → Seg (Mod w) A R Y n s₀ (.forLoop target it body orelse env) ((Mod w).den (.forLoop target it body orelse env)) (.ret k none (gd false) (lv []) c p [] :: fs) s₂) (fun _ _ => False) s₁) (fun _ _ => False) s)
    (hs : ∀ x, foldedSetIterable iter env x = Pure.pure x := by intro _; rfl) : Seg (Mod w) A R Y n s₀ c ((exec (.For target iter body orelse pos) env).wrap K H gd lv) fs s := by
  rw [exec_For]
  refine seg_bindw (wpAny_standAt (seg_bindw (wpAny_mono h (fun x s₁ h₁ => ?_) fun _ _ x => x)))
  refine seg_bindw (wpAny_of_eq (hs x) (seg_bindw (wpAny_standAt (seg_bindw (wpAny_holding (wpAny_mono h₁ (fun it s₂ h₂ => ?_) fun _ _ x => x))))))
  exact seg_run h₂
theorem seg_While' {test : Expr} {body orelse : List Stmt} {pos : Pos}
    (h : ∀ k p, (∀ f, k (.ok f) = K f) → Seg (Mod w) A R Y n s₀ (.whileLoop test body orelse env) ((Mod w).den (.whileLoop test body orelse env)) (.ret k none (gd false) (lv []) c p [] :: fs) s) :
    Seg (Mod w) A R Y n s₀ c ((exec (.While test body orelse pos) env).wrap K H gd lv) fs s := by
  rw [exec_While]
  exact seg_bindw (wpAny_standAt (seg_run h))
theorem seg_forTurn {x : Str} {px : Pos} {it : Value} {body orelse : List Stmt}
    (h : wpAny (Mod w) (A.over (.forLoop (.Name x px) it body orelse env) fs) (pyNext it) (fun r s₁ => match r with
      | none => Seg (Mod w) A R Y n s₀ (.block orelse env) ((Mod w).den (.block orelse env)) fs s₁
      | some v => wpAny (Mod w) (A.over (.forLoop (.Name x px) it body orelse env) fs) (storeName env x v) (fun _ s₂ => ∀ H, Seg (Mod w) A R Y n s₀ (.forLoop (.Name x px) it body orelse env) ((execs body env).wrap (fun f => match f with
          | .next | .cont => .pure (.again (.forLoop (.Name x px) it body orelse env))
          | .brk => .pure (.done .next)
          | .ret v => .pure (.done (.ret v))) H id id) fs s₂) (fun _ _ => False) s₁) (fun _ _ => False) s) :
    Seg (Mod w) A R Y n s₀ (.forLoop (.Name x px) it body orelse env) ((Mod w).den (.forLoop (.Name x px) it body orelse env)) fs s := by
  show Seg _ A R Y n s₀ _ ((PySem.forTurn (.Name x px) it body orelse env).onRaise (fun x => do noteFrame x env; theTreesLotGoes x)) fs s
  rw [Sem.onRaise_eq_wrap]
  unfold PySem.forTurn
  refine seg_bindw (wpAny_standAt (seg_bindw (wpAny_onRaise (wpAny_mono h (fun r s₁ h₁ => ?_) fun _ _ x => x.elim))))
  cases r with
  | none => exact seg_again rfl h₁
  | some v =>
    refine seg_bindw (wpAny_of_eq (a := ()) (by rfl) ?_)
    refine seg_bindw (wpAny_assign_Name (wpAny_mono h₁ (fun _ s₂ h₂ => ?_) fun _ _ x => x))
    rw [Sem.bind_eq_wrap', Sem.wrap_wrap]
    rw [Sem.wrap_congr (execs body env) _ _ (K' := fun f => match f with
            | .next | .cont => .pure (.again (.forLoop (.Name x px) it body orelse env))
            | .brk => .pure (.done .next)
            | .ret v => .pure (.done (.ret v))) (fun f => by cases f <;> rfl) (fun _ => rfl)]
    exact h₂ _
theorem seg_blockNil (h : Seg (Mod w) A R Y n s₀ (.block [] env) (.pure (.done .next)) fs s) : Seg (Mod w) A R Y n s₀ (.block [] env) ((Mod w).den (.block [] env)) fs s := h
end
end
section
open PySem PySem.W PyProof.Rows PySem.Calls
/-- what _grouping_intervals tells, by place -/
noncomputable def tvf : Option Int → List Int → Nat → Option Int
  | _, [], _ => none
  | last, x :: r, i => if x = 127 then none else if x = 0 then last else match i with | 0 => some x | i + 1 => tvf (some x) r i
/-- it is refused -/
noncomputable def refuses : Option Int → List Int → Bool
  | _, [] => false
  | last, x :: r => if x = 127 then false else if x = 0 then last.isNone else refuses (some x) r
section
variable (hb : Heap) (L a : Addr) (tv : Nat → Option Int) (N : Nat)
noncomputable def GS (s₀ s : Shared) : Prop := ∃ h' tk, s = { s₀ with heap := h', toks := tk } ∧ ∀ b o, (b < L ∨ b = a) → s₀.heap.get? b = some o → h'.get? b = some o
noncomputable def KP (s s' : Shared) : Prop := ∀ b o, (b = L ∨ a ≤ b ∨ (hb.get? b).isSome = true) → s.heap.get? b = some o → s'.heap.get? b = some o
noncomputable def YG : Protocol := fun m s₀ v s kap => (∃ x t, tv (N - 1 - m) = some x ∧ v = .int x t) ∧ GS L a s₀ s ∧ (0 < m → ∀ s'', KP hb L a s s'' → kap (.send .none) s'')
noncomputable def RG : GenEnd := fun n s₀ r s => r = .ok (.ret .none) ∧ tv (N - n) = none ∧ GS L a s₀ s
end
/-- a segment of the generator: what it may turn is out of sight -/
noncomputable abbrev XS (l : List Addr) (s₀ : Shared) : Amb := ⟨hide s₀.heap l, (· = s₀.gens), s₀.drawn, s₀.os⟩
variable {w : World} {A : Around} {hb : Heap} {L a it gl : Addr} {tv : Nat → Option Int} {N : Nat}
theorem nsub0 {N n : Nat} : N - (n + 1) + 0 = N - 1 - n := by omega
theorem nsub1 {N m i : Nat} (h : m + 2 ≤ N) : N - (m + 1 + 1) + (i + 1) = N - (m + 1) + i := by omega
theorem gs_of {l : List Addr} {Λ : List Cell} {s₀ s : Shared} (hs : Sat (XS l s₀) Λ s) (hl : ∀ b ∈ l, L ≤ b ∧ b ≠ a) : GS L a s₀ s := by
  refine ⟨s.heap, s.toks, ?_, fun b o hb e => ?_⟩
  · have h1 : s.gens = s₀.gens := hs.gp
    have h2 : s.drawn = s₀.drawn := hs.d
    have h3 : s.os = s₀.os := hs.os
    cases s; cases s₀; simp only at h1 h2 h3; subst h1 h2 h3; rfl
  · refine hs.keep b o ((hide_ne l s₀.heap fun hm => ?_).trans e)
    have := hl b hm
    rcases hb with hb | hb
    · exact absurd hb (Nat.not_lt.mpr this.1)
    · exact this.2 hb
theorem xs_hb {l : List Addr} {s₀ : Shared} (hk : ∀ b o, hb.get? b = some o → s₀.heap.get? b = some o) (hl : ∀ b ∈ l, hb.get? b = none) : ∀ b o, hb.get? b = some o → (XS l s₀).hb.get? b = some o := fun b o e =>
  (hide_ne l s₀.heap fun hm => by rw [hl b hm] at e; cases e).trans (hk b o e)
theorem xs_anew {l : List Addr} {Λ : List Cell} {s₀ s s' : Shared} (hs : Sat (XS l s₀) Λ s) (hΛ : ∀ c ∈ Λ, c.addr ∈ l) (hk : KP hb L a s s') (hl : ∀ b ∈ l, b = L ∨ a < b) : Sat (XS l s') Λ s' :=
  ⟨fun b o e => (hide_some e).2, fun c hc => Cell.at_of (hs.own c hc) fun o e => hk _ _ ((hl _ (hΛ c hc)).elim .inl fun h => .inr (.inl (Nat.le_of_lt h))) e, fun c hc => hide_mem _ _ (hΛ c hc), hs.nd, rfl, rfl, rfl⟩
/-- the room of a frame within the generator -/
theorem rm_over {k j : Nat} {c : Code} {fs : List Frame} (R : Rm A (k + j)) (h1 : (marksOver fs (A.handled, A.handled)).1 = A.handled) (h2 : frameCount (fs.map Frame.where_) + c.weight ≤ j) (h3 : unitsOf (fs.map Frame.where_) + c.cUnits ≤ 10 * j) : Rm (A.over c fs) k :=
  ⟨h1.trans R.hd, by have := R.dp; show A.depth + frameCount (fs.map Frame.where_) + c.weight + k ≤ 600; omega, by have := R.un; show A.units + unitsOf (fs.map Frame.where_) + c.cUnits + 10 * k ≤ 9000; omega⟩
structure GE (env : Env) (L : Addr) : Prop where
  loc : env.locals = L
  ki : env.kindOf "interval" = some .local
  kl : env.kindOf "last_interval" = some .local
  kc : env.kindOf "CHAR_MAX" = some .globalImplicit
  k : env.scope.kind = .function
  g : env.globals = mainGlobals
  co : env.scope.isCoroutine = false
variable {env : Env}
theorem GE.hp (E : GE env L) : (env.scope.kind == .class || (env.scope.kind == .module && env.locals != env.globals)) = false := by rw [E.k]; rfl
theorem GE.hi (E : GE env L) : interactive env = false := by unfold interactive; rw [E.k]; rfl
theorem Ev.isNone {X : Amb} {Λ : List Cell} {v : Value} {Q : Value → List Cell → Prop} (h : Q (.bool (v == .none)) Λ) : Ev w X A Λ (compareOp .Is v .none) Q := fun s hs => is_none_gen ⟨Λ, hs, h⟩
section
variable {kk : Nat} {pp1 pp2 pp3 pp4 : Pos} {tgt : Expr} {itv : Value} {body orl bd : List Stmt} {j : Nat} {x : Int} {t : Tok}
theorem gen_while (E : GE env L) (h1 : hb.get? L = none) (h2 : hb.get? it = none) (hLa : L < a) (hit : a < it) (R : Rm A 10) :
    ∀ (n : Nat) (s₀ s : Shared) (l : List (Str × Value)) k1 p1 k2 p2, (∀ b o, hb.get? b = some o → s₀.heap.get? b = some o) → Sat (XS [L, it] s₀) [lit it gl j, nsc L l] s → al l "last_interval" = some (.int x t) →
      (∀ i, i ≤ n → tv (N - (n + 1) + i) = some x) → n < N →
      Seg (Mod w) A (RG L a tv N) (YG hb L a tv N) (n + 1) s₀ (.whileLoop (.Constant (.bool true) kk pp1) [.Expr (.Yield (some (.Name "last_interval" pp2)) pp3) pp4] [] env)
        ((Mod w).den (.whileLoop (.Constant (.bool true) kk pp1) [.Expr (.Yield (some (.Name "last_interval" pp2)) pp3) pp4] [] env)) [.ret k1 none false [] (.forLoop tgt itv body orl env) p1 [], .ret k2 none false [] (.func bd env) p2 []] s := by
  intro n
  induction n using Nat.strongRecOn with
  | _ n ih =>
  intro s₀ s l k1 p1 k2 p2 hk hs hl ht hn
  have hl2 : ∀ b ∈ [L, it], L ≤ b ∧ b ≠ a := fun b hb => by
    rcases List.mem_cons.mp hb with rfl | hb
    · exact ⟨Nat.le_refl _, Nat.ne_of_lt hLa⟩
    · rw [List.mem_singleton.mp hb]; exact ⟨Nat.le_of_lt (Nat.lt_trans hLa hit), Nat.ne_of_gt hit⟩
  have hl3 : ∀ b ∈ [L, it], b = L ∨ a < b := fun b hb => by
    rcases List.mem_cons.mp hb with rfl | hb
    · exact .inl rfl
    · rw [List.mem_singleton.mp hb]; exact .inr hit
  have hno : ∀ b ∈ [L, it], hb.get? b = none := fun b hb => by
    rcases List.mem_cons.mp hb with rfl | hb
    · exact h1
    · rw [List.mem_singleton.mp hb]; exact h2
  refine seg_whileLoop ?_
  refine Ev.useB (Q := fun b Λ' => b = true ∧ Λ' = [lit it gl j, nsc L l]) (Ev.tval (Ev.boolc (Ev.truB ⟨rfl, rfl⟩))) hs fun b s₁ Λ₁ h₁ q => ?_
  obtain ⟨rfl, rfl⟩ := q
  rw [if_pos rfl]
  refine seg_execs_cons (seg_Expr_Yield rfl rfl rfl ?_ E.co E.hi)
  refine Ev.useB (Q := fun v Λ' => v = .int x t ∧ Λ' = [lit it gl j, nsc L l]) (Ev.local (l := l) (Or.inl (by rw [E.loc]; exact .tail _ (.head _))) hl ⟨rfl, rfl⟩ E.k E.kl) h₁ fun v s₂ Λ₂ h₂ q => ?_
  obtain ⟨rfl, rfl⟩ := q
  intro kap hkap
  refine ⟨⟨x, t, ?_, rfl⟩, gs_of h₂ hl2, fun hm s'' hkp => hkap .none s'' ?_⟩
  · have := ht 0 (Nat.zero_le _)
    rw [nsub0] at this
    exact this
  · obtain ⟨m, rfl⟩ : ∃ m, n = m + 1 := ⟨n - 1, by omega⟩
    have h₃ : Sat (XS [L, it] s'') [lit it gl j, nsc L l] s'' := xs_anew h₂ (fun c hc => by
      rcases List.mem_cons.mp hc with rfl | hc
      · exact .tail _ (.head _)
      · rw [List.mem_singleton.mp hc]; exact .head _) hkp hl3
    refine seg_again rfl (ih m (by omega) s'' s'' l k1 p1 k2 p2 (fun b o e => ?_) h₃ hl (fun i hi => ?_) (by omega))
    · exact hkp b o (.inr (.inr (by rw [e]; rfl))) (h₂.keep b o (xs_hb hk hno b o e))
    · have := ht (i + 1) (by omega)
      rwa [nsub1 (by omega : m + 2 ≤ N)] at this
noncomputable def LastIs (last : Option Int) (v : Value) : Prop := match last with | none => v = .none | some x => ∃ t, v = .int x t
variable {ns : List Int} {rb : List Stmt} {q0 q1 q2 q3 q4 q5 q6 q7 q8 q9 q10 q11 q12 q13 q14 q15 q16 q17 q18 q19 q20 : Pos} {m1 m2 : Nat}
theorem gen_end {n : Nat} {s₀ s : Shared} {k2 p2} {c : Code} (hk2 : ∀ f, f = .next ∨ f = .ret .none → k2 (.ok f) = leafOf (.ok (.ret .none))) {f : Flow} (hf : f = .next ∨ f = .ret .none) (htv : tv (N - n) = none) (hg : GS L a s₀ s) :
    Seg (Mod w) A (RG L a tv N) (YG hb L a tv N) n s₀ c (leafOf (.ok f)) [.ret k2 none false [] (.func bd env) p2 []] s :=
  seg_leaf _ (by rw [hk2 f hf]; exact seg_end _ ⟨rfl, htv, hg⟩)
theorem gen_for (E : GE env L) (B : Base w hb) (hgl : Cell.at (ilst gl ns) hb) (h1 : hb.get? L = none) (h2 : hb.get? it = none) (hLa : L < a) (hit : a < it) (R : Rm A 10) :
    ∀ (n : Nat) (s₀ s : Shared) (l : List (Str × Value)) (j : Nat) (last : Option Int) (lv : Value) k2 p2, (∀ b o, hb.get? b = some o → s₀.heap.get? b = some o) → Sat (XS [L, it] s₀) [lit it gl j, nsc L l] s → al l "last_interval" = some lv → LastIs last lv →
      (∀ i, i ≤ n → tv (N - (n + 1) + i) = tvf last (ns.drop j) i) → refuses last (ns.drop j) = false → n < N → j ≤ ns.length → (∀ f, f = .next ∨ f = .ret .none → k2 (.ok f) = leafOf (.ok (.ret .none))) →
      ∀ body, body = [.If (.Compare (.Name "interval" q1) [.Eq] [.Name "CHAR_MAX" q2] q3) [.Return none q4] [] q5,
        .If (.Compare (.Name "interval" q6) [.Eq] [.Constant (.int 0) m1 q7] q8)
          [.If (.Compare (.Name "last_interval" q9) [.Is] [.Constant .none m2 q10] q11) rb [] q12,
           .While (.Constant (.bool true) kk pp1) [.Expr (.Yield (some (.Name "last_interval" pp2)) pp3) pp4] [] q13] [] q14,
        .Expr (.Yield (some (.Name "interval" q15)) q16) q17,
        .Assign [.Name "last_interval" q18] (.Name "interval" q19) q20] →
      Seg (Mod w) A (RG L a tv N) (YG hb L a tv N) (n + 1) s₀ (.forLoop (.Name "interval" q0) (.ref it) body [] env) ((Mod w).den (.forLoop (.Name "interval" q0) (.ref it) body [] env)) [.ret k2 none false [] (.func bd env) p2 []] s := by
  intro n
  induction n using Nat.strongRecOn with
  | _ n ih =>
  intro s₀ s l j last lastv k2 p2 hk hs hl hlast ht hr hn hjl hk2 body hbody
  have hl2 : ∀ b ∈ [L, it], L ≤ b ∧ b ≠ a := fun b hb => by
    rcases List.mem_cons.mp hb with rfl | hb
    · exact ⟨Nat.le_refl _, Nat.ne_of_lt hLa⟩
    · rw [List.mem_singleton.mp hb]; exact ⟨Nat.le_of_lt (Nat.lt_trans hLa hit), Nat.ne_of_gt hit⟩
  have hl3 : ∀ b ∈ [L, it], b = L ∨ a < b := fun b hb => by
    rcases List.mem_cons.mp hb with rfl | hb
    · exact .inl rfl
    · rw [List.mem_singleton.mp hb]; exact .inr hit
  have hno : ∀ b ∈ [L, it], hb.get? b = none := fun b hb => by
    rcases List.mem_cons.mp hb with rfl | hb
    · exact h1
    · rw [List.mem_singleton.mp hb]; exact h2
  have hgx : Has (XS [L, it] s₀) [nsc L l] gl (ilst gl ns).P := Or.inr (Cell.at_of hgl (xs_hb hk hno gl))
  have hx0 := xs_hb hk hno
  have B' : Base w (XS [L, it] s₀).hb := B.ext hx0
  have R' : Rm (A.over (.forLoop (.Name "interval" q0) (.ref it) body [] env) [.ret k2 none false [] (.func bd env) p2 []]) 7 := rm_over (j := 3) R rfl (by show 1 ≤ 3; decide) (by show 3 + 0 ≤ 30; decide)
  have S := Src.list (w := w) (it := it) (n := ns.length) (PV := fun i v => ∃ t, v = .int (ns.getD i 0) t) R' hgx fun o p => by
    obtain ⟨vs, m, hi, rfl⟩ := p
    refine ⟨vs.toArray, m, rfl, by rw [List.size_toArray, hi.length], fun i v e => ?_⟩
    rw [List.getElem?_toArray] at e
    obtain ⟨y, t, e1, rfl⟩ := IntsAre.at hi e
    exact ⟨t, by rw [List.getD_eq_getElem?_getD, e1]; rfl⟩
  refine seg_forTurn ?_
  by_cases hj : j < ns.length
  · refine Ev.useB (S.item [nsc L l] j (fun _ h => h) hj) hs fun r s₁ Λ₁ h₁ q => ?_
    obtain ⟨v, rfl, ⟨t, rfl⟩, rfl⟩ := q
    have hd : ns.drop j = ns.getD j 0 :: ns.drop (j + 1) := by
      rw [List.drop_eq_getElem_cons hj, List.getD_eq_getElem?_getD, List.getElem?_eq_getElem hj]; rfl
    generalize ns.getD j 0 = x at hd h₁
    rw [hd] at ht hr
    refine Ev.useB (Q := fun _ Λ' => Λ' = [lit it gl (j + 1), nsc L (("interval", .int x t) :: l)]) (Ev.store (L := L) (.tail .head) rfl E.loc E.ki E.hp) h₁ fun _ s₂ Λ₂ h₂ q => ?_
    subst q
    intro H0
    subst hbody
    have has : Has (XS [L, it] s₀) [lit it gl (j + 1), nsc L (("interval", .int x t) :: l)] env.locals (NsW (("interval", .int x t) :: l)) := Or.inl (by rw [E.loc]; exact .tail _ (.head _))
    have hxi : al (("interval", .int x t) :: l) "interval" = some (.int x t) := al_hit
    have hli : al (("interval", .int x t) :: l) "last_interval" = some lastv := al_skip (by kernel_rfl) hl
    refine seg_execs_cons (seg_If ?_)
    refine Ev.useB (Q := fun b Λ' => b = (x == 127) ∧ Λ' = [lit it gl (j + 1), nsc L (("interval", .int x t) :: l)]) (Ev.tcmp (Ev.local has hxi (Ev.global B' (by rfl) (Ev.eqI (Ev.truB ⟨rfl, rfl⟩)) E.k E.kc E.g) E.k E.ki)) h₂ fun b s₃ Λ₃ h₃ q => ?_
    obtain ⟨rfl, rfl⟩ := q
    by_cases hx1 : x = 127
    · subst hx1
      rw [if_pos (show ((127 : Int) == 127) = true by decide)]
      refine seg_execs_cons (seg_pure (Ev.useB (Q := fun f Λ' => f = .ret .none ∧ Λ' = [lit it gl (j + 1), nsc L (("interval", .int 127 t) :: l)]) (Ev.ret0 ⟨rfl, rfl⟩) h₃ fun f s₄ Λ₄ h₄ q => ?_))
      obtain ⟨rfl, rfl⟩ := q
      refine gen_end hk2 (.inr rfl) ?_ (gs_of h₄ hl2)
      have := ht 0 (Nat.zero_le _)
      rw [tvf, if_pos rfl] at this
      exact this
    · rw [if_neg (by simpa using hx1)]
      refine seg_execs_nil (seg_execs_cons (seg_If ?_))
      refine Ev.useB (Q := fun b Λ' => b = (x == 0) ∧ Λ' = [lit it gl (j + 1), nsc L (("interval", .int x t) :: l)]) (Ev.tcmp (Ev.local has hxi (Ev.int fun _ => Ev.eqI (Ev.truB ⟨rfl, rfl⟩)) E.k E.ki)) h₃ fun b s₄ Λ₄ h₄ q => ?_
      obtain ⟨rfl, rfl⟩ := q
      by_cases hx2 : x = 0
      · subst hx2
        rw [if_pos (show ((0 : Int) == 0) = true by decide)]
        rw [refuses, if_neg (by decide), if_pos rfl] at hr
        obtain ⟨y, rfl⟩ : ∃ y, last = some y := by cases last with
          | none => cases hr
          | some y => exact ⟨y, rfl⟩
        obtain ⟨ty, rfl⟩ := hlast
        refine seg_execs_cons (seg_If ?_)
        refine Ev.useB (Q := fun b Λ' => b = false ∧ Λ' = [lit it gl (j + 1), nsc L (("interval", .int 0 t) :: l)]) (Ev.tcmp (Ev.local has hli (Ev.nonec (Ev.isNone (Ev.truB ⟨rfl, rfl⟩))) E.k E.kl)) h₄ fun b s₅ Λ₅ h₅ q => ?_
        obtain ⟨rfl, rfl⟩ := q
        rw [if_neg (by decide)]
        refine seg_execs_nil (seg_execs_cons (seg_While' fun k1 p1 _ => ?_))
        refine gen_while E h1 h2 hLa hit R n s₀ s₅ _ k1 p1 k2 p2 hk h₅ hli (fun i hi => ?_) hn
        have := ht i hi
        rwa [show tvf (some y) (0 :: ns.drop (j + 1)) i = some y from by cases i <;> rfl] at this
      · rw [if_neg (by simpa using hx2)]
        rw [refuses, if_neg hx1, if_neg hx2] at hr
        refine seg_execs_nil (seg_execs_cons (seg_Expr_Yield rfl rfl rfl ?_ E.co E.hi))
        refine Ev.useB (Q := fun v Λ' => v = .int x t ∧ Λ' = [lit it gl (j + 1), nsc L (("interval", .int x t) :: l)]) (Ev.local has hxi ⟨rfl, rfl⟩ E.k E.ki) h₄ fun v s₅ Λ₅ h₅ q => ?_
        obtain ⟨rfl, rfl⟩ := q
        intro kap hkap
        refine ⟨⟨x, t, ?_, rfl⟩, gs_of h₅ hl2, fun hm s'' hkp => hkap .none s'' ?_⟩
        · have := ht 0 (Nat.zero_le _)
          rw [tvf, if_neg hx1, if_neg hx2, nsub0] at this
          exact this
        · obtain ⟨m, rfl⟩ : ∃ m, n = m + 1 := ⟨n - 1, by omega⟩
          have h₆ : Sat (XS [L, it] s'') [lit it gl (j + 1), nsc L (("interval", .int x t) :: l)] s'' := xs_anew h₅ (fun c hc => by
            rcases List.mem_cons.mp hc with rfl | hc
            · exact .tail _ (.head _)
            · rw [List.mem_singleton.mp hc]; exact .head _) hkp hl3
          have hk' : ∀ b o, hb.get? b = some o → s''.heap.get? b = some o := fun b o e => hkp b o (.inr (.inr (by rw [e]; rfl))) (h₅.keep b o (hx0 b o e))
          refine seg_execs_cons (seg_pure ?_)
          have has'' : Has (XS [L, it] s'') [lit it gl (j + 1), nsc L (("interval", .int x t) :: l)] env.locals (NsW (("interval", .int x t) :: l)) := Or.inl (by rw [E.loc]; exact .tail _ (.head _))
          refine Ev.useB (Q := fun f Λ' => f = .next ∧ Λ' = [lit it gl (j + 1), nsc L (("last_interval", .int x t) :: ("interval", .int x t) :: l)]) (Ev.asg (Ev.local has'' hxi (Ev.store (L := L) (.tail .head) ⟨rfl, rfl⟩ E.loc E.kl E.hp) E.k E.ki)) h₆ fun f s₇ Λ₇ h₇ q => ?_
          obtain ⟨rfl, rfl⟩ := q
          refine seg_execs_nil (seg_again rfl (ih m (by omega) s'' s₇ _ (j + 1) (some x) (.int x t) k2 p2 hk' h₇ al_hit ⟨t, rfl⟩ (fun i hi => ?_) hr (by omega) (by omega) hk2 _ rfl))
          have := ht (i + 1) (by omega)
          rw [tvf, if_neg hx1, if_neg hx2, nsub1 (by omega : m + 2 ≤ N)] at this
          exact this
  · obtain rfl : j = ns.length := by omega
    refine Ev.useB (S.done [nsc L l] fun _ h => h) hs fun r s₁ Λ₁ h₁ q => ?_
    obtain ⟨rfl, rfl⟩ := q
    refine seg_blockNil ?_
    refine gen_end hk2 (.inl rfl) ?_ (gs_of h₁ hl2)
    have := ht 0 (Nat.zero_le _)
    rw [List.drop_of_length_le (Nat.le_refl _)] at this
    exact this
end
end
section
open PySem PySem.W PyProof.Rows PySem.Calls
variable {w : World} {A : Around} {hb : Heap} {L a it gl : Addr} {tv : Nat → Option Int} {N : Nat} {env : Env} {ns : List Int}
section
variable {kk : Nat} {pp1 pp2 pp3 pp4 : Pos} {rb : List Stmt} {q0 q1 q2 q3 q4 q5 q6 q7 q8 q9 q10 q11 q12 q13 q14 q15 q16 q17 q18 q19 q20 r1 r2 r3 r4 r5 : Pos} {m1 m2 m3 : Nat}
theorem gen_start (E : GE env L) (hgr : env.kindOf "grouping" = some .local) (B : Base w hb) (hgl : Cell.at (ilst gl ns) hb) (h1 : hb.get? L = none) (hLa : L < a) (R : Rm A 10) (n : Nat) (s₀ : Shared) (l : List (Str × Value)) (oa : Obj)
    (hk : ∀ b o, hb.get? b = some o → s₀.heap.get? b = some o) (ha : s₀.heap.get? a = some oa) (hs : Cell.at (nsc L l) s₀.heap) (hl : al l "grouping" = some (.ref gl))
    (ht : ∀ i, i ≤ n → tv (N - (n + 1) + i) = tvf none ns i) (hr : refuses none ns = false) (hn : n < N) :
    ∀ fb body, fb = [.Assign [.Name "last_interval" r1] (.Constant .none m3 r2) r3, .For (.Name "interval" q0) (.Name "grouping" r4) body [] r5] →
      body = [.If (.Compare (.Name "interval" q1) [.Eq] [.Name "CHAR_MAX" q2] q3) [.Return none q4] [] q5,
        .If (.Compare (.Name "interval" q6) [.Eq] [.Constant (.int 0) m1 q7] q8)
          [.If (.Compare (.Name "last_interval" q9) [.Is] [.Constant .none m2 q10] q11) rb [] q12,
           .While (.Constant (.bool true) kk pp1) [.Expr (.Yield (some (.Name "last_interval" pp2)) pp3) pp4] [] q13] [] q14,
        .Expr (.Yield (some (.Name "interval" q15)) q16) q17,
        .Assign [.Name "last_interval" q18] (.Name "interval" q19) q20] →
      Seg (Mod w) A (RG L a tv N) (YG hb L a tv N) (n + 1) s₀ (.func fb env) ((Mod w).den (.func fb env)) [] s₀ := by
  intro fb body hfb hbody
  subst hfb
  have hno : ∀ b ∈ [L], hb.get? b = none := fun b hb => by rw [List.mem_singleton.mp hb]; exact h1
  have S0 : Sat (XS [L] s₀) [nsc L l] s₀ := ⟨fun b o e => (hide_some e).2, fun c hc => by rw [List.mem_singleton.mp hc]; exact hs, fun c hc => by rw [List.mem_singleton.mp hc]; exact hide_mem _ _ (.head _), by simp, rfl, rfl, rfl⟩
  refine seg_func (seg_execs_cons (seg_pure ?_))
  refine Ev.useB (Q := fun f Λ' => f = .next ∧ Λ' = [nsc L (("last_interval", .none) :: l)]) (Ev.asg (Ev.nonec (Ev.store (L := L) .head ⟨rfl, rfl⟩ E.loc E.kl E.hp))) S0 fun f s₁ Λ₁ h₁ q => ?_
  obtain ⟨rfl, rfl⟩ := q
  have hl' : al (("last_interval", .none) :: l) "grouping" = some (.ref gl) := al_skip (by kernel_rfl) hl
  refine seg_execs_cons (seg_For ?_)
  refine Ev.useB (Q := fun v Λ' => v = .ref gl ∧ Λ' = [nsc L (("last_interval", .none) :: l)]) (Ev.local (Or.inl (by rw [E.loc]; exact .head _)) hl' ⟨rfl, rfl⟩ E.k hgr) h₁ fun v s₂ Λ₂ h₂ q => ?_
  obtain ⟨rfl, rfl⟩ := q
  obtain ⟨og, hog, vs, m, hi, rfl⟩ := Cell.at_of hgl fun o e => h₂.keep _ _ (xs_hb hk hno _ _ e)
  refine wpAny_pyIter_list (items := vs.toArray) ⟨_, hog, rfl, m, rfl⟩ ?_
  intro k p hkf
  have haL : a ∉ [L] := fun h => Nat.ne_of_gt hLa (List.mem_singleton.mp h)
  have ha2 : s₂.heap.get? a = some oa := h₂.keep a oa ((hide_ne [L] s₀.heap haL).trans ha)
  have hit : a < s₂.heap.objs.size := Heap.lt_size ha2
  have hLit : s₂.heap.objs.size ≠ L := Nat.ne_of_gt (Nat.lt_trans hLa hit)
  have h₃ := h₂.push (o := { cls := .type "list_iterator", data := .fields #[.ref gl, .int 0 0] }) (P := (lit s₂.heap.objs.size gl 0).P) rfl ⟨rfl, rfl⟩
  have hitn : s₀.heap.get? s₂.heap.objs.size = none := by
    have := h₃.new _ (.head _)
    rwa [show (XS [L] s₀).hb.get? s₂.heap.objs.size = s₀.heap.get? s₂.heap.objs.size from hide_ne [L] s₀.heap fun h => hLit (List.mem_singleton.mp h)] at this
  have h₄ : Sat (XS [L, s₂.heap.objs.size] s₀) [lit s₂.heap.objs.size gl 0, nsc L (("last_interval", .none) :: l)] { s₂ with heap := s₂.heap.push { cls := .type "list_iterator", data := .fields #[.ref gl, .int 0 0] } } :=
    ⟨fun b o e => h₃.keep b o (by
      obtain ⟨e1, e2⟩ := hide_some e
      exact (hide_ne [L] s₀.heap fun h => e1 (by rw [List.mem_singleton.mp h]; exact .head _)).trans e2), h₃.own, fun c hc => hide_mem _ _ (by
      rcases List.mem_cons.mp hc with rfl | hc
      · exact .tail _ (.head _)
      · rw [List.mem_singleton.mp hc]; exact .head _), h₃.nd, h₃.gp, h₃.d, h₃.os⟩
  have h2 : hb.get? s₂.heap.objs.size = none := by
    cases e : hb.get? s₂.heap.objs.size with
    | none => rfl
    | some o => rw [hk _ _ e] at hitn; cases hitn
  refine gen_for (ns := ns) E B hgl h1 h2 hLa hit R n s₀ _ _ 0 none .none k p hk h₄ al_hit rfl (fun i hi => ht i hi) hr hn (Nat.zero_le _) (fun f hf => ?_) body hbody
  rw [hkf]
  rcases hf with rfl | rfl <;> rfl
end
/-- a generator woken -/
theorem next_gen {g n : Nat} {gs : GenState} {P : Nat → Shared → Shared → Prop} {Y : Protocol} {Q : Option Value → Shared → Prop} {E : Value → Shared → Prop} {s : Shared} (hh : A.handled = none)
    (hl : s.heap.NoLimit) (hroom : A.depth < recursionLimit) (hg : s.heap.IsGen a g) (hgs : s.gens[g]? = some gs)
    (hgo : gs.Goes (Mod w) A.in1 (fun n s₀ r s₁ => r = .ok (.ret .none) ∧ P n s₀ s₁) Y n (.send .none) (s.setGen g .running))
    (hY : ∀ v s₁ gs', gs'.bare = true → Y (n - 1) (s.setGen g .running) v s₁ (fun r' s'' => match n with
        | 0 => False
        | m + 1 => gs'.Goes (Mod w) A.in1 (fun n s₀ r s₁ => r = .ok (.ret .none) ∧ P n s₀ s₁) Y m r' s'') → Q (some v) (s₁.setGen g gs'))
    (hP : ∀ s₁, P n (s.setGen g .running) s₁ → ∀ h', (∀ b o, s₁.heap.get? b = some o → h'.get? b = some o) → Q none { s₁.setGen g .finished with heap := h' }) :
    wpAny (Mod w) A (pyNext (.ref a)) Q E s := by
  unfold pyNext
  refine wpAny_bind (wpAny_attempt (wpAny_callSpecial?_slot (name := Str.ofString "__next__") hg.typeIs slot_gen_next (wpAny_call_entry slot_gen_next hg.typeIs entry_gen_next ?_ (args_gen_next _))))
  show wpAny _ A.in1 (Builtin.Generator.genWake (.ref a) (.send .none)) _ _ s
  unfold Builtin.Generator.genWake
  refine wpAny_bind (wpAny_holding (wpAny_genNumber hg (wpAny_bind (wpAny_genState hgs ?_))))
  have go : ∀ {K : GenResult → Sem Fin} {Q' : Fin → Shared → Prop} {E' : Value → Shared → Prop}, (∀ v s', Q (some v) s' → wpAny (Mod w) A.in1 (K (.yielded v)) Q' E' s') → (∀ s₁, P n (s.setGen g .running) s₁ → wpAny (Mod w) A.in1 (K (.returned .none)) Q' E' (s₁.setGen g .finished)) →
      wpAny (Mod w) A.in1 (.resume g (.send .none) [] K) Q' E' s := fun hy hr =>
    wpAny_resumeQ hgs hgo (fun x s₁ hx => by obtain ⟨rfl, hp⟩ := hx; exact hr s₁ hp) fun v s₁ gs' hb hv => hy v _ (hY v s₁ gs' hb hv)
  cases gs with
  | running => exact hgo.elim
  | finished => exact hgo.elim
  | _ =>
    refine wpAny_bind (wpAny_roomToWake hl hroom ?_)
    show wpAny _ _ (.resume g (.send .none) [] _) _ _ s
    refine go (fun v s' q => ?_) fun s₁ hp => ?_
    · exact wpAny_pure ⟨v, rfl, wpAny_pure q⟩
    · show wpAny _ _ (newExc (.type "StopIteration") [] >>= _) _ _ _
      refine wpAny_bind ?_
      simp only [newExc, newTuple]
      refine wpAny_bind (wpAny_newObj_type ?_ (by size_fits))
      refine wpAny_bind (m := firstArgMember _ _) (wpAny_of_eq (a := Value.none) (by first | rfl | (simp only [firstArgMember]; rfl)) ?_)
      refine wpAny_newObj_type ?_ (by size_fits)
      simp only [raiseNew]
      refine wpAny_bind (wpAny_bind (wpAny_handled ?_))
      rw [show A.in1.handled = none from hh]
      refine wpAny_throw ?_
      refine wpAny_bind (wpAny_isInstance (T := "StopIteration") (b := true) ⟨_, Heap.get?_push_size _ rfl, rfl⟩ isSubtype_stop ?_)
      exact wpAny_pure (hP s₁ hp _ fun b o hb => Heap.get?_push_of_some _ (Heap.get?_push_of_some _ hb))
end
section
open PySem PySem.W PyProof.Rows PySem.Calls
variable {w : World} {A : Around} {X : Amb} {Λ Λ' Λ₁ : List Cell} {L a gl : Addr} {env : Env} {ns : List Int}
theorem kp_trans {hb : Heap} {s s' s'' : Shared} (h : KP hb L a s s') (k : KP hb L a s' s'') : KP hb L a s s'' := fun b o c e => k b o c (h b o c e)
theorem gen_loop {x : Str} {px : Pos} {body : List Stmt} {Q : Flow → List Cell → Prop} {g : Nat} (hG : X.gp = AllBare) (B : Base w X.hb) (R : Rm A 20) (hLa : L < a) (hbL : ∀ b o, X.hb.get? b = some o → b < L) (hΛ : ∀ b ∈ Λ.map Cell.addr, b < L)
    (I : Nat → List Cell → Prop) (addr : ∀ i Λ', I i Λ' → Λ'.map Cell.addr = Λ.map Cell.addr)
    (turn : ∀ i Λ₁ y t X', (∀ b o, X.hb.get? b = some o → X'.hb.get? b = some o) → i < 12 → tvf none ns i = some y → I i Λ₁ → Ev w X' A Λ₁ (storeName env x (.int y t)) fun _ Λ₂ => Ev w X' A Λ₂ (execs body env) fun f Λ₃ => match f with
      | .next | .cont => i + 1 < 12 ∧ I (i + 1) Λ₃
      | .brk => Λ₃.map Cell.addr = Λ.map Cell.addr ∧ Q .next Λ₃
      | .ret v => Λ₃.map Cell.addr = Λ.map Cell.addr ∧ Q (.ret v) Λ₃)
    (done : ∀ i Λ₁, tvf none ns i = none → I i Λ₁ → Q .next Λ₁) :
    ∀ (k i : Nat) (s : Shared) (Λ₁ : List Cell) (gs : GenState), i + k = 12 → i < 12 → I i Λ₁ → Sat X Λ₁ s → s.heap.IsGen a g → s.gens[g]? = some gs →
      (∀ s'', KP X.hb L a s s'' → gs.Goes (Mod w) A.in1 (RG L a (tvf none ns) 12) (YG X.hb L a (tvf none ns) 12) (12 - i) (.send .none) s'') →
      codeAny (Mod w) A (.forLoop (.Name x px) (.ref a) body [] env) (fun r s' => match r with | .ok f => ∃ Λ', Sat X Λ' s' ∧ Q f Λ' | .error _ => False) s := by
  intro k
  induction k with
  | zero => intro i s Λ₁ gs e hi; omega
  | succ k ih =>
  intro i s Λ₁ gs e hi hI hs hg hgs hgo
  obtain ⟨n, hn⟩ : ∃ n, 12 - i = n + 1 := ⟨11 - i, by omega⟩
  rw [hn] at hgo
  have hΛ1 : ∀ b ∈ Λ₁.map Cell.addr, b < L := fun b hb => hΛ b (by rwa [addr i Λ₁ hI] at hb)
  have after : ∀ (s₁ : Shared) (gs' : GenState), gs'.bare = true → GS L a (s.setGen g .running) s₁ → Sat X Λ₁ (s₁.setGen g gs') ∧ (s₁.setGen g gs').heap.IsGen a g ∧ (s₁.setGen g gs').gens[g]? = some gs' := fun s₁ gs' hb ⟨h', tk, e1, hk⟩ => by
    subst e1
    refine ⟨⟨fun b o e => hk b o (.inl (hbL b o e)) (hs.keep b o e), fun c hc => Cell.at_of (hs.own c hc) fun o e => hk _ o (.inl (hΛ1 _ (List.mem_map.mpr ⟨c, hc, rfl⟩))) e, hs.new, hs.nd, ?_, hs.d, hs.os⟩, ?_, setGen_self (gs := .running) (setGen_self hgs)⟩
    · have hg0 := hs.gp
      rw [hG] at hg0 ⊢
      exact (GenOnlyQ.of ((GenOnly.setGen s g .running).trans (GenOnly.setGen _ g gs')) (setGen_self (gs := .running) (setGen_self hgs)) hb).bare hg0
    · obtain ⟨o, nm, qn, ho, r⟩ := hg
      exact ⟨o, nm, qn, hk a o (.inr rfl) ho, r⟩
  refine codeAny_of_tree ?_
  rw [under_same rfl rfl]
  show wpAny _ _ ((PySem.forTurn (.Name x px) (.ref a) body [] env).onRaise (fun x => do noteFrame x env; theTreesLotGoes x)) _ _ s
  refine wpAny_noted ?_
  simp only [PySem.forTurn]
  refine wpAny_bind (wpAny_standAt (wpAny_bind (wpAny_onRaise ?_)))
  refine next_gen (P := fun n s₀ s₁ => tvf none ns (12 - n) = none ∧ GS L a s₀ s₁) R.hd (B.limit.keeps hs.keep) R.room hg hgs (hgo _ fun b o _ e => e) (fun v s₁ gs' hb hY => ?_) fun s₁ hP h' hk => ?_
  · obtain ⟨⟨y, t, hy, rfl⟩, hgs1, hkap⟩ := hY
    obtain ⟨h₄, hg₄, hgs₄⟩ := after s₁ gs' hb hgs1
    rw [show 12 - 1 - (n + 1 - 1) = i by omega] at hy
    refine wpAny_bind (wpAny_of_eq (a := ()) (by rfl) ?_)
    refine wpAny_bind (wpAny_assign_Name ?_)
    have hX : ∀ b o, X.hb.get? b = some o → (XS (Λ₁.map Cell.addr) (s₁.setGen g gs')).hb.get? b = some o := fun b o e => (hide_ne _ _ fun hm => by
      obtain ⟨c, hc, rfl⟩ := List.mem_map.mp hm
      rw [h₄.new c hc] at e; cases e).trans (h₄.keep b o e)
    have S4 : Sat (XS (Λ₁.map Cell.addr) (s₁.setGen g gs')) Λ₁ (s₁.setGen g gs') := ⟨fun b o e => (hide_some e).2, h₄.own, fun c hc => hide_mem _ _ (List.mem_map.mpr ⟨c, hc, rfl⟩), h₄.nd, rfl, rfl, rfl⟩
    have back : ∀ Λ₃ s₅, Sat (XS (Λ₁.map Cell.addr) (s₁.setGen g gs')) Λ₃ s₅ → Λ₃.map Cell.addr = Λ.map Cell.addr → Sat X Λ₃ s₅ := fun Λ₃ s₅ h₅ ha => by
      refine ⟨fun b o e => h₅.keep b o (hX b o e), h₅.own, fun c hc => ?_, h₅.nd, ?_, h₅.d.trans h₄.d, h₅.os.trans h₄.os⟩
      · have : c.addr ∈ Λ₁.map Cell.addr := by rw [addr i Λ₁ hI, ← ha]; exact List.mem_map.mpr ⟨c, hc, rfl⟩
        obtain ⟨d, hd, e⟩ := List.mem_map.mp this
        rw [← e]; exact h₄.new d hd
      · have : s₅.gens = (s₁.setGen g gs').gens := h₅.gp
        rw [this]; exact h₄.gp
    refine Ev.useB (turn i Λ₁ y t _ hX hi hy hI) S4 fun _ s₄ Λ₂ h₄' q => wpAny_bind (Ev.useB q h₄' fun f s₅ Λ₃ h₅ q => ?_)
    have next : i + 1 < 12 ∧ I (i + 1) Λ₃ → codeAny (Mod w) A (.forLoop (.Name x px) (.ref a) body [] env) (fun r s' => match r with | .ok f => ∃ Λ', Sat X Λ' s' ∧ Q f Λ' | .error _ => False) s₅ := fun ⟨hi1, hI1⟩ => by
      have kp : KP X.hb L a (s₁.setGen g gs') s₅ := fun b o c e => h₅.keep b o ((hide_ne _ _ fun hm => by
        rcases c with rfl | c | c
        · exact absurd (hΛ1 _ hm) (Nat.lt_irrefl _)
        · exact absurd (Nat.lt_trans (hΛ1 _ hm) hLa) (Nat.not_lt.mpr c)
        · obtain ⟨d, hd, rfl⟩ := List.mem_map.mp hm
          rw [h₄.new d hd] at c; cases c).trans e)
      have hgens : s₅.gens = (s₁.setGen g gs').gens := h₅.gp
      refine ih (i + 1) s₅ Λ₃ gs' (by omega) hi1 hI1 (back Λ₃ s₅ h₅ (addr _ _ hI1)) (let ⟨o, nm, qn, ho, r⟩ := hg₄; ⟨o, nm, qn, h₅.keep a o ((hide_ne _ _ fun hm => absurd (Nat.lt_trans (hΛ1 _ hm) hLa) (Nat.lt_irrefl _)).trans ho), r⟩) (by rw [hgens]; exact hgs₄) fun s'' hkp => ?_
      rw [show 12 - (i + 1) = n by omega]
      exact hkap (by omega) s'' (kp_trans kp hkp)
    cases f with
    | next => exact wpAny_pure ⟨rfl, next q⟩
    | cont => exact wpAny_pure ⟨rfl, next q⟩
    | brk => exact wpAny_pure ⟨Λ₃, back Λ₃ s₅ h₅ q.1, q.2⟩
    | ret v => exact wpAny_pure ⟨Λ₃, back Λ₃ s₅ h₅ q.1, q.2⟩
  · obtain ⟨hnone, hgs1⟩ := hP
    rw [show 12 - (n + 1) = i by omega] at hnone
    obtain ⟨h₄, -, -⟩ := after s₁ .finished rfl hgs1
    refine wpAny_pure ⟨rfl, codeAny_block (wpAny_execs_nil ⟨Λ₁, ?_, done i Λ₁ hnone hI⟩)⟩
    exact h₄.ext (s' := { s₁.setGen g .finished with heap := h' }) hk h₄.gp rfl rfl
structure GFd (w : World) (fd : FuncData) : Prop where
  gen : fd.scope.isGenerator = true
  co : fd.scope.isCoroutine = false
  kind : fd.scope.kind = .function
  code : coded w fd.code fd.qualname = true
  clo : fd.closure = []
  bind : ∀ v, bindArgs fd ⟨[v], []⟩ = Pure.pure [(("grouping" : Str), v)]
  cells : ∀ x ∈ fd.scope.names, x.2 ≠ .cell
  loc : fd.scope.names.lookup ("grouping" : Str) = some .local
  start : ∃ fb, fd.body = .stmts fb ∧ ∀ {hb : Heap} {L a gl : Addr} {tv : Nat → Option Int} {N : Nat} {A : Around} {ns : List Int} (B : Base w hb) (hgl : Cell.at (ilst gl ns) hb) (h1 : hb.get? L = none) (hLa : L < a) (R : Rm A 10) (n : Nat) (s₀ : Shared) (l : List (Str × Value)) (oa : Obj)
    (hk : ∀ b o, hb.get? b = some o → s₀.heap.get? b = some o) (ha : s₀.heap.get? a = some oa) (hs : Cell.at (nsc L l) s₀.heap) (hl : al l "grouping" = some (.ref gl))
    (ht : ∀ i, i ≤ n → tv (N - (n + 1) + i) = tvf none ns i) (hr : refuses none ns = false) (hn : n < N),
      Seg (Mod w) A (RG L a tv N) (YG hb L a tv N) (n + 1) s₀ (.func fb (callEnv fd L 35)) ((Mod w).den (.func fb (callEnv fd L 35))) [] s₀
theorem gfd (w : World) : ∃ c d fd sl, (K0 w).lookup 35 = some ⟨c, d, .func fd, sl⟩ ∧ GFd w fd := by
  refine ⟨_, _, _, _, by rfl, ⟨rfl, rfl, rfl, by kernel_rfl, rfl, fun v => by rfl, ?_, by rfl, ⟨_, rfl, ?_⟩⟩⟩
  · decide
  · intro hb L a gl tv N A ns B hgl h1 hLa R n s₀ l oa hk ha hs hl ht hr hn
    exact gen_start ⟨rfl, by rfl, by rfl, by rfl, rfl, rfl, rfl⟩ (by rfl) B hgl h1 hLa R n s₀ l oa hk ha hs hl ht hr hn _ _ rfl rfl
/-- for x in _grouping_intervals(e): .. -/
theorem Ev.forGen {x : Str} {px np cp pos : Pos} {e : Expr} {body : List Stmt} {Q : Flow → List Cell → Prop} (hG : X.gp = AllBare) (B : Base w X.hb) (R : Rm A 20) (hgl : Cell.at (ilst gl ns) X.hb) (hr : refuses none ns = false)
    (he : Ev w X A Λ (eval e env) fun v Λ' => v = .ref gl ∧ Λ' = Λ)
    (I : Nat → List Cell → Prop) (addr : ∀ i Λ', I i Λ' → Λ'.map Cell.addr = Λ.map Cell.addr)
    (turn : ∀ i Λ₁ y t X', (∀ b o, X.hb.get? b = some o → X'.hb.get? b = some o) → i < 12 → tvf none ns i = some y → I i Λ₁ → Ev w X' A Λ₁ (storeName env x (.int y t)) fun _ Λ₂ => Ev w X' A Λ₂ (execs body env) fun f Λ₃ => match f with
      | .next | .cont => i + 1 < 12 ∧ I (i + 1) Λ₃
      | .brk => Λ₃.map Cell.addr = Λ.map Cell.addr ∧ Q .next Λ₃
      | .ret v => Λ₃.map Cell.addr = Λ.map Cell.addr ∧ Q (.ret v) Λ₃)
    (done : ∀ i Λ₁, tvf none ns i = none → I i Λ₁ → Q .next Λ₁) (h0 : I 0 Λ)
    (hk : env.scope.kind = .function := by rfl) (hx : env.kindOf "_grouping_intervals" = some .globalImplicit := by rfl) (hg : env.globals = mainGlobals := by rfl) (hs : starEach [e] env = (false, eval e env) :: starEach [] env := by rfl)
    (hfs : ∀ x, foldedSetIterable (.Call (.Name "_grouping_intervals" np) [e] [] cp) env x = Pure.pure x := by intro _; rfl) :
    Ev w X A Λ (exec (.For (.Name x px) (.Call (.Name "_grouping_intervals" np) [e] [] cp) body [] pos) env) Q := fun s hs' => by
  obtain ⟨c, d, fd, sl, ho, F⟩ := gfd w
  refine wpAny_For ?_ hfs
  refine Call_Name rfl (Ev.useB (Ev.global (Q := fun v Λ₁ => v = .ref 35 ∧ Λ₁ = Λ) B (by rfl) ⟨rfl, rfl⟩ hk hx hg) hs' fun v s₁ Λ₁ h₁ q => ?_)
  obtain ⟨rfl, rfl⟩ := q
  refine callWith_function (o := ⟨c, d, .func fd, sl⟩) (fd := fd) ?_
  have hargs : Ev w X A Λ₁ (spliced (backTo cp (starEach [e] env))) fun vs Λ' => vs = [.ref gl] ∧ Λ' = Λ₁ := Ev.items1 (he.mono fun v Λ' q => Ev.items0 ⟨by rw [q.1], q.2⟩) hs
  rw [hs] at hargs ⊢
  refine evalArgs_plain (hargs.useB h₁ fun vs s₂ Λ₂ h₂ q => ?_)
  obtain ⟨rfl, rfl⟩ := q
  have hob := h₂.keep _ _ (B.k 35 _ (by decide) ho)
  refine ⟨⟨hob, rfl⟩, ?_⟩
  obtain ⟨fb, hfb, start⟩ := F.start
  refine wpAny_call (codeAny_call_generator R.room hob rfl F.co F.gen hfb ((codeRec_of_coded B F.code).keeps h₂.keep) ?_)
  refine wpAny_of_eq (F.bind _) (wpAny_newFunctionEnv F.cells (fun y hy => by rw [List.mem_singleton.mp hy]; exact F.loc) (fun h' hns hsb => ?_) F.kind)
  have hold : ∀ b o, s₂.heap.get? b = some o → h'.get? b = some o := fun b o e => hsb.extBut b o (Nat.ne_of_lt (Heap.lt_size e)) (Heap.get?_push_of_some _ e)
  have hsz : h'.objs.size = s₂.heap.objs.size + 1 := by rw [hsb.1, Heap.size_push]
  refine ⟨B.limit.keeps fun b o e => hold b o (h₂.keep b o e), ?_⟩
  have hcell : Cell.at (nsc s₂.heap.objs.size [("grouping", .ref gl)]) h' := of_nsw hns fun _ _ h => h
  have hbL : ∀ b o, X.hb.get? b = some o → b < s₂.heap.objs.size := fun b o e => Heap.lt_size (h₂.keep b o e)
  have hold3 : ∀ (ob : Obj) b o, s₂.heap.get? b = some o → (h'.push ob).get? b = some o := fun ob b o e => Heap.get?_push_of_some _ (hold b o e)
  refine wpAny_pyIter_gen (g := s₂.gens.size) ⟨_, _, _, Heap.get?_push_size _ rfl, rfl, rfl, rfl⟩ ?_
  have h1 : X.hb.get? s₂.heap.objs.size = none := h₂.fresh
  have S3 : ∀ (ob : Obj) tk, Sat X Λ₂ { heap := h'.push ob, gens := s₂.gens.push (.fresh (.func fb (callEnv fd s₂.heap.objs.size 35))), drawn := s₂.drawn, toks := tk, os := s₂.os } := fun ob tk =>
    ⟨fun b o e => hold3 ob b o (h₂.keep b o e), fun c hc => Cell.at_of (h₂.own c hc) (hold3 ob c.addr), h₂.new, h₂.nd, by
      have := h₂.gp
      rw [hG] at this ⊢
      exact AllBare.push this rfl, h₂.d, h₂.os⟩
  refine codeAny_mono (gen_loop (L := s₂.heap.objs.size) (a := h'.objs.size) (ns := ns) (g := s₂.gens.size) hG B R (by rw [hsz]; exact Nat.lt_succ_self _) hbL (fun b hb => by
      obtain ⟨c, hc, rfl⟩ := List.mem_map.mp hb
      exact h₂.lt hc) I addr turn done 12 0 _ Λ₂ _ rfl (by decide) h0 (S3 _ _) ⟨_, _, _, Heap.get?_push_size _ rfl, rfl, rfl, rfl⟩ (Array.getElem?_push_size ..) fun s'' hkp => ?_) fun r s' hr => ?_
  · refine ⟨rfl, ?_⟩
    refine start B hgl h1 (by rw [hsz]; exact Nat.lt_succ_self _) (Rm.in1 (k := 10) (R.le (by decide))) 11 s'' [("grouping", .ref gl)] _ (fun b o e => hkp b o (.inr (.inr (by rw [e]; rfl))) (hold3 _ b o (h₂.keep b o e))) (hkp _ _ (.inr (.inl (Nat.le_refl _))) (Heap.get?_push_size _ rfl)) (Cell.at_of hcell fun o e => hkp _ _ (.inl rfl) (Heap.get?_push_of_some _ e)) al_hit (fun i _ => by rw [show 12 - (11 + 1) + i = i by omega]) hr (by decide)
  · cases r with
    | ok f => exact hr
    | error e => exact hr.elim
end
section
open PySem PySem.W PyProof.Rows PySem.Calls
variable {w : World} {A : Around} {X : Amb} {Λ : List Cell} {Q : Value → List Cell → Prop}
structure ToldIs (ns res : List Int) : Prop where
  ok : refuses none ns = false
  at' : ∀ i (h : i < res.length), tvf none ns i = some res[i]
  le : res.length ≤ 9
  stop : res.length < 9 → tvf none ns res.length = none
theorem told_spec {gl : Addr} {ns res : List Int} (hG : X.gp = AllBare) (B : Base w X.hb) (R : Rm A 22) (hgl : Cell.at (ilst gl ns) X.hb) (T : ToldIs ns res)
    (h : ∀ a, Q (.ref a) [ilst a res]) : Ev w X A [] (call (.ref 159) [.ref gl]) Q := by
  refine Ev.trim1 (c := fun a => ilst a res) (v := .ref) ?_ h
  refine Ev.enter (k := 21) (binds := [("ruler", .ref gl)]) B R (by rfl) (by decide) (by kernel_rfl) (by rfl) (by rfl) (by rfl) (by rfl) fun L A' R' => ?_
  dsimp only [List.reverse, List.reverseAux]
  repeat walk_at "E"
  refine Ev.listI ?_
  walk_at "E"
  refine ⟨by decide, [], .nil, fun D => ?_⟩
  repeat walk_at "S"
  refine Ev.forGen hG B (R'.le (by decide)) hgl T.ok ?_ (fun i Λ => i ≤ res.length ∧ i ≤ 8 ∧ ∃ l, Λ = [ilst D (res.take i), nsc L l] ∧ al l "told" = some (.ref D)) ?_ ?_ ?_ ⟨Nat.zero_le _, by decide, _, rfl, by walk_at "al"⟩
  · repeat walk_at "E"
    exact ⟨rfl, rfl⟩
  · rintro i Λ' ⟨-, -, l, rfl, -⟩; rfl
  · rintro i Λ₁ y t X' hX hi hy ⟨h1, h2, l, rfl, h3⟩
    have B' := B.ext hX
    have hlt : i < res.length := by
      rcases Nat.lt_or_ge i res.length with h | h
      · exact h
      · obtain rfl : i = res.length := by omega
        rw [T.stop (by omega)] at hy; cases hy
    have hy' := T.at' i hlt
    rw [hy] at hy'
    cases hy'
    have ht : res.take i ++ [res[i]] = res.take (i + 1) := by rw [List.take_add_one, List.getElem?_eq_getElem hlt]; rfl
    have hl : (res.take i).length = i := by rw [List.length_take]; omega
    have hl' : (res.take (i + 1)).length = i + 1 := by rw [List.length_take]; omega
    repeat walk_at "E"
    refine Ev.methN (l := D) slot_list_append type_list_append (P := (ilst D (res.take i)).P) (fun _ => ilst_LL) ?_
    repeat walk_at "E"
    refine ⟨rfl, Or.inl (by walk_at "mem"), ?_⟩
    repeat walk_at "E"
    refine Ev.appendI (by walk_at "put") (by rw [hl, sizeLine_eq]; omega) ?_
    rw [ht]
    refine ⟨noref_none, ?_⟩
    repeat walk_at "E"
    refine Ev.lenI (l := D) (ns := res.take (i + 1)) (Or.inl (by walk_at "mem")) (by rw [hl']; omega) fun _ => ?_
    rw [hl']
    repeat walk_at "E"
    refine ⟨fun h9 => ?_, fun h9 => ?_⟩
    · repeat walk_at "E"
      have h9 : ((i + 1 : Nat) : Int) = 9 := by simpa using h9
      have : res.take (i + 1) = res := List.take_of_length_le (by have := T.le; omega)
      rw [this]
      refine ⟨rfl, ?_⟩
      repeat walk_at "E"
      exact ⟨D, rfl, by walk_at "mem"⟩
    · repeat walk_at "E"
      have h9 : ¬ ((i + 1 : Nat) : Int) = 9 := by simpa using h9
      exact ⟨by omega, by omega, by omega, _, rfl, by walk_at "al"⟩
  · rintro i Λ₁ hn ⟨h1, h2, l, rfl, h3⟩
    obtain rfl : i = res.length := by
      rcases Nat.lt_or_ge i res.length with h | h
      · rw [T.at' i h] at hn; cases hn
      · omega
    rw [List.take_length]
    repeat walk_at "E"
    exact ⟨D, rfl, by walk_at "mem"⟩
end
section
open PySem PySem.W PyProof.Rows PySem.Calls
section
variable {M : Model} {A : Around} {E : Value → Shared → Prop} {s : Shared} {base : Heap} {env : Env} {outer : List Env} {L e : Addr} {cls a0 fl : Value}
/-- a first entry -/
theorem note_first {oe : Obj} {vs : Array Value} {Q : Unit → Shared → Prop} (hfr : A.frames = some (env :: outer)) (hl : s.heap.FunFrames base (env :: outer)) (hf : env.frame = some L)
    (he : s.heap.get? e = some oe) (hkb : base.StaysIn s.heap) (hen : base.get? e = none) (hd : oe.data = .fields vs) (h1 : vs[1]? = some .none) (h0 : vs[0]? = some a0)
    (h : ∀ h', Heap.NotedW base (env :: outer) e oe.cls a0 (rawInt L) s.heap h' → Q () { s with heap := h' }) : wpAny M A (noteFrame (.ref e) env) Q E s := by
  unfold noteFrame
  simp only [hf]
  refine wpAny_bind (wpAny_field he hd h1 ?_)
  rw [if_neg (by decide)]
  exact wpAny_entryW hfr hl hf he hkb hen hd (Array.getElem?_eq_some_iff.mp h1).1 h0 h
/-- the flight marked anew -/
theorem flight {l : List Env} {Q : Unit → Shared → Prop} (hkb : base.StaysIn s.heap) (hl : s.heap.FunFrames base l) (ht : s.heap.TracedAtW base e cls a0 fl)
    (h : ∀ h', base.StaysIn h' → h'.FunFrames base l → h'.TracedAtW base e cls a0 (rawInt L) → s.heap.UpToSlots h' → Q () { s with heap := h' }) :
    wpAny M A (setFlight (.ref e) (some L)) Q E s := by
  obtain ⟨oe, vs, T, oT, ts, he, hcls, hd, h1, hnT, hTe, hT, hdT, h3⟩ := ht
  have hsz3 : 3 < ts.size := (Array.getElem?_eq_some_iff.mp h3).1
  have other : ∀ b, b ≠ T → (s.heap.update T (Obj.mapFields (·.setIfInBounds 3 ((some L : Option Addr).elim Value.none fun f => rawInt f)))).get? b = s.heap.get? b := fun b hb => Heap.get?_update_other _ _ (Ne.symm hb)
  have nf : ∀ b o, s.heap.get? b = some o → (∀ vs, o.data ≠ .fields vs) → b ≠ T := fun b o hb hnf q => by
    rw [q, hT] at hb; injection hb with hb; subst hb; exact hnf ts hdT
  unfold setFlight
  refine wpAny_bind (wpAny_field he hd h1 ?_)
  rw [if_pos (show (Value.ref T != Value.none) = true from by simp)]
  refine wpAny_setField hT hdT hsz3 (h _ (fun b o hbo => (other b fun q => by rw [q, hnT] at hbo; cases hbo).trans (hkb b o hbo))
    (hl.of_keeps fun b o hb hnf => ⟨o, (other b (nf b o hb hnf)).trans hb, rfl⟩) ?_ fun b o hb hnf => ⟨o.slots, (other b (nf b o hb hnf)).trans hb⟩)
  have hd₃ := Obj.data_mapFields hdT (·.setIfInBounds 3 ((some L : Option Addr).elim Value.none fun f => rawInt f))
  exact ⟨oe, vs, T, _, _, (other e (Ne.symm hTe)).trans he, hcls, hd, h1, hnT, hTe, Heap.get?_update_self _ hT (Obj.isFreed_of_fields hd₃), hd₃, by
    rw [Array.getElem?_setIfInBounds]; simp [hsz3]⟩
theorem came_back {l : List Env} {Q : Unit → Shared → Prop} (hf : env.frame = some L) (hkb : base.StaysIn s.heap) (hl : s.heap.FunFrames base l) (ht : s.heap.TracedAtW base e cls a0 fl)
    (h : ∀ h', base.StaysIn h' → h'.FunFrames base l → h'.TracedAtW base e cls a0 (rawInt L) → s.heap.UpToSlots h' → Q () { s with heap := h' }) :
    wpAny M A (do if (← field (.ref e) 1) == .none then unsupported "frame.own-activation:exception-without-traceback"
                  setFlight (.ref e) env.frame) Q E s := by
  obtain ⟨oe, vs, T, oT, ts, he, hcls, hd, h1, r⟩ := id ht
  refine wpAny_bind (wpAny_field he hd h1 ?_)
  rw [if_neg (show ¬ ((Value.ref T == Value.none) = true) from Bool.false_ne_true), hf]
  exact flight hkb hl ht h
end
theorem seg_code {M : Model} {A : Around} {R : GenEnd} {Y : Protocol} {n : Nat} {s₀ s : Shared} {c : Code} (h : codeAny M A c (fun r s' => R n s₀ r s') s) : Seg M A R Y n s₀ c (M.den c) [] s := by
  rw [seg_iff]
  rintro Γ p rfl hΓ
  obtain ⟨r, s', hr, hR⟩ := h Γ p rfl hΓ.1
  exact ⟨.ret r, s', hr, hR⟩
end
section
open PySem PySem.W PyProof.Rows PySem.Calls
/-- the rest of the heap as it was, up to records, slots, and one frame -/
noncomputable def Up (L : Addr) (h h' : Heap) : Prop := ∀ b o, b ≠ L → h.get? b = some o → (∀ vs, o.data ≠ .fields vs) → ∃ sl, h'.get? b = some { o with slots := sl }
theorem Up.trans {L : Addr} {h h' h'' : Heap} (x : Up L h h') (y : h'.UpToSlots h'') : Up L h h'' := fun b o hb e hn =>
  let ⟨_, e₁⟩ := x b o hb e hn; let ⟨sl, e₂⟩ := y b _ e₁ hn; ⟨sl, e₂⟩
theorem funFrames_of {base h h' : Heap} : ∀ {l : List Env}, (∀ b ∈ l.filterMap (·.frame), ∀ o, h.get? b = some o → (∀ vs, o.data ≠ .fields vs) → ∃ o', h'.get? b = some o' ∧ o'.data = o.data) → h.FunFrames base l → h'.FunFrames base l
  | [], _, _ => trivial
  | env :: rest, k, ⟨hk, ⟨L, o, hf, hn, ho, hd⟩, hr⟩ => by
    rw [List.filterMap_cons, hf] at k
    obtain ⟨o', ho', hd'⟩ := k L (.head _) o ho hd
    exact ⟨hk, ⟨L, o', hf, hn, ho', fun vs => hd' ▸ hd vs⟩, funFrames_of (fun b hb => k b (.tail _ hb)) hr⟩
variable {w : World} {A : Around} {hb : Heap} {L gl : Addr} {env : Env} {ns : List Int} {outer : List Env}
structure Refused (hb : Heap) (outer : List Env) (L : Addr) (s₀ : Shared) (r : Result) (s' : Shared) : Prop where
  is : ∃ h' tk e t mt, s' = { s₀ with heap := h', toks := tk } ∧ r = .error (.ref e) ∧ Heap.FlyingW hb outer e (.type "ValueError") (.ref t) h' ∧ h'.TupAt t [.str "invalid grouping" mt] ∧ Up L s₀.heap h' ∧ hb.get? t = none
section
variable {kk : Nat} {pp1 pp2 pp3 pp4 : Pos} {wh ra : List Stmt} {q0 q1 q2 q3 q4 q5 q6 q7 q8 q9 q10 q11 q12 q13 q14 q15 q16 q17 q18 q19 q20 r1 r2 r3 r4 r5 q21 q22 q23 q24 : Pos} {m1 m2 m3 m4 : Nat}
theorem gen_raise (E : GE env L) (hfrm : env.frame = some L) (hgr : env.kindOf "grouping" = some .local) (hve : env.kindOf "ValueError" = some .globalImplicit) (hbu : env.builtins = builtinsNs) (B : Base w hb) (hgl : Cell.at (ilst gl (0 :: ns)) hb) (h1 : hb.get? L = none) (R : Rm A 10) (hfr : A.frames = some outer) (hLo : L ∉ outer.filterMap (·.frame))
    (s₀ : Shared) (l : List (Str × Value)) (hk : ∀ b o, hb.get? b = some o → s₀.heap.get? b = some o) (hs : Cell.at (nsc L l) s₀.heap) (hl : al l "grouping" = some (.ref gl)) (hF : s₀.heap.FunFrames hb outer) :
    ∀ fb body, fb = [.Assign [.Name "last_interval" r1] (.Constant .none m3 r2) r3, .For (.Name "interval" q0) (.Name "grouping" r4) body [] r5] →
      body = .If (.Compare (.Name "interval" q1) [.Eq] [.Name "CHAR_MAX" q2] q3) [.Return none q4] [] q5 ::
        .If (.Compare (.Name "interval" q6) [.Eq] [.Constant (.int 0) m1 q7] q8)
          (.If (.Compare (.Name "last_interval" q9) [.Is] [.Constant .none m2 q10] q11) [.Raise (some (.Call (.Name "ValueError" q20) [.Constant (.str "invalid grouping") m4 q21] [] q22)) none q23] [] q12 :: wh) [] q14 :: ra →
      codeAny (Mod w) A (.func fb env) (Refused hb outer L s₀) s₀ := by
  intro fb body hfb hbody
  subst hfb
  have hfr' : (A.deeper env).frames = some (env :: outer) := by show A.frames.map _ = _; rw [hfr]; rfl
  have hno : ∀ b ∈ [L], hb.get? b = none := fun b hb => by rw [List.mem_singleton.mp hb]; exact h1
  have S0 : Sat (XS [L] s₀) [nsc L l] s₀ := ⟨fun b o e => (hide_some e).2, fun c hc => by rw [List.mem_singleton.mp hc]; exact hs, fun c hc => by rw [List.mem_singleton.mp hc]; exact hide_mem _ _ (.head _), by simp, rfl, rfl, rfl⟩
  have Bx : Base w (XS [L] s₀).hb := B.ext (xs_hb hk hno)
  have hglx : Cell.at (ilst gl (0 :: ns)) (XS [L] s₀).hb := Cell.at_of hgl (xs_hb hk hno gl)
  have R' : Rm (A.deeper env) 9 := R.deeper
  refine codeAny_func (wpAny_execs_cons ?_)
  refine Ev.useB (Q := fun f Λ' => f = .next ∧ Λ' = [nsc L (("last_interval", .none) :: l)]) (Ev.asg (Ev.nonec (Ev.store (L := L) .head ⟨rfl, rfl⟩ E.loc E.kl E.hp))) S0 fun f s₁ Λ₁ h₁ q => ?_
  obtain ⟨rfl, rfl⟩ := q
  have hl' : al (("last_interval", .none) :: l) "grouping" = some (.ref gl) := al_skip (by kernel_rfl) hl
  refine wpAny_execs_cons (wpAny_For ?_)
  refine Ev.useB (Q := fun v Λ' => v = .ref gl ∧ Λ' = [nsc L (("last_interval", .none) :: l)]) (Ev.local (Or.inl (by rw [E.loc]; exact .head _)) hl' ⟨rfl, rfl⟩ E.k hgr) h₁ fun v s₂ Λ₂ h₂ q => ?_
  obtain ⟨rfl, rfl⟩ := q
  refine Ev.useB (Q := fun v Λ' => ∃ it, v = .ref it ∧ Λ' = [lit it gl 0, nsc L (("last_interval", .none) :: l)]) (Ev.iterP (P := (ilst gl (0 :: ns)).P) (fun _ => ilst_LL) (Or.inr hglx) fun it => ⟨it, rfl, rfl⟩) h₂ fun v s₃ Λ₃ h₃ q => ?_
  obtain ⟨it, rfl, rfl⟩ := q
  refine codeAny_of_tree ?_
  rw [under_same rfl rfl]
  show wpAny _ _ ((PySem.forTurn (.Name "interval" q0) (.ref it) body [] env).onRaise (fun x => do noteFrame x env; theTreesLotGoes x)) _ _ s₃
  refine wpAny_noted ?_
  simp only [PySem.forTurn]
  have S := Src.list (w := w) (it := it) (n := ns.length + 1) (X := XS [L] s₀) (Λ := [nsc L (("last_interval", .none) :: l)]) (PV := fun i v => ∃ t, v = .int ((0 :: ns).getD i 0) t) R' (Or.inr hglx : Has (XS [L] s₀) [nsc L (("last_interval", .none) :: l)] gl (ilst gl (0 :: ns)).P) fun o p => by
    obtain ⟨vs, m, hi, rfl⟩ := p
    refine ⟨vs.toArray, m, rfl, by rw [List.size_toArray, hi.length]; rfl, fun i v e => ?_⟩
    rw [List.getElem?_toArray] at e
    obtain ⟨y, t, e1, rfl⟩ := IntsAre.at hi e
    exact ⟨t, by rw [List.getD_eq_getElem?_getD, e1]; rfl⟩
  refine wpAny_bind (wpAny_standAt (wpAny_bind (wpAny_onRaise (Ev.useB (S.item [nsc L (("last_interval", .none) :: l)] 0 (fun _ h => h) (by omega)) h₃ fun r s₄ Λ₄ h₄ q => ?_))))
  obtain ⟨v, rfl, ⟨t, rfl⟩, rfl⟩ := q
  refine wpAny_bind (wpAny_of_eq (a := ()) (by rfl) ?_)
  refine wpAny_bind (wpAny_assign_Name ?_)
  refine Ev.useB (Q := fun _ Λ' => Λ' = [lit it gl 1, nsc L (("interval", .int 0 t) :: ("last_interval", .none) :: l)]) (Ev.store (L := L) (.tail .head) rfl E.loc E.ki E.hp) h₄ fun _ s₅ Λ₅ h₅ q => wpAny_bind ?_
  subst q
  subst hbody
  have has : Has (XS [L] s₀) [lit it gl 1, nsc L (("interval", .int 0 t) :: ("last_interval", .none) :: l)] env.locals (NsW (("interval", .int 0 t) :: ("last_interval", .none) :: l)) := Or.inl (by rw [E.loc]; exact .tail _ (.head _))
  have hxi : al (("interval", .int 0 t) :: ("last_interval", .none) :: l) "interval" = some (.int 0 t) := al_hit
  have hli : al (("interval", .int 0 t) :: ("last_interval", .none) :: l) "last_interval" = some .none := al_skip (by kernel_rfl) al_hit
  refine wpAny_execs_cons (wpAny_If ?_)
  refine Ev.useB (Q := fun b Λ' => b = false ∧ Λ' = [lit it gl 1, nsc L (("interval", .int 0 t) :: ("last_interval", .none) :: l)]) (Ev.tcmp (Ev.local has hxi (Ev.global Bx (by rfl) (Ev.eqI (Ev.truB ⟨rfl, rfl⟩)) E.k E.kc E.g) E.k E.ki)) h₅ fun b s₆ Λ₆ h₆ q => ?_
  obtain ⟨rfl, rfl⟩ := q
  refine wpAny_execs_nil (wpAny_execs_cons (wpAny_If ?_))
  refine Ev.useB (Q := fun b Λ' => b = true ∧ Λ' = [lit it gl 1, nsc L (("interval", .int 0 t) :: ("last_interval", .none) :: l)]) (Ev.tcmp (Ev.local has hxi (Ev.int fun _ => Ev.eqI (Ev.truB ⟨rfl, rfl⟩)) E.k E.ki)) h₆ fun b s₇ Λ₇ h₇ q => ?_
  obtain ⟨rfl, rfl⟩ := q
  refine wpAny_execs_cons (wpAny_If ?_)
  refine Ev.useB (Q := fun b Λ' => b = true ∧ Λ' = [lit it gl 1, nsc L (("interval", .int 0 t) :: ("last_interval", .none) :: l)]) (Ev.tcmp (Ev.local has hli (Ev.nonec (Ev.isNone (Ev.truB ⟨rfl, rfl⟩))) E.k E.kl)) h₇ fun b s₈ Λ₈ h₈ q => ?_
  obtain ⟨rfl, rfl⟩ := q
  refine wpAny_execs_cons (wpAny_Raise_call F.excCall_ValueError F.excRaise_ValueError R'.hd rfl ?_)
  refine Ev.useB (Q := fun v Λ' => v = .type "ValueError" ∧ Λ' = [lit it gl 1, nsc L (("interval", .int 0 t) :: ("last_interval", .none) :: l)]) (Ev.builtin Bx (by rfl) ⟨rfl, rfl⟩ E.k hve E.g hbu) h₈ fun v s₉ Λ₉ h₉ q => ⟨q.1, ?_⟩
  obtain ⟨rfl, rfl⟩ := q
  refine evalArgs_plain (Ev.useB (Q := fun vs Λ' => (∃ mt, vs = [.str "invalid grouping" mt]) ∧ Λ' = [lit it gl 1, nsc L (("interval", .int 0 t) :: ("last_interval", .none) :: l)]) (Ev.items1 (Ev.str fun mt => Ev.items0 ⟨⟨mt, rfl⟩, rfl⟩)) h₉ fun vs s₁₀ Λ₁₀ h₁₀ q => ?_)
  obtain ⟨⟨mt, rfl⟩, rfl⟩ := q
  refine ⟨rfl, by show 1 ≤ sizeLine; decide, fun h' e hm => ?_⟩
  obtain ⟨ta, het, hta0, hta⟩ := hm.there
  have gens : s₁₀.gens = s₀.gens := h₁₀.gp
  have dr : s₁₀.drawn = s₀.drawn := h₁₀.d
  have os : s₁₀.os = s₀.os := h₁₀.os
  have stay : hb.StaysIn h' := fun b o e' => hm.keeps b o (h₁₀.keep b o (xs_hb hk hno b o e'))
  have hen : hb.get? e = none := by
    cases q : hb.get? e with
    | none => rfl
    | some o => have := h₁₀.keep e o (xs_hb hk hno e o q); rw [hm.new] at this; cases this
  have up0 : Up L s₀.heap h' := fun b o hbL e' _ => ⟨o.slots, hm.keeps b o (h₁₀.keep b o ((hide_ne [L] s₀.heap fun h => hbL (List.mem_singleton.mp h)).trans e'))⟩
  have FF : h'.FunFrames hb (env :: outer) := by
    obtain ⟨m, hns, -⟩ := nsw_of (h₁₀.own _ (.tail _ (.head _)))
    refine Heap.FunFrames.cons (by rw [E.k]; decide) hfrm (hns.keeps hm.keeps) h1 (funFrames_of (fun b hbm o e' hn => ?_) hF)
    obtain ⟨sl, e''⟩ := up0 b o (fun q => hLo (q ▸ hbm)) e' hn
    exact ⟨_, e'', rfl⟩
  have tup0 : h'.TupAt ta [.str "invalid grouping" mt] := ⟨_, _, hta, rfl, rfl⟩
  refine note_first hfr' FF hfrm het stay hen rfl rfl rfl fun h₂' N₁ => ?_
  obtain ⟨n1, n2, n3, n4⟩ := N₁
  refine came_back hfrm n1 n2 n3 fun h₃' c1 c2 c3 c4 => ?_
  unfold leaving
  refine wpAny_bind (wpAny_noteFrame_againW hfrm c3 ?_)
  refine wpAny_setFlight_noneW c1 c2 c3 fun h₄' d1 d2 d3 d4 => ?_
  have u1 : h'.UpToSlots h₂' := n4
  have u2 : h₃'.UpToSlots h₄' := fun b o e' hn => ⟨o.slots, d4 b o e' hn⟩
  refine ⟨h₄', s₁₀.toks, e, ta, mt, ?_, rfl, ⟨d1, hen, d2.2.2, d3⟩, ((tup0.of_slots u1).of_slots c4).of_slots u2, ((up0.trans u1).trans c4).trans u2, ?_⟩
  rotate_left
  · cases q : hb.get? ta with
    | none => rfl
    | some o => have := h₁₀.keep ta o (xs_hb hk hno ta o q); rw [hta0] at this; cases this
  rw [← gens, ← dr, ← os]
end
end
section
open PySem PySem.W PyProof.Rows PySem.Calls
variable {w : World} {A : Around}
theorem not_stop : isSubtype (.type "ValueError") (.type "StopIteration") = Pure.pure false := by rw [isSubtype_type]; kernel_rfl
/-- a generator that raises when woken -/
theorem next_raise {a : Addr} {g : Nat} {c : Code} {P : Addr → Shared → Prop} {Q : Option Value → Shared → Prop} {E : Value → Shared → Prop} {s : Shared}
    (hl : s.heap.NoLimit) (hroom : A.depth < recursionLimit) (hg : s.heap.IsGen a g) (hgs : s.gens[g]? = some (.fresh c))
    (hgo : codeAny (Mod w) A.in1 c (fun r s' => ∃ e, r = .error (.ref e) ∧ P e s') (s.setGen g .running))
    (hT : ∀ e s', P e s' → (∃ o, s'.heap.get? e = some o ∧ o.cls = .type "ValueError") ∧ ∃ o, s'.heap.get? a = some o)
    (hE : ∀ e s', P e s' → E (.ref e) (s'.setGen g .finished)) : wpAny (Mod w) A (pyNext (.ref a)) Q E s := by
  unfold pyNext
  refine wpAny_bind (wpAny_attempt (wpAny_callSpecial?_slot (name := Str.ofString "__next__") hg.typeIs slot_gen_next (wpAny_call_entry slot_gen_next hg.typeIs entry_gen_next ?_ (args_gen_next _))))
  show wpAny _ A.in1 (Builtin.Generator.genWake (.ref a) (.send .none)) _ _ s
  unfold Builtin.Generator.genWake
  refine wpAny_bind (wpAny_holding (wpAny_genNumber hg (wpAny_bind (wpAny_genState hgs ?_))))
  refine wpAny_bind (wpAny_roomToWake hl hroom ?_)
  show wpAny _ _ (.resume g (.send .none) [] _) _ _ s
  refine wpAny_resumeQ (n := 0) (R := fun n s₀ r s' => ∃ e, r = .error (.ref e) ∧ P e s') (Y := fun _ _ _ _ _ => False) hgs ⟨rfl, seg_code hgo⟩ (fun x s₁ hx => ?_) fun v s₁ gs' hb hv => hv.elim
  obtain ⟨e, rfl, hp⟩ := hx
  obtain ⟨⟨o, ho, hc⟩, oa, hoa⟩ := hT e s₁ hp
  have hi : ∀ {A' : Around} {E' : Value → Shared → Prop} {Q' : Bool → Shared → Prop}, Q' false (s₁.setGen g .finished) → wpAny (Mod w) A' (isInstance (.ref e) (.type "StopIteration")) Q' E' (s₁.setGen g .finished) := fun q =>
    wpAny_isInstance (T := "ValueError") (b := false) ⟨o, ho, hc⟩ not_stop q
  show wpAny _ _ (Builtin.Generator.genLeft (.ref a) (.ref e)) _ _ _
  unfold Builtin.Generator.genLeft Builtin.Generator.madeByALambda
  refine wpAny_bind (wpAny_bind (wpAny_load hoa (wpAny_pure ?_)))
  refine wpAny_bind (hi ?_)
  rw [Bool.and_false, if_neg (by decide)]
  unfold Builtin.Generator.genEscaped
  refine wpAny_bind (hi ?_)
  rw [if_pos (by decide)]
  refine wpAny_bind (wpAny_throw ?_)
  refine wpAny_bind (hi ?_)
  rw [if_neg (by decide)]
  exact wpAny_throw (hE e s₁ hp)
end
section
open PySem PySem.W PyProof.Rows PySem.Calls
variable {w : World} {A : Around} {X : Amb} {Λ : List Cell}
theorem gfd_r (w : World) : ∃ c d fd sl, (K0 w).lookup 35 = some ⟨c, d, .func fd, sl⟩ ∧ ∃ fb, fd.body = .stmts fb ∧ ∀ {hb : Heap} {L gl : Addr} {A : Around} {ns : List Int} {outer : List Env} (B : Base w hb) (hgl : Cell.at (ilst gl (0 :: ns)) hb) (h1 : hb.get? L = none) (R : Rm A 10) (hfr : A.frames = some outer) (hLo : L ∉ outer.filterMap (·.frame))
    (s₀ : Shared) (l : List (Str × Value)) (hk : ∀ b o, hb.get? b = some o → s₀.heap.get? b = some o) (hs : Cell.at (nsc L l) s₀.heap) (hl : al l "grouping" = some (.ref gl)) (hF : s₀.heap.FunFrames hb outer),
      codeAny (Mod w) A (.func fb (callEnv fd L 35)) (Refused hb outer L s₀) s₀ := by
  refine ⟨_, _, _, _, by rfl, _, rfl, ?_⟩
  intro hb L gl A ns outer B hgl h1 R hfr hLo s₀ l hk hs hl hF
  exact gen_raise ⟨rfl, by rfl, by rfl, by rfl, rfl, rfl, rfl⟩ rfl (by rfl) (by rfl) rfl B hgl h1 R hfr hLo s₀ l hk hs hl hF _ _ rfl rfl
theorem mk_gen {gl : Addr} {Q : Value → Shared → Prop} {E : Value → Shared → Prop} {s : Shared} {c : Value} {d : Option Addr} {fd : FuncData} {sl} {fb : List Stmt} {j : Nat} (hG : X.gp = AllBare) (B : Base w X.hb) (R : Rm A j) (hs : Sat X Λ s)
    (ho : (K0 w).lookup 35 = some ⟨c, d, .func fd, sl⟩) (F : GFd w fd) (hfb : fd.body = .stmts fb)
    (k : ∀ s₃ : Shared, (∀ b o, s.heap.get? b = some o → s₃.heap.get? b = some o) → Cell.at (nsc s.heap.objs.size [("grouping", .ref gl)]) s₃.heap → s₃.heap.IsGen (s.heap.objs.size + 1) s.gens.size → s₃.gens[s.gens.size]? = some (.fresh (.func fb (callEnv fd s.heap.objs.size 35))) → Sat X Λ s₃ →
      Q (.ref (s.heap.objs.size + 1)) s₃) :
    wpAny (Mod w) A (call (.ref 35) [.ref gl]) Q E s := by
  have hob := hs.keep _ _ (B.k 35 _ (by decide) ho)
  refine wpAny_call (codeAny_call_generator R.room hob rfl F.co F.gen hfb ((codeRec_of_coded B F.code).keeps hs.keep) ?_)
  refine wpAny_of_eq (F.bind _) (wpAny_newFunctionEnv F.cells (fun y hy => by rw [List.mem_singleton.mp hy]; exact F.loc) (fun h' hns hsb => ?_) F.kind)
  have hold : ∀ b o, s.heap.get? b = some o → h'.get? b = some o := fun b o e => hsb.extBut b o (Nat.ne_of_lt (Heap.lt_size e)) (Heap.get?_push_of_some _ e)
  have hsz : h'.objs.size = s.heap.objs.size + 1 := by rw [hsb.1, Heap.size_push]
  refine ⟨B.limit.keeps fun b o e => hold b o (hs.keep b o e), ?_⟩
  have hcell : Cell.at (nsc s.heap.objs.size [("grouping", .ref gl)]) h' := of_nsw hns fun _ _ h => h
  show Q (.ref h'.objs.size) _
  rw [hsz]
  refine k _ (fun b o e => Heap.get?_push_of_some _ (hold b o e)) (Cell.at_of hcell fun o e => Heap.get?_push_of_some _ e) ⟨_, _, _, by rw [← hsz]; exact Heap.get?_push_size _ rfl, rfl, rfl, rfl⟩ (Array.getElem?_push_size ..) ?_
  exact ⟨fun b o e => Heap.get?_push_of_some _ (hold b o (hs.keep b o e)), fun c hc => Cell.at_of (hs.own c hc) fun o e => Heap.get?_push_of_some _ (hold _ o e), hs.new, hs.nd, by
      have := hs.gp
      rw [hG] at this ⊢
      exact AllBare.push this rfl, hs.d, hs.os⟩
noncomputable abbrev exc (e t : Addr) : Cell := ⟨e, fun o => o.cls = .type "ValueError" ∧ ∃ vs, o.data = .fields vs ∧ vs[0]? = some (.ref t)⟩
noncomputable abbrev tupc (t : Addr) (vs : List Value) : Cell := ⟨t, fun o => o.cls = .type "tuple" ∧ ∃ n, o.data = .seq vs.toArray n⟩
theorem Ev.strExc {e t : Addr} {m : Str} {tk : Tok} {Q : Value → List Cell → Prop} (hu : A.units + 2 < cLine) (he : Has X Λ e (exc e t).P) (ht : Has X Λ t (tupc t [.str m tk]).P) (h : Q (.str m tk) Λ) : Ev w X A Λ (call (.type "str") [.ref e]) Q := fun s hs => by
  obtain ⟨o, ho, hc, vs, hd, h0⟩ := he.at hs
  obtain ⟨o2, ho2, hc2, n, hd2⟩ := ht.at hs
  exact PySem.P.str_of_exc_one F.excStr_ValueError hu ⟨o, vs, ho, hc, hd, h0⟩ ⟨o2, n, ho2, hc2, hd2⟩ ⟨Λ, hs, h⟩
theorem Ev.enterA {Q : Value → List Cell → Prop} {k : Nat} {a : Addr} {c : Value} {d : Option Addr} {fd : FuncData} {sl} {args : List Value} {binds : List (Str × Value)} {body : List Stmt} (B : Base w X.hb) (R : Rm A (k + 1)) (ho : (K0 w).lookup a = some ⟨c, d, .func fd, sl⟩) (ha : a ≠ 90) (hcd : coded w fd.code fd.qualname = true)
    (hbody : fd.body = .stmts body) (hbind : bindArgs fd ⟨args, []⟩ = Pure.pure binds) (hcell : fd.scope.names.all (fun x => x.2 != .cell) = true) (hloc : binds.all (fun x => fd.scope.names.lookup x.1 == some .local) = true)
    (h : ∀ L A', Rm A' k → A'.frames = (A.frames.map fun l => callEnv fd L a :: l) → Ev w X A' (nsc L binds.reverse :: Λ) (execs body (callEnv fd L a)) fun f Λ' => Q (retOf f) Λ')
    (hco : fd.scope.isCoroutine = false := by rfl) (hgen : fd.scope.isGenerator = false := by rfl) (hk : fd.scope.kind = .function := by rfl) : Ev w X A Λ (call (.ref a) args) Q := fun s hs => by
  refine wpAny_call (codeAny_call_def R.room (hs.keep _ _ (B.k a _ ha ho)) rfl (B.limit.keeps hs.keep) ((codeRec_of_coded B hcd).keeps hs.keep) hbody (BindsTo.of_eq hbind)
    (fun x hx => by have := List.all_eq_true.mp hcell x hx; simpa using this) (fun x hx => by have := List.all_eq_true.mp hloc x hx; simpa using this) (fun h₀ hns hk₀ => ?_) hco hgen hk)
  refine Ev.useB (h _ _ R.deeper rfl) (s := ⟨h₀, s.gens, s.drawn, s.toks + binds.length, s.os⟩) (hs.grow (s' := ⟨h₀, s.gens, s.drawn, s.toks + binds.length, s.os⟩) hk₀ hs.gp rfl rfl (of_nsw hns fun _ _ h => h)) fun f s' Λ' h' q => ⟨Λ', h', q⟩
structure RE (env : Env) (L : Addr) : Prop where
  loc : env.locals = L
  fr : env.frame = some L
  k : env.scope.kind = .function
  g : env.globals = mainGlobals
  b : env.builtins = builtinsNs
  kr : env.kindOf "ruler" = some .local
  ks : env.kindOf "size" = some .local
  ke : env.kindOf "error" = some .local
  kg : env.kindOf "_grouping_intervals" = some .globalImplicit
  kv : env.kindOf "ValueError" = some .globalImplicit
  kt : env.kindOf "str" = some .globalImplicit
theorem RE.hp {env : Env} {L : Addr} (E : RE env L) : (env.scope.kind == .class || (env.scope.kind == .module && env.locals != env.globals)) = false := by rw [E.k]; rfl
theorem refused_body {env envl : Env} {Lr Ll gl : Addr} {ll : List (Str × Value)} {ns : List Int} {rest rb : List Stmt} {p1 p2 p3 p4 p5 p6 p7 p8 p9 p10 p11 p12 p13 p14 : Pos} {m1 : Nat} (E : RE env Lr) (hG : X.gp = AllBare) (B : Base w X.hb) (R : Rm A 23) (hfr : A.frames = some [env, envl]) (hfl : envl.frame = some Ll) (hkl : envl.scope.kind ≠ .module)
    (hgl : Cell.at (ilst gl (0 :: ns)) X.hb) : Ev w X A [nsc Lr [("ruler", .ref gl)], nsc Ll ll]
      (execs (.Try [.For (.Name "size" p1) (.Call (.Name "_grouping_intervals" p2) [.Name "ruler" p3] [] p4) rb [] p5]
        [.ExceptHandler (some (.Name "ValueError" p6)) (some "error") [.Return (some (.Compare (.Call (.Name "str" p7) [.Name "error" p8] [] p9) [.Eq] [.Constant (.str "invalid grouping") m1 p10] p11)) p12] p13] [] [] p14 :: rest) env)
      fun f Λ' => f = .ret (.bool true) ∧ Λ' = [nsc Ll ll] := fun s h₁ => by
  obtain ⟨c, d, fd, sl, ho, F⟩ := gfd w
  obtain ⟨c', d', fd', sl', ho', fb, hfb, raise⟩ := gfd_r w
  rw [ho] at ho'
  cases ho'
  have hLr : X.hb.get? Lr = none := h₁.new _ (.head _)
  have hLl : X.hb.get? Ll = none := h₁.new _ (.tail _ (.head _))
  have hne : Lr ≠ Ll := fun e => (List.nodup_cons.mp h₁.nd).1 (by subst e; exact .head _)
  refine wpAny_execs_cons (wpAny_Try_except (wpAny_execs_cons (wpAny_For ?_)))
  refine Call_Name rfl (Ev.useB (Ev.global (Q := fun v Λ' => v = .ref 35 ∧ Λ' = [nsc Lr [("ruler", .ref gl)], nsc Ll ll]) B (by rfl) ⟨rfl, rfl⟩ E.k E.kg E.g) h₁ fun v s₁ Λ₁ h₁ q => ?_)
  obtain ⟨rfl, rfl⟩ := q
  refine callWith_function (o := ⟨c, d, .func fd, sl⟩) (fd := fd) ?_
  refine evalArgs_plain (Ev.useB (Q := fun vs Λ' => vs = [.ref gl] ∧ Λ' = [nsc Lr [("ruler", .ref gl)], nsc Ll ll]) (Ev.items1 (Ev.local (Or.inl (by rw [E.loc]; exact .head _)) al_hit (Ev.items0 ⟨rfl, rfl⟩) E.k E.kr)) h₁ fun vs s₂ Λ₂ h₂ q => ?_)
  obtain ⟨rfl, rfl⟩ := q
  refine ⟨⟨h₂.keep _ _ (B.k 35 _ (by decide) ho), rfl⟩, ?_⟩
  refine mk_gen hG B R h₂ ho F hfb fun s₃ hold hcell hgen hgs h₃ => ?_
  refine wpAny_pyIter_gen hgen ?_
  refine codeAny_of_tree ?_
  rw [under_same rfl rfl]
  show wpAny _ _ ((PySem.forTurn (.Name "size" p1) (.ref (s₂.heap.objs.size + 1)) rb [] env).onRaise (fun x => do noteFrame x env; theTreesLotGoes x)) _ _ _
  refine wpAny_noted ?_
  simp only [PySem.forTurn]
  refine wpAny_bind (wpAny_standAt (wpAny_bind (wpAny_onRaise ?_)))
  have hLg : X.hb.get? s₂.heap.objs.size = none := h₂.fresh
  have hLr2 : Lr ≠ s₂.heap.objs.size := Nat.ne_of_lt (h₂.lt (c := nsc Lr [("ruler", .ref gl)]) (.head _))
  have hLl2 : Ll ≠ s₂.heap.objs.size := Nat.ne_of_lt (h₂.lt (c := nsc Ll ll) (.tail _ (.head _)))
  obtain ⟨hb', ehb⟩ : ∃ hb', hb' = hide s₃.heap [Lr, Ll, s₂.heap.objs.size] := ⟨_, rfl⟩
  have hxb : ∀ b o, X.hb.get? b = some o → hb'.get? b = some o := fun b o e => by
    rw [ehb]
    refine (hide_ne _ _ fun hm => ?_).trans (h₃.keep b o e)
    rcases List.mem_cons.mp hm with rfl | hm
    · rw [hLr] at e; cases e
    · rcases List.mem_cons.mp hm with rfl | hm
      · rw [hLl] at e; cases e
      · rw [List.mem_singleton.mp hm, hLg] at e; cases e
  have hxn : ∀ b, hb'.get? b = none → X.hb.get? b = none := fun b e => by
    cases q : X.hb.get? b with
    | none => rfl
    | some o => rw [hxb b o q] at e; cases e
  have hb3 : ∀ b o, hb'.get? b = some o → s₃.heap.get? b = some o := fun b o e => by rw [ehb] at e; exact (hide_some e).2
  have nLr : hb'.get? Lr = none := by rw [ehb]; exact hide_mem _ _ (.head _)
  have nLl : hb'.get? Ll = none := by rw [ehb]; exact hide_mem _ _ (.tail _ (.head _))
  have nLg : hb'.get? s₂.heap.objs.size = none := by rw [ehb]; exact hide_mem _ _ (.tail _ (.tail _ (.head _)))
  have ha : ∃ o, hb'.get? (s₂.heap.objs.size + 1) = some o := by
    obtain ⟨o, nm, qn, ho, -⟩ := hgen
    have l1 := h₂.lt (c := nsc Lr [("ruler", .ref gl)]) (.head _)
    have l2 := h₂.lt (c := nsc Ll ll) (.tail _ (.head _))
    have hm : s₂.heap.objs.size + 1 ∉ [Lr, Ll, s₂.heap.objs.size] := fun hm => by
      rcases List.mem_cons.mp hm with e | hm
      · exact absurd l1 (by show ¬ Lr < _; rw [← e]; exact Nat.not_lt.mpr (Nat.le_succ _))
      · rcases List.mem_cons.mp hm with e | hm
        · exact absurd l2 (by show ¬ Ll < _; rw [← e]; exact Nat.not_lt.mpr (Nat.le_succ _))
        · exact absurd (List.mem_singleton.mp hm) (Nat.succ_ne_self _)
    exact ⟨o, by rw [ehb]; exact (hide_ne _ _ hm).trans ho⟩
  have FF : s₃.heap.FunFrames hb' [env, envl] := by
    obtain ⟨mr, hr, -⟩ := nsw_of (h₃.own _ (.head _))
    obtain ⟨ml, hl, -⟩ := nsw_of (h₃.own _ (.tail _ (.head _)))
    exact Heap.FunFrames.cons (by rw [E.k]; decide) E.fr hr nLr (Heap.FunFrames.cons hkl hfl hl nLl trivial)
  refine next_raise (B.limit.keeps h₃.keep) R.room hgen hgs (P := fun e s' => Refused hb' [env, envl] s₂.heap.objs.size (s₃.setGen s₂.gens.size .running) (.error (.ref e)) s') ?_ ?_ ?_
  · refine codeAny_mono (raise (B.ext hxb) (Cell.at_of hgl (hxb _)) nLg (Rm.in1 (R.le (by decide))) hfr ?_ _ [("grouping", .ref gl)] hb3 hcell al_hit FF) fun r s' hr => ?_
    · simp only [List.filterMap_cons, E.fr, hfl, List.filterMap_nil]
      intro hm
      rcases List.mem_cons.mp hm with e | hm
      · exact hLr2 e.symm
      · exact hLl2 (List.mem_singleton.mp hm).symm
    · obtain ⟨h', tk', e, t, mt, e1, e2, r⟩ := hr.is
      exact ⟨e, e2, ⟨h', tk', e, t, mt, e1, rfl, r⟩⟩
  · rintro e s' ⟨h', tk', e', t, mt, rfl, e2, fl, tu, up, ht⟩
    cases e2
    obtain ⟨o, ho1, ho2⟩ := fl.there
    obtain ⟨oa, hoa⟩ := ha
    exact ⟨⟨o, ho1, ho2⟩, oa, fl.1 _ _ hoa⟩
  · rintro e s' ⟨h', tk', e', t, mt, rfl, e2, fl, tu, up, ht⟩
    cases e2
    refine wpAny_standAt ?_
    refine wpAny_looks_onW (base := hb') (e := e) (cls := .type "ValueError") (a0 := .ref t) hfr E.fr (by exact fl) fun h₅ fl₅ u₅ => ?_
    obtain ⟨k1, k2, k3, k4⟩ := fl₅
    refine came_back (base := hb') (e := e) E.fr k1 k3 k4 fun h₆ c1 c2 c3 c4 => ?_
    refine wpAny_noteFrame_againW E.fr c3 ?_
    refine wpAny_setFlight_noneW c1 c2 c3 fun h₇ d1 d2 d3 d4 => ?_
    have u₇ : h₆.UpToSlots h₇ := fun b o e' hn => ⟨o.slots, d4 b o e' hn⟩
    have e0 : ∃ o, h₇.get? e = some o ∧ o.cls = .type "ValueError" := d3.at.there
    refine wpAny_handleBy_builtin_as (X := "ValueError") (T := "ValueError") (b := true) PySem.F.isExc_ValueError PySem.F.notTuple_ValueError PySem.F.self_ValueError ?_
    have up7 : ∀ b o, b ≠ s₂.heap.objs.size → s₃.heap.get? b = some o → (∀ vs, o.data ≠ .fields vs) → ∃ sl, h₇.get? b = some { o with slots := sl } := (((up.trans u₅).trans c4).trans u₇)
    have gens : AllBare ((s₃.setGen s₂.gens.size .running).gens.setIfInBounds s₂.gens.size .finished) := by
      have := h₃.gp
      rw [hG] at this
      exact (GenOnlyQ.of (y := .finished) ((GenOnly.setGen s₃ s₂.gens.size .running).trans (GenOnly.setGen (s₃.setGen s₂.gens.size .running) s₂.gens.size .finished)) (setGen_self (gs := .running) (setGen_self hgs)) rfl).bare this
    have satN : ∀ h' tk, X.hb.StaysIn h' → (∀ b o, b ≠ s₂.heap.objs.size → s₃.heap.get? b = some o → (∀ vs, o.data ≠ .fields vs) → ∃ sl, h'.get? b = some { o with slots := sl }) →
        Sat X [nsc Lr [("ruler", .ref gl)], nsc Ll ll] { (s₃.setGen s₂.gens.size .running).setGen s₂.gens.size .finished with heap := h', toks := tk } := fun h' tk st up => by
      have nsN : ∀ {b : Addr} {l : List (Str × Value)}, b ≠ s₂.heap.objs.size → Cell.at (nsc b l) s₃.heap → Cell.at (nsc b l) h' := fun {b l} hb hc => by
        obtain ⟨m, ⟨o, es, ep, ho, hd, r⟩, q⟩ := nsw_of hc
        obtain ⟨sl, hs⟩ := up b o hb ho fun vs e => by rw [hd] at e; cases e
        exact of_nsw ⟨_, es, ep, hs, hd, r⟩ q
      refine ⟨st, fun c hc => ?_, h₃.new, h₃.nd, ?_, h₃.d, h₃.os⟩
      · rcases List.mem_cons.mp hc with rfl | hc
        · exact nsN hLr2 (h₃.own _ (.head _))
        · rw [List.mem_singleton.mp hc]; exact nsN hLl2 (h₃.own _ (.tail _ (.head _)))
      · rw [hG]; exact gens
    have S7 := satN h₇ tk' (fun b o e => d1 b o (hxb b o e)) up7
    refine Name_function_global E.k E.kv (loadGlobal_builtin (by rw [E.g]; exact B.main.keeps S7.keep) (btab_no' (v := .type "ValueError") (by rfl)) (by rw [E.b]; exact B.blt.keeps S7.keep) (btab_at (by rfl)) ⟨rfl, e0, ?_⟩) (by decide)
    rw [if_pos rfl]
    refine wpAny_setFlight_noneW d1 d2 d3.at fun h₈ g1 g2 g3 g4 => ?_
    have u₈ : h₇.UpToSlots h₈ := fun b o e' hn => ⟨o.slots, g4 b o e' hn⟩
    have up8 : ∀ b o, b ≠ s₂.heap.objs.size → s₃.heap.get? b = some o → (∀ vs, o.data ≠ .fields vs) → ∃ sl, h₈.get? b = some { o with slots := sl } := ((((up.trans u₅).trans c4).trans u₇).trans u₈)
    have S8 := satN h₈ tk' (fun b o e => g1 b o (hxb b o e)) up8
    have tu8 : h₈.TupAt t [.str "invalid grouping" mt] := (((tu.of_slots u₅).of_slots c4).of_slots u₇).of_slots u₈
    have cE : Cell.at (exc e t) h₈ := by
      obtain ⟨oe, vs, T, oT, ts, he, ⟨hc, h0⟩, hd, -⟩ := g3
      exact ⟨oe, he, hc, vs, hd, h0⟩
    have cT : Cell.at (tupc t [.str "invalid grouping" mt]) h₈ := by
      obtain ⟨o, n, ho, hc, hd⟩ := tu8
      exact ⟨o, ho, hc, n, hd⟩
    have nE : ∀ b l, Cell.at (nsc b l) h₈ → b ≠ e ∧ b ≠ t := fun b l hc => by
      obtain ⟨m, ⟨o, es, ep, ho, hd, r⟩, -⟩ := nsw_of hc
      refine ⟨fun q => ?_, fun q => ?_⟩
      · obtain ⟨oe, he, hcl, vs, hde, -⟩ := cE
        subst q; simp only at he; rw [ho] at he; cases he; rw [hd] at hde; cases hde
      · obtain ⟨ot, ht', hcl, n, hdt⟩ := cT
        subst q; simp only at ht'; rw [ho] at ht'; cases ht'; rw [hd] at hdt; cases hdt
    have nET : e ≠ t := fun q => by
      obtain ⟨oe, he, hcl, vs, hde, -⟩ := cE
      obtain ⟨ot, ht', hcl2, n, hdt⟩ := cT
      subst q; simp only at he ht'; rw [he] at ht'; cases ht'; rw [hde] at hdt; cases hdt
    have aLr := nE _ _ (S8.own _ (.head _))
    have aLl := nE _ _ (S8.own _ (.tail _ (.head _)))
    have S9 := (S8.more (a := t) cT (hxn _ ht) fun c hc => by
      rcases List.mem_cons.mp hc with rfl | hc
      · exact aLr.2
      · rw [List.mem_singleton.mp hc]; exact aLl.2)
    have S10 := (S9.more (a := e) cE (hxn _ k2) fun c hc => by
      rcases List.mem_cons.mp hc with rfl | hc
      · exact nET.symm
      · rcases List.mem_cons.mp hc with rfl | hc
        · exact aLr.1
        · rw [List.mem_singleton.mp hc]; exact aLl.1)
    refine Ev.useB (A := A.mark (some (.ref e))) (Q := fun _ Λ' => Λ' = [exc e t, tupc t [.str "invalid grouping" mt], nsc Lr [("error", .ref e), ("ruler", .ref gl)], nsc Ll ll]) (Ev.store (L := Lr) (.tail (.tail .head)) rfl E.loc E.ke E.hp) S10 fun _ s₉ Λ₉ h₉ q => ?_
    subst q
    refine Ev.useB (A := A.mark (some (.ref e))) (Q := fun f Λ' => f = .ret (.bool true) ∧ Λ' = [exc e t, tupc t [.str "invalid grouping" mt], nsc Lr [("error", .ref e), ("ruler", .ref gl)], nsc Ll ll]) ?_ h₉ fun f s₁₀ Λ₁₀ h₁₀ q => ?_
    · refine Ev.seq (Ev.retE (Ev.cmp (Ev.callT B (by rfl) (Ev.items1 (Ev.local (Or.inl (by rw [E.loc]; exact .tail _ (.tail _ (.head _)))) al_hit (Ev.items0 (Ev.strExc ?_ (Or.inl (.head _)) (Or.inl (.tail _ (.head _))) (Ev.str fun _ => Ev.eqS ⟨rfl, rfl⟩))) E.k E.ke)) E.k E.kt E.g E.b)))
      have := R.un
      show A.units + 2 < cLine
      rw [cLine_is]; omega
    · obtain ⟨rfl, rfl⟩ := q
      obtain ⟨m, hm, -⟩ := nsw_of (h₁₀.own _ (.tail _ (.tail _ (.head _))))
      refine wpAny_nameGoes E.ke (by rw [E.loc]; exact hm) E.hp fun h' m' _ hsb => ?_
      rw [E.loc] at hsb
      have := h₁₀.cut (s' := { s₁₀ with heap := h', toks := s₁₀.toks + 1 }) (c := nsc Lr [("error", .ref e), ("ruler", .ref gl)]) (.tail (.tail .head)) hsb.extBut h₁₀.gp rfl rfl
      exact ⟨_, this.sub ((List.sublist_cons_self _ _).trans (List.sublist_cons_self _ _)), rfl, rfl⟩
theorem refused_spec {gl Ll : Addr} {ll : List (Str × Value)} {ns : List Int} {envl : Env} {Q : Value → List Cell → Prop} (hG : X.gp = AllBare) (B : Base w X.hb) (R : Rm A 24) (hfr : A.frames = some [envl]) (hfl : envl.frame = some Ll) (hkl : envl.scope.kind ≠ .module)
    (hgl : Cell.at (ilst gl (0 :: ns)) X.hb) (h : Q (.bool true) [nsc Ll ll]) : Ev w X A [nsc Ll ll] (call (.ref 166) [.ref gl]) Q := by
  refine Ev.enterA (k := 23) (binds := [("ruler", .ref gl)]) B R (by rfl) (by decide) (by kernel_rfl) (by rfl) (by rfl) (by rfl) (by rfl) fun Lr A' R' hfr' => ?_
  dsimp only [List.reverse, List.reverseAux]
  refine Ev.mono (refused_body ⟨rfl, rfl, rfl, rfl, rfl, by rfl, by rfl, by rfl, by rfl, by rfl, by rfl⟩ hG B R' (by rw [hfr', hfr]; rfl) hfl hkl hgl) fun f Λ' q => ?_
  obtain ⟨rfl, rfl⟩ := q
  exact h
end
section
open PySem PySem.W PyProof.Rows PySem.Calls
variable {w : World} {A : Around} {X : Amb} {Λ : List Cell} {Q : Value → List Cell → Prop}
noncomputable def base7 : List Int := [1, 4, 3, 147, 617, 664, 259]
noncomputable def Num7 (ds : List Int) : Prop := ds.length = 7 ∧ ∀ i, i < 7 → base7.getD i 0 ≤ ds.getD i 0
theorem num7_set {ds : List Int} (h : Num7 ds) {j : Nat} {i : Int} (hj : j < 7) (hi : ds.getD j 0 ≤ i) : Num7 (ds.set j i) := by
  refine ⟨by rw [List.length_set]; exact h.1, fun k hk => ?_⟩
  by_cases e : j = k
  · subst e
    have : (ds.set j i).getD j 0 = i := by rw [List.getD_eq_getElem?_getD, List.getElem?_set, if_pos rfl, if_pos (by rw [h.1]; exact hk)]; rfl
    rw [this]
    exact Int.le_trans (h.2 j hk) hi
  · have : (ds.set j i).getD k 0 = ds.getD k 0 := by rw [List.getD_eq_getElem?_getD, List.getElem?_set, if_neg e, ← List.getD_eq_getElem?_getD]
    rw [this]
    exact h.2 k hk
theorem numbers_spec {sl : Addr} {ns : List Int} (B : Base w X.hb) (R : Rm A 6) (hsl : Cell.at (ilst sl ns) X.hb) (hn : ns.length ≤ 63)
    (h : ∀ a ds, Num7 ds → Q (.ref a) [ilst a ds]) : Ev w X A [] (call (.ref 152) [.ref sl]) Q := by
  refine Ev.trim (P := fun v Λ' => ∃ a ds, v = .ref a ∧ Num7 ds ∧ ilst a ds ∈ Λ') ?_ fun v Λ' ⟨a, ds, e, hd, m⟩ => ⟨[ilst a ds], List.singleton_sublist.mpr m, e ▸ h a ds hd⟩
  refine Ev.enter (k := 5) (binds := [("script", .ref sl)]) B R (by rfl) (by decide) (by kernel_rfl) (by rfl) (by rfl) (by rfl) (by rfl) fun L A' R' => ?_
  dsimp only [List.reverse, List.reverseAux]
  repeat walk_at "E"
  refine Ev.listI ?_
  repeat walk_at "E"
  refine ⟨by show 7 ≤ sizeLine; decide, base7, .cons _ _ (.cons _ _ (.cons _ _ (.cons _ _ (.cons _ _ (.cons _ _ (.cons _ _ .nil)))))), fun D => ?_⟩
  repeat walk_at "E"
  refine Ev.lenI (l := sl) (ns := ns) (Or.inr (by assumption)) (by omega) fun _ => ?_
  repeat walk_at "E"
  refine Ev.iterRange (Or.inl (by walk_at "mem")) (by decide) (by decide) (by omega) (by omega) fun it => ?_
  refine EvC.range (n := ns.length) R' (fun i Λ => ∃ r m l ds, Λ = [rng r 0 m, ilst D ds, nsc L l] ∧ Num7 ds ∧ al l "drawn" = some (.ref D) ∧ al l "script" = some (.ref sl)) ?_ ?_ ⟨_, _, _, base7, rfl, ⟨rfl, fun i _ => Int.le_refl _⟩, by walk_at "al", by walk_at "al"⟩ (by split <;> omega)
  · rintro i Λ t hi ⟨r, m, l, ds, rfl, hd, h1, h2⟩
    repeat walk_at "E"
    refine Ev.augI ?_
    repeat walk_at "E"
    refine Ev.modI (by decide) fun _ => ?_
    have e7 : ((0 : Int) + i).fmod 7 = ((i % 7 : Nat) : Int) := by rw [Int.zero_add, Int.fmod_eq_emod_of_nonneg _ (by decide)]; omega
    rw [e7]
    have hj : i % 7 < 7 := Nat.mod_lt _ (by decide)
    have hget : ds[((i % 7 : Nat) : Int).toNat]? = some (ds.getD (i % 7) 0) := by
      rw [Int.toNat_natCast, List.getD_eq_getElem?_getD, List.getElem?_eq_getElem (by rw [hd.1]; exact hj)]; rfl
    refine Ev.getI (l := D) (ns := ds) (i := ds.getD (i % 7) 0) (Or.inl (by walk_at "mem")) (by omega) (by omega) hget fun _ => ?_
    repeat walk_at "E"
    refine Ev.itemI (l := sl) (ns := ns) (k := 0 + i) (i := ns.getD i 0) ?_
    repeat walk_at "E"
    refine ⟨rfl, ⟨_, rfl⟩, Or.inr (by assumption), by omega, by omega, ?_, fun _ => ?_⟩
    · rw [show ((0 : Int) + i).toNat = i by omega, List.getD_eq_getElem?_getD, List.getElem?_eq_getElem hi]; rfl
    repeat walk_at "E"
    refine Ev.modI (by decide) fun _ => ?_
    repeat walk_at "E"
    refine Ev.setI (l := D) (ns := ds) (by walk_at "put") (by omega) (by omega) (by rw [hd.1]; omega) ?_
    repeat walk_at "E"
    refine ⟨_, rfl, _, _, _, _, rfl, num7_set hd (by omega) ?_, by walk_at "al", by walk_at "al"⟩
    have := Int.fmod_nonneg_of_pos (ns.getD i 0) (show (0 : Int) < 1000000 by decide)
    rw [Int.toNat_natCast]
    omega
  · rintro Λ ⟨r, m, l, ds, rfl, hd, h1, h2⟩
    repeat walk_at "E"
    exact ⟨D, ds, rfl, hd, by walk_at "mem"⟩
end
section
open PySem PySem.W PyProof.Rows PySem.Calls
variable {w : World} {A : Around} {X : Amb} {Λ Λ₁ Λ₂ Λ' : List Cell} {env : Env}
noncomputable def K1 (w : World) : Frag := (K0 w).filter fun p => p.1 != 90
theorem lookup_filter : ∀ (l : Frag) (a : Addr), a ≠ 90 → (l.filter fun p => p.1 != 90).lookup a = l.lookup a
  | [], _, _ => rfl
  | (b, o) :: r, a, ha => by
    by_cases hb : b = 90
    · rw [List.filter_cons_of_neg (by simp [hb]), lookup_filter r a ha, List.lookup_cons, show (a == b) = false by simp [hb, ha]]
    · rw [List.filter_cons_of_pos (by simp [hb]), List.lookup_cons, List.lookup_cons, lookup_filter r a ha]
theorem filter_none : ∀ (l : Frag), (l.filter fun p => p.1 != 90).lookup 90 = none
  | [] => rfl
  | (b, o) :: r => by
    by_cases hb : b = 90
    · rw [List.filter_cons_of_neg (by simp [hb]), filter_none r]
    · rw [List.filter_cons_of_pos (by simp [hb]), List.lookup_cons, show ((90 : Addr) == b) = false by simpa using Ne.symm hb]; exact filter_none r
theorem Base.in1 {h : Heap} (B : Base w h) : (K1 w).In h := fun a o e => by
  unfold K1 at e
  by_cases ha : a = 90
  · subst ha; rw [filter_none] at e; cases e
  · rw [lookup_filter _ _ ha] at e; exact B.k a o ha e
/-- a pile, with what it holds; its own names -/
noncomputable abbrev pil (x dx : Addr) (vs : List Value) : Cell := ⟨x, fun o => ∃ n, o = { cls := .ref 120, dict := some dx, data := .seq vs.toArray n }⟩
noncomputable abbrev dic (dx : Addr) : Cell := ⟨dx, fun o => o.cls = .type "dict" ∧ ∃ t, NsP (al [("_initial_size", .int 0 t)]) o⟩
theorem pile_method {x dx : Addr} {vs : List Value} {name : Str} {f : Value} {tf : String} {pl : Sem Bool} {Q : Value × List Value → Shared → Prop} {E : Value → Shared → Prop} {s : Shared} (B : Base w X.hb) (hs : Sat X Λ s) (hx : (pil x dx vs) ∈ Λ) (hd : dic dx ∈ Λ)
    (hf : findIn (K1 w) (.ref 120) name = some (some f)) (ht : typeIn (K1 w) f = some (.type tf)) (hok : (Value.type tf != .type "function" && Value.type tf != .type "method_descriptor" && Value.type tf != .type "wrapper_descriptor") = false) (hn : (name == ("_initial_size" : Str)) = false)
    (h : Q (f, [.ref x]) s) : wpAny (Mod w) A (getMethod (.ref x) name pl) Q E s := by
  obtain ⟨o, ho, n, rfl⟩ := hs.own _ hx
  obtain ⟨od, hod, hc, t, hns⟩ := hs.own _ hd
  have hnm : s.heap.Ns dx (al [("_initial_size", .int 0 t)]) := ns_of ⟨od, hod, hns⟩
  have X1 := (B.ext hs.keep).in1
  have L0 : Looks (Mod w) s.heap (typeOf (.ref x)) (.ref 120) := (Looks.ld ho).andThen .now
  have L1 : Looks (Mod w) s.heap (typeLookup (.ref 120) "__getattribute__") (some (.builtin "list.__getattribute__")) := looks_findIn X1 (by kernel_rfl)
  have L2 : Looks (Mod w) s.heap (typeLookup (.ref 120) "__getattr__") none := looks_findIn X1 (by kernel_rfl)
  have L3 := looks_findIn (M := Mod w) X1 hf
  have L4 := looks_typeIn (M := Mod w) X1 ht
  obtain ⟨hh, g, d, tk, os⟩ := s
  unfold getMethod specialOf
  refine wpAny_bind (wpAny_bind (L0.at (L1.at ?_)))
  dsimp only
  rw [if_neg (by decide +kernel)]
  refine wpAny_bind (wpAny_bind (L0.at (L2.at ?_)))
  rw [if_neg (by decide)]
  refine wpAny_bind (wpAny_bind (L0.at (L3.at ?_)))
  dsimp only
  refine wpAny_bind (L4.at ?_)
  rw [hok, if_neg (by decide)]
  refine wpAny_bind (wpAny_loadPart ho ?_)
  dsimp only
  refine wpAny_bind (wpAny_nsGet hnm ?_)
  have : al [(("_initial_size" : Str), Value.int 0 t)] name = none := by unfold al; rw [List.lookup_cons, hn]; rfl
  rw [this, if_neg (by decide)]
  exact wpAny_bind (wpAny_rule (wpAny_pure h))
end
section
open PySem PySem.W PyProof.Rows PySem.Calls
variable {w : World} {A : Around} {X : Amb} {Λ Λ₁ Λ₂ Λ' : List Cell} {env : Env}
theorem sub_check {M : Model} {E : Value → Shared → Prop} {s : Shared} {i owner n : String} {self : Value} {rest : List Value} {Q : Unit → Shared → Prop}
    (hk : builtinKind i = some .slot ∨ builtinKind i = some .method) (hs : splitId i = some (owner, n)) (hi : Looks M s.heap (isInstance self (.type owner)) true) (ha : argsOk i ⟨self :: rest, []⟩) (q : Q () s) :
    wpAny M A (checkBuiltinCall i ⟨self :: rest, []⟩) Q E s := by
  rcases hk with hk | hk <;>
  · simp only [checkBuiltinCall, hk, hs]
    refine wpAny_bind (hi.here ?_)
    simp only [Bool.not_true, Bool.false_eq_true, if_false]
    cases hsig : Manifest.signature? i with
    | none => exact wpAny_pure q
    | some sig =>
      simp only [argsOk, hsig] at ha
      have h2 : Bind.checkArgs i sig ⟨self :: rest, []⟩ = pure () := ha
      show wpAny M A (Bind.checkArgs i sig ⟨self :: rest, []⟩) Q E s
      rw [h2]; exact wpAny_pure q
/-- a pile is a list -/
theorem pile_is {s : Shared} {x dx : Addr} {vs : List Value} (B : Base w X.hb) (hs : Sat X Λ s) (hx : Cell.at (pil x dx vs) s.heap) : Looks (Mod w) s.heap (typeOf (.ref x)) (.ref 120) ∧ Looks (Mod w) s.heap (isInstance (.ref x) (.type "list")) true := by
  obtain ⟨o, ho, n, rfl⟩ := hx
  have X1 := (B.ext hs.keep).in1
  have L0 : Looks (Mod w) s.heap (typeOf (.ref x)) (.ref 120) := (Looks.ld ho).andThen .now
  exact ⟨L0, L0.andThen (looks_mroIn X1 (by kernel_rfl))⟩
theorem pile_call {s : Shared} {x dx : Addr} {vs : List Value} {id n : String} {Bi : Builtin} {rest : List Value} {Q : Value → Shared → Prop} {E : Value → Shared → Prop} (B : Base w X.hb) (hs : Sat X Λ s) (hx : Cell.at (pil x dx vs) s.heap)
    (hk : builtinKind id = some .slot ∨ builtinKind id = some .method) (hsp : splitId id = some ("list", n)) (hp : plainId id = true) (he : entryFor table id = some Bi) (ha : argsOk id ⟨.ref x :: rest, []⟩)
    (h : wpAny (Mod w) A.in1 (Bi ⟨.ref x :: rest, []⟩) (fun f s' => ∃ v, f = .done (.ret v) ∧ Q v s') E s) : wpAny (Mod w) A (call (.builtin id) (.ref x :: rest)) Q E s := by
  refine wpAny_call (codeAny_call_builtin hp he (sub_check hk hsp (pile_is B hs hx).2 ha ?_))
  refine wpAny_mono h (fun f s' q => ?_) fun _ _ x => x
  obtain ⟨v, rfl, q⟩ := q
  exact q
theorem Ev.appendP {x dx : Addr} {vs : List Value} {v : Value} {Q : Value → List Cell → Prop} (B : Base w X.hb) (U : Put x (pil x dx vs).P (pil x dx (vs ++ [v])).P Λ Λ') (hz : vs.length ≤ sizeLine) (h : Q .none Λ') : Ev w X A Λ (call (.builtin "list.append") [.ref x, v]) Q := fun s hs => by
  have hc : Cell.at (pil x dx vs) s.heap := hs.own _ U.mem
  refine pile_call B hs hc (.inr (by decide +kernel)) (n := "append") (by decide +kernel) (by decide +kernel) PySem.entry_list_append (PySem.args_list_append _ _) ?_
  obtain ⟨o, ho, n, rfl⟩ := hc
  show wpAny _ _ (updateSeq x (·.push v) >>= fun _ => ret .none) _ _ s
  have hfin : Cell.at (pil x dx (vs ++ [v])) (s.heap.update x (Obj.mapSeq (·.push v))) := by
    refine ⟨_, Heap.get?_update_self _ ho rfl, n + 1, ?_⟩
    simp [Obj.mapSeq]
  exact wpAny_bind (wpAny_updateSeq ho rfl (wpAny_pure ⟨.none, rfl, Λ', hs.put (s' := { s with heap := s.heap.update x (Obj.mapSeq (·.push v)) }) U (Heap.SameBut.update ..).extBut hfin hs.gp rfl rfl, h⟩) (by rw [List.size_toArray]; exact hz) (by rw [Array.size_push, List.size_toArray]; omega))
/-- pile.m(e, ..), where m is a def of the class -/
theorem Ev.methF {o e : Expr} {rest : List Expr} {name : Str} {f : Addr} {c : Value} {d : Option Addr} {fd : FuncData} {sl} {apos pos : Pos} {pl : Sem Bool} {x dx : Addr} {vs : List Value} {Q : Value → List Cell → Prop}
    (B : Base w X.hb) (hf : findIn (K1 w) (.ref 120) name = some (some (.ref f))) (ho : (K0 w).lookup f = some ⟨c, d, .func fd, sl⟩) (hf9 : f ≠ 90) (ht : typeIn (K1 w) (.ref f) = some (.type "function")) (hn : (name == ("_initial_size" : Str)) = false)
    (h : Ev w X A Λ (eval o env) fun ov Λ₁ => ov = .ref x ∧ pil x dx vs ∈ Λ₁ ∧ dic dx ∈ Λ₁ ∧ Ev w X A Λ₁ (spliced (backTo pos (starEach (e :: rest) env))) fun ws Λ₂ => Ev w X A Λ₂ (call (.ref f) (.ref x :: ws)) Q)
    (hq : starEach (e :: rest) env = (false, eval e env) :: starEach rest env := by rfl)
    (he : eval (.Call (.Attribute o name apos) (e :: rest) [] pos) env = (do
      let ov ← eval o env
      standAt apos.atName
      let (f, first) ← holding [ov] (getMethod ov name pl)
      callWith pos f first (backTo pos (starEach (e :: rest) env)) []) := by rfl) : Ev w X A Λ (eval (.Call (.Attribute o name apos) (e :: rest) [] pos) env) Q := fun s hs => by
  refine MethodCall_ (h.useB hs fun ov s₁ Λ₁ h₁ q => ?_) he
  obtain ⟨rfl, hx, hd, q⟩ := q
  refine pile_method B h₁ hx hd hf ht rfl hn ?_
  refine callWith_function (o := ⟨c, d, .func fd, sl⟩) (fd := fd) ?_
  rw [hq] at q ⊢
  refine evalArgs_plain (q.useB h₁ fun ws s₂ Λ₂ h₂ q => ⟨⟨h₂.keep _ _ (B.k f _ hf9 ho), rfl⟩, ?_⟩)
  exact q s₂ h₂
/-- pile.m(e, ..), where m is a method of list -/
theorem Ev.methB {o e : Expr} {rest : List Expr} {name : Str} {id : String} {apos pos : Pos} {pl : Sem Bool} {x dx : Addr} {vs : List Value} {Q : Value → List Cell → Prop}
    (B : Base w X.hb) (hf : findIn (K1 w) (.ref 120) name = some (some (.builtin id))) (ht : typeIn (K1 w) (.builtin id) = some (.type "method_descriptor")) (hn : (name == ("_initial_size" : Str)) = false)
    (h : Ev w X A Λ (eval o env) fun ov Λ₁ => ov = .ref x ∧ pil x dx vs ∈ Λ₁ ∧ dic dx ∈ Λ₁ ∧ Ev w X A Λ₁ (spliced (backTo pos (starEach (e :: rest) env))) fun ws Λ₂ => Ev w X A Λ₂ (call (.builtin id) (.ref x :: ws)) Q)
    (hp : (backTo pos (starEach rest env)).any (·.1) = false := by rfl) (hq : starEach (e :: rest) env = (false, eval e env) :: starEach rest env := by rfl)
    (he : eval (.Call (.Attribute o name apos) (e :: rest) [] pos) env = (do
      let ov ← eval o env
      standAt apos.atName
      let (f, first) ← holding [ov] (getMethod ov name pl)
      callWith pos f first (backTo pos (starEach (e :: rest) env)) []) := by rfl) : Ev w X A Λ (eval (.Call (.Attribute o name apos) (e :: rest) [] pos) env) Q := fun s hs => by
  refine MethodCall_ (h.useB hs fun ov s₁ Λ₁ h₁ q => ?_) he
  obtain ⟨rfl, hx, hd, q⟩ := q
  refine pile_method B h₁ hx hd hf ht rfl hn ?_
  rw [hq] at q ⊢
  refine callWith_builtin (by show (false || (backTo pos (starEach rest env)).any (·.1)) = false; rw [hp]; rfl) ?_
  exact evalArgs_plain (q.useB h₁ fun ws s₂ Λ₂ h₂ q => q s₂ h₂)
end
section
open PySem PySem.W PyProof.Rows PySem.Calls
variable {w : World} {A : Around} {X : Amb} {Λ : List Cell} {Q : Value → List Cell → Prop}
theorem push_spec {x dx : Addr} {vs : List Value} {va vb : Value} (B : Base w X.hb) (R : Rm A 4) (hz : vs.length ≤ 100) (h : ∀ t, Q .none (tup t [va, vb] :: pil x dx (vs ++ [.ref t]) :: dic dx :: Λ)) :
    Ev w X A (pil x dx vs :: dic dx :: Λ) (call (.ref 66) [.ref x, va, vb]) Q := by
  refine Ev.trim (P := fun v Λ' => v = .none ∧ ∃ t c, Λ' = tup t [va, vb] :: c :: pil x dx (vs ++ [.ref t]) :: dic dx :: Λ) ?_ fun v Λ' ⟨e, t, c, e'⟩ => ⟨tup t [va, vb] :: pil x dx (vs ++ [.ref t]) :: dic dx :: Λ, by rw [e']; exact (List.sublist_cons_self _ _).cons_cons _, e ▸ h t⟩
  refine Ev.enter (k := 3) (binds := [("self", .ref x), ("fws", va), ("string", vb)]) B R (by rfl) (by decide) (by kernel_rfl) (by rfl) (by rfl) (by rfl) (by rfl) fun L A' R' => ?_
  dsimp only [List.reverse, List.reverseAux]
  repeat walk_at "S"
  refine Ev.methB (x := x) (dx := dx) (vs := vs) (id := "list.append") (by assumption) (by kernel_rfl) (by kernel_rfl) (by decide) ?_
  repeat walk_at "S"
  refine ⟨rfl, by walk_at "mem", by walk_at "mem", ?_⟩
  repeat walk_at "S"
  refine ⟨by show 2 ≤ sizeLine; decide, fun t => ?_⟩
  repeat walk_at "S"
  refine Ev.appendP (by assumption) (by walk_at "put") (by rw [sizeLine_eq]; omega) ⟨noref_none, ?_⟩
  repeat walk_at "S"
  exact ⟨rfl, t, _, rfl⟩
end
section
open PySem PySem.W PyProof.Rows PySem.Calls
variable {w : World} {A : Around} {X : Amb} {Λ Λ₁ Λ₂ Λ' : List Cell} {env : Env}
theorem pile_key {s : Shared} {x dx : Addr} {vs : List Value} {k : Value} {name : Str} {Q : Value → Shared → Prop} {E : Value → Shared → Prop} (B : Base w X.hb) (hs : Sat X Λ s) (hx : Cell.at (pil x dx vs) s.heap) (h : Q k s) : wpAny (Mod w) A (sequenceKey (.ref x) k name) Q E s := by
  obtain ⟨o, ho, n, rfl⟩ := hx
  have X1 := (B.ext hs.keep).in1
  have L0 : Looks (Mod w) s.heap (typeOf (.ref x)) (.ref 120) := (Looks.ld ho).andThen .now
  have L1 : Looks (Mod w) s.heap (isSubtype (.ref 120) (.type "collections.deque")) false := looks_mroIn X1 (by kernel_rfl)
  have L2 : Looks (Mod w) s.heap (seqItemTypes.anyM fun n => isSubtype (.ref 120) (.type n)) false := L1.andThen (b := false) .now
  unfold sequenceKey
  refine wpAny_bind (L0.here ?_)
  dsimp only
  refine wpAny_bind (L2.here ?_)
  exact wpAny_pure h
theorem pile_special {s : Shared} {x dx : Addr} {vs : List Value} {id tf : String} {name : Str} {args : List Value} {Q : Option Value → Shared → Prop} {E : Value → Shared → Prop} (B : Base w X.hb) (hs : Sat X Λ s) (hx : Cell.at (pil x dx vs) s.heap)
    (hf : findIn (K1 w) (.ref 120) name = some (some (.builtin id))) (ht : typeIn (K1 w) (.builtin id) = some (.type tf)) (hok : (Value.type tf == .type "function" || Value.type tf == .type "method_descriptor" || Value.type tf == .type "wrapper_descriptor") = true)
    (h : wpAny (Mod w) A (call (.builtin id) (.ref x :: args)) (fun v => Q (some v)) E s) : wpAny (Mod w) A (callSpecial? (.ref x) name args) Q E s := by
  obtain ⟨o, ho, n, rfl⟩ := hx
  have X1 := (B.ext hs.keep).in1
  have L0 : Looks (Mod w) s.heap (typeOf (.ref x)) (.ref 120) := (Looks.ld ho).andThen .now
  have L3 := looks_findIn (M := Mod w) X1 hf
  have L4 := looks_typeIn (M := Mod w) X1 ht
  unfold callSpecial? specialOf
  refine wpAny_bind (wpAny_bind (L0.here (L3.here ?_)))
  dsimp only
  refine wpAny_holding (wpAny_bind ?_)
  unfold bindSpecial
  refine wpAny_bind (L4.here ?_)
  rw [if_pos hok]
  exact wpAny_pure (wpAny_bind (wpAny_mono h (fun _ _ q => wpAny_pure q) fun _ _ e => e))
theorem getitem_pile {s : Shared} {x dx : Addr} {vs : List Value} {Q : Bool → Shared → Prop} {E : Value → Shared → Prop} (B : Base w X.hb) (hs : Sat X Λ s) (hx : Cell.at (pil x dx vs) s.heap) (h : Q false s) : wpAny (Mod w) A (getitemInPython (.ref x)) Q E s := by
  obtain ⟨o, ho, n, rfl⟩ := hx
  have X1 := (B.ext hs.keep).in1
  have L0 : Looks (Mod w) s.heap (typeOf (.ref x)) (.ref 120) := (Looks.ld ho).andThen .now
  have L3 : Looks (Mod w) s.heap (typeLookup (.ref 120) "__getitem__") (some (.builtin "list.__getitem__")) := looks_findIn X1 (by kernel_rfl)
  rw [getitemInPython_of_ne (by intro h; cases h)]
  unfold specialOf
  refine wpAny_bind (wpAny_bind (L0.here (L3.here ?_)))
  exact wpAny_pure h
/-- what a slice of a list begins with -/
theorem list_sub {s : Shared} {vl : Value} {sl : Addr} {Q : Option Int → Shared → Prop} {E : Value → Shared → Prop} (hs : s.heap.IsSliceOf sl vl .none .none) (h : Q none s) : wpAny (Mod w) A (Builtin.List.listSubscript? (.ref sl)) Q E s := by
  obtain ⟨os, hos, hcs, hds⟩ := id hs
  have hTs : s.TypeIs (.ref sl) "slice" := ⟨os, hos, hcs⟩
  unfold Builtin.List.listSubscript?
  refine wpAny_bind (wpAny_specialOf hTs slice_no_index ?_)
  simp only [Option.isNone_none, if_true]
  exact wpAny_pure h
theorem list_parts {s : Shared} {vl : Value} {lo : Option Int} {sl : Addr} {Q : Value × Value × Value → Shared → Prop} {E : Value → Shared → Prop} (hs : s.heap.IsSliceOf sl vl .none .none) (pl : IsPart vl lo) (h : Q (rawPart lo, rawPart none, rawPart none) s) : wpAny (Mod w) A (Builtin.List.listSliceParts (.ref sl)) Q E s := by
  obtain ⟨os, hos, hcs, hds⟩ := id hs
  rw [listSliceParts_eq]
  refine wpAny_bind (wpAny_field hos hds (x := .none) rfl (wpAny_bind (wpAny_listPart .none ?_)))
  rw [if_neg (by exact Bool.false_ne_true)]
  refine wpAny_bind (wpAny_field hos hds (x := vl) rfl (wpAny_bind (wpAny_listPart pl ?_)))
  exact wpAny_bind (wpAny_field hos hds (x := .none) rfl (wpAny_bind (wpAny_listPart .none (wpAny_pure h))))
theorem pile_slice {s : Shared} {x dx : Addr} {vs : List Value} {a : Nat} {t : Tok} {sl : Addr} {Q : Value → List Cell → Prop} (B : Base w X.hb) (hs : Sat X Λ s) (hx : Cell.at (pil x dx vs) s.heap) (hsl : s.heap.IsSliceOf sl (.int a t) .none .none) (ha : a ≤ vs.length) (hz : vs.length ≤ sizeLine)
    (h : ∀ D, Q (.ref D) (lst D (vs.drop a) :: Λ)) : wpAny (Mod w) A (getItem (.ref x) (.ref sl)) (fun v s' => ∃ Λ', Sat X Λ' s' ∧ Q v Λ') (fun _ _ => False) s := by
  unfold getItem
  refine wpAny_holding ?_
  refine wpAny_bind (pile_key B hs hx ?_)
  refine wpAny_bind (pile_special B hs hx (id := "list.__getitem__") (tf := "method_descriptor") (by kernel_rfl) (by kernel_rfl) (by decide) ?_)
  refine pile_call B hs hx (.inr (by decide +kernel)) (n := "__getitem__") (by decide +kernel) (by decide +kernel) PySem.entry_list_getitem (PySem.args_list_getitem _ _) ?_
  obtain ⟨o, ho, n, rfl⟩ := hx
  show wpAny _ _ (Builtin.List.listSubscript? (.ref sl) >>= _) _ _ s
  refine wpAny_bind (list_sub hsl ?_)
  obtain ⟨os, hos, hcs, hds⟩ := id hsl
  have hTs : s.TypeIs (.ref sl) "slice" := ⟨os, hos, hcs⟩
  show wpAny _ _ (typeOf (.ref sl) >>= _) _ _ s
  refine wpAny_bind (wpAny_typeOf hTs ?_)
  rw [if_neg (by decide)]
  refine wpAny_bind (list_parts hsl (.int _ _) ?_)
  refine wpAny_bind (m := Builtin.List.listItems (.ref x)) ?_
  unfold Builtin.List.listItems
  refine wpAny_bind (wpAny_seqItems ho rfl (wpAny_pure ?_))
  refine wpAny_bind (wpAny_of_eq (sliceIndices_raw (some (a : Int)) none none vs.toArray.size (by decide)) ?_)
  refine wpAny_bind (wpAny_newObj_type (wpAny_pure ⟨_, rfl, wpAny_pure ?_⟩) (Nat.le_trans (slicePick_size_le vs.toArray (some (a : Int)) none none) (by rw [List.size_toArray]; exact hz)))
  have he : slicePick vs.toArray (some (a : Int)) none none = (vs.drop a).toArray := slicePick_from vs.toArray a (by rw [List.size_toArray]; exact ha)
  refine ⟨lst s.heap.objs.size (vs.drop a) :: Λ, ?_, h _⟩
  have := hs.push (o := { cls := .type "list", data := .seq (vs.drop a).toArray }) (P := (lst s.heap.objs.size (vs.drop a)).P) rfl ⟨0, rfl⟩
  rw [← he] at this
  exact this
end
section
open PySem PySem.W PyProof.Rows PySem.Calls
variable {w : World} {A : Around} {X : Amb} {Λ Λ₁ Λ₂ Λ' : List Cell} {env : Env}
theorem mapSeq_eq {o : Obj} {c : Value} {d : Option Addr} {xs ys : Array Value} {n : Nat} {sl} {f : Array Value → Array Value} (e : o = ⟨c, d, .seq xs n, sl⟩) (h : f xs = ys) : ∃ m, Obj.mapSeq f o = ⟨c, d, .seq ys m, sl⟩ := by
  subst e; subst h; exact ⟨_, rfl⟩
theorem pile_cut {s : Shared} {x dx l : Addr} {vs : List Value} {a : Nat} {t : Tok} {sl : Addr} {Q : Unit → List Cell → Prop} (B : Base w X.hb) (hs : Sat X Λ s) (U : Put x (pil x dx vs).P (pil x dx (vs.take a)).P Λ Λ') (hl : Has X Λ l (lst l []).P) (hsl : s.heap.IsSliceOf sl (.int a t) .none .none) (ha : a ≤ vs.length) (hz : vs.length ≤ 1000)
    (h : Q () Λ') : wpAny (Mod w) A (setItem (.ref x) (.ref sl) (.ref l)) (fun v s' => ∃ Λ', Sat X Λ' s' ∧ Q v Λ') (fun _ _ => False) s := by
  have hx : Cell.at (pil x dx vs) s.heap := hs.own _ U.mem
  obtain ⟨ol, hol, nl, rfl⟩ := hl.at hs
  have hsz : vs.length ≤ sizeLine := by rw [sizeLine_eq]; omega
  have hTl : s.TypeIs (.ref l) "list" := ⟨_, hol, rfl⟩
  unfold setItem
  refine wpAny_holding ?_
  refine wpAny_bind (pile_key B hs hx ?_)
  refine wpAny_bind (pile_special B hs hx (id := "list.__setitem__") (tf := "wrapper_descriptor") (by kernel_rfl) (by kernel_rfl) (by decide) ?_)
  refine pile_call B hs hx (.inl (by decide +kernel)) (n := "__setitem__") (by decide +kernel) (by decide +kernel) PySem.entry_list_setitem (PySem.args_list_setitem _ _ _) ?_
  have hxl : x ≠ l := by
    obtain ⟨o, ho, n, rfl⟩ := hx
    intro e; subst e
    rw [ho] at hol
    have := congrArg (fun o => o.map Obj.cls) hol
    simp at this
  obtain ⟨o, ho, n, rfl⟩ := hx
  show wpAny _ _ (Builtin.List.listSubscript? (.ref sl) >>= _) _ _ s
  refine wpAny_bind (list_sub hsl ?_)
  obtain ⟨os, hos, hcs, hds⟩ := id hsl
  have hTs : s.TypeIs (.ref sl) "slice" := ⟨os, hos, hcs⟩
  show wpAny _ _ (typeOf (.ref sl) >>= _) _ _ s
  refine wpAny_bind (wpAny_typeOf hTs ?_)
  rw [if_neg (by decide)]
  refine wpAny_bind (list_parts hsl (.int _ _) ?_)
  have hsame : Builtin.List.listSameRef (.ref x) (.ref l) = false := by show (x == l) = false; simpa using hxl
  dsimp only
  rw [if_neg (by rw [hsame]; decide)]
  refine wpAny_bind (m := Builtin.List.listAllItems (.ref l) _) ?_
  unfold Builtin.List.listAllItems
  refine wpAny_bind (wpAny_typeOf hTl ?_)
  rw [if_pos (by decide)]
  unfold Builtin.List.listItems
  refine wpAny_bind (wpAny_seqItems hol rfl (wpAny_pure ?_))
  refine wpAny_bind (wpAny_bind (wpAny_seqItems ho rfl (wpAny_pure ?_)))
  refine wpAny_bind (wpAny_of_eq (sliceIndices_raw (some (a : Int)) none none vs.toArray.size (by decide)) ?_)
  have eb : sliceBounds (some (a : Int)) none none vs.toArray.size = ((a : Int), (vs.toArray.size : Int), 1) := by
    simp only [sliceBounds, Option.getD_none]
    have h1 : ¬ ((a : Int) < 0) := by omega
    simp only [h1, if_false, show (1 : Int) > 0 by decide, if_true, List.size_toArray]
    congr 1
    omega
  rw [eb]
  dsimp only
  rw [if_pos (by decide)]
  refine wpAny_bind (wpAny_rule ?_)
  rw [if_neg (by unfold Builtin.List.listTooLong; rw [List.size_toArray, sizeLine_eq]; simp; omega)]
  have ef : vs.toArray.extract 0 ((a : Int)).toNat ++ #[] ++ vs.toArray.extract (max (a : Int) vs.toArray.size).toNat vs.toArray.size = (vs.take a).toArray := by
    have e1 : (max (a : Int) vs.toArray.size).toNat = vs.length := by rw [List.size_toArray]; omega
    rw [e1]
    simp
  have hu : ∃ m, Obj.mapSeq (fun xs => xs.extract 0 ((a : Int)).toNat ++ #[] ++ xs.extract (max (a : Int) vs.toArray.size).toNat xs.size) { cls := .ref 120, dict := some dx, data := .seq vs.toArray n } = { cls := .ref 120, dict := some dx, data := .seq (vs.take a).toArray m } := mapSeq_eq rfl ef
  have hfin : Cell.at (pil x dx (vs.take a)) (s.heap.update x (Obj.mapSeq fun xs => xs.extract 0 ((a : Int)).toNat ++ #[] ++ xs.extract (max (a : Int) vs.toArray.size).toNat xs.size)) :=
    ⟨_, Heap.get?_update_self _ ho (by obtain ⟨m, e⟩ := hu; rw [e]; rfl), hu⟩
  unfold Builtin.List.listUpdate
  refine wpAny_bind (wpAny_updateSeq ho rfl (wpAny_bind (wpAny_letGo ?_)) (by rw [List.size_toArray]; exact hsz) (by rw [ef, List.size_toArray, List.length_take]; omega))
  exact wpAny_bind (wpAny_pure (wpAny_pure ⟨.none, rfl, wpAny_pure ⟨Λ', hs.put (s' := { s with heap := s.heap.update x _ }) U (Heap.SameBut.update ..).extBut hfin hs.gp rfl rfl, h⟩⟩))
end
section
open PySem PySem.W PyProof.Rows PySem.Calls
variable {w : World} {A : Around} {X : Amb} {Λ Λ' : List Cell} {env : Env}
theorem slicePush {s : Shared} {vl : Value} (h : Sat X Λ s) : Sat X Λ { s with heap := s.heap.push { cls := .type "slice", data := .fields #[vl, .none, .none] } } :=
  h.ext (s' := { s with heap := s.heap.push { cls := .type "slice", data := .fields #[vl, .none, .none] } }) (fun b o e => Heap.get?_push_of_some _ e) h.gp rfl rfl
theorem Ev.sliceP {Q : Value → List Cell → Prop} {value lower : Expr} {p pos : Pos} {x dx : Addr} {vs : List Value} {a : Nat} (B : Base w X.hb)
    (h : Ev w X A Λ (eval value env) fun o Λ₁ => Ev w X A Λ₁ (eval lower env) fun vl Λ₂ => o = .ref x ∧ (∃ i t, vl = .int i t ∧ i = a) ∧ pil x dx vs ∈ Λ₂ ∧ a ≤ vs.length ∧ vs.length ≤ sizeLine ∧ ∀ D, Q (.ref D) (lst D (vs.drop a) :: Λ₂))
    (ht : ∀ o r, letTemporaryGo value o r = Pure.pure () := by intro _ _; rfl) : Ev w X A Λ (eval (.Subscript value (.Slice (some lower) none none p) pos) env) Q := fun s hs => by
  refine Subscript_ (h.useB hs fun o s₁ Λ₁ h₁ q => wpAny_Slice (wpAny_mono (q s₁ h₁) (fun vl s₂ h₂ => ?_) fun _ _ e => e))
  obtain ⟨Λ₂, h₂, rfl, ⟨i, t, rfl, rfl⟩, hx, ha, hz, q⟩ := h₂
  rw [evalPart_none]
  refine wpAny_pure (wpAny_pure ?_)
  have h₃ := slicePush (vl := .int (a : Int) t) h₂
  have hat := h₃.own _ hx
  unfold subscriptTail
  refine wpAny_bind (getitem_pile B h₃ hat ?_)
  refine wpAny_bind ?_
  refine wpAny_operating (wpAny_mono (pile_slice B h₃ hat (Heap.IsSliceOf.new ..) ha hz q) (fun v s' q' => wpAny_bind (wpAny_of_eq (ht _ v) (wpAny_pure q'))) fun _ _ e => e)
theorem Ev.cutP {Q : Flow → List Cell → Prop} {o lower value : Expr} {p pos' pos : Pos} {x dx : Addr} {vs : List Value} {a : Nat} (B : Base w X.hb)
    (h : Ev w X A Λ (eval value env) fun v Λ₁ => Ev w X A Λ₁ (eval o env) fun ov Λ₂ => Ev w X A Λ₂ (eval lower env) fun vl Λ₃ => ∃ l Λ₄, v = .ref l ∧ ov = .ref x ∧ (∃ i t, vl = .int i t ∧ i = a) ∧ Has X Λ₃ l (lst l []).P ∧ Put x (pil x dx vs).P (pil x dx (vs.take a)).P Λ₃ Λ₄ ∧ a ≤ vs.length ∧ vs.length ≤ 1000 ∧ Q .next Λ₄)
    (hs : swapsWith value (some (.Subscript o (.Slice (some lower) none none p) pos')) pos.line env = Pure.pure false := by rfl) : Ev w X A Λ (exec (.Assign [.Subscript o (.Slice (some lower) none none p) pos'] value pos) env) Q := fun s hs' => by
  refine wpAny_Assign_Subscript (h.useB hs' fun v s₁ Λ₁ h₁ q => q.useB h₁ fun ov s₂ Λ₂ h₂ q => wpAny_Slice (wpAny_mono (q s₂ h₂) (fun vl s₃ h₃ => ?_) fun _ _ e => e)) hs
  obtain ⟨Λ₃, h₃, l, Λ₄, rfl, rfl, ⟨i, t, rfl, rfl⟩, hl, U, ha, hz, q⟩ := h₃
  rw [evalPart_none]
  refine wpAny_pure (wpAny_pure ?_)
  exact pile_cut (Q := fun _ => Q .next) B (slicePush h₃) U hl (Heap.IsSliceOf.new ..) ha hz q
theorem Ev.enterD {k : Nat} {a : Addr} {c : Value} {d : Option Addr} {fd : FuncData} {sl} {args : List Value} {binds : List (Str × Value)} {body : List Stmt} {Q : Value → List Cell → Prop} (B : Base w X.hb) (R : Rm A (k + 1)) (ho : (K0 w).lookup a = some ⟨c, d, .func fd, sl⟩) (ha : a ≠ 90) (hcd : coded w fd.code fd.qualname = true)
    (hbody : fd.body = .stmts body) (hbind : ∀ S, peek (K1 w) S (bindArgs fd ⟨args, []⟩) = some binds) (hcell : fd.scope.names.all (fun x => x.2 != .cell) = true) (hloc : binds.all (fun x => fd.scope.names.lookup x.1 == some .local) = true)
    (h : ∀ L A', Rm A' k → Ev w X A' (nsc L binds.reverse :: Λ) (execs body (callEnv fd L a)) fun f Λ' => Q (retOf f) Λ')
    (hco : fd.scope.isCoroutine = false := by rfl) (hgen : fd.scope.isGenerator = false := by rfl) (hk : fd.scope.kind = .function := by rfl) : Ev w X A Λ (call (.ref a) args) Q := fun s hs => by
  refine wpAny_call (codeAny_call_def R.room (hs.keep _ _ (B.k a _ ha ho)) rfl (B.limit.keeps hs.keep) ((codeRec_of_coded B hcd).keeps hs.keep) hbody (kp_binds (B.ext hs.keep).in1 hbind)
    (fun x hx => by have := List.all_eq_true.mp hcell x hx; simpa using this) (fun x hx => by have := List.all_eq_true.mp hloc x hx; simpa using this) (fun h₀ hns hk₀ => ?_) hco hgen hk)
  refine Ev.useB (h _ _ R.deeper) (s := ⟨h₀, s.gens, s.drawn, s.toks + binds.length, s.os⟩) (hs.grow (s' := ⟨h₀, s.gens, s.drawn, s.toks + binds.length, s.os⟩) hk₀ hs.gp rfl rfl (of_nsw hns fun _ _ h => h)) fun f s' Λ' h' q => ⟨Λ', h', q⟩
theorem pop_spec {x dx : Addr} {vs : List Value} {a : Nat} {t : Tok} {Q : Value → List Cell → Prop} (B : Base w X.hb) (R : Rm A 4) (hz : vs.length ≤ 100) (ha : a ≤ vs.length) (h : ∀ D, Q (.ref D) (lst D (vs.drop a) :: pil x dx (vs.take a) :: dic dx :: Λ)) :
    Ev w X A (pil x dx vs :: dic dx :: Λ) (call (.ref 74) [.ref x, .int a t]) Q := by
  refine Ev.trim (P := fun v Λ' => ∃ D c c', v = .ref D ∧ Λ' = c :: lst D (vs.drop a) :: c' :: pil x dx (vs.take a) :: dic dx :: Λ) ?_ fun v Λ' ⟨D, c, c', e, e'⟩ => ⟨lst D (vs.drop a) :: pil x dx (vs.take a) :: dic dx :: Λ, by rw [e']; exact (List.Sublist.cons_cons _ (List.sublist_cons_self _ _)).cons _, e ▸ h D⟩
  refine Ev.enterD (k := 3) (binds := [("self", .ref x), ("i", .int a t)]) B R (by rfl) (by decide) (by kernel_rfl) (by rfl) (by intro S; kernel_rfl) (by rfl) (by rfl) fun L A' R' => ?_
  dsimp only [List.reverse, List.reverseAux]
  repeat walk_at "S"
  refine Ev.sliceP (x := x) (dx := dx) (vs := vs) (a := a) (by assumption) ?_
  repeat walk_at "S"
  refine ⟨rfl, ⟨_, _, rfl, rfl⟩, by walk_at "mem", ha, by rw [sizeLine_eq]; omega, fun D => ?_⟩
  repeat walk_at "S"
  refine Ev.cutP (x := x) (dx := dx) (vs := vs) (a := a) (by assumption) ?_
  repeat walk_at "S"
  refine Ev.list ?_
  repeat walk_at "S"
  refine ⟨by show 0 ≤ sizeLine; exact Nat.zero_le _, fun l => ?_⟩
  repeat walk_at "S"
  refine ⟨l, _, rfl, rfl, ⟨_, _, rfl, rfl⟩, by walk_at "has", by walk_at "put", ha, by omega, ?_⟩
  repeat walk_at "S"
  exact ⟨D, _, _, rfl, rfl⟩
end
section
open PySem PySem.W PyProof.Rows PySem.Calls
variable {w : World} {A : Around} {X : Amb} {Λ Λ' : List Cell} {env : Env}
/-- the class of the piles -/
noncomputable def pileClass (K : Frag) : Bool := match K.lookup 120 with
  | some ⟨_, _, .cls cd, sl⟩ => !cd.abstract && !cd.hasDel && (sl.toList[4]?).join == some (.builtin "list.__new__") && cd.mro == [.ref 120, .type "list", .type "object"] && cd.hasDict &&
      specialIn K (.ref 120) "__call__" == some (some (.builtin "type.__call__")) && instIn K (.ref 120) (.type "type") == some true
  | _ => false
theorem pile_class (w : World) : pileClass (K1 w) = true := by kernel_rfl
structure PC (M : Model) (h : Heap) : Prop where
  obj : ∃ oc od cd sl, h.get? 120 = some ⟨oc, od, .cls cd, sl⟩ ∧ cd.abstract = false ∧ cd.hasDel = false ∧ cd.mro.isEmpty = false
  mro : Looks M h (mroOf (.ref 120)) [.ref 120, .type "list", .type "object"]
  made : Looks M h (Bind.madeBy (.ref 120)) (some "list.__new__")
  base : Looks M h (Bind.staticBase (.ref 120)) (.ref 120)
  self : Looks M h (isSubtype (.ref 120) (.ref 120)) true
  top : Looks M h (isSubtype (.ref 120) (.type "list")) true
  call : Looks M h (specialOf (.ref 120) "__call__") (some (.builtin "type.__call__"))
  typ : Looks M h (isInstance (.ref 120) (.type "type")) true
  init : Looks M h (typeLookup (.ref 120) "__init__") (some (.ref 59))
theorem pc_of {M : Model} {h : Heap} (X1 : (K1 w).In h) : PC M h := by
  have e := pile_class w
  unfold pileClass at e
  split at e
  · rename_i oc od cd sl ho
    simp only [Bool.and_eq_true, Bool.not_eq_true', beq_iff_eq] at e
    obtain ⟨⟨⟨⟨⟨⟨e1, e2⟩, e3⟩, e4⟩, e5⟩, e6⟩, e7⟩ := e
    have hc : clsIn (K1 w) 120 = some cd := by unfold clsIn; rw [ho]
    have hm : Looks M h (mroOf (.ref 120)) [.ref 120, .type "list", .type "object"] := e4 ▸ (looks_clsIn X1 hc).andThen .now
    have made : Looks M h (Bind.madeBy (.ref 120)) (some "list.__new__") := by
      intro A Q E s k q
      unfold Bind.madeBy
      refine wpAny_bind (hm A _ E s k ?_)
      rw [List.forIn_cons]
      refine wpAny_bind (wpAny_bind (wpAny_bind (wpAny_bind (wpAny_loadPart (k _ _ (X1 _ _ ho)) (wpAny_pure ?_)))))
      dsimp only
      rw [← Array.getElem?_toList, e3]
      exact wpAny_pure (wpAny_pure (wpAny_pure q))
    refine ⟨⟨oc, od, cd, sl, X1 _ _ ho, e1, e2, by rw [e4]; rfl⟩, hm, made, ?_, looks_mroIn X1 (by kernel_rfl), looks_mroIn X1 (by kernel_rfl), looks_specialIn X1 e6, looks_instIn X1 e7, looks_findIn X1 (by kernel_rfl)⟩
    intro A Q E s k q
    unfold Bind.staticBase
    refine wpAny_bind (hm A _ E s k ?_)
    rw [List.forIn_cons]
    exact wpAny_bind (wpAny_bind (wpAny_bind (made A _ E s k (wpAny_pure (wpAny_pure (wpAny_pure q))))))
  · cases e
noncomputable abbrev pileObj (dx : Addr) : Obj := { cls := .ref 120, dict := some dx, data := .seq #[] }
noncomputable abbrev noNames : Obj := { cls := .type "dict", data := .dict #[] }
section
variable {R : Result → Shared → Prop} {h : Heap} {g : Array GenState} {d : Drawn} {t : Nat} {os : OsState}
theorem pile_new (Y : PC (Mod w) h) (hq : R (.ok (.ret (.ref (h.objs.size + 1)))) ⟨(h.push noNames).push (pileObj h.objs.size), g, d, t, os⟩) :
    codeAny (Mod w) A (.call (.builtin "list.__new__") ⟨[.ref 120], []⟩) R ⟨h, g, d, t, os⟩ := by
  obtain ⟨⟨oc, od, cd, sl, hC, e1, e2, e4⟩, mro, made, base, self, top, call, typ, init⟩ := Y
  have hk : builtinKind "list.__new__" = some .builtinFn := by decide +kernel
  have hsp : splitId "list.__new__" = some ("list", "__new__") := by decide +kernel
  have hit : Looks (Mod w) h (isType (.ref 120)) true := (Looks.ld (part := none) hC).andThen .now
  have args : ∀ sig, Manifest.signature? "list.__new__" = some sig → Bind.checkArgs "list.__new__" sig ⟨[.ref 120], []⟩ = pure () := by
    intro sig e
    have : argsOk "list.__new__" ⟨[.ref 120], []⟩ := by unfold argsOk; kernel_rfl
    unfold argsOk at this
    rw [e] at this
    exact this
  refine codeAny_call_builtin_code (plainId_quiet F.plain_list_new _) ?_
  have here : Looks (Mod w) h (Bind.madeHere "list.__new__" (.ref 120)) () := base.andThen (made.andThen (Looks.of_pure (by simp only [Option.map_some, bne_self_eq_false, Bool.false_eq_true, if_false])))
  simp only [checkBuiltinCall, hk, hsp]
  have fin : codeAny (Mod w) A (.builtin "list.__new__" ⟨[.ref 120], []⟩) R ⟨h, g, d, t, os⟩ := by
    refine codeAny_builtin_stack F.entry_list_new rfl fun p st => ?_
    rw [Around.under_plainId F.plain_list_new _]
    have hown := owner_list_new
    simp only [hown]
    repeat (first | simp only [bne_self_eq_false, Bool.false_eq_true, if_false, Bool.not_true] | lk)
    refine nd_load (Heap.get?_push_of_some _ (Heap.get?_push_of_some _ hC)) (wpAny_pure ?_)
    dsimp only
    refine wpAny_pure ?_
    rw [e2]
    refine wpAny_pure (wpAny_pure ?_)
    show R _ _
    rw [Heap.size_push]
    exact hq
  cases hsig : Manifest.signature? "list.__new__" with
  | none => repeat (first | simp only [bne_self_eq_false, Bool.false_eq_true, if_false, Bool.not_true] | exact fin | lk)
  | some sig =>
  have ar := args sig hsig
  dsimp only
  rw [ar]
  repeat (first | simp only [bne_self_eq_false, Bool.false_eq_true, if_false, Bool.not_true] | exact fin | lk)
theorem under_weight : (Code.builtin "type.__call__" ⟨[.ref 120], []⟩).weight = 1 := by kernel_rfl
theorem under_units : (Code.builtin "type.__call__" ⟨[.ref 120], []⟩).cUnits = 1 := by kernel_rfl
theorem Rm.making {k : Nat} (h : Rm A (k + 1)) : Rm (A.under (.builtin "type.__call__" ⟨[.ref 120], []⟩)) k :=
  ⟨h.hd, by have := h.dp; show A.depth + (Code.builtin "type.__call__" ⟨[.ref 120], []⟩).weight + k ≤ 600; rw [under_weight]; omega, by have := h.un; show A.units + (Code.builtin "type.__call__" ⟨[.ref 120], []⟩).cUnits + 10 * k ≤ 9000; rw [under_units]; omega⟩
theorem pile_make (Y : PC (Mod w) h) (X1 : (K1 w).In h)
    (hq : codeAny (Mod w) (A.under (.builtin "type.__call__" ⟨[.ref 120], []⟩)) (.call (.ref 59) ⟨[.ref (h.objs.size + 1)], []⟩) (InitBack (h.objs.size + 1) R) ⟨(h.push noNames).push (pileObj h.objs.size), g, d, t, os⟩) :
    codeAny (Mod w) A (.call (.ref 120) ⟨[], []⟩) R ⟨h, g, d, t, os⟩ := by
  have Y' := Y
  obtain ⟨⟨oc, od, cd, sl, hC, e1, e2, e4⟩, mro, made, base, self, top, call, typ, init⟩ := Y
  refine codeAny_of_tree ?_
  show wpAny _ _ (callAny (.ref 120) _) _ _ _
  refine nd_load hC ?_
  show wpAny _ _ (callAny.viaDunder (.ref 120) _) _ _ _
  unfold callAny.viaDunder
  refine wpAny_bind (call.at ?_)
  dsimp only
  rw [tc_bind]
  refine wpAny_bind (wpAny_pure (wpAny_bind (wpAny_pure ?_)))
  refine wpAny_pure (a := Fin.again (.call (.builtin "type.__call__") ⟨.ref 120 :: [], []⟩)) (And.intro rfl ?_)
  refine codeAny_call_builtin_at (Code.quiet_builtin _ (by decide +kernel)) entry_typeCall (check_slot tc_kind tc_split typ (tc_args _ _ _) ?_)
  unfold Builtin.«type.__call__»
  have ne : ([.ref 120, .type "list", .type "object"] : List Value).isEmpty = false := rfl
  repeat (first | simp only [ne, Bool.false_eq_true, if_false] | with_reducible refine wpAny_call ?_ | lk)
  refine pile_new Y' ?_
  have k : ∀ b o, h.get? b = some o → ((h.push noNames).push (pileObj h.objs.size)).get? b = some o := fun b o e => Heap.get?_push_of_some _ (Heap.get?_push_of_some _ e)
  have hx : ((h.push noNames).push (pileObj h.objs.size)).get? (h.objs.size + 1) = some (pileObj h.objs.size) := by heap_get
  have t1 : Looks (Mod w) ((h.push noNames).push (pileObj h.objs.size)) (typeOf (.ref (h.objs.size + 1))) (.ref 120) := (Looks.ld hx).andThen .now
  have s1 := self.keeps k
  have i1 := init.keeps k
  have b1 := (bind_fn (M := Mod w) X1 (.ref (h.objs.size + 1)) (f := 59) (by kernel_rfl)).keeps k
  unfold isInstance callSpecial? specialOf
  repeat (first | with_reducible refine wpAny_call ?_ | lk)
  refine codeAny_mono hq fun r s' z => ?_
  rcases r with e | (v | _ | _ | _) <;> first | exact z | exact z.elim | skip
  obtain ⟨rfl, z⟩ := z
  exact wpAny_pure (wpAny_pure z)
end
end
section
open PySem PySem.W PyProof.Rows PySem.Calls Builtin Builtin.ObjectAttr
variable {w : World} {A : Around} {X : Amb} {Λ Λ' : List Cell} {env : Env}
noncomputable abbrev bare (dx : Addr) : Cell := ⟨dx, fun o => o = noNames⟩
theorem refuse_pile (self : Value) : refuseLoop self "__setattr__" [.ref 120, .type "list", .type "object"] = pure () := by
  rw [refuseLoop_ref]; kernel_rfl
theorem put_bare (hh : Int) (key v : Value) : Obj.putName "_initial_size" hh key v noNames = { cls := .type "dict", data := .dict #[⟨hh, key, v⟩] 1 } := by rfl
theorem one_name {hh : Int} {tk t : Tok} : NsP (al [("_initial_size", .int 0 t)]) { cls := .type "dict", data := .dict #[⟨hh, .str "_initial_size" tk, .int 0 t⟩] 1 } := by
  refine ⟨_, _, rfl, ?_, ?_⟩
  · intro e he
    rw [Array.mem_def] at he
    rw [List.mem_singleton.mp he]
    exact ⟨_, _, rfl⟩
  · intro name
    unfold al nsFind findBy
    rw [List.lookup_cons]
    by_cases q : name = Str.ofString "_initial_size"
    · subst q; rfl
    · rw [show (name == Str.ofString "_initial_size") = false by simpa using q]
      show Option.map _ (Array.find? (fun e : DictEntry => e.key.isStr name) #[_]) = none
      have q' : (Str.ofString "_initial_size" == name) = false := by simpa using fun e => q e.symm
      have : Value.isStr (.str (Str.ofString "_initial_size") tk) name = false := q'
      simp [this]
theorem pile_set {s : Shared} {x dx : Addr} {t : Tok} {Q : Unit → Shared → Prop} {E : Value → Shared → Prop} (B : Base w X.hb) (hs : Sat X (pil x dx [] :: bare dx :: Λ) s) (h : ∀ s', Sat X (pil x dx [] :: dic dx :: Λ) s' → Q () s') :
    wpAny (Mod w) A (setAttr (.ref x) "_initial_size" (.int 0 t)) Q E s := by
  have X1 := (B.ext hs.keep).in1
  have ⟨o, ho, n, e⟩ := hs.own _ (List.Mem.head _)
  subst e
  have ⟨od, hod, e⟩ := hs.own _ (List.Mem.tail _ (List.Mem.head _))
  cases e
  obtain ⟨hp, g, dd, tk, os⟩ := s
  dsimp only at ho hod X1
  have I : InstAt hp x { cls := .ref 120, dict := some dx, data := .seq [].toArray n } 120 (some noNames) := ⟨ho, rfl, rfl, hod⟩
  refine set_plain X1 I (by kernel_rfl) ?_
  have Y := pc_of (M := Mod w) X1
  have SF := PySem.F.store_object
  have I0 := I.type (M := Mod w)
  have L1 := Y.mro
  have sub : Looks (Mod w) hp (isInstance (.ref x) (.type "object")) true := I0.andThen (looks_mroIn X1 (by kernel_rfl))
  have L3 : Looks (Mod w) hp (typeLookup (.ref 120) "_initial_size") none := looks_findIn X1 (by kernel_rfl)
  have L4 : Looks (Mod w) hp (storeTaker? none) none := .now
  obtain ⟨cd, hc, hd'⟩ : ∃ cd, clsIn (K1 w) 120 = some cd ∧ cd.hasDict = true := ⟨_, by rfl, by kernel_rfl⟩
  have L5 := looks_clsIn (M := Mod w) X1 hc
  refine codeAny_call_builtin SF.slot.plain SF.entry (@check_slot (Mod w) _ _ ⟨hp, g, dd, tk + 1, os⟩ "object.__setattr__" "object" "__setattr__" (.ref x) [.str (Str.ofString "_initial_size") tk, .int 0 t] [] _ SF.kind SF.split sub (SF.args (.ref x) (.str (Str.ofString "_initial_size") tk) (.int 0 t)) ?_)
  rw [osa_eq, refuse_eq]
  refine wpAny_bind ?_
  refine wpAny_bind ?_
  refine I0.at ?_
  refine wpAny_bind (L1.at ?_)
  rw [refuse_pile]
  refine wpAny_pure (wpAny_bind (I0.at (wpAny_bind (L3.at (wpAny_bind (L4.at ?_))))))
  dsimp only
  refine wpAny_bind (wpAny_pure (wpAny_bind (wpAny_bind (wpAny_loadPart ho (wpAny_bind (L5.at ?_))))))
  rw [hd']
  refine wpAny_pure (a := some dx) (wpAny_bind (wpAny_pure (wpAny_bind ?_)))
  unfold nsSet
  refine wpAny_bind (wpAny_bind (wpAny_askSetting (wpAny_pure (wpAny_bind (wpAny_mkText (wpAny_bind (wpAny_loadPart hod ?_)))))))
  dsimp only
  rw [if_neg (by decide +kernel)]
  refine wpAny_updatePart hod ?_
  have U : Put dx (bare dx).P (dic dx).P (pil x dx [] :: bare dx :: Λ) (pil x dx [] :: dic dx :: Λ) := .tail .head
  have hfin : (Heap.update hp dx (Obj.putName "_initial_size" (PyData.keyHash w.params "_initial_size") (.str "_initial_size" (tk + 1)) (.int 0 t))).get? dx = some { cls := .type "dict", data := .dict #[⟨PyData.keyHash w.params "_initial_size", .str "_initial_size" (tk + 1), .int 0 t⟩] 1 } := by
    rw [Heap.get?_update_self _ hod (by rfl)]; rfl
  refine wpAny_bind (wpAny_lookBehind hfin (pastItsLine_dict (by show 1 ≤ _; rw [sizeLine_eq]; omega)) ?_)
  refine wpAny_pure ?_
  refine h _ ?_
  exact hs.put (s' := ⟨_, g, dd, tk + 1 + 1, os⟩) U (Heap.SameBut.update ..).extBut ⟨_, hfin, rfl, t, one_name⟩ hs.gp rfl rfl
end
section
open PySem PySem.W PyProof.Rows PySem.Calls Builtin Builtin.ObjectAttr
variable {w : World} {A : Around} {X : Amb} {Λ Λ' : List Cell} {env : Env}
noncomputable abbrev supObj (x : Addr) : Obj := { cls := .type "super", dict := none, data := .fields #[.ref 120, .ref x, .ref 120], slots := #[] }
noncomputable abbrev wrapObj (x : Addr) : Obj := { cls := .type "method-wrapper", data := .fields #[.builtin "list.__init__", .ref x] }
theorem slot_wget : Slot "wrapper_descriptor" "__get__" "wrapper_descriptor.__get__" := .of (owner := "wrapper_descriptor") (n := "__get__") (by rw [typeLookup_type, builtinLookup_eq_fast]; kernel_rfl) (by decide +kernel) (by decide +kernel) (by decide +kernel)
  (by first | exact .inl (by decide +kernel) | exact .inr (by decide +kernel)) (by rw [isSubtype_type]; kernel_rfl)
theorem entry_wget : entryFor table "wrapper_descriptor.__get__" = some Builtin.«wrapper_descriptor.__get__» := entryFor_of_tree (by kernel_rfl)
theorem args_wget (a b c : Value) : argsOk "wrapper_descriptor.__get__" ⟨[a, b, c], []⟩ := by unfold argsOk; kernel_rfl
section
variable {E : Value → Shared → Prop} {h : Heap} {g : Array GenState} {d : Drawn} {t : Nat} {os : OsState}
theorem sup_ga {so x : Addr} {tk : Tok} {Q : Fin → Shared → Prop} (X1 : (K1 w).In h) (hso : h.get? so = some (supObj x)) {dx : Option Addr} {da : Data} (hx : h.get? x = some { cls := .ref 120, dict := dx, data := da }) (hx120 : x ≠ 120)
    (hq : Q (.done (.ret (.ref h.objs.size))) ⟨h.push (wrapObj x), g, d, t, os⟩) :
    wpAny (Mod w) A (Builtin.«super.__getattribute__» ⟨[.ref so, .str "__init__" tk], []⟩) Q E ⟨h, g, d, t, os⟩ := by
  have hno : Looks (Mod w) h (opaqueClassAbove (.ref 120)) none := looks_opaque X1 (by kernel_rfl)
  have hC := (pc_of (M := Mod w) X1).mro
  have htop := (pc_of (M := Mod w) X1).top
  have htop' : Looks (Mod w) h (isSubtype (.ref 120) (.type (".".intercalate ("list.__init__".cutAt '.').dropLast))) true := by
    rw [show ".".intercalate ("list.__init__".cutAt '.').dropLast = "list" by decide +kernel]; exact htop
  have hl : ([.ref 120, .type "list", .type "object"] : List Value).dropWhile (· != .ref 120) = [.ref 120, .type "list", .type "object"] := by decide +kernel
  have hlk : typeLookup (.type "wrapper_descriptor") "__get__" = pure (some (.builtin "wrapper_descriptor.__get__")) := slot_wget.lookup
  have hne : (Value.ref x == Value.ref 120) = false := by simp [hx120]
  have hown : classOwn (.type "list") "__init__" = pure (some (.builtin "list.__init__")) := by kernel_rfl
  have hty : typeOf (.builtin "list.__init__") = pure (.type "wrapper_descriptor") := by show builtinType _ = _; rw [builtinType_eq_fast]; kernel_rfl
  have f0 : (#[.ref 120, .ref x, .ref 120] : Array Value)[0]? = some (.ref 120) := rfl
  have f1 : (#[.ref 120, .ref x, .ref 120] : Array Value)[1]? = some (.ref x) := rfl
  have f2 : (#[.ref 120, .ref x, .ref 120] : Array Value)[2]? = some (.ref 120) := rfl
  have hdt : (supObj x).data = .fields #[.ref 120, .ref x, .ref 120] := rfl
  have hT : ∀ g d t os, (⟨h, g, d, t, os⟩ : Shared).TypeIs (.builtin "list.__init__") "wrapper_descriptor" := fun _ _ _ _ => hty
  unfold Builtin.«super.__getattribute__»
  repeat (first
    | (with_reducible refine wpAny_field hso hdt f0 ?_) | (with_reducible refine wpAny_field hso hdt f1 ?_) | (with_reducible refine wpAny_field hso hdt f2 ?_)
    | (with_reducible refine ks_wpAny_notOpaque hno ?_)
    | (with_reducible refine Looks.at hC ?_; rw [hl])
    | (with_reducible refine wpAny_call_entry slot_wget (hT _ _ _ _) entry_wget ?_ (args_wget _ _ _))
    | (with_reducible refine wpAny_loadPart hx ?_)
    | (with_reducible refine Looks.at htop ?_)
    | (with_reducible refine Looks.at htop' ?_)
    | (with_reducible refine ⟨_, rfl, ?_⟩)
    | simp only [hne, Bool.false_eq_true, if_false]
    | wp_step
    | dsimp only)
  all_goals exact hq
end
end
section
open PySem PySem.W PyProof.Rows PySem.Calls Builtin Builtin.ObjectAttr
variable {w : World} {A : Around} {X : Amb} {Λ Λ' : List Cell} {env : Env}
section
variable {E : Value → Shared → Prop} {h : Heap} {g : Array GenState} {d : Drawn} {t : Nat} {os : OsState}
theorem sup_method {so x : Addr} {pl : Sem Bool} {Q : Value × List Value → Shared → Prop} (X1 : (K1 w).In h) (hso : h.get? so = some (supObj x)) {dx : Option Addr} {da : Data} (hx : h.get? x = some { cls := .ref 120, dict := dx, data := da }) (hx120 : x ≠ 120)
    (hq : Q (.ref h.objs.size, []) ⟨h.push (wrapObj x), g, d, t + 1, os⟩) : wpAny (Mod w) A (getMethod (.ref so) "__init__" pl) Q E ⟨h, g, d, t, os⟩ := by
  have hlk := F.ks_slot_super_ga.lookup
  have hcan := F.ks_canon_super_ga
  have hT : ∀ t', (⟨h, g, d, t', os⟩ : Shared).TypeIs (.ref so) "super" := fun _ => ⟨_, hso, rfl⟩
  unfold getMethod
  refine wpAny_bind (wpAny_specialOf (hT _) hlk ?_)
  show wpAny _ _ (if (Manifest.canonical "super.__getattribute__" != "object.__getattribute__") = true then _ else _) _ _ _
  rw [if_pos hcan]
  unfold getAttr getAttrBy
  refine wpAny_bind (wpAny_bind (wpAny_mkText (wpAny_holding (wpAny_bind (wpAny_typeOf (hT _) (wpAny_bind (wpAny_of_eq hlk ?_)))))))
  show wpAny _ _ (getAttrByItsOwn (.ref so) (.str "__init__" t) (.type "super") (.builtin "super.__getattribute__") true false) _ _ _
  unfold getAttrByItsOwn hookBefore callGetattribute boundAndCalled
  refine wpAny_bind (wpAny_of_eq (show (if onTheHeap (.type "super") then typeLookup (.type "super") "__getattr__" else pure none) = pure none from rfl) ?_)
  refine wpAny_bind (wpAny_attempt (wpAny_holding ?_))
  show wpAny _ _ (bindSpecial (.builtin "super.__getattribute__") (.ref so) >>= _) _ _ _
  refine wpAny_bind (wpAny_of_eq (F.ks_slot_super_ga.bind _) ?_)
  refine wpAny_mono (Q := fun v s' => v = .ref h.objs.size ∧ s' = ⟨h.push (wrapObj x), g, d, t + 1, os⟩) (E := fun _ _ => False)
    (wpAny_call_entry F.ks_slot_super_ga (hT _) F.ks_entry_super_ga (sup_ga X1 hso hx hx120 ⟨_, rfl, rfl, rfl⟩) (F.ks_gaArgs_super _ _)) (fun v s' hv => ?_) fun _ _ z => z.elim
  obtain ⟨rfl, rfl⟩ := hv
  exact wpAny_pure (wpAny_pure hq)
theorem check_init (x : Addr) : checkBoundCall "list.__init__" ⟨[.ref x], []⟩ = pure () := by
  have h2 := F.args_list_init_1 (.ref x)
  have hk : builtinKind "list.__init__" = some .slot := by decide +kernel
  unfold checkBoundCall
  unfold argsOk at h2
  split
  · rename_i sig hsig
    rw [hsig] at h2
    simp only [hk]
    exact h2
  · rfl
theorem call_wrap {q x : Addr} {dx : Option Addr} {n : Nat} {Q : Value → Shared → Prop} (hq0 : h.get? q = some (wrapObj x)) (hx : h.get? x = some { cls := .ref 120, dict := dx, data := .seq #[] n })
    (hq : ∀ h', Heap.ExtBut x h h' → (∃ n, h'.get? x = some { cls := .ref 120, dict := dx, data := .seq #[] n }) → Q .none ⟨h', g, d, t, os⟩) : wpAny (Mod w) A (call (.ref q) []) Q E ⟨h, g, d, t, os⟩ := by
  refine wpAny_call (codeAny_of_tree ?_)
  show wpAny _ A.in1 (callAny (.ref q) ⟨[], []⟩) _ _ _
  simp only [callAny]
  refine wpAny_bind (wpAny_load hq0 ?_)
  simp only [wrapObj, show (Value.type "method-wrapper" == Value.type "method" || Value.type "method-wrapper" == Value.type "builtin_function_or_method" || Value.type "method-wrapper" == Value.type "method-wrapper") = true by decide, if_true]
  show wpAny _ _ (checkBoundCall "list.__init__" ⟨[.ref x], []⟩ >>= _) _ _ _
  refine wpAny_bind (wpAny_of_eq (a := ()) (check_init x) ?_)
  refine wpAny_bind (wpAny_pure (wpAny_pure ?_))
  refine ⟨Code.quiet_builtin _ (by decide +kernel), codeAny_builtin F.entry_list_init ?_⟩
  rw [Around.under_plainId F.slot_list_init.plain]
  refine wpAny_bind (m := Builtin.List.listItems (.ref x)) ?_
  unfold Builtin.List.listItems
  refine wpAny_bind (wpAny_seqItems hx rfl (wpAny_pure ?_))
  refine wpAny_bind (m := updateSeq x fun _ => #[]) (wpAny_updateSeq hx rfl ?_ (by show 0 ≤ _; exact Nat.zero_le _) (by show 0 ≤ _; exact Nat.zero_le _))
  refine wpAny_bind (wpAny_pure (a := ()) (wpAny_pure ?_))
  obtain ⟨m, hm⟩ := mapSeq_eq (f := fun _ => #[]) (o := { cls := .ref 120, dict := dx, data := .seq #[] n }) rfl (rfl : (#[] : Array Value) = #[])
  refine hq _ (Heap.SameBut.update ..).extBut ⟨m, ?_⟩
  rw [Heap.get?_update_self _ hx (by rw [hm]; rfl), hm]
theorem callWith_wrap {q x : Addr} {pos : Pos} {Q : Value → Shared → Prop} {s : Shared} (hq : s.heap.get? q = some (wrapObj x)) (h : wpAny (Mod w) A (call (.ref q) []) Q E s) : wpAny (Mod w) A (callWith pos (.ref q) [] (backTo pos (starEach [] env)) []) Q E s := by
  unfold callWith
  refine wpAny_bind (wpAny_holding (evalArgs_empty ?_))
  refine wpAny_bind (wpAny_standAt ?_)
  dsimp only
  refine wpAny_bind (m := keeperOf (.ref q)) ?_
  unfold keeperOf
  refine wpAny_bind (wpAny_load hq ?_)
  simp only [wrapObj, show (Value.type "method-wrapper" != Value.type "method") = true by decide, show (Value.type "method-wrapper" == Value.type "builtin_function_or_method" || Value.type "method-wrapper" == Value.type "method-wrapper") = true by decide, if_true]
  refine wpAny_pure ?_
  exact wpAny_bind (wpAny_mono h (fun r s₂ hr => wpAny_bind (wpAny_holding (wpAny_point (wpAny_pure hr)))) fun _ _ x => x)
end
theorem superText : ((PySem.Challenge.pw_wr0019_01.main.scope.names.lookup ("super" : Str)).isSome = false) := by kernel_rfl
theorem enterAt {k : Nat} {a : Addr} {c : Value} {d : Option Addr} {fd : FuncData} {sl} {args : List Value} {binds : List (Str × Value)} {body : List Stmt} {Res : Result → Shared → Prop} {s : Shared} (B : Base w X.hb) (R : Rm A (k + 1)) (ho : (K0 w).lookup a = some ⟨c, d, .func fd, sl⟩) (ha : a ≠ 90) (hcd : coded w fd.code fd.qualname = true)
    (hbody : fd.body = .stmts body) (hbind : ∀ S, peek (K1 w) S (bindArgs fd ⟨args, []⟩) = some binds) (hcell : fd.scope.names.all (fun x => x.2 != .cell) = true) (hloc : binds.all (fun x => fd.scope.names.lookup x.1 == some .local) = true) (hs : Sat X Λ s)
    (h : ∀ L A' s₁, Rm A' k → Sat X (nsc L binds.reverse :: Λ) s₁ → PySem.wpAt (Mod w) A' (.func body (callEnv fd L a)) (execs body (callEnv fd L a)) (fun f s' => Res (.ok (.ret (retOf f))) s') (fun _ _ => False) s₁)
    (hco : fd.scope.isCoroutine = false := by rfl) (hgen : fd.scope.isGenerator = false := by rfl) (hk : fd.scope.kind = .function := by rfl) : codeAny (Mod w) A (.call (.ref a) ⟨args, []⟩) Res s := by
  refine ks_codeAny_call_defAt R.room (hs.keep _ _ (B.k a _ ha ho)) rfl (B.limit.keeps hs.keep) ((codeRec_of_coded B hcd).keeps hs.keep) hbody (kp_binds (B.ext hs.keep).in1 hbind)
    (fun x hx => by have := List.all_eq_true.mp hcell x hx; simpa using this) (fun x hx => by have := List.all_eq_true.mp hloc x hx; simpa using this) (fun h₀ hns hk₀ => ?_) hco hgen hk
  refine ks_wpAt_mono (h _ _ _ R.deeper (hs.grow (s' := ⟨h₀, s.gens, s.drawn, s.toks + binds.length, s.os⟩) hk₀ hs.gp rfl rfl (of_nsw hns fun _ _ h => h))) (fun f s' q => ?_) fun _ _ e => e.elim
  cases f <;> exact q
theorem init_code {s : Shared} {x dx : Addr} {R : Result → Shared → Prop} (B : Base w X.hb) (Rm0 : Rm A 4) (hs : Sat X (pil x dx [] :: bare dx :: Λ) s) (h : ∀ s', Sat X (pil x dx [] :: dic dx :: Λ) s' → R (.ok (.ret .none)) s') :
    codeAny (Mod w) A (.call (.ref 59) ⟨[.ref x], []⟩) R s := by
  have X1 := (B.ext hs.keep).in1
  refine enterAt (k := 3) (binds := [("self", .ref x), ("initial_size", .int 0 247)]) B Rm0 (by rfl) (by decide) (by kernel_rfl) (by rfl) (by intro S; kernel_rfl) (by rfl) (by rfl) hs fun L A' s₁ R' h₁ => ?_
  dsimp only [List.reverse, List.reverseAux] at h₁
  refine ks_wpAt_execs_cons (ks_wpAt_Assign_Attr (wpAt_of_wpAny ?_))
  refine Ev.useB (Ev.local (Q := fun v Λ' => v = .int 0 247 ∧ Λ' = nsc L [("initial_size", .int 0 247), ("self", .ref x)] :: pil x dx [] :: bare dx :: Λ) (Or.inl (List.Mem.head _)) al_hit ⟨rfl, rfl⟩) h₁ fun v s₂ Λ₂ h₂ q => ?_
  obtain ⟨rfl, rfl⟩ := q
  refine Ev.useB (Ev.local (Q := fun v Λ' => v = .ref x ∧ Λ' = nsc L [("initial_size", .int 0 247), ("self", .ref x)] :: pil x dx [] :: bare dx :: Λ) (Or.inl (List.Mem.head _)) (al_skip (by decide +kernel) al_hit) ⟨rfl, rfl⟩) h₂ fun v s₃ Λ₃ h₃ q => ?_
  obtain ⟨rfl, rfl⟩ := q
  refine pile_set (dx := dx) (Λ := nsc L [("initial_size", .int 0 247), ("self", .ref x)] :: Λ) B (h₃.perm ?_) fun s₄ h₄ => ?_
  · exact (List.Perm.cons _ (List.Perm.swap ..)).trans (List.Perm.swap ..)
  dsimp only
  refine ks_wpAt_execs_cons (ks_wpAt_Expr_any (ks_wpAt_MethodCall ?_))
  have X4 := (B.ext h₄.keep).in1
  have ⟨o4, ho4, n4, e4⟩ := h₄.own _ (List.Mem.head _)
  subst e4
  obtain ⟨hp, g, dr, tk, os⟩ := s₄
  dsimp only at ho4 X4
  have hK : ∀ a o, a ≠ 90 → (K0 w).lookup a = some o → hp.get? a = some o := fun a o ha e => h₄.keep _ _ (B.k a o ha e)
  have hx120 : x ≠ 120 := by
    intro e; subst e
    have := h₄.new _ (List.Mem.head _)
    rw [B.k 120 _ (by decide) (by rfl)] at this
    cases this
  refine ks_wpAt_super_base (by rfl) (by rfl) (by decide +kernel) rfl (hK 59 _ (by decide) (by rfl)) rfl rfl (by rfl) (hK _ _ (by decide) (by rfl)) rfl rfl (by kernel_rfl) superText ?_
  obtain ⟨oc, od, cd, sl, hC, -, -, -⟩ := (pc_of (M := Mod w) X4).obj
  have top4 := (pc_of (M := Mod w) X4).self
  rw [loadName_read (by rfl) (by rfl)]
  refine loadGlobal_builtin (B.main.keeps h₄.keep) (btab_no' (by rfl)) (B.blt.keeps h₄.keep) (btab_at (x := "super") (by rfl)) ⟨rfl, ?_⟩
  refine wpAny_loadName_free (by rfl) (by rfl) (by rfl) ⟨_, hK 46 _ (by decide) (by rfl), rfl⟩ ?_
  refine Ev.useB (Ev.loadN (Q := fun v Λ' => v = .ref x ∧ Λ' = pil x dx [] :: dic dx :: nsc L [("initial_size", .int 0 247), ("self", .ref x)] :: Λ) (Or.inl (List.Mem.tail _ (List.Mem.tail _ (List.Mem.head _)))) (al_skip (by decide +kernel) al_hit) ⟨rfl, rfl⟩ (by rfl) (by rfl)) h₄ fun v s₅ Λ₅ h₅ q => ?_
  obtain ⟨rfl, rfl⟩ := q
  have X5 := (B.ext h₅.keep).in1
  have ⟨o5, ho5, n5, e5⟩ := h₅.own _ (List.Mem.head _)
  subst e5
  obtain ⟨h5, g5, dr5, tk5, os5⟩ := s₅
  dsimp only at ho5 X5
  obtain ⟨oc, od, cd, sl, hC, -, -, -⟩ := (pc_of (M := Mod w) X5).obj
  refine ks_wpAny_isType_cls hC rfl ⟨rfl, ?_⟩
  refine ks_wpAny_call_super hC rfl ho5 rfl (fun c e => nomatch e) (pc_of (M := Mod w) X5).self fun h6 e6 k6 => ?_
  have h₆ : Sat X (pil x dx [] :: dic dx :: nsc L [("initial_size", .int 0 247), ("self", .ref x)] :: Λ) ⟨h6, g5, dr5, tk5, os5⟩ := h₅.ext (s' := ⟨h6, g5, dr5, tk5, os5⟩) k6 h₅.gp rfl rfl
  refine sup_method (B.ext h₆.keep).in1 e6 (k6 _ _ ho5) hx120 ?_
  have e7 := Heap.get?_push_size h6 (o := wrapObj x) rfl
  have k7 : ∀ b o, h6.get? b = some o → (h6.push (wrapObj x)).get? b = some o := fun b o e => Heap.get?_push_of_some _ e
  have h₇ : Sat X (pil x dx [] :: dic dx :: nsc L [("initial_size", .int 0 247), ("self", .ref x)] :: Λ) ⟨h6.push (wrapObj x), g5, dr5, tk5 + 1, os5⟩ := h₆.ext (s' := ⟨h6.push (wrapObj x), g5, dr5, tk5 + 1, os5⟩) k7 h₆.gp rfl rfl
  refine callWith_wrap e7 (call_wrap e7 (k7 _ _ (k6 _ _ ho5)) fun h8 k8 ⟨n8, e8⟩ => ?_)
  have h₈ : Sat X (pil x dx [] :: dic dx :: nsc L [("initial_size", .int 0 247), ("self", .ref x)] :: Λ) ⟨h8, g5, dr5, tk5 + 1, os5⟩ := h₇.put (s' := ⟨h8, g5, dr5, tk5 + 1, os5⟩) .head k8 ⟨_, e8, n8, rfl⟩ h₇.gp rfl rfl
  dsimp only
  refine wpAt_of_wpAny (wpAny_execs_nil ?_)
  exact h _ (h₈.sub (((List.sublist_cons_self _ _).cons_cons _).cons_cons _))
/-- a pile is made -/
theorem Ev.makePile {Q : Value → List Cell → Prop} (B : Base w X.hb) (R : Rm A 6) (h : ∀ x dx, Q (.ref x) (pil x dx [] :: dic dx :: Λ)) : Ev w X A Λ (call (.ref 120) []) Q := fun s hs => by
  obtain ⟨hp, g, d, t, os⟩ := s
  have X1 := (B.ext hs.keep).in1
  refine wpAny_call (pile_make (pc_of (w := w) X1) X1 ?_)
  have s1 : Sat X (bare hp.objs.size :: Λ) ⟨hp.push noNames, g, d, t, os⟩ := hs.push (o := noNames) (P := (bare hp.objs.size).P) rfl rfl
  have s2 : Sat X (pil (hp.objs.size + 1) hp.objs.size [] :: bare hp.objs.size :: Λ) ⟨(hp.push noNames).push (pileObj hp.objs.size), g, d, t, os⟩ := by
    have := s1.push (o := pileObj hp.objs.size) (P := (pil (hp.objs.size + 1) hp.objs.size []).P) rfl ⟨0, rfl⟩
    rw [Heap.size_push] at this
    exact this
  refine init_code B (R.le (by decide) : Rm A 5).making s2 fun s' h' => ⟨rfl, ?_⟩
  exact ⟨_, h', h _ _⟩
end
section
open PySem PySem.W PyProof.Rows PySem.Calls Builtin Builtin.ObjectAttr
variable {w : World} {A : Around} {X : Amb} {Λ Λ' : List Cell} {env : Env}
theorem join_tx2 (x y : List Nat) : Txt.join (tx []) [tx x, tx y] = tx (x ++ y) := by
  show Builtin.Str.glued _ _ = _
  rw [StrLaws.glued_eq_join]
  show tx x ++ tx [] ++ tx y = _
  rw [tx_app, tx_app, List.append_nil]
theorem join_cons (x : List Nat) : ∀ (l : List Str) (y : List Nat), Str.join (tx []) l = tx y → Str.join (tx []) (tx x :: l) = tx (x ++ y)
  | [], y, h => by
    have : tx [] = tx y := h
    rw [← tx_inj.mp this, List.append_nil]; rfl
  | z :: l, y, h => by
    show tx x ++ tx [] ++ Str.join (tx []) (z :: l) = _
    rw [h, tx_app, tx_app, List.append_nil]
theorem join_ones : ∀ (l : List Nat), Txt.join (tx []) (l.map fun c => tx [c]) = tx l := by
  intro l
  show Builtin.Str.glued _ _ = _
  rw [StrLaws.glued_eq_join]
  induction l with
  | nil => rfl
  | cons c l ih => exact join_cons [c] _ l ih
/-- the list_iterator of a pile -/
theorem pnext_item {E : Value → Shared → Prop} {s : Shared} {it l : Addr} {i : Nat} {ol : Obj} {items : Array Value} {nl : Nat} {x : Value} {Q : Option Value → Shared → Prop} (hit : s.heap.IsListIter it l i) (hol : s.heap.get? l = some ol) (hdl : ol.data = .seq items nl) (hx : items[i]? = some x)
    (hQ : ∀ h', h'.IsListIter it l (i + 1) → Heap.SameBut it s.heap h' → Q (some x) { s with heap := h' }) : wpAny (Mod w) A (pyNext (.ref it)) Q E s := by
  obtain ⟨o, ho, hc, hd⟩ := id hit
  unfold pyNext
  refine wpAny_bind (wpAny_attempt (wpAny_callSpecial?_slot (name := Str.ofString "__next__") hit.typeIs slot_listiter_next (wpAny_call_entry slot_listiter_next hit.typeIs entry_listiter_next ?_ (args_listiter_next _))))
  show wpAny _ _ (field (.ref it) 0 >>= _) _ _ s
  refine wpAny_bind (wpAny_field ho hd (x := .ref l) rfl ?_)
  show wpAny _ _ (if (Value.ref l == Value.none) = true then _ else _) _ _ s
  rw [if_neg (show ¬ ((Value.ref l == Value.none) = true) from Bool.false_ne_true)]
  show wpAny _ _ (field (.ref it) 1 >>= _) _ _ s
  refine wpAny_bind (wpAny_field ho hd (x := .int i 0) rfl ?_)
  show wpAny _ _ (seqItems? (.ref l) >>= _) _ _ s
  refine wpAny_bind (wpAny_seqItems hol hdl ?_)
  simp only [Int.toNat_natCast, hx]
  refine wpAny_bind (wpAny_setField ho hd (by simp) (wpAny_pure ⟨x, rfl, wpAny_pure (hQ _ ?_ (Heap.SameBut.update ..))⟩))
  exact ⟨_, Heap.get?_update_self _ ho (Obj.isFreed_of_fields (Obj.data_mapFields hd _)), (Obj.cls_mapFields ..).trans hc, by rw [Obj.data_mapFields hd]; simp [rawInt]⟩
theorem pnext_end {E : Value → Shared → Prop} {s : Shared} {it l : Addr} {i : Nat} {ol : Obj} {items : Array Value} {nl : Nat} {Q : Option Value → Shared → Prop} (hh : A.handled = none) (hit : s.heap.IsListIter it l i) (hol : s.heap.get? l = some ol) (hdl : ol.data = .seq items nl) (hx : items[i]? = none)
    (hQ : ∀ h', Heap.ExtBut it s.heap h' → Q none { s with heap := h' }) : wpAny (Mod w) A (pyNext (.ref it)) Q E s := by
  obtain ⟨o, ho, hc, hd⟩ := id hit
  unfold pyNext
  refine wpAny_bind (wpAny_attempt (wpAny_callSpecial?_slot (name := Str.ofString "__next__") hit.typeIs slot_listiter_next (wpAny_call_entry slot_listiter_next hit.typeIs entry_listiter_next ?_ (args_listiter_next _))))
  show wpAny _ _ (field (.ref it) 0 >>= _) _ _ s
  refine wpAny_bind (wpAny_field ho hd (x := .ref l) rfl ?_)
  show wpAny _ _ (if (Value.ref l == Value.none) = true then _ else _) _ _ s
  rw [if_neg (show ¬ ((Value.ref l == Value.none) = true) from Bool.false_ne_true)]
  show wpAny _ _ (field (.ref it) 1 >>= _) _ _ s
  refine wpAny_bind (wpAny_field ho hd (x := .int i 0) rfl ?_)
  show wpAny _ _ (seqItems? (.ref l) >>= _) _ _ s
  refine wpAny_bind (wpAny_seqItems hol hdl ?_)
  simp only [Int.toNat_natCast, hx]
  refine wpAny_bind (wpAny_rule (wpAny_bind (wpAny_setField ho hd (by simp) ?_)))
  show wpAny _ _ (newExc (.type "StopIteration") [] >>= _) _ _ _
  refine wpAny_bind ?_
  simp only [newExc, newTuple]
  refine wpAny_bind (wpAny_newObj_type ?_ (by size_fits))
  refine wpAny_bind (m := firstArgMember _ _) (wpAny_of_eq (a := Value.none) (by first | rfl | (simp only [firstArgMember]; rfl)) ?_)
  refine wpAny_newObj_type ?_ (by size_fits)
  simp only [raiseNew]
  refine wpAny_bind (wpAny_handled ?_)
  rw [show A.in1.handled = none from hh]
  refine wpAny_bind (wpAny_pure (wpAny_throw ?_))
  refine wpAny_bind (wpAny_isInstance (T := "StopIteration") (b := true) ⟨_, Heap.get?_push_size _ rfl, rfl⟩ isSubtype_stop ?_)
  exact wpAny_pure (hQ _ (((Heap.SameBut.update ..).extBut.push _).push _))
theorem walks_pile (hh : A.handled = none) (I ax dx : Addr) (hne : ax ≠ I) (items : Array Value) (Ts : Nat → Addr) (vals : Nat → Array Value) (hit : ∀ j, j < items.size → items[j]? = some (.ref (Ts j))) (hTI : ∀ j, j < items.size → Ts j ≠ I) :
    WalksU PySem.Challenge.pw_wr0019_01 w A I (I :: ax :: (List.range items.size).map Ts) [I] items.size (fun j v => v = vals j)
      (fun j h => h.IsListIter I ax j ∧ (∃ n, h.get? ax = some { cls := .ref 120, dict := some dx, data := .seq items n }) ∧ ∀ k, k < items.size → h.IsTuple (Ts k) (vals k))
      (fun j T h => (j < items.size ∧ T = Ts j) ∧ h.IsListIter I ax (j + 1) ∧ (∃ n, h.get? ax = some { cls := .ref 120, dict := some dx, data := .seq items n }) ∧ ∀ k, k < items.size → h.IsTuple (Ts k) (vals k)) where
  sub := fun b hb => by simp at hb; simp [hb]
  frame := fun _ _ _ st hk => ⟨st.1.at fun o e => hk I (by simp) o e, let ⟨n, e⟩ := st.2.1; ⟨n, hk ax (by simp) _ e⟩,
    fun k hk' => (st.2.2 k hk').at fun o e => hk (Ts k) (List.mem_cons_of_mem _ (List.mem_cons_of_mem _ (List.mem_map.mpr ⟨k, List.mem_range.mpr hk', rfl⟩))) o e⟩
  item := fun i s Q E hi st hQ => by
    obtain ⟨st1, ⟨n, st2⟩, st3⟩ := st
    refine pnext_item st1 st2 rfl (x := .ref (Ts i)) (hit i hi) fun h' hit' hs' => ?_
    have tup : ∀ k, k < items.size → h'.IsTuple (Ts k) (vals k) := fun k hk' => (st3 k hk').extBut hs'.extBut (hTI k hk')
    exact hQ (Ts i) (vals i) h' s.toks rfl (tup i hi) ⟨⟨hi, rfl⟩, hit', ⟨n, hs'.extBut _ _ hne st2⟩, tup⟩ fun b o hb e => hs'.extBut b o (fun h => hb (by simp [h])) e
  go := fun _ _ _ _ _ s Q _ hm hQ => wpAny_letOwnedTupleGo_listiter hm.2.1 (hQ s.heap hm.2 fun _ _ _ e => e)
  apart := fun j T _ hm hmem => by
    rcases List.mem_cons.mp hmem with e | e
    · exact hTI j hm.1.1 (hm.1.2 ▸ e)
    · cases e
  done := fun s Q E st hQ => by
    obtain ⟨st1, ⟨n, st2⟩, st3⟩ := st
    exact pnext_end hh st1 st2 rfl (by simp) fun h' he' => hQ h' s.toks fun b o hb e => he' b o (fun h => hb (by simp [h])) e
  self := fun _ _ _ _ st hQ => wpAny_pyIter_listiter st.1 hQ
end
section
open PySem PySem.W PyProof.Rows PySem.Calls Builtin Builtin.ObjectAttr
variable {w : World} {A : Around} {X : Amb} {Λ Λ' : List Cell} {env : Env}
theorem pile_iter {s : Shared} {x dx : Addr} {vs : List Value} {Q : Value → Shared → Prop} {E : Value → Shared → Prop} (B : Base w X.hb) (hs : Sat X Λ s) (hx : Cell.at (pil x dx vs) s.heap)
    (h : Q (.ref s.heap.objs.size) { s with heap := s.heap.push { cls := .type "list_iterator", data := .fields #[.ref x, .int 0 0] } }) : wpAny (Mod w) A (pyIter (.ref x)) Q E s := by
  have ⟨o, ho, n, e⟩ := hx
  subst e
  have X1 := (B.ext hs.keep).in1
  have L0 : Looks (Mod w) s.heap (typeOf (.ref x)) (.ref 120) := (Looks.ld ho).andThen .now
  have L1 : Looks (Mod w) s.heap (typeLookup (.ref 120) "__iter__") (some (.builtin "list.__iter__")) := looks_findIn X1 (by kernel_rfl)
  unfold pyIter specialOf
  refine wpAny_bind (wpAny_bind (L0.here (L1.here ?_)))
  dsimp only
  refine wpAny_bind ?_
  simp only [callSpecialIfBoundUnlessNone?, bindSpecialIfBound?, specialOf]
  refine wpAny_holding (wpAny_bind (wpAny_bind (wpAny_bind (L0.here (L1.here ?_)))))
  simp only [F.slot_list_iter.bind]
  refine wpAny_bind (wpAny_askSetting (wpAny_ite ?_))
  have fin : ∀ {Q' : Option Value → Shared → Prop} {refuse : Sem Value}, Q' (some (.ref s.heap.objs.size)) { s with heap := s.heap.push { cls := .type "list_iterator", data := .fields #[.ref x, .int 0 0] } } →
      wpAny (Mod w) A (if (Value.builtin "list.__iter__" == Value.none) = true then (refuse >>= fun v => pure (some v)) else (call (.builtin "list.__iter__") [.ref x] >>= fun v => pure (some v))) Q' E s := fun hq => by
    simp only [builtin_beq_none, Bool.false_eq_true, if_false]
    refine wpAny_bind (pile_call B hs hx (.inl (by decide +kernel)) (n := "__iter__") (by decide +kernel) F.slot_list_iter.plain F.entry_list_iter (F.args_list_iter_1 _) ?_)
    show wpAny _ _ (do ret (← newFields "list_iterator" [.ref x, rawInt 0])) _ _ s
    exact wpAny_bind (wpAny_newObj_type (wpAny_pure ⟨_, rfl, wpAny_pure hq⟩))
  have done : wpAny (Mod w) A (specialOf (.ref s.heap.objs.size) "__next__") (fun a s' => wpAny (Mod w) A (match a with
      | none => do rule "iter.non-iterator"; raiseError "TypeError" s!"iter() returned non-iterator of type '{← typeNameOf (.ref s.heap.objs.size)}'"
      | some _ => pure (Value.ref s.heap.objs.size)) Q E s') E { s with heap := s.heap.push { cls := .type "list_iterator", data := .fields #[.ref x, .int 0 0] } } :=
    wpAny_specialOf (T := "list_iterator") ⟨_, Heap.get?_push_size _ rfl, rfl⟩ slot_listiter_next.lookup (wpAny_pure h)
  split
  · exact wpAny_bind (wpAny_pure (wpAny_pure (fin (wpAny_bind done))))
  · exact wpAny_tryCatch (wpAny_bind (wpAny_pure (wpAny_pure (fin (wpAny_bind done)))))
end
section
open PySem PySem.W PyProof.Rows PySem.Calls Builtin Builtin.ObjectAttr
variable {w : World} {A : Around} {X : Amb} {Λ Λ' : List Cell} {env : Env}
/-- what lies in a pile -/
noncomputable abbrev pt (T : Addr) (c : Nat) : Cell := ⟨T, fun o => ∃ t u n, o = { cls := .type "tuple", data := .seq #[.str (tx []) t, .str (tx [c]) u] n }⟩
noncomputable abbrev tabc : Cell := ⟨90, fun o => ∃ ps, o = { cls := .none, data := .fields ps } ∧ TriplesOk ps.toList⟩
structure GSc (sc : Scope) : Prop where
  k : sc.kind = .function
  co : sc.isCoroutine = false
  cell : ∀ y ∈ sc.names, y.2 ≠ .cell
  zero : sc.names.lookup (".0" : Str) = some NameKind.local
  fws : sc.names.lookup ("fws" : Str) = some NameKind.local
  part : sc.names.lookup ("part" : Str) = some NameKind.local
  emp : sc.names.lookup ("EMPTYSTRING" : Str) = some NameKind.globalImplicit
  clo : ∀ env : Env, closureFor sc env = pure []
structure SE (env : Env) (L : Addr) : Prop where
  loc : env.locals = L
  k : env.scope.kind = .function
  g : env.globals = mainGlobals
  b : env.builtins = builtinsNs
  self : env.kindOf "self" = some .local
  emp : env.kindOf "EMPTYSTRING" = some .globalImplicit
  code : env.code = .ref 94
theorem empty_tx : ("" : Str) = tx [] := rfl
theorem Ev.joinT {D : Addr} {x y : List Nat} {t u v : Tok} {Q : Value → List Cell → Prop} (hl : Has X Λ D (tup D [.str (tx x) t, .str (tx y) u]).P) (hz : x.length + y.length ≤ 1000) (h : ∀ t, Q (.str (tx (x ++ y)) t) Λ) : Ev w X A Λ (call (.builtin "str.join") [.str (tx []) v, .ref D]) Q := fun s hs => by
  obtain ⟨o, ho, n, rfl⟩ := hl.at hs
  refine join_tuple (ys := [tx x, tx y]) ⟨_, ho, rfl, n, rfl⟩ (.cons _ _ (.cons _ _ .nil)) (by simp [tx_len]; omega) fun t' k => ?_
  rw [join_tx2]
  exact ⟨Λ, hs.tok _, h _⟩
theorem elt_spec {cenv : Env} {c : Nat} {t u : Tok} {p3 p5 p6 p7 : Pos} {k1 : Nat} (hk : cenv.scope.kind = .function) (hg : cenv.globals = mainGlobals) (hf : cenv.kindOf "fws" = some .local) (hp : cenv.kindOf "part" = some .local) (he : cenv.kindOf "EMPTYSTRING" = some .globalImplicit) (B : Base w X.hb)
    (hn : Has X Λ cenv.locals (NsW [("fws", .str (tx []) t), ("part", .str (tx [c]) u)])) : Ev w X A Λ (eval (.Call (.Attribute (.Name "EMPTYSTRING" p3) "join" ⟨73, 33, 73, 49⟩) [.Tuple [.Name "fws" p5, .Name "part" p6] k1 p7] [] ⟨73, 33, 73, 62⟩) cenv) fun y _ => ∃ t, y = .str (tx [c]) t := by
  refine Ev.methS F.slot_str_join F.type_str_join ?_
  refine Ev.global B (by rfl) ⟨Str.ofString "", _, rfl, ?_⟩ hk he hg
  refine Ev.items1 (Ev.tuple ?_)
  refine Ev.items1 (Ev.local hn al_hit (Ev.items1 (Ev.local hn (al_skip (by kernel_rfl) al_hit) (Ev.items0 ⟨by show 2 ≤ sizeLine; decide, fun D => ?_⟩) hk hp)) hk hf)
  refine Ev.items0 ?_
  rw [show Str.ofString "" = tx [] from rfl]
  exact Ev.joinT (Or.inl (.head _)) (by simp) fun t => ⟨t, rfl⟩
theorem Heap.is_tab {h : Heap} {ps : Array Value} (hc : ∀ a o, a ≠ 90 → (K0 w).lookup a = some o → h.get? a = some o) (ht : h.get? 90 = some { cls := .none, data := .fields ps }) (hp : TriplesOk ps.toList) : h.IsCode 94 90 ps ∧ h.TableAt 94 90 ps := by
  obtain ⟨d, vs, sl, ho, e0, file, tf, flags, tg, inF, text, tt, e1, e2, e3, e4, e5⟩ : ∃ d vs sl, (K0 w).lookup 94 = some ⟨.type "code", d, .fields vs, sl⟩ ∧ vs[11]? = some (.ref 90) ∧ ∃ file tf flags tg inF text tt, vs.getD 11 .none = .ref 90 ∧ vs.getD 18 .none = .str file tf ∧ vs.getD 7 .none = .int flags tg ∧ vs.getD 9 .none = .bool inF ∧ vs.getD 10 .none = .int text tt :=
    ⟨_, _, _, by rfl, rfl, _, _, _, _, _, _, _, rfl, rfl, rfl, rfl, rfl⟩
  exact ⟨⟨_, vs, file, tf, flags, tg, inF, text, tt, _, hc 94 _ (by decide) ho, rfl, e1, e2, e3, e4, e5, ht, rfl, hp, by decide⟩, ⟨_, vs, hc 94 _ (by decide) ho, rfl, rfl, e0⟩, ht⟩
end
section
open PySem PySem.W PyProof.Rows PySem.Calls Builtin Builtin.ObjectAttr
variable {w : World} {A : Around} {X : Amb} {Λ Λ' : List Cell} {env : Env}
theorem two_names {h : Heap} {L : Addr} {m : Str → Option Value} {x y : Str} {va vb : Value} (hn : h.Ns L m) (ha : m x = some va) (hb : m y = some vb) : Cell.at ⟨L, NsW [(x, va), (y, vb)]⟩ h := by
  refine of_nsw hn fun z u hz => ?_
  unfold al at hz
  rw [List.lookup_cons] at hz
  by_cases e : z = x
  · subst e; rw [beq_self_eq_true] at hz; cases hz; exact ha
  · rw [show (z == x) = false by simpa using e, List.lookup_cons] at hz
    by_cases e : z = y
    · subst e; rw [beq_self_eq_true] at hz; cases hz; exact hb
    · rw [show (z == y) = false by simpa using e] at hz; cases hz
theorem sat_keeps {s₂ s₃ : Shared} {Λ : List Cell} (h : Sat ⟨s₂.heap, (· = s₂.gens), s₂.drawn, s₂.os⟩ Λ s₃) : Keeps s₂ s₃ := by
  obtain ⟨k, _, _, _, g, d, o⟩ := h
  obtain ⟨h2, g2, d2, t2, o2⟩ := s₂
  obtain ⟨h3, g3, d3, t3, o3⟩ := s₃
  have g : g3 = g2 := g
  have d : d3 = d2 := d
  have o : o3 = o2 := o
  subst g d o
  exact ⟨h3, t3, rfl, k⟩
theorem callWith_one {id : String} {pos : Pos} {first : List Value} {e : Expr} {Q : Value → Shared → Prop} {E : Value → Shared → Prop} {s : Shared} (h : wpAny (Mod w) A (eval e env) (fun v s' => wpAny (Mod w) A (call (.builtin id) (first ++ [v])) Q E s') E s)
    (he : starEach [e] env = (false, eval e env) :: starEach [] env) : wpAny (Mod w) A (callWith pos (.builtin id) first (backTo pos (starEach [e] env)) []) Q E s := by
  have hi : wpAny (Mod w) A (spliced (backTo pos (starEach [e] env))) (fun vs s' => wpAny (Mod w) A (call (.builtin id) (first ++ vs)) Q E s') E s := wpAny_items_cons (wpAny_mono h (fun v s' q => wpAny_items_nil q) fun _ _ e => e) he
  rw [he] at hi ⊢
  refine callWith_builtin (by rfl) ?_
  exact evalArgs_plain hi
set_option maxHeartbeats 8000000 in
theorem join_all {L x dx : Addr} {Ts : List Addr} {W : List Nat} {sc : Scope} {p1 p3 p5 p6 p7 p9 p10 p11 p12 p13 : Pos} {k1 k2 : Nat} {Q : Value → List Cell → Prop} (G : GSc sc) (E : SE env L) (hG : X.gp = AllBare) (B : Base w X.hb) (R : Rm A 12) (hx : Cell.at (pil x dx (Ts.map Value.ref)) X.hb)
    (hl : Ts.length = W.length) (hT : ∀ (i : Nat) (T : Addr) (c : Nat), Ts[i]? = some T → W[i]? = some c → Cell.at (pt T c) X.hb) (hz : Ts.length ≤ 100) (h : ∀ t, Q (.str (tx W) t) [nsc L [("self", .ref x)], tabc]) :
    Ev w X A [nsc L [("self", .ref x)], tabc] (eval (.Call (.Attribute (.Name "EMPTYSTRING" p1) "join" ⟨73, 15, 73, 31⟩)
      [.GeneratorExp (.Call (.Attribute (.Name "EMPTYSTRING" p3) "join" ⟨73, 33, 73, 49⟩) [.Tuple [.Name "fws" p5, .Name "part" p6] k1 p7] [] ⟨73, 33, 73, 62⟩) [⟨.Tuple [.Name "fws" p9, .Name "part" p10] k2 p11, .Name "self" p12, [], 0⟩] sc p13] [] ⟨73, 15, 73, 86⟩) env) Q := fun s hs => by
  refine MethodCall_ (Ev.useB (Ev.global (Q := fun v Λ' => v = .str (tx []) 233 ∧ Λ' = [nsc L [("self", .ref x)], tabc]) B (by rfl) ⟨rfl, rfl⟩ E.k E.emp E.g) hs fun ov s₁ Λ₁ h₁ q => ?_) (by rfl)
  obtain ⟨rfl, rfl⟩ := q
  refine getMethod_builtin (typeIs_str _ _ _) F.plainAttrs_str F.slot_str_join F.type_str_join (fun _ e => nomatch e) ?_
  refine callWith_one ?_ (by rfl)
  refine wpAny_GeneratorExp_walksQTD (cl := []) R.hd G.co (G.clo env) G.cell G.zero G.fws G.part (by decide +kernel) G.k R.room ?_ (fun _ => by rfl)
  refine Ev.useB (Ev.local (Q := fun v Λ' => v = .ref x ∧ Λ' = [nsc L [("self", .ref x)], tabc]) (Or.inl (by rw [E.loc]; exact .head _)) al_hit ⟨rfl, rfl⟩ E.k E.self) h₁ fun v s₂ Λ₂ h₂ q => ?_
  obtain ⟨rfl, rfl⟩ := q
  refine pile_iter B h₂ (Cell.at_of hx fun o e => h₂.keep _ _ e) ?_
  have h₃ := h₂.push (o := { cls := .type "list_iterator", data := .fields #[.ref x, .int 0 0] }) (P := (lit s₂.heap.objs.size x 0).P) rfl ⟨rfl, rfl⟩
  refine ⟨B.limit.keeps h₃.keep, ?_⟩
  obtain ⟨ot, hot, ps, rfl, hpt⟩ := h₃.own tabc (.tail _ (.tail _ (.head _)))
  obtain ⟨tab1, tab2⟩ := Heap.is_tab (fun a o ha e => h₃.keep _ _ (B.k a o ha e)) hot hpt
  have gen : ∀ {Qg : Value → Shared → Prop} {Eg : Value → Shared → Prop}, (∀ code h4 tk4, Sat X [lit s₂.heap.objs.size x 0, nsc L [("self", .ref x)], tabc] { s₂ with heap := h4, toks := tk4 } → Qg code { s₂ with heap := h4, toks := tk4 }) →
      wpAny (Mod w) A (genexprCode env p13 (env.qual ++ "<genexpr>") sc) Qg Eg { s₂ with heap := s₂.heap.push { cls := .type "list_iterator", data := .fields #[.ref x, .int 0 0] } } := fun hq => by
    cases hnf : codeAmong p13 ps.toList with
    | some cv => exact wpAny_genexprCode_hit E.code tab1 hnf (hq cv _ _ h₃)
    | none =>
      refine wpAny_genexprCodeX E.code tab1 tab2 hnf fun c' h4 tk4 hx4 _ _ hc4 _ ht4 _ => hq _ _ _ ?_
      obtain ⟨_, _, _, _, _, _, _, _, _, op, _, _, _, _, _, _, _, hop, hpd4, htr4, _⟩ := hc4
      exact h₃.put (s' := { s₂ with heap := h4, toks := tk4 }) (.tail (.tail .head)) hx4 ⟨_, ht4.2, _, rfl, htr4⟩ h₃.gp rfl rfl
  refine gen fun code h4 tk4 h₄ => ?_
  refine wpAny_builtinsFor (bm := 4) (by rw [E.g]; exact B.main.keeps h₄.keep) (by rfl) (by decide) (h₄.keep _ _ (B.k 4 _ (by decide) (by rfl))) rfl rfl rfl ?_
  have hxlt : ∀ b o, X.hb.get? b = some o → b ≠ s₂.heap.objs.size := fun b o e q => by
    have := h₄.new _ (.head _)
    rw [← q] at this
    rw [show X.hb.get? b = none from this] at e; cases e
  obtain ⟨vals, hvals⟩ := Classical.axiomOfChoice (r := fun (j : Nat) (v : Array Value) => (∃ t u, v = #[.str (tx []) t, .str (tx [W.getD j 0]) u]) ∧ (j < Ts.length → X.hb.IsTuple (Ts.getD j 0) v)) (fun j => by
    by_cases hj : j < Ts.length
    · obtain ⟨o, ho, t, u, n, rfl⟩ := hT j (Ts.getD j 0) (W.getD j 0) (by rw [List.getD_eq_getElem?_getD, List.getElem?_eq_getElem hj]; rfl) (by rw [List.getD_eq_getElem?_getD, List.getElem?_eq_getElem (by omega)]; rfl)
      exact ⟨_, ⟨t, u, rfl⟩, fun _ => ⟨_, ho, rfl, n, rfl⟩⟩
    · exact ⟨_, ⟨0, 0, rfl⟩, fun h => absurd h hj⟩)
  obtain ⟨xo, hxo, xn, rfl⟩ := id hx
  have hsz : (Ts.map Value.ref).toArray.size = Ts.length := by simp
  have hxI : x ≠ s₂.heap.objs.size := hxlt _ _ hxo
  have W₀ : ∀ A' : Around, A'.handled = none → WalksU PySem.Challenge.pw_wr0019_01 w A' s₂.heap.objs.size _ _ _ _ _ _ := fun A' hA => walks_pile hA s₂.heap.objs.size x dx hxI (Ts.map Value.ref).toArray (fun j => Ts.getD j 0) vals
    (fun j hj => by rw [hsz] at hj; simp [hj]) (fun j hj => by rw [hsz] at hj; obtain ⟨o, ho, _⟩ := (hvals j).2 hj; exact hxlt _ _ ho)
  have hl₄ : h4.NoLimit := B.limit.keeps h₄.keep
  have hlt4 : s₂.heap.objs.size < h4.objs.size := h₄.lt (.head _)
  refine ⟨s₂.heap.objs.size, _, _, _, _, _, _, fun _ => true, fun i y => ∃ t, y = .str (tx [W.getD i 0]) t, rfl, W₀, fun i v e => ?_, ?_, ?_, hl₄, ?_, fun href hhref => ?_, fun a h₅ tk gs hgb hag hsz₅ hk₅ Wg hat => ?_⟩
  · obtain ⟨⟨t, u, e'⟩, _⟩ := hvals i
    exact ⟨_, _, e.trans e'⟩
  · refine ⟨?_, ⟨xn, h₄.keep _ _ hxo⟩, fun k hk => ?_⟩
    · obtain ⟨o, ho, hc, hd⟩ := h₄.own _ (.head _)
      exact ⟨o, ho, hc, hd⟩
    · rw [hsz] at hk
      obtain ⟨o, ho, r⟩ := (hvals k).2 hk
      exact ⟨o, h₄.keep _ _ ho, r⟩
  · intro b hb
    show b < h4.objs.size
    rcases List.mem_cons.mp hb with rfl | hb
    · exact hlt4
    · rcases List.mem_cons.mp hb with rfl | hb
      · exact Heap.lt_size (h₄.keep _ _ hxo)
      · obtain ⟨k, hk, rfl⟩ := List.mem_map.mp hb
        have hk := List.mem_range.mp hk
        rw [hsz] at hk
        obtain ⟨o, ho, _⟩ := (hvals k).2 hk
        exact Heap.lt_size (h₄.keep _ _ ho)
  · intro hm
    obtain ⟨_, hns, _⟩ := B.limit
    obtain ⟨o, es, ep, ho, _⟩ := hns
    exact hxlt _ _ ho (List.mem_singleton.mp hm)
  · refine ⟨fun A' E' i va vb t₂ m₂ hA _ _ hP hn hma hmb hkp => wpAny_pure ⟨rfl, _, _, rfl, fun _ _ e => e⟩, fun A' E' i va vb t₂ m₂ hA _ _ hP _ hn hma hmb hkp => ?_⟩
    obtain ⟨⟨t, u, ev⟩, _⟩ := hvals i
    have ev : #[va, vb] = #[Value.str (tx []) t, .str (tx [W.getD i 0]) u] := hP.trans ev
    obtain ⟨rfl, rfl⟩ : va = .str (tx []) t ∧ vb = .str (tx [W.getD i 0]) u := by
      have := congrArg Array.toList ev
      simpa using this
    have B2 : Base w t₂.heap := B.ext fun b o e => hkp b (List.mem_range.mpr (Heap.lt_size (h₄.keep _ _ e))) (fun hm => hxlt _ _ e (List.mem_singleton.mp hm)) o (hhref b o (h₄.keep _ _ e))
    refine Ev.useB (X := ⟨t₂.heap, (· = t₂.gens), t₂.drawn, t₂.os⟩) (Λ := []) (elt_spec (cenv := genEnv sc [] h4.objs.size code builtinsNs env) G.k E.g G.fws G.part G.emp B2 (Or.inr (two_names hn hma hmb))) ⟨fun _ _ e => e, fun _ hc => (nomatch hc), fun _ hc => (nomatch hc), List.nodup_nil, rfl, rfl, rfl⟩ fun v s' Λ' h' q => ⟨q, sat_keeps h'⟩
  · have hmem : ∀ b, b ∈ s₂.heap.objs.size :: [] → ∀ o, X.hb.get? b ≠ some o := fun b hb o e => hxlt b o e (List.mem_singleton.mp hb)
    have hps : passing (fun _ => true) (Ts.map Value.ref).toArray.size 0 = List.range Ts.length := by
      unfold passing
      rw [List.drop_zero, hsz]
      exact List.filter_eq_self.mpr fun _ _ => rfl
    have hsz5 : (passing (fun _ => true) (Ts.map Value.ref).toArray.size 0).length = Ts.length := by rw [hps, List.length_range]
    have Wg2 := Wg.in4_2
    refine SC.joinGen Wg2 (fun i s' st => st.1.typeIs) hat (fun b hb => ?_) List.mem_cons_self (fun i v hv => ?_) (fun s' lt hm hacc => ?_) (by rw [hsz5, sizeLine_eq]; omega)
    · show b < h₅.objs.size
      rw [hsz₅]
      rcases List.mem_cons.mp hb with rfl | hb
      · exact Nat.lt_succ_self _
      · rcases List.mem_cons.mp hb with rfl | hb
        · exact Nat.lt_succ_of_lt hag
        · exact Nat.lt_succ_of_lt (Nat.lt_trans (List.mem_range.mp hb) hag)
    · obtain ⟨j, _, t, e⟩ := hv
      exact ⟨_, t, e⟩
    · have ht : lt.map (·.1) = W.map fun c => tx [c] := by
        have hn : lt.length = Ts.length := by
          have := hacc.1
          rw [hsz5] at this
          simpa [strValues] using this
        apply List.ext_getElem?
        intro j
        by_cases hj : j < lt.length
        · obtain ⟨i, hi, t, hv⟩ := hacc.2 j (.str lt[j].1 lt[j].2) (by simp [strValues, List.getElem?_eq_getElem hj])
          have hij : i = j := by
            have hj2 : j < Ts.length := hn ▸ hj
            rw [hps, List.getElem?_range hj2] at hi
            exact (Option.some.inj hi).symm
          subst hij
          injection hv with h1 _
          rw [List.getElem?_map, List.getElem?_eq_getElem hj, List.getElem?_map, List.getElem?_eq_getElem (show i < W.length by omega)]
          simp only [Option.map_some, h1]
          rw [List.getD_eq_getElem?_getD, List.getElem?_eq_getElem (show i < W.length by omega)]; rfl
        · rw [List.getElem?_eq_none (by simpa using Nat.le_of_not_lt hj), List.getElem?_eq_none (by simp; omega)]
      rw [ht, join_ones]
      refine ⟨joinOk_of ?_, fun t' k => ⟨[nsc L [("self", .ref x)], tabc], ?_, h t'⟩⟩
      · have e1 : ∀ l : List Nat, ((l.map fun c => tx [c]).map (·.length)).sum = l.length := by
          intro l
          induction l with
          | nil => rfl
          | cons c l ih => rw [List.map_cons, List.map_cons, List.sum_cons, ih, tx_len]; simp; omega
        rw [e1, tx_len]
        simp
        omega
      · have k5 : ∀ b o, b < h4.objs.size → b ≠ s₂.heap.objs.size → h4.get? b = some o → s'.heap.get? b = some o := fun b o hb hbI e => hm.heap b o (fun hw => by
          rcases List.mem_cons.mp hw with rfl | hw
          · exact Nat.lt_irrefl _ hb
          · exact hbI (List.mem_singleton.mp hw)) (hk₅ b o e)
        have h₅' := h₄.sub (List.sublist_cons_self _ _)
        have nd := h₄.nd
        rw [List.map_cons, List.nodup_cons] at nd
        refine ⟨fun b o e => k5 b o (Heap.lt_size (h₄.keep b o e)) (hxlt b o e) (h₄.keep b o e), fun c hc => Cell.at_of (h₅'.own c hc) fun o e => k5 _ _ (Heap.lt_size e) (fun q => nd.1 (List.mem_map.mpr ⟨c, hc, q⟩)) e, h₅'.new, h₅'.nd, ?_, hm.drawn.trans h₄.d, hm.os.trans h₄.os⟩
        have := h₄.gp
        rw [hG] at this ⊢
        exact AllBare.moved (AllBare.push this hgb) hm.gens
end
section
open PySem PySem.W PyProof.Rows PySem.Calls Builtin Builtin.ObjectAttr
variable {w : World} {A : Around} {X : Amb} {Λ Λ' : List Cell} {env : Env}
theorem str_spec {x dx : Addr} {Ts : List Addr} {W : List Nat} {Q : Value → List Cell → Prop} (hG : X.gp = AllBare) (B : Base w X.hb) (R : Rm A 13) (hx : Cell.at (pil x dx (Ts.map Value.ref)) X.hb)
    (hl : Ts.length = W.length) (hT : ∀ (i : Nat) (T : Addr) (c : Nat), Ts[i]? = some T → W[i]? = some c → Cell.at (pt T c) X.hb) (hz : Ts.length ≤ 100) (h : ∀ t, Q (.str (tx W) t) [tabc]) : Ev w X A [tabc] (call (.ref 95) [.ref x]) Q := by
  refine Ev.trim (P := fun v Λ' => (∃ t, v = .str (tx W) t) ∧ ∃ L l, Λ' = [nsc L l, tabc]) ?_ fun v Λ' ⟨⟨t, e⟩, L, l, e'⟩ => ⟨[tabc], by rw [e']; exact List.sublist_cons_self _ _, e ▸ h t⟩
  refine Ev.enter (k := 12) (binds := [("self", .ref x)]) B R (by rfl) (by decide) (by kernel_rfl) (by rfl) (by rfl) (by rfl) (by rfl) fun L A' R' => ?_
  dsimp only [List.reverse, List.reverseAux]
  refine Ev.seq (Ev.retE ?_)
  refine join_all (L := L) ⟨rfl, rfl, by decide, by rfl, by rfl, by rfl, by rfl, fun _ => by rfl⟩ ⟨rfl, rfl, rfl, rfl, by rfl, by rfl, rfl⟩ hG B R' hx hl hT hz fun t => ⟨⟨t, rfl⟩, L, _, rfl⟩
theorem meets_str_in {v : Value} : MeetsIn PySem.Challenge.pw_wr0019_01 w (Builtin.«str.__new__» ⟨[.type "str", v], []⟩) (fun A R s => wpAny (Mod w) A.in1 (Builtin.Str.strOf v) (fun r s' => R (.ok (.ret r)) s') (fun e s' => R (.error e) s') s) :=
  .of_wp fun A R s h => by
    rw [str_new_tree v]
    refine wpAny_bind (wpAny_pure ?_)
    refine wpAny_bind (wpAny_of_eq isSubtype_str_str ?_)
    exact wpAny_bind (wpAny_mono h (fun r s' h' => wpAny_pure ⟨_, rfl, h'⟩) fun _ _ e => e)
/-- str(pile) -/
theorem Ev.strP {x dx : Addr} {Ts : List Addr} {W : List Nat} {Q : Value → List Cell → Prop} (hG : X.gp = AllBare) (B : Base w X.hb) (R : Rm A 16) (hx : Cell.at (pil x dx (Ts.map Value.ref)) X.hb)
    (hl : Ts.length = W.length) (hT : ∀ (i : Nat) (T : Addr) (c : Nat), Ts[i]? = some T → W[i]? = some c → Cell.at (pt T c) X.hb) (hz : Ts.length ≤ 100) (h : ∀ t, Q (.str (tx W) t) [tabc]) : Ev w X A [tabc] (call (.type "str") [.ref x]) Q := fun s hs => by
  refine callType_newIn F.called_str (by decide) (F.typeCall_str_1 _) (F.newCall_str_1 _) (fun obj => F.args_object_init_2 obj _) F.entry_str_new meets_str_in ?_
  have R2 : Rm A.in1.in1 13 := (Rm.in1 (k := 14) (Rm.in1 (k := 15) R)).le (by decide)
  have X1 := (B.ext hs.keep).in1
  obtain ⟨o, ho, n, rfl⟩ := Cell.at_of hx fun o e => hs.keep _ _ e
  have L0 : Looks (Mod w) s.heap (typeOf (.ref x)) (.ref 120) := (Looks.ld ho).andThen .now
  have L1 : Looks (Mod w) s.heap (typeLookup (.ref 120) "__str__") (some (.ref 95)) := looks_findIn X1 (by kernel_rfl)
  show wpAny (Mod w) A.in1.in1 (Builtin.Str.strOf (.ref x)) _ _ s
  unfold Builtin.Str.strOf
  rw [if_neg (by show ¬ (false = true); decide)]
  refine wpAny_bind (wpAny_cRoomFor R2.line ?_)
  refine wpAny_bind ?_
  unfold callSpecial? specialOf
  refine wpAny_bind (wpAny_bind (L0.here (L1.here ?_)))
  dsimp only
  refine wpAny_holding (wpAny_bind ((bind_fn X1 (.ref x) (f := 95) (by kernel_rfl)).here (wpAny_bind ?_)))
  refine Ev.useB (str_spec (Q := fun v Λ' => (∃ t, v = .str (tx W) t) ∧ Λ' = [tabc]) hG B R2 hx hl hT hz fun t => ⟨⟨t, rfl⟩, rfl⟩) hs fun v s' Λ' h' q => ?_
  obtain ⟨⟨t, rfl⟩, rfl⟩ := q
  refine wpAny_pure ?_
  dsimp only
  refine wpAny_bind (m := asStr? (.str (tx W) t)) (wpAny_pure ?_)
  rw [if_neg (by show ¬ (false = true); decide)]
  exact wpAny_pure ⟨typeIs_str _ _ _, _, h', h t⟩
end
section
open PySem PySem.W PyProof.Rows PySem.Calls
variable {w : World} {A : Around} {X : Amb} {Λ Λ' : List Cell} {env : Env}
noncomputable abbrev tcs (Ts : List Addr) (W : List Nat) : List Cell := List.zipWith pt Ts W
theorem tcs_snoc {Ts : List Addr} {W : List Nat} (h : Ts.length = W.length) (T : Addr) (c : Nat) : tcs (Ts ++ [T]) (W ++ [c]) = tcs Ts W ++ [pt T c] := List.zipWith_append h
theorem tcs_mem {Ts : List Addr} {W : List Nat} {i : Nat} {T : Addr} {c : Nat} (hT : Ts[i]? = some T) (hc : W[i]? = some c) : pt T c ∈ tcs Ts W := by
  refine List.mem_of_getElem? (i := i) ?_
  rw [List.getElem?_zipWith, hT, hc]
theorem tcs_take {Ts : List Addr} {W : List Nat} (a : Nat) : (tcs (Ts.take a) (W.take a)).Sublist (tcs Ts W) := by
  rw [tcs, ← List.take_zipWith]; exact List.take_sublist _ _
theorem Ev.push3 {x dx : Addr} {Ts : List Addr} {W : List Nat} {c : Nat} {t u : Tok} {Q : Value → List Cell → Prop} (B : Base w X.hb) (R : Rm A 4) (hl : Ts.length = W.length) (hz : Ts.length ≤ 90) (h : ∀ T, Q .none (pil x dx ((Ts ++ [T]).map Value.ref) :: dic dx :: (tcs (Ts ++ [T]) (W ++ [c]) ++ Λ))) :
    Ev w X A (pil x dx (Ts.map Value.ref) :: dic dx :: (tcs Ts W ++ Λ)) (call (.ref 66) [.ref x, .str (tx []) t, .str (tx [c]) u]) Q := by
  refine Ev.conv (P := fun v Λ' => v = .none ∧ ∃ T, Λ' = tup T [.str (tx []) t, .str (tx [c]) u] :: pil x dx (Ts.map Value.ref ++ [.ref T]) :: dic dx :: (tcs Ts W ++ Λ)) (push_spec B R (by rw [List.length_map]; omega) fun T => ⟨rfl, T, rfl⟩) fun v Λ' s hs ⟨e, T, e'⟩ => ?_
  subst e e'
  refine ⟨_, ?_, h T⟩
  rw [tcs_snoc hl, List.map_append]
  have h1 : Sat X (pt T c :: pil x dx (Ts.map Value.ref ++ [.ref T]) :: dic dx :: (tcs Ts W ++ Λ)) s := hs.weak fun o ⟨n, e⟩ => ⟨t, u, n, e⟩
  refine h1.perm ?_
  rw [List.append_assoc]
  have p1 : (pil x dx (Ts.map Value.ref ++ [.ref T]) :: dic dx :: (tcs Ts W ++ ([pt T c] ++ Λ))).Perm (pt T c :: pil x dx (Ts.map Value.ref ++ [.ref T]) :: dic dx :: (tcs Ts W ++ Λ)) :=
    (List.perm_middle (l₁ := pil x dx (Ts.map Value.ref ++ [Value.ref T]) :: dic dx :: tcs Ts W) (l₂ := Λ) (a := pt T c))
  exact p1
theorem move_pre {pre a : List Cell} : (a ++ pre).Perm (pre ++ a) := List.perm_append_comm
theorem Ev.pushN (pre : List Cell) {x dx : Addr} {Ts : List Addr} {W : List Nat} {c : Nat} {t u : Tok} {Q : Value → List Cell → Prop} (B : Base w X.hb) (R : Rm A 4) (hl : Ts.length = W.length) (hz : Ts.length ≤ 90) (h : ∀ T, Q .none (pre ++ (pil x dx ((Ts ++ [T]).map Value.ref) :: dic dx :: tcs (Ts ++ [T]) (W ++ [c])))) :
    Ev w X A (pre ++ (pil x dx (Ts.map Value.ref) :: dic dx :: tcs Ts W)) (call (.ref 66) [.ref x, .str (tx []) t, .str (tx [c]) u]) Q := by
  refine Ev.perm (Λ' := pil x dx (Ts.map Value.ref) :: dic dx :: (tcs Ts W ++ pre)) (move_pre (a := pil x dx (Ts.map Value.ref) :: dic dx :: tcs Ts W)) ?_
  refine Ev.conv (P := fun v Λ' => v = .none ∧ ∃ T, Λ' = pil x dx ((Ts ++ [T]).map Value.ref) :: dic dx :: (tcs (Ts ++ [T]) (W ++ [c]) ++ pre)) (Ev.push3 B R hl hz fun T => ⟨rfl, T, rfl⟩) fun v Λ' s hs ⟨e, T, e'⟩ => ?_
  subst e e'
  exact ⟨_, hs.perm (move_pre (a := pre) (pre := pil x dx ((Ts ++ [T]).map Value.ref) :: dic dx :: tcs (Ts ++ [T]) (W ++ [c]))), h T⟩
theorem Ev.popN (pre : List Cell) {x dx : Addr} {Ts : List Addr} {W : List Nat} {a : Nat} {t : Tok} {Q : Value → List Cell → Prop} (B : Base w X.hb) (R : Rm A 4) (hz : Ts.length ≤ 90) (ha : a ≤ Ts.length)
    (h : ∀ D, Q (.ref D) (lst D ((Ts.drop a).map Value.ref) :: (pre ++ (pil x dx ((Ts.take a).map Value.ref) :: dic dx :: tcs Ts W)))) :
    Ev w X A (pre ++ (pil x dx (Ts.map Value.ref) :: dic dx :: tcs Ts W)) (call (.ref 74) [.ref x, .int a t]) Q := by
  refine Ev.perm (Λ' := pil x dx (Ts.map Value.ref) :: dic dx :: (tcs Ts W ++ pre)) (move_pre (a := pil x dx (Ts.map Value.ref) :: dic dx :: tcs Ts W)) ?_
  refine Ev.conv (P := fun v Λ' => ∃ D, v = .ref D ∧ Λ' = lst D ((Ts.map Value.ref).drop a) :: pil x dx ((Ts.map Value.ref).take a) :: dic dx :: (tcs Ts W ++ pre)) (pop_spec B R (by rw [List.length_map]; omega) (by rw [List.length_map]; exact ha) fun D => ⟨D, rfl, rfl⟩) fun v Λ' s hs ⟨D, e, e'⟩ => ?_
  subst e e'
  rw [← List.map_drop, ← List.map_take] at hs
  exact ⟨_, hs.perm ((move_pre (a := pre) (pre := pil x dx ((Ts.take a).map Value.ref) :: dic dx :: tcs Ts W)).cons _), h D⟩
theorem Ev.itemPt {value slice : Expr} {pos : Pos} {T : Addr} {c : Nat} {Q : Value → List Cell → Prop}
    (h : Ev w X A Λ (eval value env) fun o Λ₁ => Ev w X A Λ₁ (eval slice env) fun i Λ₂ => o = .ref T ∧ (∃ t, i = .int 1 t) ∧ Has X Λ₂ T (pt T c).P ∧ ∀ t, Q (.str (tx [c]) t) Λ₂)
    (hs' : ∀ o i, subscripted slice false o i = operate [o, i] (getItem o i) := by intro _ _; with_unfolding_all rfl) : Ev w X A Λ (eval (.Subscript value slice pos) env) Q := fun s hs =>
  Subscript_ (h.useB hs fun o s₁ Λ₁ h₁ q => q.useB h₁ fun i s₂ Λ₂ h₂ q => by
    obtain ⟨rfl, ⟨t, rfl⟩, hl, q⟩ := q
    obtain ⟨o, ho, t1, u1, n, rfl⟩ := hl.at h₂
    have hT : s₂.TypeIs (.ref T) "tuple" := ⟨_, ho, rfl⟩
    exact tail_any hT slot_tuple_getitem.lookup (PyProof.Rows.getItem_tuple (j := 1) (x := .str (tx [c]) u1) ⟨_, ho, rfl, n, rfl⟩ (by decide) (by decide) (by rfl) rfl ⟨Λ₂, h₂, q _⟩) (hs' _ _))
end
section
open PySem PySem.W PyProof.Rows PySem.Calls
variable {w : World} {A : Around} {X : Amb} {Λ Λ' : List Cell} {env : Env}
/-- what a pile holds behind one step of the counting -/
noncomputable def cnt (c low : Nat) (W : List Nat) : List Nat := (if c < 5 then W.take (4 - c) ++ [W.getD (4 - c) 0 + 1] else []) ++ List.replicate c low
theorem counted_spec {x dx : Addr} {Ts : List Addr} {W : List Nat} {c low : Nat} {tc tl : Tok} {Q : Value → List Cell → Prop} (B : Base w X.hb) (R : Rm A 6) (hl : Ts.length = 5) (hW : W.length = 5) (hc : c ≤ 5) (hlow : low ≤ 60000) (hWl : ∀ y ∈ W, y ≤ 60000)
    (h : ∀ Ts', Ts'.length = (cnt c low W).length → Q .none (pil x dx (Ts'.map Value.ref) :: dic dx :: tcs Ts' (cnt c low W))) :
    Ev w X A (pil x dx (Ts.map Value.ref) :: dic dx :: tcs Ts W) (call (.ref 197) [.ref x, .int c tc, .int low tl]) Q := by
  refine Ev.trim (P := fun v Λ' => v = .none ∧ ∃ Ts', Ts'.length = (cnt c low W).length ∧ ∃ l, Λ' = l ++ (pil x dx (Ts'.map Value.ref) :: dic dx :: tcs Ts' (cnt c low W))) ?_ fun v Λ' ⟨e, Ts', e1, l, e2⟩ => ⟨_, by rw [e2]; exact List.sublist_append_right _ _, e ▸ h Ts' e1⟩
  refine Ev.enter (k := 5) (binds := [("pile", .ref x), ("carry", .int c tc), ("low", .int low tl)]) B R (by rfl) (by decide) (by kernel_rfl) (by rfl) (by rfl) (by rfl) (by rfl) fun L A' R' => ?_
  dsimp only [List.reverse, List.reverseAux]
  repeat walk_at "S"
  refine Ev.methF (x := x) (dx := dx) (vs := Ts.map Value.ref) (f := 74) (by assumption) (by kernel_rfl) (by rfl) (by decide) (by kernel_rfl) (by decide) ?_
  repeat walk_at "S"
  refine ⟨rfl, by walk_at "mem", by walk_at "mem", ?_⟩
  repeat walk_at "S"
  refine Ev.max2 R' fun tm => ?_
  have ea : (if (4 : Int) - c > 0 then (4 : Int) - c else 0) = ((4 - c : Nat) : Int) := by split <;> omega
  rw [ea]
  repeat walk_at "S"
  refine Ev.popN [_] (Ts := Ts) (W := W) (a := 4 - c) (by assumption) (R'.le (by decide)) (by omega) (by omega) fun D => ?_
  dsimp only [List.nil_append, List.cons_append]
  repeat walk_at "S"
  have keyD : ∀ (j : Nat), j < 5 → Ts[j]? = some (Ts.getD j 0) := fun j hj => by rw [List.getD_eq_getElem?_getD, List.getElem?_eq_getElem (by omega)]; rfl
  have keyW : ∀ (j : Nat), j < 5 → W[j]? = some (W.getD j 0) := fun j hj => by rw [List.getD_eq_getElem?_getD, List.getElem?_eq_getElem (by omega)]; rfl
  have keep : ∀ (j : Nat), j < 5 → W.getD j 0 ≤ 60000 := fun j hj => hWl _ (List.mem_of_getElem? (keyW j hj))
  refine Ev.mono (Q := fun f Λ' => f = .next ∧ ∃ Ts1 W1, W1 = (if c < 5 then W.take (4 - c) ++ [W.getD (4 - c) 0 + 1] else []) ∧ Ts1.length = W1.length ∧ Λ' = lst D ((Ts.drop (4 - c)).map Value.ref) :: nsc L [("off", .ref D), ("low", .int low tl), ("carry", .int c tc), ("pile", .ref x)] :: pil x dx (Ts1.map Value.ref) :: dic dx :: tcs Ts1 W1) (Ev.ifs ?_) ?_
  · repeat walk_at "S"
    refine ⟨fun h0 => ?_, fun h0 => ?_⟩
    · have h0 : c < 5 := by have := of_decide_eq_true h0; omega
      repeat walk_at "S"
      refine Ev.methF (x := x) (dx := dx) (vs := (Ts.take (4 - c)).map Value.ref) (f := 66) (by assumption) (by kernel_rfl) (by rfl) (by decide) (by kernel_rfl) (by decide) ?_
      repeat walk_at "S"
      refine ⟨rfl, by walk_at "mem", by walk_at "mem", ?_⟩
      repeat walk_at "S"
      refine Ev.itemPt (T := Ts.getD (4 - c) 0) (c := W.getD (4 - c) 0) ?_
      refine Ev.subV (l := D) (xs := (Ts.drop (4 - c)).map Value.ref) (k := 0) (v := .ref (Ts.getD (4 - c) 0)) ?_
      repeat walk_at "S"
      refine ⟨rfl, ⟨_, rfl⟩, fun s hs => list_of (hs.own _ (by walk_at "mem")), by decide, by decide, ?_, ?_⟩
      · show ((Ts.drop (4 - c)).map Value.ref)[0]? = _
        rw [List.getElem?_map, List.getElem?_drop, Nat.add_zero, keyD _ (by omega)]; rfl
      repeat walk_at "S"
      refine ⟨rfl, ⟨_, rfl⟩, Or.inl (List.Mem.tail _ (List.Mem.tail _ (List.Mem.tail _ (List.Mem.tail _ (tcs_mem (keyD _ (by omega)) (keyW _ (by omega))))))), fun t1 => ?_⟩
      repeat walk_at "S"
      refine Ev.ord (by rw [tx_len]; rfl) fun t2 => ?_
      repeat walk_at "S"
      have e1 : ((tx [W.getD (4 - c) 0]).cps.getD 0 0 : Nat) = W.getD (4 - c) 0 := rfl
      rw [e1]
      have hk := keep (4 - c) (by omega)
      refine Ev.chr (by omega) (by omega) fun t3 => ?_
      repeat walk_at "S"
      have e2 : (⟨#[((W.getD (4 - c) 0 : Nat) + (1 : Int)).toNat]⟩ : Str) = tx [W.getD (4 - c) 0 + 1] := by
        rw [tx_one]; congr 2
      rw [e2]
      refine Ev.sub (Λ' := lst D ((Ts.drop (4 - c)).map Value.ref) :: nsc L [("off", .ref D), ("low", .int low tl), ("carry", .int c tc), ("pile", .ref x)] :: pil x dx ((Ts.take (4 - c)).map Value.ref) :: dic dx :: tcs (Ts.take (4 - c)) (W.take (4 - c))) (((((tcs_take _).cons_cons _).cons_cons _).cons_cons _).cons_cons _) ?_
      refine Ev.pushN [_, _] (Ts := Ts.take (4 - c)) (W := W.take (4 - c)) (c := W.getD (4 - c) 0 + 1) (by assumption) (R'.le (by decide)) (by simp [hl, hW]) (by simp; omega) fun T => ?_
      refine ⟨noref_none, ?_⟩
      repeat walk_at "S"
      refine ⟨rfl, _, _, (if_pos h0).symm, ?_, rfl⟩
      simp [hl, hW]
    · have h0 : ¬ c < 5 := by have := of_decide_eq_false h0; omega
      have e : Ts.take (4 - c) = [] := by rw [show 4 - c = 0 by omega]; rfl
      rw [e]
      refine Ev.sub (Λ' := lst D ((Ts.drop (4 - c)).map Value.ref) :: nsc L [("off", .ref D), ("low", .int low tl), ("carry", .int c tc), ("pile", .ref x)] :: pil x dx (([] : List Addr).map Value.ref) :: dic dx :: tcs [] []) (((((List.nil_sublist _).cons_cons _).cons_cons _).cons_cons _).cons_cons _) ?_
      repeat walk_at "S"
      exact ⟨rfl, [], [], (if_neg h0).symm, rfl, rfl⟩
  rintro f Λ' ⟨rfl, Ts1, W1, hW1, hl1, rfl⟩
  have hlen : W1.length ≤ 5 := by rw [hW1]; split <;> simp <;> omega
  repeat walk_at "S"
  refine Ev.for ?_
  repeat walk_at "S"
  refine Ev.iterRange (Or.inl (by walk_at "mem")) (by decide) (by decide) (by omega) (by omega) fun it => ?_
  refine EvC.range (n := c) R' (fun i Λ => ∃ r m l Ts2, Ts2.length = W1.length + i ∧ Λ = rng r 0 m :: lst D ((Ts.drop (4 - c)).map Value.ref) :: nsc L l :: pil x dx (Ts2.map Value.ref) :: dic dx :: tcs Ts2 (W1 ++ List.replicate i low) ∧ al l "low" = some (.int low tl) ∧ al l "pile" = some (.ref x)) ?_ ?_ ⟨_, _, _, Ts1, by rw [hl1]; rfl, by rw [List.replicate_zero, List.append_nil], by walk_at "al", by walk_at "al"⟩ (by split <;> omega)
  · rintro i Λ t hi ⟨r, m, l, Ts2, hl2, rfl, a1, a2⟩
    repeat walk_at "S"
    refine Ev.methF (x := x) (dx := dx) (vs := Ts2.map Value.ref) (f := 66) (by assumption) (by kernel_rfl) (by rfl) (by decide) (by kernel_rfl) (by decide) ?_
    repeat walk_at "S"
    refine ⟨rfl, by walk_at "mem", by walk_at "mem", ?_⟩
    repeat walk_at "S"
    refine Ev.chr (by omega) (by omega) fun t3 => ?_
    repeat walk_at "S"
    have e2 : (⟨#[(low : Int).toNat]⟩ : Str) = tx [low] := by rw [tx_one]; congr 2
    rw [e2]
    refine Ev.pushN [_, _, _, _] (Ts := Ts2) (W := W1 ++ List.replicate i low) (c := low) (by assumption) (R'.le (by decide)) (by rw [hl2, List.length_append, List.length_replicate]) (by omega) fun T => ?_
    refine ⟨noref_none, ?_⟩
    repeat walk_at "S"
    refine ⟨_, rfl, r, m, ("k", .int (0 + i) t) :: l, Ts2 ++ [T], by rw [List.length_append, hl2]; rfl, ?_, by walk_at "al", by walk_at "al"⟩
    rw [List.append_assoc, ← List.replicate_succ']
    rfl
  · rintro Λ ⟨r, m, l, Ts2, hl2, rfl, a1, a2⟩
    repeat walk_at "S"
    have e : W1 ++ List.replicate c low = cnt c low W := by rw [hW1]; rfl
    exact ⟨rfl, Ts2, by rw [hl2, ← e, List.length_append, List.length_replicate], [_, _, _], by rw [← e]; rfl⟩
end
section
open PySem PySem.W PyProof.Rows PySem.Calls
variable {w : World} {A : Around} {X : Amb} {Λ Λ' : List Cell} {env : Env}
section
variable {Q : Value → List Cell → Prop}
theorem has_at {l : Addr} {ns : List Int} (h : Has X Λ l (ilst l ns).P) {s : Shared} (hs : Sat X Λ s) : ∃ vs n, s.heap.get? l = some { cls := .type "list", data := .seq vs.toArray n } ∧ IntsAre vs ns := let ⟨o, ho, vs, n, hi, e⟩ := h.at hs; ⟨vs, n, e ▸ ho, hi⟩
theorem Ev.addII {a b : Addr} {ns ms : List Int} (ha : Has X Λ a (ilst a ns).P) (hb : Has X Λ b (ilst b ms).P) (hz : ns.length + ms.length ≤ 1000) (h : ∀ D, Q (.ref D) (ilst D (ns ++ ms) :: Λ)) : Ev w X A Λ (binaryOp .Add (.ref a) (.ref b)) Q := fun s hs => by
  obtain ⟨vs, n, ho, hi⟩ := has_at ha hs
  obtain ⟨us, m, ho', hj⟩ := has_at hb hs
  refine PySem.P.add_list ho ho' ?_ (by rw [List.size_toArray, List.size_toArray, hi.length, hj.length, sizeLine_eq]; omega)
  refine ⟨_, hs.push rfl ⟨vs ++ us, 0, hi.append hj, ?_⟩, h _⟩
  simp
theorem IntsAre.rep {vs : List Value} {ns : List Int} (h : IntsAre vs ns) : ∀ k : Nat, IntsAre (List.replicate k vs).flatten (List.replicate k ns).flatten
  | 0 => .nil
  | k + 1 => by rw [List.replicate_succ, List.replicate_succ, List.flatten_cons, List.flatten_cons]; exact h.append (IntsAre.rep h k)
theorem Ev.mulIL {a : Addr} {ns : List Int} {x : Int} {u : Tok} (ha : Has X Λ a (ilst a ns).P) (h0 : 0 ≤ x) (h1 : x < 2 ^ 20) (hz : ns.length * x.toNat ≤ 1000) (h : ∀ D, Q (.ref D) (ilst D (List.replicate x.toNat ns).flatten :: Λ)) : Ev w X A Λ (binaryOp .Mult (.ref a) (.int x u)) Q := fun s hs => by
  obtain ⟨vs, n, hl, hi⟩ := has_at ha hs
  have hsz : vs.toArray.size * x.toNat ≤ 2 ^ 24 := by rw [List.size_toArray, hi.length]; omega
  refine wpAny_binaryOp_repeat_ref (T := "list") (U := "int") (by decide) ⟨_, hl, rfl⟩ (fun s' => typeIs_int s' x u) noFill_list_mul F.fills_int_mul F.slot_int_rmul repeat_list F.slot_int_index.lookup
    (call_meets F.slot_int_rmul (typeIs_int s x u) F.entry_int_rmul (F.args_int_rmul_2 _ _) (int___rmul___int_list x u a vs.toArray n)
      ⟨hl, rfl, ⟨_, hl, rfl⟩, call_meets F.slot_list_mul ⟨_, hl, rfl⟩ F.entry_list_mul (F.args_list_mul_2 _ _)
        (AutoListH.list___mul___list_int_3 a vs.toArray n x u (by simp [Builtin.List.listFitsIndex]; omega) (by omega) (by simp [Builtin.List.listTooLong, sizeLine]; simp at hsz; omega))
        ⟨hl, ?_⟩⟩)
  refine ⟨_, hs.push rfl ⟨(List.replicate x.toNat vs).flatten, 0, IntsAre.rep hi _, ?_⟩, h _⟩
  rw [listMul_foldl_if]
theorem Ev.sliceIL {value lower : Expr} {p pos : Pos} {l : Addr} {ns : List Int} {a : Nat}
    (h : Ev w X A Λ (eval value env) fun o Λ₁ => Ev w X A Λ₁ (evalPart (some lower) env) fun vl Λ₂ => o = .ref l ∧ (∃ i t, vl = .int i t ∧ i = a) ∧ Has X Λ₂ l (ilst l ns).P ∧ ns.length ≤ 1000 ∧ ∀ D, Q (.ref D) (ilst D (ns.drop a) :: Λ₂))
    (ht : ∀ o r, letTemporaryGo value o r = Pure.pure () := by intro _ _; rfl) : Ev w X A Λ (eval (.Subscript value (.Slice (some lower) none none p) pos) env) Q := fun s hs => by
  refine wpAny_Subscript_list_slice (h.useB hs fun o s₁ Λ₁ h₁ q => q.useB h₁ fun vl s₂ Λ₂ h₂ q => ?_) ht
  obtain ⟨rfl, ⟨i, t, rfl, rfl⟩, hl, hz, q⟩ := q
  obtain ⟨vs, n, ho, hi⟩ := has_at hl h₂
  rw [evalPart_none]
  refine wpAny_pure ⟨l, vs.toArray, some (a : Int), none, rfl, ⟨_, ho, rfl, n, rfl⟩, by rw [List.size_toArray, hi.length, sizeLine_eq]; omega, .int _ _, .none, ?_⟩
  have h₃ : Sat X Λ₂ { s₂ with heap := s₂.heap.push { cls := .type "slice", data := .fields #[.int a t, .none, .none] } } := h₂.ext (s' := { s₂ with heap := s₂.heap.push { cls := .type "slice", data := .fields #[.int a t, .none, .none] } }) (fun b o e => Heap.get?_push_of_some _ e) h₂.gp rfl rfl
  have h₄ := h₃.push (o := { cls := .type "list", data := .seq (slicePick vs.toArray (some (a : Int)) none none) }) (P := (ilst (s₂.heap.push { cls := .type "slice", data := .fields #[.int a t, .none, .none] }).objs.size (ns.drop a)).P) rfl ⟨vs.drop a, 0, hi.drop a, by rw [slicePick_from']⟩
  rw [Heap.size_push] at h₄
  exact ⟨_, h₄, q _⟩
theorem Ev.joinL {D : Addr} {l : List Nat} {v : Tok} (hl : Has X Λ D (slst D (l.map fun c => tx [c])).P) (hz : l.length ≤ 1000) (h : ∀ t, Q (.str (tx l) t) Λ) : Ev w X A Λ (call (.builtin "str.join") [.str (tx []) v, .ref D]) Q := fun s hs => by
  obtain ⟨vs, hl, hi⟩ := has_slst hl hs
  refine join_list hl hi ?_ fun t' k => ?_
  · have e1 : ∀ l : List Nat, ((l.map fun c => tx [c]).map (·.length)).sum = l.length := by
      intro l
      induction l with
      | nil => rfl
      | cons c l ih => rw [List.map_cons, List.map_cons, List.sum_cons, ih, tx_len]; simp; omega
    rw [e1, tx_len]; simp; omega
  · rw [join_ones]; exact ⟨Λ, hs.tok _, h _⟩
theorem Ev.isNB {c d : Bool} (h : Q (.bool (c != d)) Λ) : Ev w X A Λ (compareOp .IsNot (.bool c) (.bool d)) Q := fun s hs => isnot_bool ⟨Λ, hs, h⟩
theorem Ev.notB {c : Bool} (h : Q (.bool (!c)) Λ) : Ev w X A Λ (unaryOp .Not (.bool c)) Q := fun s hs => PyProof.Rows.not_of (wpAny_truthy_bool ⟨Λ, hs, h⟩)
theorem Ev.instB {n : Int} {u : Tok} (h : Q (.bool false) Λ) : Ev w X A Λ (call (.builtin "isinstance") [.int n u, .type "bool"]) Q := fun s hs => IsiPair.int_bool ⟨Λ, hs.tok _, h⟩
theorem Ev.and2 {e₁ e₂ : Expr} {pos : Pos} (h : Ev w X A Λ (eval e₁ env) fun v Λ₁ => Ev w X A Λ₁ (truthy v) fun c Λ₂ => (c = true → Ev w X A Λ₂ (eval e₂ env) Q) ∧ (c = false → Q v Λ₂)) : Ev w X A Λ (eval (.BoolOp .And [e₁, e₂] pos) env) Q := fun s hs =>
  BoolOp_and (h.useB hs fun v s₁ Λ₁ h₁ q => q.useB h₁ fun c s₂ Λ₂ h₂ q => by
    cases c with
    | true => exact BoolOp_one (q.1 rfl s₂ h₂)
    | false => exact ⟨Λ₂, h₂, q.2 rfl⟩)
theorem Ev.pow4 {k : Nat} {t u : Tok} (hk : k < 5) (h : ∀ t, Q (.int ((4 : Int) ^ k) t) Λ) : Ev w X A Λ (binaryOp .Pow (.int 4 t) (.int k u)) Q := fun s hs => by
  by_cases h0 : k = 0
  · subst h0
    exact AutoIntOps.pow_0 (by decide) (by decide) ⟨Λ, hs.tok _, h _⟩
  · refine AutoIntOps.pow_4 (by omega) (by simpa using h0) (by decide) (by decide) ?_ ⟨Λ, hs.tok _, ?_⟩
    · have : k = 1 ∨ k = 2 ∨ k = 3 ∨ k = 4 := by omega
      rcases this with rfl | rfl | rfl | rfl <;> decide +kernel
    · have := h s.toks
      rwa [Int.toNat_natCast]
end
end
section
open PySem PySem.W PyProof.Rows PySem.Calls
variable {w : World} {A : Around} {X : Amb} {Λ Λ' : List Cell} {env : Env}
/-- lists of numbers, gathered -/
noncomputable def LsAre (f : Nat → List Int) : Nat → List Value → List Cell → Prop
  | 0, ys, cs => ys = [] ∧ cs = []
  | n + 1, ys, cs => ∃ a ys' cs', ys = ys' ++ [.ref a] ∧ cs = ilst a (f n) :: cs' ∧ LsAre f n ys' cs'
theorem coll_lists {f : Nat → List Int} {n ys cs} (hC : Coll (fun _ => true) (fun i y c => ∃ a, y = .ref a ∧ c = [ilst a (f i)]) n ys cs) : LsAre f n ys cs := by
  induction hC with
  | nil => exact ⟨rfl, rfl⟩
  | skip h => exact absurd h Bool.noConfusion
  | take h hG hC ih =>
    obtain ⟨a, rfl, rfl⟩ := hG
    exact ⟨a, _, _, rfl, rfl, ih⟩
theorem Ev.compL {elt iter : Expr} {x : Str} {px : Pos} {scope : Scope} {cl : List (Str × Addr)} {pos : Pos} {Q : Value → List Cell → Prop} (f : Nat → List Int)
    (hclos : closureFor scope env = Pure.pure cl)
    (h : Ev w X A Λ (eval iter env) fun xv Λ₁ => ∃ n P Λ₂, IterOf w X A xv Λ₁ Λ₂ n P ∧ n ≤ sizeLine ∧
      (∀ hb C i v, (∀ b o, X.hb.get? b = some o → hb.get? b = some o) → Cell.at (nsc C [(x, v)]) hb → (∀ c ∈ Λ₂, c.at hb) → i < n → P i v → Ev w ⟨hb, X.gp, X.d, X.os⟩ A [] (eval elt (compEnvC scope cl C env)) fun y Λ' => ∃ a, y = .ref a ∧ Λ' = [ilst a (f i)]) ∧
      ∀ D ys cs, LsAre f n ys cs → Q (.ref D) (lst D ys :: (cs ++ Λ₂)))
    (hnames : scope.names.all (fun y => y.2 != .local || scope.names.lookup y.1 == some .local) = true := by rfl) (hcs : ∀ n, cellsFrom n scope.names [] = [] := by intro _; rfl) (hx : scope.names.lookup x = some .local := by rfl)
    (hkind : scope.kind = .function := by rfl) (hs : ∀ x, foldedSetIterable iter env x = Pure.pure x := by intro _; rfl) : Ev w X A Λ (eval (.ListComp elt [⟨.Name x px, iter, [], 0⟩] scope pos) env) Q := by
  refine Ev.compE hclos hnames (h.mono fun xv Λ₁ q => ?_) hkind hs
  obtain ⟨n, P, Λ₂, hI, hn, he, hQ⟩ := q
  refine hI _ fun it src S D C => ?_
  refine EvC.comp1 (fun _ => true) (fun i y c => ∃ a, y = .ref a ∧ c = [ilst a (f i)]) S hn (fun hb C i v a b c d e => Ev.tests0 rfl) (fun hb C i v a b c d e _ => he hb C i v a b c d e) (hcs _) (lookup_relabel_local hx) hkind fun ys cs l hC => ?_
  exact ⟨l, _, .head, hQ D ys cs (coll_lists hC)⟩
/-- texts; the name is a cell -/
theorem Ev.compTc {elt iter : Expr} {x : Str} {px : Pos} {ifs : List Expr} {scope : Scope} {cl : List (Str × Addr)} {pos : Pos} {Q : Value → List Cell → Prop} (T : Nat → Bool) (f : Nat → Str)
    (hclos : closureFor scope env = Pure.pure cl)
    (h : Ev w X A Λ (eval iter env) fun xv Λ₁ => ∃ n P Λ₂, IterOf w X A xv Λ₁ Λ₂ n P ∧ n ≤ sizeLine ∧
      (∀ hb C i v, (∀ b o, X.hb.get? b = some o → hb.get? b = some o) → Cell.at (cel (C + 1) (some v)) hb → (∀ c ∈ Λ₂, c.at hb) → i < n → P i v → Ev w ⟨hb, X.gp, X.d, X.os⟩ A [] (tests ifs (compEnvC scope ([(x, C + 1)] ++ cl) C env)) fun ok _ => ok = T i) ∧
      (∀ hb C i v, (∀ b o, X.hb.get? b = some o → hb.get? b = some o) → Cell.at (cel (C + 1) (some v)) hb → (∀ c ∈ Λ₂, c.at hb) → i < n → P i v → T i = true → Ev w ⟨hb, X.gp, X.d, X.os⟩ A [] (eval elt (compEnvC scope ([(x, C + 1)] ++ cl) C env)) fun y _ => ∃ t, y = .str (f i) t) ∧
      ∀ D, Q (.ref D) (slst D (((List.range n).filter T).map f) :: Λ₂))
    (hnames : scope.names.all (fun y => y.2 != .local || scope.names.lookup y.1 == some .local) = true := by rfl) (hcs : ∀ n, cellsFrom n scope.names [] = [(x, n)] := by intro _; rfl) (hx : ∀ C, (compEnvC scope ([(x, C + 1)] ++ cl) C env).kindOf x = some .cell := by intro _; rfl)
    (hkind : scope.kind = .function := by rfl) (hs : ∀ x, foldedSetIterable iter env x = Pure.pure x := by intro _; rfl) : Ev w X A Λ (eval (.ListComp elt [⟨.Name x px, iter, ifs, 0⟩] scope pos) env) Q := by
  refine Ev.conv (P := fun v Λ' => ∃ D n ys Λ₂, v = .ref D ∧ Λ' = lst D ys :: Λ₂ ∧ StrsAre ys (((List.range n).filter T).map f) ∧ Q (.ref D) (slst D (((List.range n).filter T).map f) :: Λ₂)) ?_ fun v Λ' s hs q => ?_
  · refine Ev.trim (P := fun v Λ' => ∃ D n ys Λ₂ c, v = .ref D ∧ Λ' = c :: lst D ys :: Λ₂ ∧ StrsAre ys (((List.range n).filter T).map f) ∧ Q (.ref D) (slst D (((List.range n).filter T).map f) :: Λ₂)) ?_ fun v Λ' ⟨D, n, ys, Λ₂, c, e1, e2, e3, e4⟩ => ⟨lst D ys :: Λ₂, by rw [e2]; exact List.sublist_cons_self _ _, D, n, ys, Λ₂, e1, rfl, e3, e4⟩
    refine Ev.compE hclos hnames (h.mono fun xv Λ₁ q => ?_) hkind hs
    obtain ⟨n, P, Λ₂, hI, hn, ht, he, hQ⟩ := q
    refine hI _ fun it src S D C => ?_
    rw [hcs]
    have K : Tgt w A (compEnvC scope ([(x, C + 1)] ++ cl) C env) x C fun u => [nsc C [], cel (C + 1) u] :=
      Tgt.cell (cenv := compEnvC scope ([(x, C + 1)] ++ cl) C env) (by show List.lookup x ((x, C + 1) :: cl) = _; rw [List.lookup_cons, beq_self_eq_true]) (hx C) hkind
    refine EvC.perm ?_ (EvC.comp T (fun i y c => (∃ t, y = .str (f i) t) ∧ c = []) S K hn (fun hb i v a b c d e => ht hb C i v a (b _ (.tail _ (.head _))) c d e) (fun hb i v a b c d e g => (he hb C i v a (b _ (.tail _ (.head _))) c d e g).trim fun y Λ' q => ⟨[], List.nil_sublist _, q, rfl⟩) fun ys cs u hC => ?_)
    · exact (List.perm_middle (l₁ := [nsc C [], cel (C + 1) none, lst D []]) (a := src 0) (l₂ := Λ₂)).symm
    · obtain ⟨h1, rfl⟩ := coll_strs hC
      exact ⟨[], _, .head, D, n, ys, Λ₂, _, rfl, rfl, h1, hQ D⟩
  · obtain ⟨D, n, ys, Λ₂, rfl, rfl, h1, q⟩ := q
    exact ⟨_, hs.weak fun o ⟨m, e⟩ => ⟨ys, m, h1, e⟩, q⟩
theorem reads_three {s : Shared} {D a b c : Addr} {n1 n2 n3 : List Int} (hs : Sat X Λ s) (hD : Has X Λ D (lst D [.ref a, .ref b, .ref c]).P) (ha : Has X Λ a (ilst a n1).P) (hb : Has X Λ b (ilst b n2).P) (hc : Has X Λ c (ilst c n3).P) :
    Reads s.heap (.ref D) (.list [.list (n1.map .int), .list (n2.map .int), .list (n3.map .int)]) [D, a, b, c] := by
  obtain ⟨o, ho, n, rfl⟩ := hD.at hs
  exact .list ho rfl rfl (.cons (as := [a]) (ilst_reads ha hs) (.cons (as := [b]) (ilst_reads hb hs) (.cons (as := [c]) (bs := []) (ilst_reads hc hs) .nil)))
theorem lay_three (n1 n2 n3 : List Int) : PyData.canLay0 (.list [.list (n1.map .int), .list (n2.map .int), .list (n3.map .int)]) = true := by
  have e : ∀ ns : List Int, PyData.canLay0 (.list (ns.map .int)) = true := fun ns => lay_ints ns
  show PyData.canLayAll0 [_, _, _] = true
  rw [PyData.canLayAll0, PyData.canLayAll0, PyData.canLayAll0, PyData.canLayAll0, e, e, e]; rfl
theorem Ev.neSides {k : Nat} {D a b c D' a' b' c' : Addr} {ns : List Int} {Q : Value → List Cell → Prop} (R : Rm A k) (hD : Has X Λ D (lst D [.ref a, .ref b, .ref c]).P) (ha : Has X Λ a (ilst a ns).P) (hb : Has X Λ b (ilst b []).P) (hc : Has X Λ c (ilst c []).P)
    (hD' : Has X Λ D' (lst D' [.ref a', .ref b', .ref c']).P) (ha' : Has X Λ a' (ilst a' ns).P) (hb' : Has X Λ b' (ilst b' []).P) (hc' : Has X Λ c' (ilst c' []).P) (h : Q (.bool false) Λ) : Ev w X A Λ (compareOp .NotEq (.ref D) (.ref D')) Q := fun s hs => by
  have hu := R.un
  refine SeqAt.rcNeAt_reads (reads_three hs hD ha hb hc) (reads_three hs hD' ha' hb' hc') (lay_three _ _ _) (lay_three _ _ _) ?_ PySem.Challenge.pw_wr0019_01 w _ _ ⟨Λ, hs, ?_⟩
  · rw [cLine_is]
    simp only [PyData.depth, PyData.depthAll, depth_ints]
    omega
  · show Q (.bool (!PyData.eqvAll [_, _, _] [_, _, _])) Λ
    have e : PyData.eqvAll [PyData.list (ns.map .int), .list ([].map .int), .list ([].map .int)] [PyData.list (ns.map .int), .list ([].map .int), .list ([].map .int)] = true := by
      have e1 : ∀ ms : List Int, PyData.eqv (.list (ms.map .int)) (.list (ms.map .int)) = true := fun ms => by rw [PyData.eqv, eqv_ints]; simp
      rw [PyData.eqvAll, PyData.eqvAll, PyData.eqvAll, PyData.eqvAll, e1, e1]; rfl
    rw [e]; exact h
variable {w : World} {A : Around} {X : Amb} {Λ Λ' : List Cell} {env : Env}
theorem Ev.subW {value slice : Expr} {pos : Pos} {Q : Value → List Cell → Prop}
    (h : Ev w X A Λ (eval value env) fun o Λ₁ => Ev w X A Λ₁ (eval slice env) fun i Λ₂ => ∃ l xs k v, o = .ref l ∧ (∃ t, i = .int k t) ∧ Has X Λ₂ l (lst l xs).P ∧ 0 ≤ k ∧ k < 2 ^ 63 ∧ xs[k.toNat]? = some v ∧ Q v Λ₂)
    (hs' : ∀ o i, subscripted slice false o i = operate [o, i] (getItem o i) := by intro _ _; with_unfolding_all rfl) : Ev w X A Λ (eval (.Subscript value slice pos) env) Q := fun s hs =>
  Subscript_ (h.useB hs fun o s₁ Λ₁ h₁ q => q.useB h₁ fun i s₂ Λ₂ h₂ q => by
    obtain ⟨l, xs, k, v, rfl, ⟨t, rfl⟩, hl, h0, h1, hv, q⟩ := q
    exact tail_any (hl.wl h₂).typeIs slot_list_getitem.lookup (getItem_listL (hl.wl h₂) h0 h1 hv ⟨Λ₂, h₂, q⟩) (hs' _ _))
/-- what follows the sizes -/
noncomputable def rtail (m : Int) : List Int := if m = 0 then [0, 3] else if m = 1 then [127, 2] else []
noncomputable def toldOf (m a b c : Int) : List Int := if m = 0 then [a, b, c] ++ (List.replicate 6 [c]).flatten else [a, b, c]
theorem told_ok {m a b c : Int} (ha : 1 ≤ a ∧ a ≤ 3) (hb : 1 ≤ b ∧ b ≤ 3) (hc : 1 ≤ c ∧ c ≤ 3) : ToldIs ([a, b, c] ++ rtail m) (toldOf m a b c) := by
  have n1 : a ≠ 127 ∧ a ≠ 0 := by omega
  have n2 : b ≠ 127 ∧ b ≠ 0 := by omega
  have n3 : c ≠ 127 ∧ c ≠ 0 := by omega
  unfold rtail toldOf
  split
  · refine ⟨by simp [refuses, n1, n2, n3], fun i h => ?_, by simp, fun h => by simp at h⟩
    have h : i < 9 := by simpa using h
    rcases i with _ | _ | _ | _ | _ | _ | _ | _ | _ | i <;> first | omega | simp [tvf, n1, n2, n3]
  · split
    · refine ⟨by simp [refuses, n1, n2, n3], fun i h => ?_, by simp, fun _ => by simp [tvf, n1, n2, n3]⟩
      have h : i < 3 := by simpa using h
      rcases i with _ | _ | _ | i <;> first | omega | simp [tvf, n1, n2, n3]
    · refine ⟨by simp [refuses, n1, n2, n3], fun i h => ?_, by simp, fun _ => by simp [tvf, n1, n2, n3]⟩
      have h : i < 3 := by simpa using h
      rcases i with _ | _ | _ | i <;> first | omega | simp [tvf, n1, n2, n3]
theorem told_sides {t : Int} (h : 200 ≤ t) : ToldIs [128, 126, -1, t, 127, 2] [128, 126, -1, t] := by
  have n1 : t ≠ 127 ∧ t ≠ 0 := by omega
  refine ⟨by simp [refuses, n1], fun i h => ?_, by simp, fun _ => by simp [tvf, n1]⟩
  have h : i < 4 := by simpa using h
  rcases i with _ | _ | _ | _ | i <;> first | omega | simp [tvf, n1]
theorem told_none : ToldIs [127, 0] [] := ⟨by simp [refuses], (fun i h => nomatch h), by simp, fun _ => by simp [tvf]⟩
theorem told_empty : ToldIs [] [] := ⟨by simp [refuses], (fun i h => nomatch h), by simp, fun _ => by simp [tvf]⟩
end
section
open PySem PySem.W PyProof.Rows PySem.Calls
variable {w : World} {A : Around} {X : Amb} {Λ Λ' : List Cell} {env : Env}
theorem Ev.enterCA {Q : Value → List Cell → Prop} {k : Nat} {a : Addr} {c : Value} {d : Option Addr} {fd : FuncData} {sl} {args : List Value} {binds : List (Str × Value)} {body : List Stmt} (lb : List (Str × Value)) (cs : Nat → List (Str × Addr)) (cb : Nat → List Cell)
    (B : Base w X.hb) (R : Rm A (k + 1)) (ho : (K0 w).lookup a = some ⟨c, d, .func fd, sl⟩) (ha : a ≠ 90) (hcd : coded w fd.code fd.qualname = true)
    (hbody : fd.body = .stmts body) (hbind : bindArgs fd ⟨args, []⟩ = pure binds) (hclo : fd.closure = [])
    (hcs : ∀ n, cellsFrom n fd.scope.names [] = cs n)
    (hkind : binds.all (fun x => fd.scope.names.lookup x.1 == some .local || (fd.scope.names.lookup x.1 == some .cell && ((cs 0).lookup x.1).isSome)) = true)
    (hnm : ∀ n, (cs n).map Prod.fst = (cs 0).map Prod.fst)
    (hlb : ∀ x v, al lb x = some v → bindL (callEnvC fd 0 a).kindOf binds (fun _ => none) x = some v)
    (hcb : ∀ n, (cs n).map (fun p => cel p.2 (bindC (callEnvC fd 0 a).kindOf binds (fun _ => none) p.1)) = cb n) (hcn : ((cs 0).map Prod.fst).Nodup)
    (h : ∀ L A', Rm A' k → A'.frames = (A.frames.map fun l => callEnvC fd L a :: l) → Ev w X A' (nsc L lb :: (cb (L + 1) ++ Λ)) (execs body (callEnvC fd L a)) fun f Λ' => Q (retOf f) Λ')
    (hco : fd.scope.isCoroutine = false := by rfl) (hgen : fd.scope.isGenerator = false := by rfl) (hk : fd.scope.kind = .function := by rfl) : Ev w X A Λ (call (.ref a) args) Q := fun s hs => by
  refine wpAny_call (codeAny_call_cells R.room (hs.keep _ _ (B.k a _ ha ho)) rfl (B.limit.keeps hs.keep) ((codeRec_of_coded B hcd).keeps hs.keep) hbody hbind hclo (fun x hx => ?_) (fun s₁ x => ?_) hco hgen hk)
  · have := List.all_eq_true.mp hkind x hx
    rw [hcs, isSome_names, hnm, ← isSome_names]
    simpa using this
  · have cells : (callEnvC fd s.heap.objs.size a).cells = cs (s.heap.objs.size + 1) := hcs _
    obtain ⟨h₁, tk, rfl⟩ := x.toInCall.same
    have hlt : ∀ b o, s.heap.get? b = some o → b < s.heap.objs.size := fun b o e => Heap.lt_size e
    have none_of : ∀ b, s.heap.objs.size ≤ b → X.hb.get? b = none := fun b hb => hs.hb_none (by
      cases e : s.heap.get? b with
      | none => rfl
      | some o => exact absurd (Heap.lt_size e) (Nat.not_lt.mpr hb))
    refine Ev.useB (h s.heap.objs.size _ R.deeper rfl) (s := { s with heap := h₁, toks := tk }) ?_ fun f s' Λ' h' q => ⟨Λ', h', q⟩
    have S1 : Sat X Λ { s with heap := h₁, toks := tk } := hs.ext (s' := { s with heap := h₁, toks := tk }) x.toInCall.keep hs.gp rfl rfl
    have key : ∀ p ∈ cs (s.heap.objs.size + 1), s.heap.objs.size < p.2 ∧ ((cs (s.heap.objs.size + 1)).lookup p.1 = some p.2) := fun p hp => by
      refine ⟨x.above p.1 p.2 (by rw [cells]; exact hp), ?_⟩
      have hn : ((cs (s.heap.objs.size + 1)).map Prod.fst).Nodup := by rw [hnm]; exact hcn
      revert hn hp
      generalize cs (s.heap.objs.size + 1) = l
      intro hp hn
      induction l with
      | nil => cases hp
      | cons q r ih =>
        rw [List.map_cons, List.nodup_cons] at hn
        rw [List.lookup_cons]
        rcases List.mem_cons.mp hp with rfl | hp
        · simp
        · have : (p.1 == q.1) = false := by
            have : p.1 ≠ q.1 := fun e => hn.1 (List.mem_map.mpr ⟨p, hp, e⟩)
            simpa using this
          rw [this]; exact ih hp hn.2
    have hap : (cs (s.heap.objs.size + 1)).Pairwise fun x y => x.2 ≠ y.2 := cells ▸ x.apart
    have e2 := hcb (s.heap.objs.size + 1)
    have S2 : Sat X (cb (s.heap.objs.size + 1) ++ Λ) { s with heap := h₁, toks := tk } := by
      rw [← e2]
      refine Sat.app S1 (fun c hc => ?_) (fun c hc => ?_) (fun c hc d hd => ?_) (nodup_of_apart (fun _ => rfl) hap)
      · obtain ⟨p, hp, rfl⟩ := List.mem_map.mp hc
        have := x.cell p.1 p.2 (by rw [cells]; exact (key p hp).2)
        obtain ⟨o, ho, e⟩ := this
        exact ⟨o, ho, e⟩
      · obtain ⟨p, hp, rfl⟩ := List.mem_map.mp hc
        exact none_of _ (Nat.le_of_lt (key p hp).1)
      · obtain ⟨p, hp, rfl⟩ := List.mem_map.mp hd
        exact fun e => absurd (hs.lt hc) (Nat.not_lt.mpr (Nat.le_of_lt (e ▸ (key p hp).1)))
    refine S2.more (of_nsw x.toInCall.ns hlb) (none_of _ (Nat.le_refl _)) fun c hc e => ?_
    rcases List.mem_append.mp hc with hc | hc
    · rw [← e2] at hc
      obtain ⟨p, hp, rfl⟩ := List.mem_map.mp hc
      exact absurd e (Nat.ne_of_gt (key p hp).1)
    · exact absurd e (Nat.ne_of_lt (hs.lt hc))
theorem law_enter {sl : Addr} {Q : Value → List Cell → Prop} (B : Base w X.hb) (R : Rm A 101) (hfr : A.frames = some [])
    (h : ∀ c d fd sl' body L A', (K0 w).lookup 202 = some ⟨c, d, .func fd, sl'⟩ → fd.body = .stmts body → Rm A' 100 → A'.frames = some [callEnvC fd L 202] →
      Ev w X A' [nsc L [("script", .ref sl)], cel (L + 9) none, cel (L + 8) none, cel (L + 7) none, cel (L + 6) none, cel (L + 5) none, cel (L + 4) none, cel (L + 3) none, cel (L + 2) none, cel (L + 1) none, tabc] (execs body (callEnvC fd L 202)) fun f Λ' => Q (retOf f) Λ') :
    Ev w X A [tabc] (call (.ref 202) [.ref sl]) Q := by
  refine Ev.enterCA (k := 100) (binds := [("script", .ref sl)]) [("script", .ref sl)] (fun n => [("digits", n + 8), ("number", n + 7), ("places", n + 6), ("steps", n + 5), ("ends", n + 4), ("line", n + 3), ("size", n + 2), ("low", n + 1), ("drawn", n)])
    (fun n => [cel (n + 8) none, cel (n + 7) none, cel (n + 6) none, cel (n + 5) none, cel (n + 4) none, cel (n + 3) none, cel (n + 2) none, cel (n + 1) none, cel n none]) B R (by rfl) (by decide) (by kernel_rfl) (by rfl) (by rfl) (by rfl) (fun _ => by rfl) (by rfl) (fun _ => rfl) ?_ (fun _ => by kernel_rfl) (by decide +kernel) fun L A' R' hfr' => ?_
  · intro x v e
    unfold al at e
    rw [List.lookup_cons] at e
    split at e
    · rename_i q
      cases e
      rw [eq_of_beq q]
      kernel_rfl
    · cases e
  · exact h _ _ _ _ _ L A' (by rfl) (by rfl) R' (by rw [hfr', hfr]; rfl)
end
section
open PySem PySem.W PyProof.Rows PySem.Calls
variable {w : World} {A : Around} {X : Amb} {Λ Λ' : List Cell} {env : Env}
theorem law_a {sl L : Addr} {ns : List Int} {c : Value} {d : Option Addr} {fd : FuncData} {sl' : Array (Option Value)} {body : List Stmt} {Q : Flow → List Cell → Prop} (hfd : (K0 w).lookup 202 = some ⟨c, d, .func fd, sl'⟩) (hbody : fd.body = .stmts body)
    (hG : X.gp = AllBare) (B : Base w X.hb) (R : Rm A 100) (hfr : A.frames = some [callEnvC fd L 202]) (hsl : Cell.at (ilst sl ns) X.hb) (hn : ns.length ≤ 63)
    (next : ∀ T Rl D Dr ds low s1 s2 s3 m tt tl, Num7 ds → low = 97 + (ds.sum.fdiv 2000).fmod 30000 → 1 ≤ s1 ∧ s1 ≤ 3 → 1 ≤ s2 ∧ s2 ≤ 3 → 1 ≤ s3 ∧ s3 ≤ 3 → m = ds.sum.fmod 3 →
      Ev w X A [ilst T (toldOf m s1 s2 s3), ilst Rl ([s1, s2, s3] ++ rtail m), ilst D [s1, s2, s3], ilst Dr ds, nsc L [("told", .ref T), ("ruler", .ref Rl), ("sizes", .ref D), ("total", .int ds.sum tt), ("script", .ref sl)],
        cel (L + 9) none, cel (L + 8) none, cel (L + 7) none, cel (L + 6) none, cel (L + 5) none, cel (L + 4) none, cel (L + 3) none, cel (L + 2) (some (.int low tl)), cel (L + 1) (some (.ref Dr)), tabc] (execs (body.drop 6) (callEnvC fd L 202)) Q) :
    Ev w X A [nsc L [("script", .ref sl)], cel (L + 9) none, cel (L + 8) none, cel (L + 7) none, cel (L + 6) none, cel (L + 5) none, cel (L + 4) none, cel (L + 3) none, cel (L + 2) none, cel (L + 1) none, tabc] (execs body (callEnvC fd L 202)) Q := by
  have e := hfd.symm.trans (by rfl : (K0 w).lookup 202 = some ⟨_, _, .func _, _⟩)
  cases e
  cases hbody
  repeat walk_at "S"
  refine Ev.base fun hb hk hc => ?_
  refine numbers_spec (B.ext hk) (R.le (by decide)) (Cell.at_of hsl fun o e => hk _ _ e) hn fun Dr ds hds => ?_
  dsimp only [List.nil_append, List.cons_append]
  refine Ev.storeC (c := L + 1) (by walk_at "put") ?_
  repeat walk_at "S"
  refine Ev.sum R (Or.inl (by walk_at "mem")) fun tt => ?_
  repeat walk_at "S"
  refine Ev.divI (by decide) (PyProof.noPylong_small (by decide)) fun _ => ?_
  repeat walk_at "S"
  refine Ev.modI (by decide) fun _ => ?_
  repeat walk_at "S"
  refine Ev.storeC (c := L + 2) (by walk_at "put") ?_
  generalize hlow : 97 + (ds.sum.fdiv 2000).fmod 30000 = low
  repeat walk_at "S"
  refine Ev.compAI (fun _ => true) (fun k => 1 + (ds.getD k 0).fmod 3) (by rfl) ?_
  repeat walk_at "S"
  refine ⟨3, _, _, IterOf.range R (by decide) rfl, ⟨by show 3 ≤ sizeLine; decide, ?_, ?_⟩, fun D => ?_⟩
  · rintro hb C i v hk hC hΛ hi ⟨tk, rfl⟩
    exact Ev.tests0 rfl
  · rintro hb C i v hk hC hΛ hi ⟨tk, rfl⟩ hT
    have B' := B.ext hk
    have c1 := hΛ (cel (L + 1) (some (.ref Dr))) (by walk_at "mem")
    have c2 := hΛ (ilst Dr ds) (by walk_at "mem")
    repeat walk_at "S"
    refine Ev.itemI (l := Dr) (ns := ds) (k := i) (i := ds.getD i 0) ?_
    repeat walk_at "S"
    refine ⟨rfl, ⟨_, rfl⟩, Or.inr c2, by omega, by omega, ?_, fun _ => ?_⟩
    · rw [Int.toNat_natCast, List.getD_eq_getElem?_getD, List.getElem?_eq_getElem (by rw [hds.1]; omega)]; rfl
    repeat walk_at "S"
    refine Ev.modI (by decide) fun _ => ?_
    repeat walk_at "S"
    exact ⟨_, rfl⟩
  refine ⟨_, _, by show Put L _ _ _ _; walk_at "put", ?_⟩
  rw [show (List.range 3).filter (fun _ => true) = [0, 1, 2] by decide]
  simp only [List.map_cons, List.map_nil]
  repeat walk_at "S"
  generalize h1 : 1 + (ds.getD 0 0).fmod 3 = s1
  generalize h2 : 1 + (ds.getD 1 0).fmod 3 = s2
  generalize h3 : 1 + (ds.getD 2 0).fmod 3 = s3
  have b1 : 1 ≤ s1 ∧ s1 ≤ 3 := by
    have := Int.fmod_nonneg_of_pos (ds.getD 0 0) (show (0 : Int) < 3 by decide)
    have := Int.fmod_lt_of_pos (ds.getD 0 0) (show (0 : Int) < 3 by decide)
    omega
  have b2 : 1 ≤ s2 ∧ s2 ≤ 3 := by
    have := Int.fmod_nonneg_of_pos (ds.getD 1 0) (show (0 : Int) < 3 by decide)
    have := Int.fmod_lt_of_pos (ds.getD 1 0) (show (0 : Int) < 3 by decide)
    omega
  have b3 : 1 ≤ s3 ∧ s3 ≤ 3 := by
    have := Int.fmod_nonneg_of_pos (ds.getD 2 0) (show (0 : Int) < 3 by decide)
    have := Int.fmod_lt_of_pos (ds.getD 2 0) (show (0 : Int) < 3 by decide)
    omega
  refine Ev.subW (Ev.list ?_)
  refine Ev.items1 (Ev.listI ?_)
  repeat walk_at "S"
  refine ⟨by show 2 ≤ sizeLine; decide, [0, 3], .cons _ _ (.cons _ _ .nil), fun r0 => ?_⟩
  refine Ev.items1 (Ev.listI ?_)
  repeat walk_at "S"
  refine ⟨by show 2 ≤ sizeLine; decide, [127, 2], .cons _ _ (.cons _ _ .nil), fun r1 => ?_⟩
  refine Ev.items1 (Ev.listI ?_)
  repeat walk_at "S"
  refine ⟨by show 0 ≤ sizeLine; exact Nat.zero_le _, [], .nil, fun r2 => ?_⟩
  repeat walk_at "S"
  refine ⟨by show 3 ≤ sizeLine; decide, fun rr => ?_⟩
  repeat walk_at "S"
  refine Ev.modI (by decide) fun _ => ?_
  have hm0 := Int.fmod_nonneg_of_pos ds.sum (show (0 : Int) < 3 by decide)
  have hm1 := Int.fmod_lt_of_pos ds.sum (show (0 : Int) < 3 by decide)
  generalize hm : ds.sum.fmod 3 = m
  rw [hm] at hm0 hm1
  obtain ⟨r, hr, hrc⟩ : ∃ r, [Value.ref r0, .ref r1, .ref r2][m.toNat]? = some (.ref r) ∧ (∀ pre rest, ilst r (rtail m) ∈ pre ++ (lst rr [Value.ref r0, .ref r1, .ref r2] :: ilst r2 [] :: ilst r1 [127, 2] :: ilst r0 [0, 3] :: rest)) := by
    have : m = 0 ∨ m = 1 ∨ m = 2 := by omega
    rcases this with rfl | rfl | rfl
    · exact ⟨r0, rfl, fun _ _ => List.mem_append_right _ (.tail _ (.tail _ (.tail _ (.head _))))⟩
    · exact ⟨r1, rfl, fun _ _ => List.mem_append_right _ (.tail _ (.tail _ (.head _)))⟩
    · exact ⟨r2, rfl, fun _ _ => List.mem_append_right _ (.tail _ (.head _))⟩
  refine ⟨rr, _, m, .ref r, rfl, ⟨_, rfl⟩, Or.inl (by walk_at "mem"), hm0, by omega, hr, ?_⟩
  refine Ev.addII (ns := [s1, s2, s3]) (ms := rtail m) (Or.inl (by walk_at "mem")) (Or.inl (hrc [] _)) (by unfold rtail; split <;> (try split) <;> simp) fun Rl => ?_
  repeat walk_at "S"
  refine Ev.sub (((((((List.Sublist.refl _).cons _).cons _).cons _).cons _)).cons_cons _) ?_
  refine Ev.base fun hb hk hc => told_spec hG (B.ext hk) (R.le (by decide)) (hc _ (by walk_at "mem")) (told_ok b1 b2 b3) fun T => ?_
  dsimp only [List.nil_append, List.cons_append]
  refine Ev.store (by walk_at "put") (Ev.aft ?_)
  exact next T Rl D Dr ds low s1 s2 s3 m tt _ hds hlow.symm b1 b2 b3 hm.symm
end
section
open PySem PySem.W PyProof.Rows PySem.Calls
variable {w : World} {A : Around} {X : Amb} {Λ Λ' : List Cell} {env : Env}
theorem law_b {sl L : Addr} {c : Value} {d : Option Addr} {fd : FuncData} {sl' : Array (Option Value)} {body : List Stmt} {Q : Flow → List Cell → Prop} (hfd : (K0 w).lookup 202 = some ⟨c, d, .func fd, sl'⟩) (hbody : fd.body = .stmts body)
    (hG : X.gp = AllBare) (B : Base w X.hb) (R : Rm A 100) (hfr : A.frames = some [callEnvC fd L 202]) {T Rl D Dr : Addr} {ds : List Int} {low s1 s2 s3 m : Int} {tt tl : Tok} (hds : Num7 ds) (b1 : 1 ≤ s1 ∧ s1 ≤ 3) (b2 : 1 ≤ s2 ∧ s2 ≤ 3) (b3 : 1 ≤ s3 ∧ s3 ≤ 3) (hm : m = ds.sum.fmod 3) (hbig : 200 ≤ ds.sum)
    (next : ∀ Sd, Ev w X A [nsc L [("sides", .ref Sd), ("told", .ref T), ("ruler", .ref Rl), ("sizes", .ref D), ("total", .int ds.sum tt), ("script", .ref sl)], ilst T (toldOf m s1 s2 s3), ilst Dr ds,
        cel (L + 9) none, cel (L + 8) none, cel (L + 7) none, cel (L + 6) none, cel (L + 5) none, cel (L + 4) none, cel (L + 3) none, cel (L + 2) (some (.int low tl)), cel (L + 1) (some (.ref Dr)), tabc] (execs (body.drop 9) (callEnvC fd L 202)) Q) :
    Ev w X A [ilst T (toldOf m s1 s2 s3), ilst Rl ([s1, s2, s3] ++ rtail m), ilst D [s1, s2, s3], ilst Dr ds, nsc L [("told", .ref T), ("ruler", .ref Rl), ("sizes", .ref D), ("total", .int ds.sum tt), ("script", .ref sl)],
        cel (L + 9) none, cel (L + 8) none, cel (L + 7) none, cel (L + 6) none, cel (L + 5) none, cel (L + 4) none, cel (L + 3) none, cel (L + 2) (some (.int low tl)), cel (L + 1) (some (.ref Dr)), tabc] (execs (body.drop 6) (callEnvC fd L 202)) Q := by
  have e := hfd.symm.trans (by rfl : (K0 w).lookup 202 = some ⟨_, _, .func _, _⟩)
  cases e
  cases hbody
  have hm0 := Int.fmod_nonneg_of_pos ds.sum (show (0 : Int) < 3 by decide)
  have hm1 := Int.fmod_lt_of_pos ds.sum (show (0 : Int) < 3 by decide)
  rw [← hm] at hm0 hm1
  simp only [List.drop_succ_cons, List.drop_zero] at next ⊢
  refine Ev.seq (Ev.ifs ?_)
  repeat walk_at "S"
  refine Ev.sliceIL (l := D) (ns := [s1, s2, s3]) (a := 2) ?_
  repeat walk_at "S"
  refine ⟨rfl, ⟨_, _, rfl, rfl⟩, Or.inl (by walk_at "mem"), by simp, fun S1 => ?_⟩
  refine Ev.itemX (Ev.listI ?_)
  repeat walk_at "S"
  refine ⟨by show 3 ≤ sizeLine; decide, [6, 0, 0], .cons _ _ (.cons _ _ (.cons _ _ .nil)), fun S2 => ?_⟩
  repeat walk_at "S"
  refine Ev.modI (by decide) fun _ => ?_
  rw [← hm]
  have hk : ([6, 0, 0] : List Int)[m.toNat]? = some (if m = 0 then 6 else 0) := by
    have : m = 0 ∨ m = 1 ∨ m = 2 := by omega
    rcases this with h | h | h <;> rw [h] <;> rfl
  refine ⟨S2, [6, 0, 0], m, _, rfl, ⟨_, rfl⟩, Or.inl (by walk_at "mem"), hm0, by omega, hk, fun _ => ?_⟩
  refine Ev.mulIL (ns := [s3]) (Or.inl (by walk_at "mem")) (by split <;> decide) (by split <;> decide) (by split <;> simp) fun S3 => ?_
  refine Ev.addII (ns := [s1, s2, s3]) (Or.inl (by walk_at "mem")) (Or.inl (by walk_at "mem")) (by split <;> simp) fun S4 => ?_
  refine Ev.neII R (Or.inl (by walk_at "mem")) (Or.inl (by walk_at "mem")) ?_
  have e1 : (toldOf m s1 s2 s3 != [s1, s2, s3] ++ (List.replicate (if m = 0 then (6 : Int) else 0).toNat [s3]).flatten) = false := by
    unfold toldOf; split <;> simp
  rw [e1]
  refine Ev.sub ((((((List.Sublist.refl _).cons _).cons _).cons _).cons _)) ?_
  refine Ev.truB ⟨(fun e => nomatch e), fun _ => ?_⟩
  repeat walk_at "S"
  refine Ev.base fun hb hk hc => told_spec hG (B.ext hk) (R.le (by decide)) (hc _ (by walk_at "mem")) (told_ok b1 b2 b3) fun T2 => ?_
  dsimp only [List.nil_append, List.cons_append]
  repeat walk_at "S"
  refine Ev.neII R (Or.inl (by walk_at "mem")) (Or.inl (by walk_at "mem")) ?_
  rw [show (toldOf m s1 s2 s3 != toldOf m s1 s2 s3) = false by simp]
  refine Ev.sub ((List.Sublist.refl _).cons _) ?_
  refine Ev.truB ⟨(fun e => nomatch e), fun _ => ?_⟩
  repeat walk_at "S"
  refine Ev.listI ?_
  repeat walk_at "S"
  refine ⟨by show 1 ≤ sizeLine; decide, [0], .cons _ _ .nil, fun S5 => ?_⟩
  repeat walk_at "S"
  refine Ev.addII (ns := [0]) (ms := [s1, s2, s3]) (Or.inl (by walk_at "mem")) (Or.inl (by walk_at "mem")) (by simp) fun S6 => ?_
  repeat walk_at "S"
  refine Ev.perm (List.perm_middle (l₁ := [_, _, _, _, _, _])).symm ?_
  refine Ev.over (Λ₁ := [_]) fun hb hk hc => refused_spec hG (B.ext hk) (R.le (by decide)) hfr rfl (by show ScopeKind.function ≠ .module; decide) (ns := [s1, s2, s3]) (hc _ (by walk_at "mem")) ?_
  simp only [List.append_eq, List.nil_append, List.cons_append]
  refine Ev.truB ?_
  refine ⟨(fun e => nomatch e), fun _ => ?_⟩
  repeat walk_at "S"
  refine ⟨(fun e => nomatch e), fun _ => ?_⟩
  refine Ev.sub (((List.Sublist.refl _).cons _).cons _ |>.cons_cons _) ?_
  repeat walk_at "S"
  refine Ev.listI ?_
  repeat walk_at "S"
  refine ⟨by show 4 ≤ sizeLine; decide, [128, 126, -1, ds.sum], .cons _ _ (.cons _ _ (.cons _ _ (.cons _ _ .nil))), fun Sd => ?_⟩
  repeat walk_at "S"
  refine Ev.ifs ?_
  walk_at "S"
  refine Ev.compL (fun i => if i = 0 then [128, 126, -1, ds.sum] else []) (by rfl) ?_
  refine Ev.list ?_
  repeat walk_at "S"
  refine Ev.listI ?_
  repeat walk_at "S"
  refine ⟨by show 2 ≤ sizeLine; decide, [127, 2], .cons _ _ (.cons _ _ .nil), fun U0 => ?_⟩
  refine Ev.addII (ns := [128, 126, -1, ds.sum]) (ms := [127, 2]) (Or.inl (by walk_at "mem")) (Or.inl (by walk_at "mem")) (by simp) fun U1 => ?_
  repeat walk_at "S"
  refine Ev.listI ?_
  repeat walk_at "S"
  refine ⟨by show 2 ≤ sizeLine; decide, [127, 0], .cons _ _ (.cons _ _ .nil), fun U2 => ?_⟩
  repeat walk_at "S"
  refine Ev.listI ?_
  repeat walk_at "S"
  refine ⟨by show 0 ≤ sizeLine; exact Nat.zero_le _, [], .nil, fun U3 => ?_⟩
  repeat walk_at "S"
  refine ⟨by show 3 ≤ sizeLine; decide, fun U4 => ?_⟩
  refine ⟨3, fun j v => [Value.ref U1, .ref U2, .ref U3][j]? = some v, _, IterOf.list (P := (lst U4 [Value.ref U1, .ref U2, .ref U3]).P) R (Or.inl (by walk_at "mem")) (fun o ⟨n, e⟩ => ⟨_, n, e, rfl, fun j v h => by rwa [List.getElem?_toArray] at h⟩), by show 3 ≤ sizeLine; decide, ?_, ?_⟩
  · intro hb C i v hk hC hΛ hi hv
    have B' := B.ext hk
    repeat walk_at "S"
    have c1 := hΛ (ilst U1 ([128, 126, -1, ds.sum] ++ [127, 2])) (by walk_at "mem")
    have c2 := hΛ (ilst U2 [127, 0]) (by walk_at "mem")
    have c3 := hΛ (ilst U3 []) (by walk_at "mem")
    rcases i with _ | _ | _ | i
    · cases hv
      exact told_spec hG B' (R.le (by decide)) c1 (told_sides hbig) fun a => ⟨a, rfl, rfl⟩
    · cases hv
      exact told_spec hG B' (R.le (by decide)) c2 told_none fun a => ⟨a, rfl, rfl⟩
    · cases hv
      exact told_spec hG B' (R.le (by decide)) c3 told_empty fun a => ⟨a, rfl, rfl⟩
    · omega
  rintro V ys cs ⟨a2, _, _, rfl, rfl, a1, _, _, rfl, rfl, a0, _, _, rfl, rfl, rfl, rfl⟩
  dsimp only [List.nil_append, List.cons_append]
  refine Ev.list ?_
  repeat walk_at "S"
  refine Ev.listI ?_
  repeat walk_at "S"
  refine ⟨by show 0 ≤ sizeLine; exact Nat.zero_le _, [], .nil, fun W0 => ?_⟩
  repeat walk_at "S"
  refine Ev.listI ?_
  repeat walk_at "S"
  refine ⟨by show 0 ≤ sizeLine; exact Nat.zero_le _, [], .nil, fun W1 => ?_⟩
  repeat walk_at "S"
  refine ⟨by show 3 ≤ sizeLine; decide, fun W2 => ?_⟩
  refine Ev.neSides (ns := [128, 126, -1, ds.sum]) R (Or.inl (by walk_at "mem")) (Or.inl (by walk_at "mem")) (Or.inl (by walk_at "mem")) (Or.inl (by walk_at "mem")) (Or.inl (by walk_at "mem")) (Or.inl (by walk_at "mem")) (Or.inl (by walk_at "mem")) (Or.inl (by walk_at "mem")) ?_
  refine Ev.truB ⟨(fun e => nomatch e), fun _ => ?_⟩
  refine Ev.nil (Ev.aft ?_)
  exact Ev.sub (by walk_at "sub") (next Sd)
end
section
namespace Mth
/-- the worth of a word; what is left for a word behind the first c signs of the front -/
noncomputable def V (p : Nat → Int) : List Int → Int
  | [] => 0
  | x :: u => x * p u.length + V p u
noncomputable def N (p d : Nat → Int) : Nat → Nat → Int
  | 0, _ => 1
  | m + 1, c => d c * p m + N p d m (c + 1)
structure H (p d : Nat → Int) : Prop where
  pos : ∀ m, m ≤ 5 → 0 < p m
  p0 : p 0 = 1
  top : ∀ m, m ≤ 5 → N p d m 0 = p m
  le : ∀ m c, c + m ≤ 5 → N p d m c ≤ p m
  nn : ∀ i, i < 5 → 0 ≤ d i
noncomputable def FitT (p : Nat → Int) : List Int → Prop
  | [] => True
  | _ :: u => V p u < p u.length ∧ FitT p u
noncomputable def Fit (p : Nat → Int) (u : List Int) : Prop := V p u < p u.length ∧ FitT p u
noncomputable def Nn (u : List Int) : Prop := ∀ x ∈ u, 0 ≤ x
noncomputable def greedy (p : Nat → Int) : Nat → Int → List Int
  | 0, _ => []
  | m + 1, r => (r / p m) :: greedy p m (r % p m)
noncomputable def fin (d : Nat → Int) : Nat → List Int → Option Nat
  | c, [] => some c
  | c, x :: u => if x < d c then fin d 0 u else if x = d c then fin d (c + 1) u else none
noncomputable def mx (p : Nat → Int) : List Int → Nat
  | [] => 0
  | x :: u => if V p (x :: u) = p (u.length + 1) - 1 then u.length + 1 else mx p u
variable {p d : Nat → Int}
theorem Nn.tail {x : Int} {u : List Int} (h : Nn (x :: u)) : Nn u := fun y hy => h y (.tail _ hy)
theorem Nn.head {x : Int} {u : List Int} (h : Nn (x :: u)) : 0 ≤ x := h x (.head _)
theorem V_nn (h : H p d) : ∀ {u : List Int}, u.length ≤ 6 → Nn u → 0 ≤ V p u
  | [], _, _ => Int.le_refl _
  | x :: u, hl, hn => by
    rw [List.length_cons] at hl
    have a := V_nn h (show u.length ≤ 6 by omega) hn.tail
    have b := Int.mul_nonneg hn.head (Int.le_of_lt (h.pos u.length (by omega)))
    show 0 ≤ x * p u.length + V p u
    omega
theorem N_pos (h : H p d) : ∀ {m c : Nat}, c + m ≤ 5 → 1 ≤ N p d m c
  | 0, _, _ => Int.le_refl _
  | m + 1, c, hl => by
    have a := N_pos h (show c + 1 + m ≤ 5 by omega)
    have b := Int.mul_nonneg (h.nn c (by omega)) (Int.le_of_lt (h.pos m (by omega)))
    show 1 ≤ d c * p m + N p d m (c + 1)
    omega
theorem mul_lt {x y q : Int} (h : x < y) (hq : 0 < q) : x * q + q ≤ y * q := by
  have : (x + 1) * q ≤ y * q := Int.mul_le_mul_of_nonneg_right (by omega) (Int.le_of_lt hq)
  rw [Int.add_mul, Int.one_mul] at this
  exact this
/-- what the automaton takes -/
theorem fin_iff (h : H p d) : ∀ {u : List Int} {c : Nat}, c + u.length ≤ 5 → Nn u → ((fin d c u).isSome = true ↔ V p u < N p d u.length c ∧ FitT p u)
  | [], c, _, _ => by
    show (true = true) ↔ (0 : Int) < 1 ∧ True
    simp
  | x :: u, c, hl, hn => by
    rw [List.length_cons] at hl
    have hp := h.pos u.length (by omega)
    have v0 := V_nn h (u := u) (by omega) hn.tail
    have n1 := N_pos h (m := u.length) (c := c + 1) (by omega)
    have le := h.le u.length (c + 1) (by omega)
    have t0 := h.top u.length (by omega)
    show ((if x < d c then fin d 0 u else if x = d c then fin d (c + 1) u else none).isSome = true) ↔ x * p u.length + V p u < d c * p u.length + N p d u.length (c + 1) ∧ (V p u < p u.length ∧ FitT p u)
    by_cases h1 : x < d c
    · rw [if_pos h1, fin_iff h (by omega) hn.tail, t0]
      have := mul_lt h1 hp
      exact ⟨fun ⟨a, b⟩ => ⟨by omega, a, b⟩, fun ⟨_, a, b⟩ => ⟨a, b⟩⟩
    · rw [if_neg h1]
      by_cases h2 : x = d c
      · rw [if_pos h2, fin_iff h (by omega) hn.tail, h2]
        exact ⟨fun ⟨a, b⟩ => ⟨by omega, by omega, b⟩, fun ⟨a, _, b⟩ => ⟨by omega, b⟩⟩
      · rw [if_neg h2]
        have := mul_lt (show d c < x by omega) hp
        exact ⟨(fun e => nomatch e), fun ⟨a, b, _⟩ => by omega⟩
theorem fin_is (h : H p d) : ∀ {u : List Int} {c e : Nat}, c + u.length ≤ 5 → Nn u → fin d c u = some e → e = if V p u = N p d u.length c - 1 then c + u.length else mx p u
  | [], c, e, _, _, hf => by
    cases hf
    show c = if (0 : Int) = 1 - 1 then c + 0 else 0
    simp
  | x :: u, c, e, hl, hn, hf => by
    have hfit := (fin_iff h hl hn).mp (by rw [hf]; rfl)
    rw [List.length_cons] at hl
    have hp := h.pos u.length (by omega)
    have v0 := V_nn h (u := u) (by omega) hn.tail
    have n1 := N_pos h (m := u.length) (c := c + 1) (by omega)
    have le := h.le u.length (c + 1) (by omega)
    have le' := h.le (u.length + 1) c (by omega)
    have t0 := h.top u.length (by omega)
    have eV : V p (x :: u) = x * p u.length + V p u := rfl
    have eN : N p d (u.length + 1) c = d c * p u.length + N p d u.length (c + 1) := rfl
    have em : mx p (x :: u) = if V p (x :: u) = p (u.length + 1) - 1 then u.length + 1 else mx p u := rfl
    have hf' : (if x < d c then fin d 0 u else if x = d c then fin d (c + 1) u else none) = some e := hf
    obtain ⟨hf1, hf2, hf3⟩ : V p (x :: u) < N p d (u.length + 1) c ∧ V p u < p u.length ∧ FitT p u := hfit
    rw [List.length_cons]
    by_cases h1 : x < d c
    · rw [if_pos h1] at hf'
      have ih := fin_is h (by omega) hn.tail hf'
      have := mul_lt h1 hp
      rw [if_neg (by omega), em, if_neg (by omega), ih, t0]
      split
      · rename_i q
        cases u with
        | nil => rfl
        | cons y r => show 0 + (r.length + 1) = if V p (y :: r) = p (r.length + 1) - 1 then r.length + 1 else mx p r; rw [if_pos (show V p (y :: r) = p (r.length + 1) - 1 from q)]; omega
      · rfl
    · rw [if_neg h1] at hf'
      by_cases h2 : x = d c
      · rw [if_pos h2] at hf'
        have ih := fin_is h (by omega) hn.tail hf'
        subst h2
        rw [ih]
        by_cases h3 : V p u = N p d u.length (c + 1) - 1
        · rw [if_pos h3, if_pos (by omega)]; omega
        · rw [if_neg h3, if_neg (by omega), em, if_neg (by omega)]
      · rw [if_neg h2] at hf'; cases hf'
theorem fin0 (h : H p d) {u : List Int} {e : Nat} (hl : u.length ≤ 5) (hn : Nn u) (hf : fin d 0 u = some e) : e = mx p u := by
  rw [fin_is h (by omega) hn hf, h.top _ hl]
  split
  · rename_i q
    cases u with
    | nil => rfl
    | cons y r => show 0 + (r.length + 1) = if V p (y :: r) = p (r.length + 1) - 1 then r.length + 1 else mx p r; rw [if_pos (show V p (y :: r) = p (r.length + 1) - 1 from q)]; omega
  · rfl
theorem fin0_iff (h : H p d) {u : List Int} (hl : u.length ≤ 5) (hn : Nn u) : (fin d 0 u).isSome = true ↔ Fit p u := by
  rw [fin_iff h (by omega) hn, h.top _ hl]; rfl
/-! greedy words -/
theorem greedy_len (m : Nat) : ∀ r, (greedy p m r).length = m := by
  induction m with
  | zero => intro _; rfl
  | succ m ih => intro r; show (greedy p m _).length + 1 = _; rw [ih]
theorem greedy_nn (h : H p d) : ∀ {m : Nat} {r : Int}, m ≤ 6 → 0 ≤ r → Nn (greedy p m r)
  | 0, _, _, _ => fun _ h => nomatch h
  | m + 1, r, hm, hr => fun y hy => by
    have hp := h.pos m (by omega)
    rcases List.mem_cons.mp hy with rfl | hy
    · exact Int.ediv_nonneg hr (Int.le_of_lt hp)
    · exact greedy_nn h (by omega) (Int.emod_nonneg _ (by omega)) y hy
theorem greedy_fit (h : H p d) : ∀ {m : Nat} {r : Int}, m ≤ 5 → 0 ≤ r → r < p m → V p (greedy p m r) = r ∧ Fit p (greedy p m r)
  | 0, r, _, h0, h1 => by rw [h.p0] at h1; exact ⟨by show 0 = r; omega, by show (0 : Int) < p 0; rw [h.p0]; decide, trivial⟩
  | m + 1, r, hm, h0, h1 => by
    have hp := h.pos m (by omega)
    obtain ⟨a, b, c⟩ := greedy_fit h (m := m) (r := r % p m) (by omega) (Int.emod_nonneg _ (by omega)) (Int.emod_lt_of_pos _ hp)
    have e : V p (greedy p (m + 1) r) = r := by
      show r / p m * p (greedy p m _).length + V p (greedy p m _) = r
      rw [a, greedy_len]
      exact Int.ediv_mul_add_emod r (p m)
    refine ⟨e, ?_, b, c⟩
    rw [e, greedy_len]; exact h1
theorem greedy_back (h : H p d) : ∀ {u : List Int}, u.length ≤ 6 → Nn u → FitT p u → greedy p u.length (V p u) = u
  | [], _, _, _ => rfl
  | x :: u, hl, hn, hf => by
    rw [List.length_cons] at hl
    have hp := h.pos u.length (by omega)
    have v0 := V_nn h (u := u) (by omega) hn.tail
    obtain ⟨h1, h2⟩ : V p u < p u.length ∧ FitT p u := hf
    show (x * p u.length + V p u) / p u.length :: greedy p u.length ((x * p u.length + V p u) % p u.length) = x :: u
    have e1 : (x * p u.length + V p u) / p u.length = x := by
      rw [Int.add_comm, Int.add_mul_ediv_right _ _ (by omega), Int.ediv_eq_zero_of_lt v0 h1]; omega
    have e2 : (x * p u.length + V p u) % p u.length = V p u := by
      rw [Int.add_comm, Int.add_mul_emod_self_right]; exact Int.emod_eq_of_lt v0 h1
    rw [e1, e2, greedy_back h (by omega) hn.tail h2]
/-- a word is fit just when it is the greedy word of its worth -/
theorem fit_iff (h : H p d) {u : List Int} (hl : u.length ≤ 5) (hn : Nn u) : Fit p u ↔ V p u < p u.length ∧ greedy p u.length (V p u) = u :=
  ⟨fun ⟨a, b⟩ => ⟨a, greedy_back h (by omega) hn b⟩, fun ⟨a, b⟩ => b ▸ (greedy_fit h hl (V_nn h (by omega) hn) a).2⟩
/-! order -/
theorem lex_iff (h : H p d) : ∀ {u v : List Int}, u.length = v.length → u.length ≤ 6 → Nn u → Nn v → FitT p u → FitT p v → (u < v ↔ V p u < V p v)
  | [], [], _, _, _, _, _, _ => by simp [V]
  | x :: u, y :: v, hl, h6, nu, nv, fu, fv => by
    rw [List.length_cons] at h6
    have hl : u.length = v.length := by simpa using hl
    have hp := h.pos u.length (by omega)
    have v0 := V_nn h (u := u) (by omega) nu.tail
    have v1 := V_nn h (u := v) (by omega) nv.tail
    obtain ⟨a1, a2⟩ : V p u < p u.length ∧ FitT p u := fu
    obtain ⟨b1, b2⟩ : V p v < p v.length ∧ FitT p v := fv
    have ih := lex_iff h hl (by omega) nu.tail nv.tail a2 b2
    rw [List.cons_lt_cons_iff, ih]
    show _ ↔ x * p u.length + V p u < y * p v.length + V p v
    rw [← hl] at b1 ⊢
    rcases Int.lt_trichotomy x y with q | q | q
    · have := mul_lt q hp
      exact ⟨fun _ => by omega, fun _ => .inl q⟩
    · subst q
      exact ⟨fun e => by rcases e with e | ⟨_, e⟩ <;> omega, fun e => .inr ⟨rfl, by omega⟩⟩
    · have := mul_lt q hp
      exact ⟨fun e => by rcases e with e | ⟨e, _⟩ <;> omega, fun e => by omega⟩
  | [], _ :: _, hl, _, _, _, _, _ => nomatch hl
  | _ :: _, [], hl, _, _, _, _, _ => nomatch hl
/-! the front -/
noncomputable def fr (d : Nat → Int) : Nat → Nat → List Int
  | 0, _ => []
  | m + 1, c => d c :: fr d m (c + 1)
theorem fr_len (m : Nat) : ∀ c, (fr d m c).length = m := by
  induction m with
  | zero => intro _; rfl
  | succ m ih => intro c; show (fr d m _).length + 1 = _; rw [ih]
theorem fr_nn (h : H p d) : ∀ {m c : Nat}, c + m ≤ 5 → Nn (fr d m c)
  | 0, _, _ => fun _ h => nomatch h
  | m + 1, c, hl => fun y hy => by
    rcases List.mem_cons.mp hy with rfl | hy
    · exact h.nn c (by omega)
    · exact fr_nn h (by omega) y hy
theorem fr_V : ∀ {m c : Nat}, V p (fr d m c) = N p d m c - 1
  | 0, _ => rfl
  | m + 1, c => by
    show d c * p (fr d m (c + 1)).length + V p (fr d m (c + 1)) = d c * p m + N p d m (c + 1) - 1
    rw [fr_len, fr_V]; omega
theorem fr_fit (h : H p d) : ∀ {m c : Nat}, c + m ≤ 5 → Fit p (fr d m c)
  | 0, _, _ => ⟨by show (0 : Int) < p 0; rw [h.p0]; decide, trivial⟩
  | m + 1, c, hl => by
    have ih := fr_fit h (m := m) (c := c + 1) (by omega)
    have := h.le (m + 1) c hl
    exact ⟨by rw [fr_V, fr_len]; omega, ih⟩
theorem fr_top (h : H p d) {m : Nat} (hm : m ≤ 5) : V p (fr d m 0) = p m - 1 := by rw [fr_V, h.top m hm]
/-- an end of a fit word is the front's beginning just when it is worth the most -/
theorem eq_front (h : H p d) {u : List Int} (hl : u.length ≤ 5) (hn : Nn u) (hf : FitT p u) : u = fr d u.length 0 ↔ V p u = p u.length - 1 := by
  refine ⟨fun e => ?_, fun e => ?_⟩
  · have := fr_top h hl (d := d); rw [← e] at this; exact this
  · have a := greedy_back h (by omega) hn hf
    have b := greedy_back h (u := fr d u.length 0) (by rw [fr_len]; omega) (fr_nn h (by omega)) (fr_fit h (by omega)).2
    rw [fr_len, fr_top h hl, ← e, a] at b
    exact b
/-- fit words are those of which no end is above the front -/
theorem fit_let (h : H p d) : ∀ {u : List Int}, u.length ≤ 5 → Nn u → (Fit p u ↔ ∀ k, k < u.length → ¬ fr d (u.length - k) 0 < u.drop k)
  | [], _, _ => ⟨(fun _ k hk => nomatch hk), fun _ => ⟨by show (0 : Int) < p 0; rw [h.p0]; decide, trivial⟩⟩
  | x :: u, hl, hn => by
    have hl' : u.length + 1 ≤ 5 := hl
    have ih := fit_let h (u := u) (by omega) hn.tail
    have key : Fit p u → (V p (x :: u) < p (u.length + 1) ↔ ¬ fr d (u.length + 1) 0 < x :: u) := fun hf => by
      rw [lex_iff h (by rw [fr_len]; rfl) (by rw [fr_len]; omega) (fr_nn h (by omega)) hn (fr_fit h (by omega)).2 hf, fr_top h hl']
      omega
    refine ⟨fun hf k hk => ?_, fun hk => ?_⟩
    · have hu : Fit p u := hf.2
      rcases k with _ | k
      · exact (key hu).mp hf.1
      · rw [List.length_cons, show u.length + 1 - (k + 1) = u.length - k by omega, List.drop_succ_cons]
        exact ih.mp hu k (by rw [List.length_cons] at hk; omega)
    · have hu : Fit p u := ih.mpr fun k hk' => by
        have := hk (k + 1) (by rw [List.length_cons]; omega)
        rw [List.length_cons, show u.length + 1 - (k + 1) = u.length - k by omega, List.drop_succ_cons] at this
        exact this
      exact ⟨(key hu).mpr (hk 0 (Nat.succ_pos _)), hu⟩
/-! the longest end that is the front's beginning -/
theorem mx_le : ∀ (u : List Int), mx p u ≤ u.length
  | [] => Nat.le_refl _
  | x :: u => by
    show (if V p (x :: u) = p (u.length + 1) - 1 then u.length + 1 else mx p u) ≤ u.length + 1
    have := mx_le u
    split <;> omega
theorem drop_fit {u : List Int} : ∀ (k : Nat), Fit p u → Nn u → k ≤ u.length → Fit p (u.drop k) ∧ Nn (u.drop k) := by
  induction u with
  | nil => intro k hf hn hk; rw [List.drop_nil]; exact ⟨hf, hn⟩
  | cons x u ih =>
    intro k hf hn hk
    rcases k with _ | k
    · exact ⟨hf, hn⟩
    · exact ih k hf.2 hn.tail (by simpa using hk)
theorem mx_at (h : H p d) : ∀ {u : List Int}, u.length ≤ 5 → Nn u → FitT p u → u.drop (u.length - mx p u) = fr d (mx p u) 0
  | [], _, _, _ => rfl
  | x :: u, hl, hn, hf => by
    have hl' : u.length + 1 ≤ 5 := hl
    have em : mx p (x :: u) = if V p (x :: u) = p (u.length + 1) - 1 then u.length + 1 else mx p u := rfl
    rw [em, List.length_cons]
    split
    · rename_i q
      rw [Nat.sub_self, List.drop_zero]
      exact (eq_front h hl hn hf).mpr q
    · have := mx_le (p := p) u
      rw [show u.length + 1 - mx p u = (u.length - mx p u) + 1 by omega, List.drop_succ_cons]
      exact mx_at h (by omega) hn.tail (show Fit p u from hf).2
theorem mx_max (h : H p d) : ∀ {u : List Int}, u.length ≤ 5 → Nn u → FitT p u → ∀ j, j ≤ u.length → u.drop (u.length - j) = fr d j 0 → j ≤ mx p u
  | [], _, _, _, j, hj, _ => hj
  | x :: u, hl, hn, hf, j, hj, e => by
    have hl' : u.length + 1 ≤ 5 := hl
    have em : mx p (x :: u) = if V p (x :: u) = p (u.length + 1) - 1 then u.length + 1 else mx p u := rfl
    rw [List.length_cons] at hj e
    rw [em]
    split
    · exact hj
    · rename_i q
      by_cases hj' : j = u.length + 1
      · subst hj'
        rw [Nat.sub_self, List.drop_zero] at e
        exact absurd ((eq_front h hl hn hf).mp e) q
      · refine mx_max h (by omega) hn.tail (show Fit p u from hf).2 j (by omega) ?_
        rw [show u.length + 1 - j = (u.length - j) + 1 by omega, List.drop_succ_cons] at e
        exact e
/-! the next word -/
theorem greedy_zero (h : H p d) : ∀ {m : Nat}, m ≤ 6 → greedy p m 0 = List.replicate m 0
  | 0, _ => rfl
  | m + 1, hm => by
    show (0 : Int) / p m :: greedy p m (0 % p m) = _
    rw [Int.zero_ediv, Int.zero_emod, greedy_zero h (by omega)]; rfl
/-- the word that is counted to -/
noncomputable def nxt (c : Nat) (u : List Int) : List Int := u.take (u.length - 1 - c) ++ (u.getD (u.length - 1 - c) 0 + 1) :: List.replicate c 0
theorem greedy_next (h : H p d) : ∀ {m : Nat} {r : Int}, m ≤ 5 → 0 ≤ r → r + 1 < p m → mx p (greedy p m r) < m ∧ greedy p m (r + 1) = nxt (mx p (greedy p m r)) (greedy p m r)
  | 0, r, _, h0, h1 => by rw [h.p0] at h1; omega
  | m + 1, r, hm, h0, h1 => by
    have hp := h.pos m (by omega)
    have f := greedy_fit h (m := m + 1) hm h0 (by omega)
    have f' := greedy_fit h (m := m) (r := r % p m) (by omega) (Int.emod_nonneg _ (by omega)) (Int.emod_lt_of_pos _ hp)
    have l0 := Int.emod_nonneg r (show p m ≠ 0 by omega)
    have l1 := Int.emod_lt_of_pos r hp
    have ee := Int.ediv_mul_add_emod r (p m)
    have eg : greedy p (m + 1) r = (r / p m) :: greedy p m (r % p m) := rfl
    have em : mx p (greedy p (m + 1) r) = mx p (greedy p m (r % p m)) := by
      show (if V p ((r / p m) :: greedy p m (r % p m)) = p ((greedy p m (r % p m)).length + 1) - 1 then _ else _) = _
      rw [← eg, f.1, greedy_len, if_neg (by omega)]
    rw [em]
    have hle := mx_le (p := p) (greedy p m (r % p m))
    rw [greedy_len] at hle
    refine ⟨by omega, ?_⟩
    by_cases q : r % p m + 1 < p m
    · obtain ⟨a, b⟩ := greedy_next h (m := m) (by omega) l0 q
      have e1 : (r + 1) / p m = r / p m := by
        have : r + 1 = (r % p m + 1) + r / p m * p m := by omega
        rw [this, Int.add_mul_ediv_right _ _ (by omega), Int.ediv_eq_zero_of_lt (by omega) q]; omega
      have e2 : (r + 1) % p m = r % p m + 1 := by
        have : r + 1 = (r % p m + 1) + r / p m * p m := by omega
        rw [this, Int.add_mul_emod_self_right]; exact Int.emod_eq_of_lt (by omega) q
      show (r + 1) / p m :: greedy p m ((r + 1) % p m) = _
      rw [e1, e2, b, eg]
      unfold nxt
      rw [List.length_cons, greedy_len, show m + 1 - 1 - mx p (greedy p m (r % p m)) = (m - 1 - mx p (greedy p m (r % p m))) + 1 by omega, List.take_succ_cons, List.getD_cons_succ]
      rfl
    · have q' : r % p m = p m - 1 := by omega
      have e1 : (r + 1) / p m = r / p m + 1 := by
        have : r + 1 = 0 + (r / p m + 1) * p m := by rw [Int.add_mul]; omega
        rw [this, Int.add_mul_ediv_right _ _ (by omega), Int.zero_ediv]; omega
      have e2 : (r + 1) % p m = 0 := by
        have : r + 1 = 0 + (r / p m + 1) * p m := by rw [Int.add_mul]; omega
        rw [this, Int.add_mul_emod_self_right, Int.zero_emod]
      have em2 : mx p (greedy p m (r % p m)) = m := by
        cases m with
        | zero => rfl
        | succ m =>
          show (if V p (greedy p (m + 1) (r % p (m + 1))) = p ((greedy p m _).length + 1) - 1 then (greedy p m _).length + 1 else _) = _
          rw [f'.1, greedy_len, if_pos q']
      show (r + 1) / p m :: greedy p m ((r + 1) % p m) = _
      rw [e1, e2, em2, eg, greedy_zero h (by omega)]
      unfold nxt
      rw [List.length_cons, greedy_len, show m + 1 - 1 - m = 0 by omega]
      rfl
theorem mx_top (h : H p d) {r : Int} (h0 : 0 ≤ r) (h1 : r < p 5) : mx p (greedy p 5 r) = 5 ↔ r = p 5 - 1 := by
  have f := greedy_fit h (m := 5) (by omega) h0 h1
  refine ⟨fun e => ?_, fun e => ?_⟩
  · by_cases q : r + 1 < p 5
    · have := (greedy_next h (by omega) h0 q).1; omega
    · omega
  · show (if V p (greedy p 5 r) = p ((greedy p 4 _).length + 1) - 1 then (greedy p 4 _).length + 1 else _) = _
    rw [f.1, greedy_len, if_pos e]
end Mth
end
section
open Mth
/-- the signs of a word -/
noncomputable def wd (low : Int) (u : List Int) : List Nat := u.map fun x => (low + x).toNat
noncomputable def pls (d : List Int) : Nat → List Int
  | 0 => [1]
  | n + 1 => pls d n ++ [1 + ((List.range (n + 1)).map fun k => d.getD k 0 * (pls d n).getD (n - k) 0).sum]
noncomputable def win (e : List Int) (p : Nat) : List Int := (e.drop p).take 5
/-- what the walk needs of a front -/
noncomputable def okd (d : List Int) : Bool :=
  let p := pls d 5
  let P : Nat → Int := fun m => p.getD m 0
  let D : Nat → Int := fun i => d.getD i 0
  decide (d.length = 5) && decide (p.length = 6) && p.all (fun x => decide (0 < x) && decide (x < 1048576)) && decide (P 0 = 1) && (List.range 6).all (fun m => decide (N P D m 0 = P m)) &&
    (List.range 6).all (fun m => (List.range (6 - m)).all fun c => decide (N P D m c ≤ P m)) && d.all (fun x => decide (0 ≤ x) && decide (x ≤ 3)) && decide (2 ≤ P 5) && (List.range 5).all (fun i => decide (0 ≤ D i))
structure LawD (d p : List Int) : Prop where
  dl : d.length = 5
  pl : p.length = 6
  pp : ∀ x ∈ p, 0 < x ∧ x < 2 ^ 20
  h : H (fun m => p.getD m 0) (fun i => d.getD i 0)
  d3 : ∀ x ∈ d, 0 ≤ x ∧ x ≤ 3
  two : 2 ≤ p.getD 5 0
theorem pls_len (d : List Int) : ∀ n, (pls d n).length = n + 1
  | 0 => rfl
  | n + 1 => by show (pls d n ++ [_]).length = _; rw [List.length_append, pls_len d n]; rfl
theorem lawD_of {d : List Int} (h : okd d = true) : LawD d (pls d 5) := by
  unfold okd at h
  simp only [Bool.and_eq_true, decide_eq_true_eq, List.all_eq_true] at h
  obtain ⟨⟨⟨⟨⟨⟨⟨⟨h1, h2⟩, h3⟩, h4⟩, h5⟩, h6⟩, h7⟩, h8⟩, h9⟩ := h
  refine ⟨h1, h2, fun x hx => h3 x hx, ⟨fun m hm => ?_, h4, fun m hm => h5 m (List.mem_range.mpr (by omega)), fun m c hc => h6 m (List.mem_range.mpr (by omega)) c (List.mem_range.mpr (by omega)), fun i hi => h9 i (List.mem_range.mpr hi)⟩, h7, h8⟩
  show 0 < (pls d 5).getD m 0
  rw [List.getD_eq_getElem?_getD, List.getElem?_eq_getElem (by omega)]
  exact (h3 _ (List.getElem_mem _)).1
/-- the line -/
noncomputable def eln (b : Bool) (s1 s2 s3 : Int) : List Int := if b then [s1, s2, s3, s3, s3, s3, s3, s3, s3] else [s1, s2, s3, 0, 0, 0, 0, 0, 0]
noncomputable def allOk : Bool := [true, false].all fun b => [1, 2, 3].all fun s1 => [1, 2, 3].all fun s2 => [1, 2, 3].all fun s3 => (List.range 4).all fun p =>
  (List.range 4).any (fun j => decide (win (eln b s1 s2 s3) p < win (eln b s1 s2 s3) j)) || okd (win (eln b s1 s2 s3) p)
theorem allOk_true : allOk = true := by decide +kernel
noncomputable def someTop : Bool := [true, false].all fun b => [1, 2, 3].all fun s1 => [1, 2, 3].all fun s2 => [1, 2, 3].all fun s3 => (List.range 4).any fun p =>
  (List.range 4).all (fun j => decide (¬ win (eln b s1 s2 s3) p < win (eln b s1 s2 s3) j))
theorem someTop_true : someTop = true := by decide +kernel
theorem mem3 {s : Int} (h : 1 ≤ s ∧ s ≤ 3) : s ∈ ([1, 2, 3] : List Int) := by
  have : s = 1 ∨ s = 2 ∨ s = 3 := by omega
  rcases this with rfl | rfl | rfl <;> decide
theorem top_ok {b : Bool} {s1 s2 s3 : Int} (h1 : 1 ≤ s1 ∧ s1 ≤ 3) (h2 : 1 ≤ s2 ∧ s2 ≤ 3) (h3 : 1 ≤ s3 ∧ s3 ≤ 3) {p : Nat} (hp : p < 4) (ht : ∀ j, j < 4 → ¬ win (eln b s1 s2 s3) p < win (eln b s1 s2 s3) j) : LawD (win (eln b s1 s2 s3) p) (pls (win (eln b s1 s2 s3) p) 5) := by
  have h := allOk_true
  unfold allOk at h
  have := List.all_eq_true.mp (List.all_eq_true.mp (List.all_eq_true.mp (List.all_eq_true.mp (List.all_eq_true.mp h b (by cases b <;> decide)) s1 (mem3 h1)) s2 (mem3 h2)) s3 (mem3 h3)) p (List.mem_range.mpr hp)
  rcases Bool.or_eq_true_iff.mp this with q | q
  · obtain ⟨j, hj, e⟩ := List.any_eq_true.mp q
    exact absurd (of_decide_eq_true e) (ht j (List.mem_range.mp hj))
  · exact lawD_of q
theorem top_some {b : Bool} {s1 s2 s3 : Int} (h1 : 1 ≤ s1 ∧ s1 ≤ 3) (h2 : 1 ≤ s2 ∧ s2 ≤ 3) (h3 : 1 ≤ s3 ∧ s3 ≤ 3) : ∃ p, p < 4 ∧ ∀ j, j < 4 → ¬ win (eln b s1 s2 s3) p < win (eln b s1 s2 s3) j := by
  have h := someTop_true
  unfold someTop at h
  obtain ⟨p, hp, e⟩ := List.any_eq_true.mp (List.all_eq_true.mp (List.all_eq_true.mp (List.all_eq_true.mp (List.all_eq_true.mp h b (by cases b <;> decide)) s1 (mem3 h1)) s2 (mem3 h2)) s3 (mem3 h3))
  exact ⟨p, List.mem_range.mp hp, fun j hj => of_decide_eq_true (List.all_eq_true.mp e j (List.mem_range.mpr hj))⟩
end
section
open Mth PySem
theorem lt_no {a b : List Nat} (h : a < b) : ¬ b < a := fun h' => absurd (List.lt_trans h h') (List.lt_irrefl a)
theorem lt_tri (a b : List Nat) : a < b ∨ a = b ∨ b < a := by
  induction a generalizing b with
  | nil => cases b with
    | nil => exact .inr (.inl rfl)
    | cons y b => exact .inl (List.nil_lt_cons _ _)
  | cons x a ih => cases b with
    | nil => exact .inr (.inr (List.nil_lt_cons _ _))
    | cons y b =>
      rcases Nat.lt_trichotomy x y with q | q | q
      · exact .inl (List.cons_lt_cons_iff.mpr (.inl q))
      · subst q
        rcases ih b with h | h | h
        · exact .inl (List.cons_lt_cons_iff.mpr (.inr ⟨rfl, h⟩))
        · exact .inr (.inl (by rw [h]))
        · exact .inr (.inr (List.cons_lt_cons_iff.mpr (.inr ⟨rfl, h⟩)))
      · exact .inr (.inr (List.cons_lt_cons_iff.mpr (.inl q)))
theorem coll_tx (a b : List Nat) : coll (tx a) (tx b) = if a < b then -1 else if b < a then 1 else 0 := by
  unfold coll
  rw [tx_list, tx_list]
  by_cases h : a < b
  · rw [if_pos h, decide_eq_true h, decide_eq_false (lt_no h)]; rfl
  · rw [if_neg h, decide_eq_false h]
    by_cases h' : b < a
    · rw [if_pos h', decide_eq_true h']; rfl
    · rw [if_neg h', decide_eq_false h']; rfl
theorem wd_lt {low : Int} (h0 : 0 ≤ low) : ∀ {u v : List Int}, Nn u → Nn v → (wd low u < wd low v ↔ u < v)
  | [], [], _, _ => by simp [wd]
  | [], y :: v, _, _ => by simp [wd]
  | x :: u, [], _, _ => by simp [wd]
  | x :: u, y :: v, hu, hv => by
    have ih := wd_lt h0 hu.tail hv.tail
    show (low + x).toNat :: wd low u < (low + y).toNat :: wd low v ↔ _
    rw [List.cons_lt_cons_iff, List.cons_lt_cons_iff, ih]
    have := hu.head
    have := hv.head
    have e1 : (low + x).toNat < (low + y).toNat ↔ x < y := by omega
    have e2 : (low + x).toNat = (low + y).toNat ↔ x = y := by omega
    rw [e1, e2]
theorem wd_inj {low : Int} (h0 : 0 ≤ low) : ∀ {u v : List Int}, Nn u → Nn v → (wd low u = wd low v ↔ u = v)
  | [], [], _, _ => by simp [wd]
  | [], y :: v, _, _ => by simp [wd]
  | x :: u, [], _, _ => by simp [wd]
  | x :: u, y :: v, hu, hv => by
    have ih := wd_inj h0 hu.tail hv.tail
    show (low + x).toNat :: wd low u = (low + y).toNat :: wd low v ↔ _
    rw [List.cons.injEq, List.cons.injEq, ih]
    have := hu.head
    have := hv.head
    have e2 : (low + x).toNat = (low + y).toNat ↔ x = y := by omega
    rw [e2]
theorem coll_wd {low : Int} (h0 : 0 ≤ low) {u v : List Int} (hu : Nn u) (hv : Nn v) : coll (tx (wd low u)) (tx (wd low v)) = if u < v then -1 else if v < u then 1 else 0 := by
  rw [coll_tx]
  by_cases h : u < v
  · rw [if_pos h, if_pos ((wd_lt h0 hu hv).mpr h)]
  · rw [if_neg h, if_neg (fun q => h ((wd_lt h0 hu hv).mp q))]
    by_cases h' : v < u
    · rw [if_pos h', if_pos ((wd_lt h0 hv hu).mpr h')]
    · rw [if_neg h', if_neg (fun q => h' ((wd_lt h0 hv hu).mp q))]
theorem coll_neg {low : Int} (h0 : 0 ≤ low) {u v : List Int} (hu : Nn u) (hv : Nn v) : (coll (tx (wd low u)) (tx (wd low v)) == -1) = decide (u < v) := by
  rw [coll_wd h0 hu hv]
  by_cases h : u < v
  · rw [if_pos h, decide_eq_true h]; rfl
  · rw [if_neg h, decide_eq_false h]
    split <;> rfl
theorem eln_nn {b : Bool} {s1 s2 s3 : Int} (h1 : 1 ≤ s1 ∧ s1 ≤ 3) (h2 : 1 ≤ s2 ∧ s2 ≤ 3) (h3 : 1 ≤ s3 ∧ s3 ≤ 3) : Nn (eln b s1 s2 s3) := by
  intro x hx
  unfold eln at hx
  split at hx <;> simp at hx <;> omega
theorem win_nn {b : Bool} {s1 s2 s3 : Int} (h1 : 1 ≤ s1 ∧ s1 ≤ 3) (h2 : 1 ≤ s2 ∧ s2 ≤ 3) (h3 : 1 ≤ s3 ∧ s3 ≤ 3) (p : Nat) : Nn (win (eln b s1 s2 s3) p) :=
  fun x hx => eln_nn h1 h2 h3 x (List.mem_of_mem_drop (List.mem_of_mem_take hx))
/-- the front is the first window that no other stands above -/
theorem front_ok {low : Int} {b : Bool} {s1 s2 s3 : Int} (h0 : 0 ≤ low) (h1 : 1 ≤ s1 ∧ s1 ≤ 3) (h2 : 1 ≤ s2 ∧ s2 ≤ 3) (h3 : 1 ≤ s3 ∧ s3 ≤ 3) :
    ∃ p, (((List.range 4).filter fun i => ((List.range 4).filter fun j => coll (tx (wd low (win (eln b s1 s2 s3) i))) (tx (wd low (win (eln b s1 s2 s3) j))) == -1).length == 0).map fun i => tx (wd low (win (eln b s1 s2 s3) i)))[0]? = some (tx (wd low (win (eln b s1 s2 s3) p))) ∧
      LawD (win (eln b s1 s2 s3) p) (pls (win (eln b s1 s2 s3) p) 5) := by
  have key : ∀ i, (((List.range 4).filter fun j => coll (tx (wd low (win (eln b s1 s2 s3) i))) (tx (wd low (win (eln b s1 s2 s3) j))) == -1).length == 0) = true ↔ ∀ j, j < 4 → ¬ win (eln b s1 s2 s3) i < win (eln b s1 s2 s3) j := by
    intro i
    rw [beq_iff_eq, List.length_eq_zero_iff, List.filter_eq_nil_iff]
    constructor
    · intro h j hj
      have := h j (List.mem_range.mpr hj)
      rw [coll_neg h0 (win_nn h1 h2 h3 _) (win_nn h1 h2 h3 _)] at this
      simpa using this
    · intro h j hj
      rw [coll_neg h0 (win_nn h1 h2 h3 _) (win_nn h1 h2 h3 _)]
      simpa using h j (List.mem_range.mp hj)
  obtain ⟨q, hq, ht⟩ := top_some (b := b) h1 h2 h3
  have hne : q ∈ (List.range 4).filter fun i => ((List.range 4).filter fun j => coll (tx (wd low (win (eln b s1 s2 s3) i))) (tx (wd low (win (eln b s1 s2 s3) j))) == -1).length == 0 := List.mem_filter.mpr ⟨List.mem_range.mpr hq, (key q).mpr ht⟩
  revert hne
  cases hf : (List.range 4).filter fun i => ((List.range 4).filter fun j => coll (tx (wd low (win (eln b s1 s2 s3) i))) (tx (wd low (win (eln b s1 s2 s3) j))) == -1).length == 0 with
  | nil => intro h; cases h
  | cons p r =>
    intro _
    have hp : p ∈ (List.range 4).filter fun i => ((List.range 4).filter fun j => coll (tx (wd low (win (eln b s1 s2 s3) i))) (tx (wd low (win (eln b s1 s2 s3) j))) == -1).length == 0 := by rw [hf]; exact .head _
    obtain ⟨hp1, hp2⟩ := List.mem_filter.mp hp
    exact ⟨p, rfl, top_ok h1 h2 h3 (List.mem_range.mp hp1) ((key p).mp hp2)⟩
end
section
open PySem PySem.W PyProof.Rows PySem.Calls
variable {w : World} {A : Around} {X : Amb} {Λ Λ' : List Cell} {env : Env}
theorem Ev.itemTW {value slice : Expr} {pos : Pos} {Q : Value → List Cell → Prop}
    (h : Ev w X A Λ (eval value env) fun o Λ₁ => Ev w X A Λ₁ (eval slice env) fun i' Λ₂ => ∃ l ns k i, o = .ref l ∧ (∃ t, i' = .int k t) ∧ Has X Λ₂ l (slst l ns).P ∧ 0 ≤ k ∧ k < 2 ^ 63 ∧ ns[k.toNat]? = some i ∧ ∀ t, Q (.str i t) Λ₂)
    (hs' : ∀ o i, subscripted slice false o i = operate [o, i] (getItem o i) := by intro _ _; with_unfolding_all rfl) : Ev w X A Λ (eval (.Subscript value slice pos) env) Q := fun s hs =>
  Subscript_ (h.useB hs fun o s₁ Λ₁ h₁ q => q.useB h₁ fun i s₂ Λ₂ h₂ q => by
    obtain ⟨l, ns, k, i, rfl, ⟨t, rfl⟩, hl, h0, h1, hv, q⟩ := q
    obtain ⟨vs, hl, hi⟩ := has_slst hl h₂
    obtain ⟨t', ht⟩ := hi.get _ _ hv
    exact tail_any hl.typeIs slot_list_getitem.lookup (getItem_listL hl h0 h1 ht ⟨Λ₂, h₂, q _⟩) (hs' _ _))
theorem ilst_items {a : Addr} {ns : List Int} (o : Obj) (h : (ilst a ns).P o) : ∃ vs m, o = { cls := .type "list", data := .seq vs m } ∧ vs.size = ns.length ∧ ∀ j v, vs[j]? = some v → ∃ t, v = Value.int (ns.getD j 0) t := by
  obtain ⟨vs, n, hi, rfl⟩ := h
  refine ⟨_, n, rfl, by rw [List.size_toArray, hi.length], fun j v e => ?_⟩
  rw [List.getElem?_toArray] at e
  obtain ⟨y, t, e1, rfl⟩ := IntsAre.at hi e
  exact ⟨t, by rw [List.getD_eq_getElem?_getD, e1]; rfl⟩
theorem slst_items {a : Addr} {ns : List Str} (o : Obj) (h : (slst a ns).P o) : ∃ vs m, o = { cls := .type "list", data := .seq vs m } ∧ vs.size = ns.length ∧ ∀ j v, vs[j]? = some v → ∃ t, v = Value.str (ns.getD j Str.empty) t := by
  obtain ⟨vs, n, hi, rfl⟩ := h
  have key : ∀ {vs : List Value} {ns : List Str}, StrsAre vs ns → vs.length = ns.length ∧ ∀ j v, vs[j]? = some v → ∃ t, v = Value.str (ns.getD j Str.empty) t := by
    intro vs ns hi
    induction hi with
    | nil => exact ⟨rfl, fun j v e => by simp at e⟩
    | cons y t r ih =>
      refine ⟨by rw [List.length_cons, List.length_cons, ih.1], fun j v e => ?_⟩
      rcases j with _ | j
      · cases e; exact ⟨t, rfl⟩
      · exact ih.2 j v e
  obtain ⟨h1, h2⟩ := key hi
  exact ⟨_, n, rfl, by rw [List.size_toArray, h1], fun j v e => h2 j v (by rwa [List.getElem?_toArray] at e)⟩
theorem filter_all (n : Nat) : (List.range n).filter (fun _ => true) = List.range n := List.filter_eq_self.mpr fun _ _ => rfl
theorem map_getD {α β : Type} (l : List α) (z : α) (g : α → β) : (List.range l.length).map (fun i => g (l.getD i z)) = l.map g := by
  apply List.ext_getElem?
  intro j
  by_cases h : j < l.length
  · rw [List.getElem?_map, List.getElem?_range h, List.getElem?_map, List.getElem?_eq_getElem h]
    show some (g (l.getD j z)) = some (g l[j])
    rw [List.getD_eq_getElem?_getD, List.getElem?_eq_getElem h]; rfl
  · rw [List.getElem?_map, List.getElem?_map, List.getElem?_eq_none (by simpa using h), List.getElem?_eq_none (by omega)]; rfl
theorem wd_len (low : Int) (u : List Int) : (wd low u).length = u.length := List.length_map _
theorem wd_drop (low : Int) (u : List Int) (k : Nat) : (wd low u).drop k = wd low (u.drop k) := List.map_drop.symm
theorem wd_take (low : Int) (u : List Int) (k : Nat) : (wd low u).take k = wd low (u.take k) := List.map_take.symm
theorem told_line {m s1 s2 s3 : Int} : toldOf m s1 s2 s3 ++ (List.replicate ((9 : Int) - (toldOf m s1 s2 s3).length).toNat [0]).flatten = eln (decide (m = 0)) s1 s2 s3 := by
  unfold toldOf eln
  by_cases h : m = 0
  · rw [if_pos h, decide_eq_true h]; rfl
  · rw [if_neg h, decide_eq_false h]; rfl
theorem eln_len {b : Bool} {s1 s2 s3 : Int} : (eln b s1 s2 s3).length = 9 := by cases b <;> rfl
end
section
open PySem PySem.W PyProof.Rows PySem.Calls
variable {w : World} {A : Around} {X : Amb} {Λ Λ' : List Cell} {env : Env}
/-- up to the front -/
theorem law_c {L : Addr} {c : Value} {d : Option Addr} {fd : FuncData} {sl' : Array (Option Value)} {body : List Stmt} {Q : Flow → List Cell → Prop} (hfd : (K0 w).lookup 202 = some ⟨c, d, .func fd, sl'⟩) (hbody : fd.body = .stmts body)
    (hG : X.gp = AllBare) (B : Base w X.hb) (R : Rm A 100) {T Dr : Addr} {l : List (Str × Value)} {ds : List Int} {low s1 s2 s3 m : Int} {tl : Tok} (b1 : 1 ≤ s1 ∧ s1 ≤ 3) (b2 : 1 ≤ s2 ∧ s2 ≤ 3) (b3 : 1 ≤ s3 ∧ s3 ≤ 3) (hl : 97 ≤ low ∧ low ≤ 30096)
    (hT : al l "told" = some (.ref T))
    (next : ∀ d t, LawD d (pls d 5) → Ev w X A [nsc L (("front", .str (tx (wd low d)) t) :: l), ilst Dr ds, cel (L + 9) none, cel (L + 8) none, cel (L + 7) none, cel (L + 6) none, cel (L + 3) none, cel (L + 2) (some (.int low tl)), cel (L + 1) (some (.ref Dr)), tabc] (execs (body.drop 12) (callEnvC fd L 202)) Q) :
    Ev w X A [nsc L l, ilst T (toldOf m s1 s2 s3), ilst Dr ds, cel (L + 9) none, cel (L + 8) none, cel (L + 7) none, cel (L + 6) none, cel (L + 5) none, cel (L + 4) none, cel (L + 3) none, cel (L + 2) (some (.int low tl)), cel (L + 1) (some (.ref Dr)), tabc] (execs (body.drop 9) (callEnvC fd L 202)) Q := by
  have e := hfd.symm.trans (by rfl : (K0 w).lookup 202 = some ⟨_, _, .func _, _⟩)
  cases e
  cases hbody
  simp only [List.drop_succ_cons, List.drop_zero] at next ⊢
  have htl : (toldOf m s1 s2 s3).length ≤ 9 := by unfold toldOf; split <;> simp
  have htl2 : 3 ≤ (toldOf m s1 s2 s3).length := by unfold toldOf; split <;> simp
  refine Ev.seq (Ev.asg ?_)
  refine Ev.methS F.slot_str_join F.type_str_join ?_
  repeat walk_at "S"
  refine ⟨tx [], _, rfl, ?_⟩
  repeat walk_at "S"
  refine Ev.compT (fun _ => true) (fun i => tx [(low + (eln (decide (m = 0)) s1 s2 s3).getD i 0).toNat]) (by rfl) ?_
  repeat walk_at "S"
  refine Ev.listI ?_
  repeat walk_at "S"
  refine ⟨by show 1 ≤ sizeLine; decide, [0], .cons _ _ .nil, fun Z => ?_⟩
  repeat walk_at "S"
  refine Ev.lenI (Or.inl (by walk_at "mem")) (by omega) fun _ => ?_
  repeat walk_at "S"
  refine Ev.mulIL (ns := [0]) (Or.inl (by walk_at "mem")) (by omega) (by omega) (by simp; omega) fun Z2 => ?_
  refine Ev.addII (Or.inl (by walk_at "mem")) (Or.inl (by walk_at "mem")) (by simp; omega) fun Z3 => ?_
  rw [told_line]
  refine ⟨9, _, _, IterOf.list (P := (ilst Z3 (eln (decide (m = 0)) s1 s2 s3)).P) R (Or.inl (by walk_at "mem")) (fun o h => by have := ilst_items o h; rwa [eln_len] at this), ⟨by show 9 ≤ sizeLine; decide, ?_, ?_⟩, fun D => ?_⟩
  · rintro hb C i v hk hC hΛ hi ⟨tk, rfl⟩
    exact Ev.tests0 rfl
  · rintro hb C i v hk hC hΛ hi ⟨tk, rfl⟩ hT
    have B' := B.ext hk
    have c1 := hΛ (cel (L + 2) (some (.int low tl))) (by walk_at "mem")
    repeat walk_at "S"
    have hx : 0 ≤ (eln (decide (m = 0)) s1 s2 s3).getD i 0 ∧ (eln (decide (m = 0)) s1 s2 s3).getD i 0 ≤ 3 := by
      unfold eln
      split <;> (rcases i with _ | _ | _ | _ | _ | _ | _ | _ | _ | i <;> first | omega | (simp; omega) | simp)
    refine Ev.chr (by omega) (by omega) fun t => ?_
    exact ⟨t, rfl⟩
  rw [filter_all]
  have hmap : (List.range 9).map (fun i => tx [(low + (eln (decide (m = 0)) s1 s2 s3).getD i 0).toNat]) = (wd low (eln (decide (m = 0)) s1 s2 s3)).map fun c => tx [c] := by
    have := map_getD (eln (decide (m = 0)) s1 s2 s3) 0 fun x => tx [(low + x).toNat]
    rw [eln_len] at this
    rw [this]
    unfold wd
    rw [List.map_map]; rfl
  rw [hmap]
  repeat walk_at "S"
  refine Ev.joinL (Or.inl (by walk_at "mem")) (by rw [wd_len, eln_len]; decide) fun tln => ?_
  generalize decide (m = 0) = b
  refine Ev.storeC (c := L + 4) (by walk_at "put") ?_
  refine Ev.sub (Λ' := [nsc L l, ilst Dr ds, cel (L + 9) none, cel (L + 8) none, cel (L + 7) none, cel (L + 6) none, cel (L + 5) none, cel (L + 4) (some (.str (tx (wd low (eln b s1 s2 s3))) tln)), cel (L + 3) none, cel (L + 2) (some (.int low tl)), cel (L + 1) (some (.ref Dr)), tabc]) (by walk_at "sub") ?_
  refine Ev.aft (Ev.seq (Ev.asg ?_))
  refine Ev.compT (fun _ => true) (fun i => tx (wd low (win (eln b s1 s2 s3) i))) (by rfl) ?_
  repeat walk_at "S"
  refine ⟨4, _, _, IterOf.range R (by decide) rfl, ⟨by show 4 ≤ sizeLine; decide, ?_, ?_⟩, fun E => ?_⟩
  · rintro hb C i v hk hC hΛ hi ⟨tk, rfl⟩
    exact Ev.tests0 rfl
  · rintro hb C i v hk hC hΛ hi ⟨tk, rfl⟩ hT
    have B' := B.ext hk
    have c1 := hΛ (cel (L + 4) (some (.str (tx (wd low (eln b s1 s2 s3))) tln))) (by walk_at "mem")
    refine Ev.sliceM (wd low (eln b s1 s2 s3)) i (i + 5) ?_
    repeat walk_at "S"
    refine ⟨⟨_, rfl⟩, ⟨_, _, rfl, rfl⟩, ⟨_, _, rfl, by omega⟩, by rw [wd_len, eln_len]; decide, fun t => ⟨t, ?_⟩⟩
    rw [wd_drop, wd_take, show i + 5 - i = 5 by omega]; rfl
  rw [filter_all]
  refine Ev.storeC (c := L + 5) (by walk_at "put") ?_
  repeat walk_at "S"
  refine Ev.itemTW ?_
  refine Ev.compTc (fun i => ((List.range 4).filter fun j => coll (tx (wd low (win (eln b s1 s2 s3) i))) (tx (wd low (win (eln b s1 s2 s3) j))) == -1).length == 0) (fun i => tx (wd low (win (eln b s1 s2 s3) i))) (by rfl) ?_
  repeat walk_at "S"
  have hE : ∀ (hb : Heap), Cell.at (slst E ((List.range 4).map fun i => tx (wd low (win (eln b s1 s2 s3) i)))) hb → True := fun _ _ => trivial
  refine ⟨4, _, _, IterOf.list (P := (slst E ((List.range 4).map fun i => tx (wd low (win (eln b s1 s2 s3) i)))).P) R (Or.inl (by walk_at "mem")) (fun o h => by have := slst_items o h; rwa [List.length_map, List.length_range] at this), by show 4 ≤ sizeLine; decide, ?_, ?_, fun F => ?_⟩
  · rintro hb C i v hk hC hΛ hi ⟨tk, rfl⟩
    have B' := B.ext hk
    have hv : ((List.range 4).map fun i => tx (wd low (win (eln b s1 s2 s3) i))).getD i Str.empty = tx (wd low (win (eln b s1 s2 s3) i)) := by
      rw [List.getD_eq_getElem?_getD, List.getElem?_map, List.getElem?_range hi]; rfl
    rw [hv] at hC
    refine Ev.tests1 ?_
    walk_at "S"
    have c1 := hΛ (cel (L + 5) (some (.ref E))) (by walk_at "mem")
    have c2 := hΛ (slst E ((List.range 4).map fun i => tx (wd low (win (eln b s1 s2 s3) i)))) (by walk_at "mem")
    refine Ev.compT (fun j => coll (tx (wd low (win (eln b s1 s2 s3) i))) (tx (wd low (win (eln b s1 s2 s3) j))) == -1) (fun j => tx (wd low (win (eln b s1 s2 s3) j))) (by rfl) ?_
    repeat walk_at "S"
    refine ⟨4, _, _, IterOf.list (P := (slst E ((List.range 4).map fun i => tx (wd low (win (eln b s1 s2 s3) i)))).P) R (Or.inr c2) (fun o h => by have := slst_items o h; rwa [List.length_map, List.length_range] at this), ⟨by show 4 ≤ sizeLine; decide, ?_, ?_⟩, fun F2 => ?_⟩
    · rintro hb2 C2 j v2 hk2 hC2 hΛ2 hj ⟨tk2, rfl⟩
      have B'' := B'.ext hk2
      have hv2 : ((List.range 4).map fun i => tx (wd low (win (eln b s1 s2 s3) i))).getD j Str.empty = tx (wd low (win (eln b s1 s2 s3) j)) := by
        rw [List.getD_eq_getElem?_getD, List.getElem?_map, List.getElem?_range hj]; rfl
      rw [hv2] at hC2
      have c3 := Cell.at_of hC fun o e => hk2 _ o e
      refine Ev.tests1 ?_
      repeat walk_at "S"
      refine strcoll_spec B'' (R.le (by decide)) fun _ => ?_
      repeat walk_at "S"
      rfl
    · rintro hb2 C2 j v2 hk2 hC2 hΛ2 hj ⟨tk2, rfl⟩ hT2
      have hv2 : ((List.range 4).map fun i => tx (wd low (win (eln b s1 s2 s3) i))).getD j Str.empty = tx (wd low (win (eln b s1 s2 s3) j)) := by
        rw [List.getD_eq_getElem?_getD, List.getElem?_map, List.getElem?_range hj]; rfl
      rw [hv2] at hC2
      repeat walk_at "S"
      exact ⟨_, rfl⟩
    repeat walk_at "S"
    refine Ev.listI ?_
    repeat walk_at "S"
    refine ⟨by show 0 ≤ sizeLine; exact Nat.zero_le _, [], .nil, fun N0 => ?_⟩
    refine Ev.eqNil (P := (slst F2 (((List.range 4).filter fun j => coll (tx (wd low (win (eln b s1 s2 s3) i))) (tx (wd low (win (eln b s1 s2 s3) j))) == -1).map fun j => tx (wd low (win (eln b s1 s2 s3) j)))).P) R (fun o h => by obtain ⟨vs, m, e1, e2, _⟩ := slst_items o h; exact ⟨vs, m, e1, e2⟩) (Or.inl (by walk_at "mem")) (Or.inl (by walk_at "mem")) ?_
    repeat walk_at "S"
    rw [List.length_map]
  · rintro hb C i v hk hC hΛ hi ⟨tk, rfl⟩ hT
    have hv : ((List.range 4).map fun i => tx (wd low (win (eln b s1 s2 s3) i))).getD i Str.empty = tx (wd low (win (eln b s1 s2 s3) i)) := by
      rw [List.getD_eq_getElem?_getD, List.getElem?_map, List.getElem?_range hi]; rfl
    rw [hv] at hC
    repeat walk_at "S"
    exact ⟨_, rfl⟩
  repeat walk_at "S"
  obtain ⟨p, hp, hD⟩ := front_ok (low := low) (b := b) (by omega) b1 b2 b3
  refine ⟨F, _, 0, _, rfl, ⟨_, rfl⟩, Or.inl (by walk_at "mem"), by decide, by decide, hp, fun tf => ?_⟩
  refine Ev.sub (Λ' := [nsc L l, ilst Dr ds, cel (L + 9) none, cel (L + 8) none, cel (L + 7) none, cel (L + 6) none, cel (L + 3) none, cel (L + 2) (some (.int low tl)), cel (L + 1) (some (.ref Dr)), tabc]) (by walk_at "sub") ?_
  refine Ev.store (by walk_at "put") (Ev.aft ?_)
  exact next _ tf hD
end
section
open PySem PySem.W PyProof.Rows PySem.Calls
variable {w : World} {A : Around} {X : Amb} {Λ Λ' : List Cell} {env : Env}
theorem pls_pre (d : List Int) : ∀ n k, pls d n = (pls d (n + k)).take (n + 1)
  | n, 0 => by rw [List.take_of_length_le (by rw [pls_len]; omega)]; rfl
  | n, k + 1 => by
    show _ = (pls d (n + k) ++ [_]).take (n + 1)
    rw [List.take_append_of_le_length (by rw [pls_len]; omega)]
    exact pls_pre d n k
theorem bits3 {a b : Int} (h : 0 ≤ a ∧ a ≤ 3) : IntMulOk a b := by
  refine IntMulOk.of_left ?_
  have : a = 0 ∨ a = 1 ∨ a = 2 ∨ a = 3 := by omega
  rcases this with rfl | rfl | rfl | rfl <;> decide +kernel
theorem pls_small {d : List Int} (h : LawD d (pls d 5)) {i j : Nat} (hi : i ≤ 5) (hj : j ≤ i) : 0 < (pls d i).getD j 0 ∧ (pls d i).getD j 0 < 2 ^ 20 := by
  have hl := pls_len d i
  have e : (pls d i)[j]? = some ((pls d i).getD j 0) := by rw [List.getD_eq_getElem?_getD, List.getElem?_eq_getElem (by omega)]; rfl
  have hm := List.mem_of_getElem? e
  rw [pls_pre d i (5 - i), show i + (5 - i) = 5 by omega] at hm
  have := h.pp _ (List.mem_of_mem_take hm)
  rwa [pls_pre d i (5 - i), show i + (5 - i) = 5 by omega]
/-- the steps and the places -/
theorem law_d {L : Addr} {c : Value} {d0 : Option Addr} {fd : FuncData} {sl' : Array (Option Value)} {body : List Stmt} {Q : Flow → List Cell → Prop} (hfd : (K0 w).lookup 202 = some ⟨c, d0, .func fd, sl'⟩) (hbody : fd.body = .stmts body)
    (hG : X.gp = AllBare) (B : Base w X.hb) (R : Rm A 100) {Dr : Addr} {l : List (Str × Value)} {ds d : List Int} {low : Int} {tl tf : Tok} (hl : 97 ≤ low ∧ low ≤ 30096) (hD : LawD d (pls d 5)) (hds : Num7 ds)
    (next : ∀ Ls Lp l' tf tm ti, al l' "front" = some (.str (tx (wd low d)) tf) → al l' "most" = some (.int ((pls d 5).getD 5 0) tm) → al l' "first" = some (.int ((ds.getD 3 0).fmod ((pls d 5).getD 5 0)) ti) →
      Ev w X A [ilst Lp (pls d 5), ilst Ls d, nsc L l', ilst Dr ds, cel (L + 9) none, cel (L + 8) none, cel (L + 7) (some (.ref Lp)), cel (L + 6) (some (.ref Ls)), cel (L + 2) (some (.int low tl)), cel (L + 1) (some (.ref Dr)), tabc] (execs (body.drop 17) (callEnvC fd L 202)) Q) :
    Ev w X A [nsc L (("front", .str (tx (wd low d)) tf) :: l), ilst Dr ds, cel (L + 9) none, cel (L + 8) none, cel (L + 7) none, cel (L + 6) none, cel (L + 3) none, cel (L + 2) (some (.int low tl)), cel (L + 1) (some (.ref Dr)), tabc] (execs (body.drop 12) (callEnvC fd L 202)) Q := by
  have e := hfd.symm.trans (by rfl : (K0 w).lookup 202 = some ⟨_, _, .func _, _⟩)
  cases e
  cases hbody
  simp only [List.drop_succ_cons, List.drop_zero] at next ⊢
  have hdl := hD.dl
  have hd3 : ∀ i, i < 5 → d[i]? = some (d.getD i 0) ∧ 0 ≤ d.getD i 0 ∧ d.getD i 0 ≤ 3 := fun i hi => by
    have e : d[i]? = some (d.getD i 0) := by rw [List.getD_eq_getElem?_getD, List.getElem?_eq_getElem (by omega)]; rfl
    exact ⟨e, hD.d3 _ (List.mem_of_getElem? e)⟩
  refine Ev.seq (Ev.asg ?_)
  refine Ev.compI (fun _ => true) (fun i => d.getD i 0) (by rfl) ?_
  repeat walk_at "S"
  refine ⟨(tx (wd low d)).cps.size, _, _, IterOf.str R, ⟨?_, ?_, ?_⟩, fun Ls => ?_⟩
  · show (wd low d).length ≤ sizeLine
    rw [wd_len, hdl]; decide
  · rintro hb C i v hk hC hΛ hi hv
    exact Ev.tests0 rfl
  · rintro hb C i v hk hC hΛ hi ⟨cc, tk, hcc, rfl⟩ hT
    have hi5 : i < 5 := by
      have : i < (wd low d).length := hi
      rwa [wd_len, hdl] at this
    have B' := B.ext hk
    have c1 := hΛ (cel (L + 2) (some (.int low tl))) (by walk_at "mem")
    obtain ⟨e1, e2, e3⟩ := hd3 i hi5
    have ecc : cc = (low + d.getD i 0).toNat := by
      have h2 : (wd low d)[i]? = some cc := by
        have h3 : (wd low d).toArray[i]? = some cc := hcc
        rwa [List.getElem?_toArray] at h3
      unfold wd at h2
      rw [List.getElem?_map, e1] at h2
      exact (Option.some.inj h2).symm
    subst ecc
    repeat walk_at "S"
    refine Ev.ord rfl fun t => ?_
    repeat walk_at "S"
    refine ⟨_, congrArg (fun z => Value.int z _) ?_⟩
    show ((low + d.getD i 0).toNat : Int) - low = d.getD i 0
    omega
  have es : ((List.range (tx (wd low d)).cps.size).filter (fun _ => true)).map (fun i => d.getD i 0) = d := by
    have : (tx (wd low d)).cps.size = d.length := by show (wd low d).length = _; rw [wd_len]
    rw [this, filter_all]
    have := map_getD d 0 (fun x : Int => x)
    rw [this, List.map_id']
  rw [es]
  refine Ev.storeC (c := L + 6) (by walk_at "put") ?_
  repeat walk_at "S"
  refine Ev.listI ?_
  repeat walk_at "S"
  refine ⟨by show 1 ≤ sizeLine; decide, [1], .cons _ _ .nil, fun Lp => ?_⟩
  refine Ev.storeC (c := L + 7) (by walk_at "put") ?_
  repeat walk_at "S"
  refine Ev.for ?_
  repeat walk_at "S"
  refine Ev.iterRange (Or.inl (by walk_at "mem")) (by decide) (by decide) (by decide) (by decide) fun it => ?_
  refine EvC.range (n := 5) R (fun i Λ => ∃ r m u, Λ = [rng r 0 m, ilst Lp (pls d i), ilst Ls d, nsc L (("front", .str (tx (wd low d)) tf) :: l), ilst Dr ds, cel (L + 9) none, cel (L + 8) none, cel (L + 7) (some (.ref Lp)), cel (L + 6) (some (.ref Ls)), cel (L + 3) u, cel (L + 2) (some (.int low tl)), cel (L + 1) (some (.ref Dr)), tabc]) ?_ ?_ ⟨_, _, _, rfl⟩ (by decide)
  · rintro i Λ t hi ⟨r, m, u, rfl⟩
    refine Ev.storeC (c := L + 3) (by walk_at "put") ?_
    repeat walk_at "S"
    refine Ev.methN (l := Lp) slot_list_append type_list_append (P := (ilst Lp (pls d i)).P) (fun _ => ilst_LL) ?_
    repeat walk_at "S"
    refine ⟨rfl, Or.inl (by walk_at "mem"), ?_⟩
    repeat walk_at "S"
    refine Ev.compI (fun _ => true) (fun k => d.getD k 0 * (pls d i).getD (i - k) 0) (by rfl) ?_
    repeat walk_at "S"
    refine ⟨i + 1, _, _, IterOf.range R (by omega) (by omega), ⟨by rw [sizeLine_eq]; omega, ?_, ?_⟩, fun V => ?_⟩
    · rintro hb C k v hk hC hΛ hk1 ⟨tk, rfl⟩
      exact Ev.tests0 rfl
    · rintro hb C k v hk hC hΛ hk1 ⟨tk, rfl⟩ hT
      have B' := B.ext hk
      have c1 := hΛ (cel (L + 7) (some (.ref Lp))) (by walk_at "mem")
      have c2 := hΛ (cel (L + 6) (some (.ref Ls))) (by walk_at "mem")
      have c3 := hΛ (cel (L + 3) (some (.int (0 + i) t))) (by walk_at "mem")
      have c4 := hΛ (ilst Lp (pls d i)) (by walk_at "mem")
      have c5 := hΛ (ilst Ls d) (by walk_at "mem")
      repeat walk_at "S"
      refine Ev.itemI (l := Ls) (ns := d) (k := k) (i := d.getD k 0) ?_
      repeat walk_at "S"
      refine ⟨rfl, ⟨_, rfl⟩, Or.inr c5, by omega, by omega, (hd3 k (by omega)).1, fun _ => ?_⟩
      refine Ev.itemI (l := Lp) (ns := pls d i) (k := 0 + i - k) (i := (pls d i).getD (i - k) 0) ?_
      repeat walk_at "S"
      refine ⟨rfl, ⟨_, rfl⟩, Or.inr c4, by omega, by omega, ?_, fun _ => ?_⟩
      · rw [show ((0 : Int) + i - k).toNat = i - k by omega, List.getD_eq_getElem?_getD, List.getElem?_eq_getElem (by rw [pls_len]; omega)]; rfl
      refine Ev.mulI (bits3 (hd3 k (by omega)).2) fun t => ⟨t, rfl⟩
    rw [filter_all]
    repeat walk_at "S"
    refine Ev.sum R (Or.inl (by walk_at "mem")) fun _ => ?_
    repeat walk_at "S"
    refine Ev.sub ((List.Sublist.refl _).cons _) ?_
    refine Ev.appendI (by walk_at "put") (by rw [pls_len, sizeLine_eq]; omega) ?_
    refine ⟨noref_none, ?_⟩
    repeat walk_at "S"
    refine ⟨_, rfl, r, m, _, rfl⟩
  · rintro Λ ⟨r, m, u, rfl⟩
    repeat walk_at "S"
    refine Ev.itemI (l := Lp) (ns := pls d 5) (k := 5) (i := (pls d 5).getD 5 0) ?_
    repeat walk_at "S"
    refine ⟨rfl, ⟨_, rfl⟩, Or.inl (by walk_at "mem"), by decide, by decide, ?_, fun tm => ?_⟩
    · show (pls d 5)[5]? = _
      rw [List.getD_eq_getElem?_getD, List.getElem?_eq_getElem (by rw [pls_len]; decide)]; rfl
    repeat walk_at "S"
    refine Ev.itemI (l := Dr) (ns := ds) (k := 3) (i := ds.getD 3 0) ?_
    repeat walk_at "S"
    refine ⟨rfl, ⟨_, rfl⟩, Or.inl (by walk_at "mem"), by decide, by decide, ?_, fun _ => ?_⟩
    · show ds[3]? = _
      rw [List.getD_eq_getElem?_getD, List.getElem?_eq_getElem (by rw [hds.1]; decide)]; rfl
    repeat walk_at "S"
    refine Ev.modI (by have := hD.two; omega) fun ti => ?_
    refine Ev.store (by walk_at "put") (Ev.aft ?_)
    exact Ev.sub (by walk_at "sub") (next Ls Lp _ tf tm ti (by walk_at "al") (by walk_at "al") (by walk_at "al"))
end
section
open Mth PySem
noncomputable abbrev PP (d : List Int) : Nat → Int := fun m => (pls d 5).getD m 0
noncomputable abbrev DD (d : List Int) : Nat → Int := fun i => d.getD i 0
section
variable {d : List Int}
theorem fr_take (d : List Int) : ∀ {m c : Nat}, c + m ≤ d.length → fr (DD d) m c = (d.drop c).take m
  | 0, _, _ => by rw [List.take_zero]; rfl
  | m + 1, c, h => by
    show d.getD c 0 :: fr (DD d) m (c + 1) = _
    rw [fr_take d (by omega), List.getD_eq_getElem?_getD, List.getElem?_eq_getElem (by omega)]
    rw [show (d.drop c) = d[c]'(by omega) :: d.drop (c + 1) from List.drop_eq_getElem_cons (by omega), List.take_succ_cons]
    rfl
theorem fr0 (hD : LawD d (pls d 5)) {c : Nat} (hc : c ≤ 5) : fr (DD d) c 0 = d.take c := by
  rw [fr_take d (by rw [hD.dl]; omega), List.drop_zero]
theorem d_nn (hD : LawD d (pls d 5)) : Nn d := fun x hx => (hD.d3 x hx).1
/-- the digits are the greedy word -/
theorem dig_eq (hD : LawD d (pls d 5)) {r : Int} (h0 : 0 ≤ r) : dig0 (pls d 5) 5 r = greedy (PP d) 5 r := by
  have hp : ∀ m, m ≤ 5 → 0 < PP d m := hD.h.pos
  have fd : ∀ {a b : Int}, 0 < b → a.fdiv b = a / b := fun hb => Int.fdiv_eq_ediv_of_nonneg _ (Int.le_of_lt hb)
  have fm : ∀ {a b : Int}, 0 < b → a.fmod b = a % b := fun hb => Int.fmod_eq_emod_of_nonneg _ (Int.le_of_lt hb)
  have e4 := hp 4 (by decide)
  have e3 := hp 3 (by decide)
  have e2 := hp 2 (by decide)
  have e1 := hp 1 (by decide)
  have e0 := hp 0 (by decide)
  show [((dig1 (pls d 5) 0 r).fdiv (PP d 4)), (dig1 (pls d 5) 1 r).fdiv (PP d 3), (dig1 (pls d 5) 2 r).fdiv (PP d 2), (dig1 (pls d 5) 3 r).fdiv (PP d 1), (dig1 (pls d 5) 4 r).fdiv (PP d 0)] = _
  have g1 : dig1 (pls d 5) 1 r = r % PP d 4 := fm e4
  have g2 : dig1 (pls d 5) 2 r = r % PP d 4 % PP d 3 := by show (dig1 (pls d 5) 1 r).fmod (PP d 3) = _; rw [g1, fm e3]
  have g3 : dig1 (pls d 5) 3 r = r % PP d 4 % PP d 3 % PP d 2 := by show (dig1 (pls d 5) 2 r).fmod (PP d 2) = _; rw [g2, fm e2]
  have g4 : dig1 (pls d 5) 4 r = r % PP d 4 % PP d 3 % PP d 2 % PP d 1 := by show (dig1 (pls d 5) 3 r).fmod (PP d 1) = _; rw [g3, fm e1]
  rw [g1, g2, g3, g4, fd e4, fd e3, fd e2, fd e1, fd e0]
  rfl
theorem fin_le (hD : LawD d (pls d 5)) : ∀ {u : List Int} {c : Nat}, c + u.length ≤ 5 → (fin (DD d) c u).isSome = true → ∀ x ∈ u, x ≤ 3
  | [], _, _, _ => fun _ h => nomatch h
  | y :: u, c, hl, h => fun x hx => by
    rw [List.length_cons] at hl
    have hd : DD d c ≤ 3 := by
      have e : d[c]? = some (d.getD c 0) := by rw [List.getD_eq_getElem?_getD, List.getElem?_eq_getElem (by rw [hD.dl]; omega)]; rfl
      exact (hD.d3 _ (List.mem_of_getElem? e)).2
    have h' : (if y < DD d c then fin (DD d) 0 u else if y = DD d c then fin (DD d) (c + 1) u else none).isSome = true := h
    by_cases h1 : y < DD d c
    · rw [if_pos h1] at h'
      rcases List.mem_cons.mp hx with rfl | hx
      · omega
      · exact fin_le hD (by omega) h' x hx
    · rw [if_neg h1] at h'
      by_cases h2 : y = DD d c
      · rw [if_pos h2] at h'
        rcases List.mem_cons.mp hx with rfl | hx
        · omega
        · exact fin_le hD (by omega) h' x hx
      · rw [if_neg h2] at h'; cases h'
/-- a word that counts -/
structure Wrd (d : List Int) (r : Int) (u : List Int) : Prop where
  eq : u = greedy (PP d) 5 r
  len : u.length = 5
  nn : Nn u
  v : V (PP d) u = r
  fit : Fit (PP d) u
  le3 : ∀ x ∈ u, x ≤ 3
theorem wrd (hD : LawD d (pls d 5)) {r : Int} (h0 : 0 ≤ r) (h1 : r < PP d 5) : Wrd d r (greedy (PP d) 5 r) := by
  have f := greedy_fit hD.h (m := 5) (by omega) h0 h1
  have nn := greedy_nn hD.h (m := 5) (r := r) (by omega) h0
  exact ⟨rfl, greedy_len 5 r, nn, f.1, f.2, fin_le hD (by rw [greedy_len]; omega) ((fin0_iff hD.h (by rw [greedy_len]; omega) nn).mpr f.2)⟩
theorem nodots_wd {low : Int} (hl : 97 ≤ low) {u : List Int} (hu : Nn u) : nodots (wd low u) := fun c hc => by
  obtain ⟨x, hx, rfl⟩ := List.mem_map.mp hc
  have := hu x hx
  omega
theorem nn_drop {u : List Int} (h : Nn u) (k : Nat) : Nn (u.drop k) := fun x hx => h x (List.mem_of_mem_drop hx)
theorem nn_take {u : List Int} (h : Nn u) (k : Nat) : Nn (u.take k) := fun x hx => h x (List.mem_of_mem_take hx)
theorem wlen (low : Int) (u : List Int) : (wd low u).length = u.length := List.length_map _
theorem wdrop (low : Int) (u : List Int) (k : Nat) : (wd low u).drop k = wd low (u.drop k) := List.map_drop.symm
theorem wtake (low : Int) (u : List Int) (k : Nat) : (wd low u).take k = wd low (u.take k) := List.map_take.symm
theorem bd_iff (hD : LawD d (pls d 5)) {low : Int} (hl : 97 ≤ low) {u : List Int} (hu : Nn u) (h5 : u.length = 5) {c : Nat} (hc : c ≤ 5) : bd (wd low u) (wd low d) c = true ↔ u.drop (5 - c) = d.take c := by
  have e1 : ((wd low u).drop (5 - c)).length = c := by rw [List.length_drop, wlen, h5]; omega
  have e2 : (wd low d).drop 5 = [] := List.drop_of_length_le (by rw [wlen, hD.dl]; omega)
  unfold bd ell
  rw [e1, List.length_nil, Nat.add_zero, wlen, hD.dl, decide_eq_true hc, Bool.true_and, Nat.sub_zero, e2, wtake, wdrop]
  have : (([] : List Nat) == []) = true := rfl
  rw [this, Bool.and_true, beq_iff_eq, wd_inj (by omega) (nn_take (d_nn hD) _) (nn_drop hu _)]
  exact ⟨Eq.symm, Eq.symm⟩
theorem carry_eq (hD : LawD d (pls d 5)) {low : Int} (hl : 97 ≤ low) {r : Int} {u : List Int} (W : Wrd d r u) {c : Nat} (hc : c ≤ 5) (hb : bd (wd low u) (wd low d) c = true) (hm : ∀ j, j ≤ 5 → bd (wd low u) (wd low d) j = true → j ≤ c) : c = mx (PP d) u := by
  have h5 := mx_le (p := PP d) u
  rw [W.len] at h5
  have at1 := mx_at hD.h (u := u) (by rw [W.len]; omega) W.nn W.fit.2
  rw [W.len, fr0 hD h5] at at1
  have a := hm _ h5 ((bd_iff hD hl W.nn W.len h5).mpr at1)
  have b : c ≤ mx (PP d) u := mx_max hD.h (u := u) (by rw [W.len]; omega) W.nn W.fit.2 c (by rw [W.len]; exact hc) (by rw [W.len, fr0 hD hc]; exact (bd_iff hD hl W.nn W.len hc).mp hb)
  omega
end
end
section
open Mth PySem
section
variable {d : List Int}
theorem lt_take : ∀ {d : List Int} {c : Nat}, c < d.length → d.take c < d
  | x :: d, 0, _ => List.nil_lt_cons _ _
  | x :: d, c + 1, h => by
    rw [List.take_succ_cons]
    exact List.cons_lt_cons_iff.mpr (.inr ⟨rfl, lt_take (by simpa using h)⟩)
  | [], c, h => nomatch h
/-- comparing with the front is comparing with its beginning -/
theorem lt_front : ∀ {u d : List Int}, u.length ≤ d.length → (d < u ↔ d.take u.length < u)
  | [], d, _ => by simp
  | x :: u, [], h => nomatch h
  | x :: u, y :: d, h => by
    rw [List.length_cons, List.take_succ_cons, List.cons_lt_cons_iff, List.cons_lt_cons_iff, lt_front (by simpa using h)]
theorem ilt_no {a b : List Int} (h : a < b) : ¬ b < a := fun h' => absurd (List.lt_trans h h') (List.lt_irrefl a)
theorem let_eq (hD : LawD d (pls d 5)) {low : Int} (hl : 97 ≤ low) {u : List Int} (hu : Nn u) (h5 : u.length = 5) : letOk (wd low u) (wd low d) = true ↔ Fit (PP d) u := by
  rw [fit_let hD.h (by omega) hu]
  unfold letOk
  rw [beq_iff_eq, List.map_eq_nil_iff, List.filter_eq_nil_iff]
  have key : ∀ k, k < 5 → ((coll (tx ((wd low u).drop k)) (tx (wd low d)) == 1) = true ↔ fr (DD d) (u.length - k) 0 < u.drop k) := by
    intro k hk
    have hlen : (u.drop k).length = 5 - k := by rw [List.length_drop, h5]
    rw [wdrop, coll_wd (by omega) (nn_drop hu k) (d_nn hD), h5, fr0 hD (by omega), beq_iff_eq]
    rw [show d.take (5 - k) = d.take (u.drop k).length by rw [hlen], ← lt_front (by rw [hlen, hD.dl]; omega)]
    by_cases q : u.drop k < d
    · rw [if_pos q]
      exact ⟨(fun e => by cases e), fun e => absurd e (ilt_no q)⟩
    · rw [if_neg q]
      by_cases q2 : d < u.drop k
      · rw [if_pos q2]; exact ⟨fun _ => q2, fun _ => rfl⟩
      · rw [if_neg q2]; exact ⟨(fun e => by cases e), fun e => absurd e q2⟩
  constructor
  · intro h k hk
    rw [h5] at hk
    have := h k (List.mem_range.mpr hk)
    exact fun q => this ((key k hk).mpr q)
  · intro h k hk
    have hk := List.mem_range.mp hk
    exact fun q => h k (by rw [h5]; exact hk) ((key k hk).mp q)
/-- the automaton -/
theorem sym_run (hD : LawD d (pls d 5)) {lost : Int} (hl : lost < 256) : ∀ (u : List Int) (c : Nat), c + u.length ≤ 5 → u.foldl (symS d lost) (256 + c) = match fin (DD d) c u with | some e => 256 + (e : Int) | none => lost
  | [], c, _ => rfl
  | x :: u, c, h => by
    rw [List.length_cons] at h
    rw [List.foldl_cons]
    have e0 : symS d lost (256 + c) x = if x < DD d c then 256 else if x = DD d c then 256 + ((c + 1 : Nat) : Int) else lost := by
      unfold symS
      rw [if_pos (by omega), show ((256 : Int) + c - 256).toNat = c by omega]
      by_cases h1 : x < d.getD c 0
      · rw [if_pos h1, if_pos h1]
      · rw [if_neg h1, if_neg h1]
        by_cases h2 : x = d.getD c 0
        · rw [if_pos (by omega), if_pos h2]; push_cast; omega
        · rw [if_neg (by omega), if_neg h2]
    rw [e0]
    have e1 : fin (DD d) c (x :: u) = if x < DD d c then fin (DD d) 0 u else if x = DD d c then fin (DD d) (c + 1) u else none := rfl
    rw [e1]
    by_cases h1 : x < DD d c
    · rw [if_pos h1, if_pos h1]
      exact sym_run hD hl u 0 (by omega)
    · rw [if_neg h1, if_neg h1]
      by_cases h2 : x = DD d c
      · rw [if_pos h2, if_pos h2]
        exact sym_run hD hl u (c + 1) (by omega)
      · rw [if_neg h2, if_neg h2]
        have stay : ∀ (v : List Int), v.foldl (symS d lost) lost = lost := by
          intro v
          induction v with
          | nil => rfl
          | cons y v ih =>
            rw [List.foldl_cons]
            have : symS d lost lost y = lost := by unfold symS; rw [if_neg (by omega)]
            rw [this]; exact ih
        exact stay u
theorem symN_fold {ss ds : List Int} {lost : Int} (h5 : ds.length = 5) : symN ss ds lost 5 = ds.foldl (symS ss lost) 256 := by
  match ds, h5 with
  | [a, b, c, d, e], _ => rfl
theorem sym_fit (hD : LawD d (pls d 5)) {lost : Int} (hl : lost < 256) {u : List Int} (hu : Nn u) (h5 : u.length = 5) (hf : Fit (PP d) u) : symN d u lost 5 = 256 + (mx (PP d) u : Int) := by
  rw [symN_fold h5]
  have := sym_run hD hl u 0 (by omega)
  rw [show (256 : Int) + ((0 : Nat) : Int) = 256 by rfl] at this
  rw [this]
  have iff := fin0_iff hD.h (u := u) (by omega) hu
  cases hq : fin (DD d) 0 u with
  | some e => rw [fin0 hD.h (by omega) hu hq]
  | none => have := iff.mpr hf; rw [hq] at this; cases this
theorem sym_no (hD : LawD d (pls d 5)) {lost : Int} (hl : lost < 256) {u : List Int} (hu : Nn u) (h5 : u.length = 5) (hf : ¬ Fit (PP d) u) : symN d u lost 5 = lost := by
  rw [symN_fold h5]
  have := sym_run hD hl u 0 (by omega)
  rw [show (256 : Int) + ((0 : Nat) : Int) = 256 by rfl] at this
  rw [this]
  have iff := fin0_iff hD.h (u := u) (by omega) hu
  cases hq : fin (DD d) 0 u with
  | some e => exact absurd (iff.mp (by rw [hq]; rfl)) hf
  | none => rfl
variable {r : Int} {u : List Int}
theorem end_eq (hD : LawD d (pls d 5)) (W : Wrd d r u) : mx (PP d) u ≤ 5 ∧ u.drop (5 - mx (PP d) u) = d.take (mx (PP d) u) := by
  have h5 := mx_le (p := PP d) u
  rw [W.len] at h5
  have at1 := mx_at hD.h (u := u) (by rw [W.len]; omega) W.nn W.fit.2
  rw [W.len] at at1
  exact ⟨h5, at1.trans (fr0 hD h5)⟩
theorem ell7 (hD : LawD d (pls d 5)) {low : Int} (W : Wrd d r u) : ell ((wd low u).take (5 - mx (PP d) u)) ((wd low d).take (mx (PP d) u)) (wd low u) = true := by
  obtain ⟨h5, he⟩ := end_eq hD W
  have l1 : ((wd low u).take (5 - mx (PP d) u)).length = 5 - mx (PP d) u := by rw [List.length_take, wlen, W.len]; omega
  have l2 : ((wd low d).take (mx (PP d) u)).length = mx (PP d) u := by rw [List.length_take, wlen, hD.dl]; omega
  unfold ell
  rw [l1, l2, wlen, W.len, decide_eq_true (by omega), Bool.true_and, wdrop, he]
  simp [wtake]
theorem coll8 (hD : LawD d (pls d 5)) {low : Int} (hl : 97 ≤ low) (W : Wrd d r u) : coll (tx ((wd low u).drop (5 - mx (PP d) u))) (tx (wd low d)) = 0 - (if mx (PP d) u < 5 then 1 else 0) := by
  obtain ⟨h5, he⟩ := end_eq hD W
  rw [wdrop, he, coll_wd (by omega) (nn_take (d_nn hD) _) (d_nn hD)]
  by_cases q : mx (PP d) u < 5
  · rw [if_pos (lt_take (by rw [hD.dl]; exact q)), if_pos q]; rfl
  · have : mx (PP d) u = 5 := by omega
    rw [this, List.take_of_length_le (by rw [hD.dl]; omega), if_neg (List.lt_irrefl d), if_neg (List.lt_irrefl d), if_neg (by omega)]; rfl
theorem ell9 (hD : LawD d (pls d 5)) {low : Int} (W : Wrd d r u) : ell ((wd low u).take (6 - mx (PP d) u)) ((wd low d).take (mx (PP d) u)) (wd low u) = decide (mx (PP d) u = 0) := by
  obtain ⟨h5, he⟩ := end_eq hD W
  by_cases q : mx (PP d) u = 0
  · rw [q, decide_eq_true rfl, Nat.sub_zero, List.take_of_length_le (by rw [wlen, W.len]; omega), List.take_zero]
    unfold ell
    simp [wlen, W.len]
    exact List.take_of_length_le (by rw [wlen, W.len]; omega)
  · have l1 : ((wd low u).take (6 - mx (PP d) u)).length = 6 - mx (PP d) u := by rw [List.length_take, wlen, W.len]; omega
    have l2 : ((wd low d).take (mx (PP d) u)).length = mx (PP d) u := by rw [List.length_take, wlen, hD.dl]; omega
    unfold ell
    rw [l1, l2, wlen, W.len, decide_eq_false (by omega), Bool.false_and, decide_eq_false q]
theorem ell10 (hD : LawD d (pls d 5)) {low : Int} (hl : 97 ≤ low) (W : Wrd d r u) : ell [] ((wd low d).take (mx (PP d) u + 1)) (wd low u) = decide (mx (PP d) u = 5) := by
  obtain ⟨h5, he⟩ := end_eq hD W
  unfold ell
  rw [List.length_nil, Nat.zero_add, List.take_zero, wlen, W.len]
  by_cases q : mx (PP d) u = 5
  · rw [q, Nat.sub_self, List.drop_zero, List.take_of_length_le (by rw [hD.dl]; omega)] at he
    rw [q, List.take_of_length_le (by rw [wlen, hD.dl]; omega), wlen, hD.dl, he]
    simp
  · have l2 : ((wd low d).take (mx (PP d) u + 1)).length = mx (PP d) u + 1 := by rw [List.length_take, wlen, hD.dl]; omega
    rw [l2, decide_eq_true (by omega), decide_eq_false q, Bool.true_and]
    have hne : ¬ (u.drop (5 - (mx (PP d) u + 1)) = d.take (mx (PP d) u + 1)) := fun e => by
      have := mx_max hD.h (u := u) (by rw [W.len]; omega) W.nn W.fit.2 (mx (PP d) u + 1) (by rw [W.len]; omega) (by rw [W.len, fr0 hD (by omega)]; exact e)
      have : mx (PP d) u + 1 ≤ mx (PP d) u := this
      omega
    rw [wdrop, wtake]
    have : (wd low (u.drop (5 - (mx (PP d) u + 1))) == wd low (d.take (mx (PP d) u + 1))) = false := by
      rw [beq_eq_false_iff_ne]
      intro e
      exact hne ((wd_inj (by omega) (nn_drop W.nn _) (nn_take (d_nn hD) _)).mp e)
    rw [this, Bool.and_false]
end
end
section
open Mth PySem
section
variable {d : List Int} {r : Int} {u : List Int}
noncomputable def nx (d : List Int) (r : Int) : Int := if r + 1 < PP d 5 then r + 1 else 0
theorem nx_in (hD : LawD d (pls d 5)) {r : Int} (h0 : 0 ≤ r) (h1 : r < PP d 5) : 0 ≤ nx d r ∧ nx d r < PP d 5 := by
  have := hD.two
  have e : (pls d 5).getD 5 0 = PP d 5 := rfl
  unfold nx
  split <;> omega
theorem top_iff (hD : LawD d (pls d 5)) {r : Int} (h0 : 0 ≤ r) (h1 : r < PP d 5) (W : Wrd d r u) : mx (PP d) u = 5 ↔ r = PP d 5 - 1 := by
  rw [W.eq]; exact mx_top hD.h h0 h1
theorem cnt_eq (hD : LawD d (pls d 5)) {low : Int} (hl : 97 ≤ low) (h0 : 0 ≤ r) (h1 : r < PP d 5) (W : Wrd d r u) : cnt (mx (PP d) u) low.toNat (wd low u) = wd low (greedy (PP d) 5 (nx d r)) := by
  have ht := top_iff hD h0 h1 W
  have h5 := (end_eq hD W).1
  have rep : ∀ c : Nat, List.replicate c low.toNat = wd low (List.replicate c 0) := fun c => by
    unfold wd; rw [List.map_replicate, Int.add_zero]
  unfold cnt
  by_cases q : mx (PP d) u < 5
  · have hr : r + 1 < PP d 5 := by
      have : r ≠ PP d 5 - 1 := fun e => by have := ht.mpr e; omega
      omega
    have g := (greedy_next hD.h (m := 5) (r := r) (by omega) h0 hr).2
    have e1 : nx d r = r + 1 := if_pos hr
    rw [if_pos q, e1]
    have g' : greedy (PP d) 5 (r + 1) = nxt (mx (PP d) (greedy (PP d) 5 r)) (greedy (PP d) 5 r) := g
    rw [g', ← W.eq, rep]
    unfold nxt
    rw [W.len, show 5 - 1 - mx (PP d) u = 4 - mx (PP d) u by omega, wtake]
    have hx : u[4 - mx (PP d) u]? = some (u.getD (4 - mx (PP d) u) 0) := by rw [List.getD_eq_getElem?_getD, List.getElem?_eq_getElem (by rw [W.len]; omega)]; rfl
    have hn := W.nn _ (List.mem_of_getElem? hx)
    have e2 : (wd low u).getD (4 - mx (PP d) u) 0 = (low + u.getD (4 - mx (PP d) u) 0).toNat := by
      rw [List.getD_eq_getElem?_getD]
      unfold wd
      rw [List.getElem?_map, hx]; rfl
    have e3 : (low + (u.getD (4 - mx (PP d) u) 0 + 1)).toNat = (low + u.getD (4 - mx (PP d) u) 0).toNat + 1 := by omega
    rw [e2, ← e3]
    unfold wd
    rw [List.map_append, List.map_cons, List.append_assoc]; rfl
  · have hc : mx (PP d) u = 5 := by omega
    have e1 : nx d r = 0 := if_neg (by have := ht.mp hc; omega)
    rw [if_neg q, List.nil_append, e1, greedy_zero hD.h (by omega), hc, rep]
theorem cnt_len (hD : LawD d (pls d 5)) {low : Int} (hl : 97 ≤ low) (h0 : 0 ≤ r) (h1 : r < PP d 5) (W : Wrd d r u) : (cnt (mx (PP d) u) low.toNat (wd low u)).length = 5 := by
  rw [cnt_eq hD hl h0 h1 W, wlen, greedy_len]
theorem ord_wrd (hD : LawD d (pls d 5)) {r r' : Int} {u u' : List Int} (W : Wrd d r u) (W' : Wrd d r' u') : u < u' ↔ r < r' := by
  rw [lex_iff hD.h (by rw [W.len, W'.len]) (by rw [W.len]; omega) W.nn W'.nn W.fit.2 W'.fit.2]
  rw [show V (fun m => (pls d 5).getD m 0) u = r from W.v, show V (fun m => (pls d 5).getD m 0) u' = r' from W'.v]
theorem next_mark (hD : LawD d (pls d 5)) {low : Int} (hl : 97 ≤ low) (h0 : 0 ≤ r) (h1 : r < PP d 5) {u' : List Int} (W : Wrd d r u) (W' : Wrd d (nx d r) u') :
    coll (tx (wd low u)) (tx (wd low u')) = (if r = PP d 5 - 1 then 1 else -1) ∧ (wd low u == wd low u') = false := by
  have two : 2 ≤ PP d 5 := hD.two
  have o1 := ord_wrd hD W W'
  have o2 := ord_wrd hD W' W
  have hne : ∀ a b : List Int, a < b ∨ b < a → Nn a → Nn b → (wd low a == wd low b) = false := fun a b h na nb => by
    rw [beq_eq_false_iff_ne]
    intro e
    have := (wd_inj (by omega) na nb).mp e
    subst this
    rcases h with h | h <;> exact List.lt_irrefl _ h
  rw [coll_wd (by omega) W.nn W'.nn]
  by_cases q : r = PP d 5 - 1
  · have e1 : nx d r = 0 := if_neg (by omega)
    rw [e1] at o1 o2
    rw [if_pos q, if_neg (fun h => by have := o1.mp h; omega), if_pos (o2.mpr (by omega))]
    exact ⟨rfl, hne _ _ (.inr (o2.mpr (by omega))) W.nn W'.nn⟩
  · have e1 : nx d r = r + 1 := if_pos (by omega)
    rw [e1] at o1
    rw [if_neg q, if_pos (o1.mpr (by omega))]
    exact ⟨rfl, hne _ _ (.inl (o1.mpr (by omega))) W.nn W'.nn⟩
theorem worth_eq {u : List Int} (h5 : u.length = 5) (p : List Int) : ((List.range 5).map fun k => u.getD k 0 * p.getD (4 - k) 0).sum = V (fun m => p.getD m 0) u := by
  match u, h5 with
  | [a, b, c, d, e], _ => rfl
theorem mark_eq (hD : LawD d (pls d 5)) {low : Int} (hl : 97 ≤ low) {r r' : Int} {u u' : List Int} (W : Wrd d r u) (W' : Wrd d r' u') :
    coll (tx (wd low u)) (tx (wd low u')) = if r < r' then -1 else if r' < r then 1 else 0 := by
  rw [coll_wd (by omega) W.nn W'.nn]
  have o1 := ord_wrd hD W W'
  have o2 := ord_wrd hD W' W
  by_cases q : r < r'
  · rw [if_pos q, if_pos (o1.mpr q)]
  · rw [if_neg q, if_neg (fun h => q (o1.mp h))]
    by_cases q2 : r' < r
    · rw [if_pos q2, if_pos (o2.mpr q2)]
    · rw [if_neg q2, if_neg (fun h => q2 (o2.mp h))]
theorem good_iff (hD : LawD d (pls d 5)) {u : List Int} (hu : Nn u) (h5 : u.length = 5) : Fit (PP d) u ↔ V (PP d) u < PP d 5 ∧ dig0 (pls d 5) 5 (V (PP d) u) = u := by
  have v0 : 0 ≤ V (PP d) u := V_nn hD.h (by omega) hu
  rw [dig_eq hD v0]
  have := fit_iff hD.h (u := u) (by omega) hu
  rw [h5] at this
  exact this
theorem wrd_of_fit (hD : LawD d (pls d 5)) {u : List Int} (hu : Nn u) (h5 : u.length = 5) (hf : Fit (PP d) u) : Wrd d (V (PP d) u) u := by
  have v0 : 0 ≤ V (PP d) u := V_nn hD.h (by omega) hu
  have := (good_iff hD hu h5).mp hf
  rw [dig_eq hD v0] at this
  have W := wrd hD v0 this.1
  rwa [this.2] at W
end
end
section
open PySem PySem.W PyProof.Rows PySem.Calls
open Mth (greedy mx Fit Nn)
variable {w : World} {A : Around} {X : Amb} {Λ Λ' : List Cell} {env : Env}
noncomputable def nth (l : List Stmt) (i : Nat) : Stmt := match l.drop i with | s :: _ => s | [] => .Pass ⟨0, 0, 0, 0⟩
noncomputable def forBody : Stmt → List Stmt | .For _ _ b _ _ => b | _ => []
structure Loc (l : List (Str × Value)) (d : List Int) (low : Int) (fst : Int) : Prop where
  front : ∃ t, al l "front" = some (.str (tx (wd low d)) t)
  most : ∃ t, al l "most" = some (.int (PP d 5) t)
  first : ∃ t, al l "first" = some (.int fst t)
/-- one number, from the third test on -/
theorem law_turn2 {L x dx Lp Ls : Addr} {c : Value} {d0 : Option Addr} {fd : FuncData} {sl' : Array (Option Value)} {body : List Stmt} (hfd : (K0 w).lookup 202 = some ⟨c, d0, .func fd, sl'⟩) (hbody : fd.body = .stmts body)
    (hG : X.gp = AllBare) (B : Base w X.hb) (R : Rm A 100) {l : List (Str × Value)} {d : List Int} {low fst n r : Int} {tl tn tw tc : Tok} {cc : Nat} {u9 : Option Value} {Ts : List Addr} {u : List Int} (hl : 97 ≤ low ∧ low ≤ 30096) (hD : LawD d (pls d 5)) (hloc : Loc l d low fst) (hpile : al l "pile" = some (.ref x))
    (hword : al l "word" = some (.str (tx (wd low u)) tw)) (hcar : al l "carry" = some (.int cc tc)) (hn : n.fmod (PP d 5) = r) (h0 : 0 ≤ r) (h1 : r < PP d 5) (W : Wrd d r u) (hcc : cc = mx (PP d) u) (hTs : Ts.length = 5) :
    Ev w X A ([tabc, nsc L l, ilst Lp (pls d 5), ilst Ls d, cel (L + 9) u9, cel (L + 8) (some (.int n tn)), cel (L + 7) (some (.ref Lp)), cel (L + 6) (some (.ref Ls)), cel (L + 2) (some (.int low tl))] ++ (pil x dx (Ts.map Value.ref) :: dic dx :: tcs Ts (wd low u)))
      (execs ((forBody (nth (forBody (nth body 17)) 2)).drop 7) (callEnvC fd L 202)) fun f Λ' => f = .next ∧ ∃ l' Ts', Loc l' d low fst ∧ al l' "pile" = some (.ref x) ∧ Ts'.length = 5 ∧
        Λ' = [tabc, nsc L l', ilst Lp (pls d 5), ilst Ls d, cel (L + 9) u9, cel (L + 8) (some (.int n tn)), cel (L + 7) (some (.ref Lp)), cel (L + 6) (some (.ref Ls)), cel (L + 2) (some (.int low tl))] ++ (pil x dx (Ts'.map Value.ref) :: dic dx :: tcs Ts' (wd low (greedy (PP d) 5 (nx d r)))) := by
  have e := hfd.symm.trans (by rfl : (K0 w).lookup 202 = some ⟨_, _, .func _, _⟩)
  cases e
  cases hbody
  simp only [nth, forBody, List.drop_succ_cons, List.drop_zero, List.cons_append, List.nil_append]
  obtain ⟨lowN, rfl⟩ := Int.eq_ofNat_of_zero_le (show 0 ≤ low by omega)
  obtain ⟨tf, hfront⟩ := hloc.front
  obtain ⟨tm, hmost⟩ := hloc.most
  have two : 2 ≤ PP d 5 := hD.two
  have hc5 : cc ≤ 5 := by rw [hcc]; exact (end_eq hD W).1
  have hnd := nodots_wd hl.1 W.nn
  have hnf := nodots_wd hl.1 (d_nn hD)
  have lw : (wd lowN u).length = 5 := by rw [wd_len, W.len]
  have lf : (wd lowN d).length = 5 := by rw [wd_len, hD.dl]
  have nt : ∀ {q : List Nat} (k : Nat), nodots q → nodots (q.take k) := fun k h c hc => h c (List.mem_of_mem_take hc)
  have tk5 : ∀ k, ((wd lowN u).take k).length ≤ 5 := fun k => by rw [List.length_take]; omega
  have fk5 : ∀ k, ((wd lowN d).take k).length ≤ 5 := fun k => by rw [List.length_take]; omega
  have d3 : dots.length = 3 := rfl
  refine Ev.seq (Ev.ifs ?_)
  repeat walk_at "S"
  refine Ev.sliceU (wd lowN u) (6 - cc) ?_
  repeat walk_at "S"
  refine ⟨⟨_, rfl⟩, ⟨_, _, rfl, by omega⟩, by omega, fun _ => ?_⟩
  repeat walk_at "S"
  rw [dots_eq]
  refine Ev.addT (fun _ => ?_) (by have := tk5 (6 - cc); omega)
  refine Ev.sliceU (wd lowN d) cc ?_
  repeat walk_at "S"
  refine ⟨⟨_, rfl⟩, ⟨_, _, rfl, rfl⟩, by omega, fun _ => ?_⟩
  refine Ev.addT (fun _ => ?_) (by have := tk5 (6 - cc); have := fk5 cc; rw [List.length_append]; omega)
  rw [List.append_assoc]
  repeat walk_at "S"
  refine Ev.base fun hb hk hc => ell_pq (B.ext hk) (R.le (by decide)) (nt _ hnd) (nt _ hnf) (by have := tk5 (6 - cc); have := fk5 cc; omega) ?_
  rw [hcc, ell9 hD W, ← hcc]
  dsimp only [List.nil_append]
  repeat walk_at "S"
  refine Ev.isNB ?_
  rw [show (decide (cc = 0) != ((cc : Int) == 0)) = false by by_cases q : cc = 0 <;> simp [q]]
  refine Ev.truB ⟨(fun e => nomatch e), fun _ => Ev.nil (Ev.aft ?_)⟩
  refine Ev.seq (Ev.ifs ?_)
  repeat walk_at "S"
  refine Ev.sliceU (wd lowN d) (cc + 1) ?_
  repeat walk_at "S"
  refine ⟨⟨_, rfl⟩, ⟨_, _, rfl, by omega⟩, by omega, fun _ => ?_⟩
  refine Ev.addT (fun _ => ?_) (by have := fk5 (cc + 1); omega)
  repeat walk_at "S"
  refine Ev.base fun hb hk hc => ell_pq (p := []) (B.ext hk) (R.le (by decide)) (fun _ h => nomatch h) (nt _ hnf) (by have := fk5 (cc + 1); simp only [List.length_nil]; omega) ?_
  rw [hcc, ell10 hD hl.1 W, ← hcc]
  dsimp only [List.nil_append]
  repeat walk_at "S"
  refine Ev.isNB ?_
  rw [show (decide (cc = 5) != ((cc : Int) == 5)) = false by
    by_cases q : cc = 5
    · simp [q]
    · have q' : ¬ (cc : Int) = 5 := by omega
      simp [q, q']]
  refine Ev.truB ⟨(fun e => nomatch e), fun _ => Ev.nil (Ev.aft ?_)⟩
  repeat walk_at "S"
  refine Ev.perm (Λ' := (pil x dx (Ts.map Value.ref) :: dic dx :: tcs Ts (wd lowN u)) ++ [tabc, nsc L l, ilst Lp (pls d 5), ilst Ls d, cel (L + 9) u9, cel (L + 8) (some (.int n tn)), cel (L + 7) (some (.ref Lp)), cel (L + 6) (some (.ref Ls)), cel (L + 2) (some (.int lowN tl))]) (move_pre (pre := [tabc, nsc L l, ilst Lp (pls d 5), ilst Ls d, cel (L + 9) u9, cel (L + 8) (some (.int n tn)), cel (L + 7) (some (.ref Lp)), cel (L + 6) (some (.ref Ls)), cel (L + 2) (some (.int lowN tl))])) ?_
  have hw6 : ∀ y ∈ wd lowN u, y ≤ 60000 := fun y hy => by
    obtain ⟨z, hz, rfl⟩ := List.mem_map.mp hy
    have := W.le3 z hz
    have := W.nn z hz
    omega
  have hcnt : cnt cc lowN (wd lowN u) = wd lowN (greedy (PP d) 5 (nx d r)) := by have := cnt_eq hD hl.1 h0 h1 W; rw [← hcc] at this; exact this
  refine Ev.over fun hb hk hc => counted_spec (B.ext hk) (R.le (by decide)) hTs lw hc5 (by omega) hw6 fun Ts' hT' => ?_
  rw [hcnt] at hT' ⊢
  rw [wd_len, Mth.greedy_len] at hT'
  refine ⟨noref_none, Ev.aft ?_⟩
  refine Ev.perm (Λ' := [tabc, nsc L l, ilst Lp (pls d 5), ilst Ls d, cel (L + 9) u9, cel (L + 8) (some (.int n tn)), cel (L + 7) (some (.ref Lp)), cel (L + 6) (some (.ref Ls)), cel (L + 2) (some (.int lowN tl))] ++ (pil x dx (Ts'.map Value.ref) :: dic dx :: tcs Ts' (wd lowN (greedy (PP d) 5 (nx d r))))) (move_pre (pre := pil x dx (Ts'.map Value.ref) :: dic dx :: tcs Ts' (wd lowN (greedy (PP d) 5 (nx d r))))) ?_
  dsimp only [List.cons_append, List.nil_append]
  obtain ⟨hx0, hx1⟩ := nx_in hD h0 h1
  have W' := wrd hD hx0 hx1
  obtain ⟨mk, nomark⟩ := next_mark hD hl.1 h0 h1 W W'
  generalize greedy (PP d) 5 (nx d r) = u' at *
  have lw' : (wd lowN u').length = 5 := by rw [wd_len, W'.len]
  refine Ev.seq (Ev.ifs ?_)
  repeat walk_at "S"
  refine Ev.over (Λ₁ := [_]) fun hb hk hc => Ev.strP (x := x) (dx := dx) (Ts := Ts') (W := wd lowN u') hG (B.ext hk) (R.le (by decide)) (hc _ (by walk_at "mem")) (by rw [lw', hT']) (fun i T c a b => hc _ (by repeat (first | exact tcs_mem a b | apply List.Mem.tail))) (by omega) fun ts => ?_
  dsimp only [List.nil_append, List.cons_append]
  repeat walk_at "S"
  refine Ev.base fun hb hk hc => ell_plain (B.ext hk) (R.le (by decide)) hnd ?_
  rw [nomark]
  dsimp only [List.nil_append]
  repeat walk_at "S"
  refine ⟨(fun e => nomatch e), fun _ => ?_⟩
  repeat walk_at "S"
  refine Ev.over (Λ₁ := [_]) fun hb hk hc => Ev.strP (x := x) (dx := dx) (Ts := Ts') (W := wd lowN u') hG (B.ext hk) (R.le (by decide)) (hc _ (by walk_at "mem")) (by rw [lw', hT']) (fun i T c a b => hc _ (by repeat (first | exact tcs_mem a b | apply List.Mem.tail))) (by omega) fun ts => ?_
  dsimp only [List.nil_append, List.cons_append]
  repeat walk_at "S"
  refine Ev.base fun hb hk hc => strcoll_spec (B.ext hk) (R.le (by decide)) fun tmk => ?_
  rw [mk]
  dsimp only [List.nil_append]
  refine Ev.itemX (Ev.listI ?_)
  repeat walk_at "S"
  refine ⟨by show 2 ≤ sizeLine; decide, [-1, 1], .cons _ _ (.cons _ _ .nil), fun V => ?_⟩
  repeat walk_at "S"
  refine Ev.modI (by omega) fun _ => ?_
  rw [hn]
  repeat walk_at "S"
  refine ⟨V, [-1, 1], _, (if r = PP d 5 - 1 then 1 else -1), rfl, ⟨_, rfl⟩, Or.inl (by walk_at "mem"), by split <;> decide, by split <;> decide, ?_, fun _ => ?_⟩
  · by_cases q : r = PP d 5 - 1
    · rw [if_pos q, if_pos (by simpa using q)]; rfl
    · rw [if_neg q, if_neg (by simpa using q)]; rfl
  repeat walk_at "S"
  rw [show ((if r = PP d 5 - 1 then (1 : Int) else -1) != (if r = PP d 5 - 1 then 1 else -1)) = false by simp]
  refine ⟨(fun e => nomatch e), fun _ => ?_⟩
  repeat walk_at "S"
  refine ⟨(fun e => nomatch e), fun _ => ?_⟩
  refine Ev.sub ((List.Sublist.refl _).cons _) (Ev.nil (Ev.aft (Ev.nil ?_)))
  exact ⟨rfl, l, Ts', hloc, hpile, hT', rfl⟩
end
section
open PySem PySem.W PyProof.Rows PySem.Calls
open Mth (greedy mx Fit Nn)
variable {w : World} {A : Around} {X : Amb} {Λ Λ' : List Cell} {env : Env}
/-- one number -/
theorem law_turn {L x dx Lp Ls : Addr} {c : Value} {d0 : Option Addr} {fd : FuncData} {sl' : Array (Option Value)} {body : List Stmt} (hfd : (K0 w).lookup 202 = some ⟨c, d0, .func fd, sl'⟩) (hbody : fd.body = .stmts body)
    (hG : X.gp = AllBare) (B : Base w X.hb) (R : Rm A 100) {l : List (Str × Value)} {d : List Int} {low fst n r : Int} {tl tn : Tok} {u9 : Option Value} {Ts : List Addr} {u : List Int} (hl : 97 ≤ low ∧ low ≤ 30096) (hD : LawD d (pls d 5)) (hloc : Loc l d low fst) (hpile : al l "pile" = some (.ref x))
    (hn : n.fmod (PP d 5) = r) (h0 : 0 ≤ r) (h1 : r < PP d 5) (W : Wrd d r u) (hTs : Ts.length = 5) :
    Ev w X A ([tabc, nsc L l, ilst Lp (pls d 5), ilst Ls d, cel (L + 9) u9, cel (L + 8) (some (.int n tn)), cel (L + 7) (some (.ref Lp)), cel (L + 6) (some (.ref Ls)), cel (L + 2) (some (.int low tl))] ++ (pil x dx (Ts.map Value.ref) :: dic dx :: tcs Ts (wd low u)))
      (execs (forBody (nth (forBody (nth body 17)) 2)) (callEnvC fd L 202)) fun f Λ' => f = .next ∧ ∃ l' u9' Ts', Loc l' d low fst ∧ al l' "pile" = some (.ref x) ∧ Ts'.length = 5 ∧
        Λ' = [tabc, nsc L l', ilst Lp (pls d 5), ilst Ls d, cel (L + 9) u9', cel (L + 8) (some (.int n tn)), cel (L + 7) (some (.ref Lp)), cel (L + 6) (some (.ref Ls)), cel (L + 2) (some (.int low tl))] ++ (pil x dx (Ts'.map Value.ref) :: dic dx :: tcs Ts' (wd low (greedy (PP d) 5 (nx d r)))) := by
  have e := hfd.symm.trans (by rfl : (K0 w).lookup 202 = some ⟨_, _, .func _, _⟩)
  cases e
  cases hbody
  simp only [nth, forBody, List.drop_succ_cons, List.drop_zero, List.cons_append, List.nil_append]
  obtain ⟨tf, hfront⟩ := hloc.front
  obtain ⟨tm, hmost⟩ := hloc.most
  have two : 2 ≤ PP d 5 := hD.two
  repeat walk_at "S"
  refine Ev.modI (by omega) fun _ => ?_
  rw [hn]
  repeat walk_at "S"
  refine Ev.base fun hb hk hc => digits_spec (B.ext hk) (R.le (by decide)) (hc _ (by walk_at "mem")) hD.pl hD.pp fun Dg => ?_
  rw [dig_eq hD h0, ← W.eq]
  dsimp only [List.cons_append, List.nil_append]
  refine Ev.storeC (c := L + 9) (by walk_at "put") ?_
  repeat walk_at "S"
  have hud : ∀ i, i < 5 → u[i]? = some (u.getD i 0) ∧ 0 ≤ u.getD i 0 ∧ u.getD i 0 ≤ 3 := fun i hi => by
    have e : u[i]? = some (u.getD i 0) := by rw [List.getD_eq_getElem?_getD, List.getElem?_eq_getElem (by rw [W.len]; omega)]; rfl
    exact ⟨e, W.nn _ (List.mem_of_getElem? e), W.le3 _ (List.mem_of_getElem? e)⟩
  refine Ev.methS F.slot_str_join F.type_str_join ?_
  repeat walk_at "S"
  refine ⟨tx [], _, rfl, ?_⟩
  repeat walk_at "S"
  refine Ev.compT (fun _ => true) (fun i => tx [(low + u.getD i 0).toNat]) (by rfl) ?_
  repeat walk_at "S"
  refine ⟨5, _, _, IterOf.list (P := (ilst Dg u).P) R (Or.inl (by walk_at "mem")) (fun o h => by have := ilst_items o h; rwa [W.len] at this), ⟨by show 5 ≤ sizeLine; decide, ?_, ?_⟩, fun D => ?_⟩
  · rintro hb C i v hk hC hΛ hi ⟨tk, rfl⟩
    exact Ev.tests0 rfl
  · rintro hb C i v hk hC hΛ hi ⟨tk, rfl⟩ hT
    have B' := B.ext hk
    have c1 := hΛ (cel (L + 2) (some (.int low tl))) (by walk_at "mem")
    have hx := hud i hi
    repeat walk_at "S"
    refine Ev.chr (by omega) (by omega) fun t => ?_
    exact ⟨t, rfl⟩
  have hmap : ((List.range 5).filter (fun _ => true)).map (fun i => tx [(low + u.getD i 0).toNat]) = (wd low u).map fun c => tx [c] := by
    have := map_getD u 0 fun x => tx [(low + x).toNat]
    rw [W.len] at this
    rw [filter_all, this]
    unfold wd
    rw [List.map_map]; rfl
  rw [hmap]
  repeat walk_at "S"
  refine Ev.joinL (Or.inl (by walk_at "mem")) (by rw [wd_len, W.len]; decide) fun tw => ?_
  refine Ev.sub ((List.Sublist.refl _).cons _) ?_
  repeat walk_at "S"
  have hnd := nodots_wd hl.1 W.nn
  have hnf := nodots_wd hl.1 (d_nn hD)
  have lw : (wd low u).length = 5 := by rw [wd_len, W.len]
  have lf : (wd low d).length = 5 := by rw [wd_len, hD.dl]
  refine Ev.base fun hb hk hc => carry_spec (B.ext hk) (R.le (by decide)) lw lf hnd fun cc tc hc1 hc2 hc3 => ?_
  have hcc := carry_eq hD hl.1 W hc1 hc2 hc3
  dsimp only [List.cons_append, List.nil_append]
  repeat walk_at "S"
  have two100 : Ts.length ≤ 100 := by omega
  have lTW : Ts.length = (wd low u).length := by rw [lw, hTs]
  refine Ev.ifs ?_
  repeat walk_at "S"
  refine Ev.perm (List.perm_middle (l₁ := [_])).symm ?_
  refine Ev.over (Λ₁ := [_]) fun hb hk hc => Ev.strP (x := x) (dx := dx) (Ts := Ts) (W := wd low u) hG (B.ext hk) (R.le (by decide)) (hc _ (by walk_at "mem")) lTW (fun i T c a b => hc _ (by repeat (first | exact tcs_mem a b | apply List.Mem.tail))) two100 fun ts => ?_
  simp only [List.append_eq, List.nil_append, List.cons_append]
  repeat walk_at "S"
  refine Ev.base fun hb hk hc => ell_plain (B.ext hk) (R.le (by decide)) hnd ?_
  rw [beq_self_eq_true]
  dsimp only [List.nil_append]
  repeat walk_at "S"
  refine ⟨(fun e => nomatch e), fun _ => ?_⟩
  repeat walk_at "S"
  refine Ev.base fun hb hk hc => let_spec (B.ext hk) (R.le (by decide)) (by rw [lw]; decide) ?_
  rw [(let_eq hD hl.1 W.nn W.len).mpr W.fit]
  dsimp only [List.nil_append]
  repeat walk_at "S"
  refine ⟨(fun e => nomatch e), fun _ => ?_⟩
  repeat walk_at "S"
  refine Ev.base fun hb hk hc => symbol_spec (B.ext hk) (R.le (by decide)) (hc (ilst Dg u) (by walk_at "mem")) (hc (ilst Ls d) (by walk_at "mem")) W.len hD.dl (by decide) fun tsy => ?_
  rw [sym_fit hD (by decide) W.nn W.len W.fit, ← hcc]
  dsimp only [List.nil_append]
  repeat walk_at "S"
  rw [show ((256 + (cc : Int)) != 256 + (cc : Int)) = false by simp]
  refine ⟨(fun e => nomatch e), fun _ => ?_⟩
  repeat walk_at "S"
  refine ⟨(fun e => nomatch e), fun _ => ?_⟩
  repeat walk_at "S"
  have nt : ∀ {q : List Nat} (k : Nat), nodots q → nodots (q.take k) := fun k h c hc => h c (List.mem_of_mem_take hc)
  have ndr : ∀ {q : List Nat} (k : Nat), nodots q → nodots (q.drop k) := fun k h c hc => h c (List.mem_of_mem_drop hc)
  have tk5 : ∀ k, ((wd low u).take k).length ≤ 5 := fun k => by rw [List.length_take]; omega
  have fk5 : ∀ k, ((wd low d).take k).length ≤ 5 := fun k => by rw [List.length_take]; omega
  have d3 : dots.length = 3 := rfl
  refine Ev.ifs ?_
  repeat walk_at "S"
  refine Ev.sliceU (wd low u) (5 - cc) ?_
  repeat walk_at "S"
  refine ⟨⟨_, rfl⟩, ⟨_, _, rfl, by omega⟩, by omega, fun _ => ?_⟩
  repeat walk_at "S"
  rw [dots_eq]
  refine Ev.addT (fun _ => ?_) (by have := tk5 (5 - cc); omega)
  refine Ev.sliceU (wd low d) cc ?_
  repeat walk_at "S"
  refine ⟨⟨_, rfl⟩, ⟨_, _, rfl, rfl⟩, by omega, fun _ => ?_⟩
  refine Ev.addT (fun _ => ?_) (by have := tk5 (5 - cc); have := fk5 cc; rw [List.length_append]; omega)
  rw [List.append_assoc]
  repeat walk_at "S"
  refine Ev.base fun hb hk hc => ell_pq (B.ext hk) (R.le (by decide)) (nt _ hnd) (nt _ hnf) (by have := tk5 (5 - cc); have := fk5 cc; omega) ?_
  rw [hcc, ell7 hD W, ← hcc]
  dsimp only [List.nil_append]
  repeat walk_at "S"
  refine ⟨(fun e => nomatch e), fun _ => ?_⟩
  repeat walk_at "S"
  refine Ev.sliceF (wd low u) (5 - cc) ?_
  repeat walk_at "S"
  refine ⟨⟨_, rfl⟩, ⟨_, _, rfl, by omega⟩, by omega, fun _ => ?_⟩
  repeat walk_at "S"
  refine Ev.base fun hb hk hc => strcoll_spec (B.ext hk) (R.le (by decide)) fun tmk => ?_
  rw [hcc, coll8 hD hl.1 W, ← hcc]
  dsimp only [List.nil_append]
  repeat walk_at "S"
  refine Ev.ifs ?_
  repeat walk_at "S"
  refine Ev.instB ?_
  refine Ev.truB ⟨(fun e => nomatch e), fun _ => ?_⟩
  repeat walk_at "S"
  refine ⟨fun e => absurd e ?_, fun _ => ?_⟩
  · by_cases q : cc < 5
    · have q' : (cc : Int) < 5 := by omega
      simp [q, q']
    · have q' : ¬ (cc : Int) < 5 := by omega
      simp [q, q']
  refine Ev.or0 ⟨(fun e => nomatch e), fun _ => Ev.nil (Ev.aft ?_)⟩
  refine Ev.sub (Λ' := [tabc, nsc L _, ilst Lp (pls d 5), ilst Ls d, cel (L + 9) (some (.ref Dg)), cel (L + 8) (some (.int n tn)), cel (L + 7) (some (.ref Lp)), cel (L + 6) (some (.ref Ls)), cel (L + 2) (some (.int low tl))] ++ (pil x dx (Ts.map Value.ref) :: dic dx :: tcs Ts (wd low u))) ((List.Sublist.cons _ (List.Sublist.refl _)).cons_cons _) ?_
  refine Ev.mono (law_turn2 hfd rfl hG B R (tc := tc) (tw := tw) (cc := cc) hl hD ⟨⟨tf, by walk_at "al"⟩, ⟨tm, by walk_at "al"⟩, let ⟨ti, h⟩ := hloc.first; ⟨ti, by walk_at "al"⟩⟩ (by walk_at "al") (by walk_at "al") (by walk_at "al") hn h0 h1 W hcc hTs) fun f Λ' q => ?_
  obtain ⟨rfl, l', Ts', q1, q2, q3, rfl⟩ := q
  exact ⟨rfl, l', _, Ts', q1, q2, q3, rfl⟩
end
section
open PySem PySem.W PyProof.Rows PySem.Calls
open Mth (greedy mx Fit Nn)
variable {w : World} {A : Around} {X : Amb} {Λ Λ' : List Cell} {env : Env}
theorem Ev.aside {α : Type} {t : Sem α} {Q : α → List Cell → Prop} (pre : List Cell) (h : ∀ hb, (∀ b o, X.hb.get? b = some o → hb.get? b = some o) → (∀ c ∈ pre, c.at hb) → Ev w ⟨hb, X.gp, X.d, X.os⟩ A Λ t fun v Λ' => Q v (pre ++ Λ')) : Ev w X A (pre ++ Λ) t Q := by
  refine Ev.perm (Λ' := Λ ++ pre) List.perm_append_comm ?_
  refine Ev.conv (P := fun v Λ'' => ∃ Λ', Λ'' = Λ' ++ pre ∧ Q v (pre ++ Λ')) (Ev.over fun hb hk hc => (h hb hk hc).mono fun v Λ' q => ⟨Λ', rfl, q⟩) fun v Λ'' s hs ⟨Λ', e, q⟩ => ?_
  subst e
  exact ⟨_, hs.perm List.perm_append_comm, q⟩
theorem Ev.callK0 {x : Str} {np pos : Pos} {a : Addr} {Q : Value → List Cell → Prop} (B : Base w X.hb) (hv : gtab.lookup x = some (.ref a)) (hk0 : keepIn (K1 w) (.ref a) = true) (h : Ev w X A Λ (call (.ref a) []) Q)
    (hk : env.scope.kind = .function := by rfl) (hx : env.kindOf x = some .globalImplicit := by rfl) (hg : env.globals = mainGlobals := by rfl) (hd : (x == ("__debug__" : Str)) = false := by decide) : Ev w X A Λ (eval (.Call (.Name x np) [] [] pos) env) Q := fun s hs => by
  refine Call_Name rfl (Ev.useB (Ev.global (Q := fun v Λ₁ => v = .ref a ∧ Λ₁ = Λ) B hv ⟨rfl, rfl⟩ hk hx hg hd) hs fun v s₁ Λ₁ h₁ q => ?_)
  obtain ⟨rfl, rfl⟩ := q
  exact callWith_K0 (B.ext h₁.keep).in1 hk0 (h s₁ h₁)
/-- one start -/
theorem law_start {L Lp Ls : Addr} {c : Value} {d0 : Option Addr} {fd : FuncData} {sl' : Array (Option Value)} {body : List Stmt} (hfd : (K0 w).lookup 202 = some ⟨c, d0, .func fd, sl'⟩) (hbody : fd.body = .stmts body)
    (hG : X.gp = AllBare) (B : Base w X.hb) (R : Rm A 100) {l : List (Str × Value)} {d : List Int} {low fst z : Int} {tl tz : Tok} {u9 u8 : Option Value} (hl : 97 ≤ low ∧ low ≤ 30096) (hD : LawD d (pls d 5)) (hloc : Loc l d low fst) (hstart : al l "start" = some (.int z tz)) (h0 : 0 ≤ z) (h1 : z < PP d 5) :
    Ev w X A [tabc, nsc L l, ilst Lp (pls d 5), ilst Ls d, cel (L + 9) u9, cel (L + 8) u8, cel (L + 7) (some (.ref Lp)), cel (L + 6) (some (.ref Ls)), cel (L + 2) (some (.int low tl))]
      (execs (forBody (nth body 17)) (callEnvC fd L 202)) fun f Λ' => f = .next ∧ ∃ l' u9' u8', Loc l' d low fst ∧
        Λ' = [tabc, nsc L l', ilst Lp (pls d 5), ilst Ls d, cel (L + 9) u9', cel (L + 8) u8', cel (L + 7) (some (.ref Lp)), cel (L + 6) (some (.ref Ls)), cel (L + 2) (some (.int low tl))] := by
  have e := hfd.symm.trans (by rfl : (K0 w).lookup 202 = some ⟨_, _, .func _, _⟩)
  cases e
  cases hbody
  simp only [nth, forBody, List.drop_succ_cons, List.drop_zero]
  obtain ⟨tf, hfront⟩ := hloc.front
  obtain ⟨tm, hmost⟩ := hloc.most
  obtain ⟨ti, hfirst⟩ := hloc.first
  have two : 2 ≤ PP d 5 := hD.two
  have hbig : PP d 5 < 2 ^ 20 := (hD.pp _ (by
    have e : (pls d 5)[5]? = some (PP d 5) := by show _ = some ((pls d 5).getD 5 0); rw [List.getD_eq_getElem?_getD, List.getElem?_eq_getElem (by rw [pls_len]; decide)]; rfl
    exact List.mem_of_getElem? e)).2
  have W := wrd hD h0 h1
  generalize hu : greedy (PP d) 5 z = u at W
  have hud : ∀ i, i < 5 → u[i]? = some (u.getD i 0) ∧ 0 ≤ u.getD i 0 ∧ u.getD i 0 ≤ 3 := fun i hi => by
    have e : u[i]? = some (u.getD i 0) := by rw [List.getD_eq_getElem?_getD, List.getElem?_eq_getElem (by rw [W.len]; omega)]; rfl
    exact ⟨e, W.nn _ (List.mem_of_getElem? e), W.le3 _ (List.mem_of_getElem? e)⟩
  refine Ev.seq (Ev.asg (Ev.callK0 B (by rfl) (by kernel_rfl) (Ev.makePile B (R.le (by decide)) fun x dx => ?_)))
  refine Ev.store (by walk_at "put") (Ev.aft ?_)
  refine Ev.perm (Λ' := [tabc, nsc L (("pile", .ref x) :: l), ilst Lp (pls d 5), ilst Ls d, cel (L + 9) u9, cel (L + 8) u8, cel (L + 7) (some (.ref Lp)), cel (L + 6) (some (.ref Ls)), cel (L + 2) (some (.int low tl))] ++ (pil x dx (([] : List Addr).map Value.ref) :: dic dx :: tcs [] (wd low (u.take 0)))) (move_pre (pre := pil x dx (([] : List Addr).map Value.ref) :: dic dx :: tcs [] (wd low (u.take 0)))) ?_
  dsimp only [List.cons_append, List.nil_append]
  repeat walk_at "S"
  refine Ev.for ?_
  repeat walk_at "S"
  refine Ev.base fun hb hk hc => digits_spec (B.ext hk) (R.le (by decide)) (hc _ (by walk_at "mem")) hD.pl hD.pp fun Dg => ?_
  rw [dig_eq hD h0, hu]
  dsimp only [List.cons_append, List.nil_append]
  refine Ev.iterP (P := (ilst Dg u).P) (fun _ => ilst_LL) (Or.inl (by walk_at "mem")) fun it => ?_
  refine EvC.list (n := 5) (P := fun j v => ∃ t, v = .int (u.getD j 0) t) R (fun i Λ => ∃ l' Ts, Ts.length = i ∧ Loc l' d low fst ∧ al l' "pile" = some (.ref x) ∧ al l' "start" = some (.int z tz) ∧
    Λ = ilst Dg u :: ([tabc, nsc L l', ilst Lp (pls d 5), ilst Ls d, cel (L + 9) u9, cel (L + 8) u8, cel (L + 7) (some (.ref Lp)), cel (L + 6) (some (.ref Ls)), cel (L + 2) (some (.int low tl))] ++ (pil x dx (Ts.map Value.ref) :: dic dx :: tcs Ts (wd low (u.take i))))) ?_ ?_ ?_ ⟨_, [], rfl, ⟨⟨tf, by walk_at "al"⟩, ⟨tm, by walk_at "al"⟩, ⟨ti, by walk_at "al"⟩⟩, by walk_at "al", by walk_at "al", rfl⟩
  · rintro i Λ s ⟨l', Ts, -, -, -, -, rfl⟩ hs
    exact intsAt (i := i) W.len (Or.inl (by walk_at "mem")) hs
  · rintro i Λ v hi ⟨t, rfl⟩ ⟨l', Ts, hT, hloc', hp', hs', rfl⟩
    dsimp only [List.cons_append, List.nil_append]
    obtain ⟨tf', hfront'⟩ := hloc'.front
    obtain ⟨tm', hmost'⟩ := hloc'.most
    obtain ⟨ti', hfirst'⟩ := hloc'.first
    have hx := hud i hi
    repeat walk_at "S"
    refine Ev.methF (x := x) (dx := dx) (vs := Ts.map Value.ref) (f := 66) (by assumption) (by kernel_rfl) (by rfl) (by decide) (by kernel_rfl) (by decide) ?_
    repeat walk_at "S"
    refine ⟨rfl, by walk_at "mem", by walk_at "mem", ?_⟩
    repeat walk_at "S"
    refine Ev.chr (by omega) (by omega) fun t3 => ?_
    repeat walk_at "S"
    have e2 : (⟨#[(low + u.getD i 0).toNat]⟩ : Str) = tx [(low + u.getD i 0).toNat] := by rw [tx_one]
    rw [e2]
    refine Ev.pushN [_, _, _, _, _, _, _, _, _, _, _] (Ts := Ts) (W := wd low (u.take i)) (c := (low + u.getD i 0).toNat) (by assumption) (R.le (by decide)) (by rw [wd_len, List.length_take, W.len, hT]; omega) (by omega) fun T => ?_
    refine ⟨noref_none, ?_⟩
    repeat walk_at "S"
    refine ⟨_, rfl, ("digit", .int (u.getD i 0) t) :: l', Ts ++ [T], by rw [List.length_append, hT]; rfl, ⟨⟨tf', by walk_at "al"⟩, ⟨tm', by walk_at "al"⟩, ⟨ti', by walk_at "al"⟩⟩, by walk_at "al", by walk_at "al", ?_⟩
    have e3 : wd low (u.take (i + 1)) = wd low (u.take i) ++ [(low + u.getD i 0).toNat] := by
      unfold wd
      rw [List.take_succ_eq_append_getElem (by rw [W.len]; exact hi), List.map_append]
      congr 1
      rw [List.getD_eq_getElem?_getD, List.getElem?_eq_getElem (by rw [W.len]; exact hi)]; rfl
    rw [e3]
    rfl
  rintro Λ ⟨l', Ts, hT, hloc', hp', hs', rfl⟩
  dsimp only [List.cons_append, List.nil_append]
  obtain ⟨tf', hfront'⟩ := hloc'.front
  obtain ⟨tm', hmost'⟩ := hloc'.most
  obtain ⟨ti', hfirst'⟩ := hloc'.first
  rw [List.take_of_length_le (by rw [W.len]; omega)]
  refine Ev.sub ((List.Sublist.refl _).cons _) ?_
  repeat walk_at "S"
  refine Ev.for ?_
  repeat walk_at "S"
  refine Ev.iterRange (Or.inl (by walk_at "mem")) (by omega) (by omega) (by omega) (by omega) fun it2 => ?_
  have hz0 : (z + ((0 : Nat) : Int)) % PP d 5 = z := by rw [show z + ((0 : Nat) : Int) = z by omega]; exact Int.emod_eq_of_lt h0 h1
  refine EvC.range (n := 5) R (fun i Λ => ∃ r a b l' u9' u8' Ts, Ts.length = 5 ∧ Loc l' d low fst ∧ al l' "pile" = some (.ref x) ∧
    Λ = rng r a b :: ([tabc, nsc L l', ilst Lp (pls d 5), ilst Ls d, cel (L + 9) u9', cel (L + 8) u8', cel (L + 7) (some (.ref Lp)), cel (L + 6) (some (.ref Ls)), cel (L + 2) (some (.int low tl))] ++ (pil x dx (Ts.map Value.ref) :: dic dx :: tcs Ts (wd low (greedy (PP d) 5 ((z + i) % PP d 5)))))) ?_ ?_ ⟨_, _, _, l', _, _, Ts, hT, hloc', hp', by rw [hz0, hu]; rfl⟩ (by split <;> omega)
  · rintro i Λ t hi ⟨r, a, b, l2, u9', u8', Ts2, hT2, hloc2, hp2, rfl⟩
    dsimp only [List.cons_append, List.nil_append]
    refine Ev.storeC (c := L + 8) (by walk_at "put") ?_
    have q0 := Int.emod_nonneg (z + i) (show PP d 5 ≠ 0 by omega)
    have q1 := Int.emod_lt_of_pos (z + i) (show 0 < PP d 5 by omega)
    have enx : nx d ((z + i) % PP d 5) = (z + ((i + 1 : Nat) : Int)) % PP d 5 := by
      have hdm := Int.ediv_mul_add_emod (z + i) (PP d 5)
      unfold nx
      by_cases q : (z + i) % PP d 5 + 1 < PP d 5
      · rw [if_pos q]
        have : z + ((i + 1 : Nat) : Int) = ((z + i) % PP d 5 + 1) + (z + i) / PP d 5 * PP d 5 := by omega
        rw [this, Int.add_mul_emod_self_right, Int.emod_eq_of_lt (by omega) q]
      · rw [if_neg q]
        have : z + ((i + 1 : Nat) : Int) = 0 + ((z + i) / PP d 5 + 1) * PP d 5 := by rw [Int.add_mul]; omega
        rw [this, Int.add_mul_emod_self_right, Int.zero_emod]
    refine Ev.aside [_, _] fun hb hk hc => (law_turn (X := ⟨hb, X.gp, X.d, X.os⟩) hfd rfl hG (B.ext hk) R hl hD hloc2 hp2 (Int.fmod_eq_emod_of_nonneg _ (by omega)) q0 q1 (wrd hD q0 q1) hT2).mono fun f Λ' q => ?_
    obtain ⟨rfl, l3, u9'', Ts3, g1, g2, g3, rfl⟩ := q
    rw [enx]
    exact ⟨_, rfl, r, a, b, l3, _, _, Ts3, g3, g1, g2, rfl⟩
  · rintro Λ ⟨r, a, b, l2, u9', u8', Ts2, hT2, hloc2, hp2, rfl⟩
    refine Ev.sub ((List.sublist_append_left _ _).cons _) (Ev.nil ?_)
    exact ⟨rfl, l2, u9', u8', hloc2, rfl⟩
end
section
open PySem PySem.W PyProof.Rows PySem.Calls
open Mth (greedy mx Fit Nn)
variable {w : World} {A : Around} {X : Amb} {Λ Λ' : List Cell} {env : Env}
/-- the four-digits of a number -/
noncomputable def qd (n : Int) (k : Nat) : Int := (n.fdiv ((4 : Int) ^ k)).fmod 4
noncomputable def qds (n : Int) : List Int := (List.range 5).map (qd n)
theorem qd_in (n : Int) (k : Nat) : 0 ≤ qd n k ∧ qd n k ≤ 3 := by
  have a := Int.fmod_nonneg_of_pos (n.fdiv ((4 : Int) ^ k)) (show (0 : Int) < 4 by decide)
  have b := Int.fmod_lt_of_pos (n.fdiv ((4 : Int) ^ k)) (show (0 : Int) < 4 by decide)
  unfold qd
  omega
theorem qds_len (n : Int) : (qds n).length = 5 := rfl
theorem qds_nn (n : Int) : Nn (qds n) := fun x hx => by
  obtain ⟨k, _, rfl⟩ := List.mem_map.mp hx
  exact (qd_in n k).1
theorem qds_at (n : Int) {i : Nat} (hi : i < 5) : (qds n)[i]? = some ((qds n).getD i 0) ∧ 0 ≤ (qds n).getD i 0 ∧ (qds n).getD i 0 ≤ 3 := by
  have e : (qds n)[i]? = some ((qds n).getD i 0) := by rw [List.getD_eq_getElem?_getD, List.getElem?_eq_getElem (by rw [qds_len]; exact hi)]; rfl
  refine ⟨e, ?_⟩
  obtain ⟨k, _, h⟩ := List.mem_map.mp (List.mem_of_getElem? e)
  have := qd_in n k
  omega
theorem pow4_in {k : Nat} (hk : k < 5) : 0 < (4 : Int) ^ k ∧ (4 : Int) ^ k ≤ 256 := by
  have : k = 0 ∨ k = 1 ∨ k = 2 ∨ k = 3 ∨ k = 4 := by omega
  rcases this with rfl | rfl | rfl | rfl | rfl <;> decide
/-- is the word one of the counted -/
noncomputable def gd (d u : List Int) : Bool := decide (Mth.V (PP d) u < PP d 5) && dig0 (pls d 5) 5 (Mth.V (PP d) u) == u
theorem gd_iff {d u : List Int} (hD : LawD d (pls d 5)) (hu : Nn u) (h5 : u.length = 5) : gd d u = true ↔ Fit (PP d) u := by
  rw [good_iff hD hu h5]
  unfold gd
  rw [Bool.and_eq_true, decide_eq_true_eq, beq_iff_eq]
theorem let_gd {d u : List Int} (hD : LawD d (pls d 5)) {low : Int} (hl : 97 ≤ low) (hu : Nn u) (h5 : u.length = 5) : letOk (wd low u) (wd low d) = gd d u := by
  rw [Bool.eq_iff_iff, let_eq hD hl hu h5, gd_iff hD hu h5]
theorem sym_gd {d u : List Int} (hD : LawD d (pls d 5)) (hu : Nn u) (h5 : u.length = 5) {lost : Int} (h0 : 0 ≤ lost) (hl : lost < 256) :
    decide (256 ≤ symN d u lost 5) = gd d u ∧ decide (symN d u lost 5 < 256) = (!gd d u) ∧ (symN d u lost 5 == 0) = (!gd d u && lost == 0) := by
  cases hg : gd d u with
  | true =>
    rw [sym_fit hD hl hu h5 ((gd_iff hD hu h5).mp hg)]
    refine ⟨decide_eq_true (by omega), decide_eq_false (by omega), ?_⟩
    simp
    omega
  | false =>
    rw [sym_no hD hl hu h5 (fun q => by rw [(gd_iff hD hu h5).mpr q] at hg; cases hg)]
    exact ⟨decide_eq_false (by omega), decide_eq_true hl, rfl⟩
structure Loc2 (l : List (Str × Value)) (d : List Int) (low : Int) (fst : Int) : Prop where
  loc : Loc l d low fst
  other : ∃ t, al l "other" = some (.str (tx (wd low (greedy (PP d) 5 fst))) t)
/-- one number of the last loop -/
theorem law_last {L Lp Ls : Addr} {c : Value} {d0 : Option Addr} {fd : FuncData} {sl' : Array (Option Value)} {body : List Stmt} (hfd : (K0 w).lookup 202 = some ⟨c, d0, .func fd, sl'⟩) (hbody : fd.body = .stmts body)
    (hG : X.gp = AllBare) (B : Base w X.hb) (R : Rm A 100) {l : List (Str × Value)} {d : List Int} {low fst nb : Int} {tl tn : Tok} {u9 : Option Value} (hl : 97 ≤ low ∧ low ≤ 30096) (hD : LawD d (pls d 5)) (hloc : Loc2 l d low fst) (h0 : 0 ≤ fst) (h1 : fst < PP d 5) :
    Ev w X A [nsc L l, ilst Lp (pls d 5), ilst Ls d, cel (L + 9) u9, cel (L + 8) (some (.int nb tn)), cel (L + 7) (some (.ref Lp)), cel (L + 6) (some (.ref Ls)), cel (L + 2) (some (.int low tl))]
      (execs (forBody (nth body 19)) (callEnvC fd L 202)) fun f Λ' => f = .next ∧ ∃ l' u9', Loc2 l' d low fst ∧
        Λ' = [nsc L l', ilst Lp (pls d 5), ilst Ls d, cel (L + 9) u9', cel (L + 8) (some (.int nb tn)), cel (L + 7) (some (.ref Lp)), cel (L + 6) (some (.ref Ls)), cel (L + 2) (some (.int low tl))] := by
  have e := hfd.symm.trans (by rfl : (K0 w).lookup 202 = some ⟨_, _, .func _, _⟩)
  cases e
  cases hbody
  simp only [nth, forBody, List.drop_succ_cons, List.drop_zero]
  obtain ⟨⟨⟨tf, hfront⟩, ⟨tm, hmost⟩, ⟨ti, hfirst⟩⟩, ⟨to, hother⟩⟩ := hloc
  have two : 2 ≤ PP d 5 := hD.two
  refine Ev.seq (Ev.asg ?_)
  refine Ev.compI (fun _ => true) (fun k => qd nb k) (by rfl) ?_
  repeat walk_at "S"
  refine ⟨5, _, _, IterOf.range R (by decide) rfl, ⟨by show 5 ≤ sizeLine; decide, ?_, ?_⟩, fun Dg => ?_⟩
  · rintro hb C i v hk hC hΛ hi ⟨tk, rfl⟩
    exact Ev.tests0 rfl
  · rintro hb C i v hk hC hΛ hi ⟨tk, rfl⟩ hT
    have B' := B.ext hk
    have c1 := hΛ (cel (L + 8) (some (.int nb tn))) (by walk_at "mem")
    have hp := pow4_in hi
    repeat walk_at "S"
    refine Ev.pow4 hi fun _ => ?_
    refine Ev.divI (by omega) (PyProof.noPylong_small (by omega)) fun _ => ?_
    repeat walk_at "S"
    refine Ev.modI (by decide) fun t => ⟨t, rfl⟩
  rw [filter_all]
  refine Ev.storeC (c := L + 9) (by walk_at "put") ?_
  show Aft w X A _ _ _ Flow.next ((⟨Dg, (ilst Dg (qds nb)).P⟩ : Cell) :: _)
  generalize hu : qds nb = u
  have hu5 : u.length = 5 := by rw [← hu]; exact qds_len nb
  have hun : Nn u := by rw [← hu]; exact qds_nn nb
  have hud : ∀ i, i < 5 → u[i]? = some (u.getD i 0) ∧ 0 ≤ u.getD i 0 ∧ u.getD i 0 ≤ 3 := fun i hi => by rw [← hu]; exact qds_at nb hi
  repeat walk_at "S"
  refine Ev.methS F.slot_str_join F.type_str_join ?_
  repeat walk_at "S"
  refine ⟨tx [], _, rfl, ?_⟩
  repeat walk_at "S"
  refine Ev.compT (fun _ => true) (fun i => tx [(low + u.getD i 0).toNat]) (by rfl) ?_
  repeat walk_at "S"
  refine ⟨5, _, _, IterOf.list (P := (ilst Dg u).P) R (Or.inl (by walk_at "mem")) (fun o h => by have := ilst_items o h; rwa [hu5] at this), ⟨by show 5 ≤ sizeLine; decide, ?_, ?_⟩, fun D => ?_⟩
  · rintro hb C i v hk hC hΛ hi ⟨tk, rfl⟩
    exact Ev.tests0 rfl
  · rintro hb C i v hk hC hΛ hi ⟨tk, rfl⟩ hT
    have B' := B.ext hk
    have c1 := hΛ (cel (L + 2) (some (.int low tl))) (by walk_at "mem")
    have hx := hud i hi
    repeat walk_at "S"
    refine Ev.chr (by omega) (by omega) fun t => ?_
    exact ⟨t, rfl⟩
  have hmap : ((List.range 5).filter (fun _ => true)).map (fun i => tx [(low + u.getD i 0).toNat]) = (wd low u).map fun c => tx [c] := by
    have := map_getD u 0 fun x => tx [(low + x).toNat]
    rw [hu5] at this
    rw [filter_all, this]
    unfold wd
    rw [List.map_map]; rfl
  rw [hmap]
  repeat walk_at "S"
  refine Ev.joinL (Or.inl (by walk_at "mem")) (by rw [wd_len, hu5]; decide) fun tw => ?_
  refine Ev.sub ((List.Sublist.refl _).cons _) ?_
  repeat walk_at "S"
  refine Ev.compI (fun _ => true) (fun k => u.getD k 0 * (pls d 5).getD (4 - k) 0) (by rfl) ?_
  repeat walk_at "S"
  refine ⟨5, _, _, IterOf.range R (by decide) rfl, ⟨by show 5 ≤ sizeLine; decide, ?_, ?_⟩, fun Wl => ?_⟩
  · rintro hb C i v hk hC hΛ hi ⟨tk, rfl⟩
    exact Ev.tests0 rfl
  · rintro hb C k v hk hC hΛ hk1 ⟨tk, rfl⟩ hT
    have B' := B.ext hk
    have c1 := hΛ (cel (L + 9) (some (.ref Dg))) (by walk_at "mem")
    have c2 := hΛ (cel (L + 7) (some (.ref Lp))) (by walk_at "mem")
    have c4 := hΛ (ilst Lp (pls d 5)) (by walk_at "mem")
    have c5 := hΛ (ilst Dg u) (by walk_at "mem")
    repeat walk_at "S"
    refine Ev.itemI (l := Dg) (ns := u) (k := k) (i := u.getD k 0) ?_
    repeat walk_at "S"
    refine ⟨rfl, ⟨_, rfl⟩, Or.inr c5, by omega, by omega, (hud k hk1).1, fun _ => ?_⟩
    refine Ev.itemI (l := Lp) (ns := pls d 5) (k := 4 - k) (i := (pls d 5).getD (4 - k) 0) ?_
    repeat walk_at "S"
    refine ⟨rfl, ⟨_, rfl⟩, Or.inr c4, by omega, by omega, ?_, fun _ => ?_⟩
    · rw [show ((4 : Int) - k).toNat = 4 - k by omega, List.getD_eq_getElem?_getD, List.getElem?_eq_getElem (by rw [pls_len]; omega)]; rfl
    refine Ev.mulI (bits3 (hud k hk1).2) fun t => ⟨t, rfl⟩
  rw [filter_all]
  refine Ev.items0 (Ev.sum R (Or.inl (by walk_at "mem")) fun twr => ?_)
  rw [worth_eq hu5]
  generalize hV : Mth.V (fun m => (pls d 5).getD m 0) u = V
  have hV0 : 0 ≤ V := by rw [← hV]; exact Mth.V_nn hD.h (by omega) hun
  refine Ev.sub ((List.Sublist.refl _).cons _) ?_
  repeat walk_at "S"
  refine Ev.trim (P := fun v Λ' => v = .bool (gd d u) ∧ ∃ junk, Λ' = junk ++ (ilst Dg u :: nsc L (("worth", .int V twr) :: ("word", .str (tx (wd low u)) tw) :: l) :: [ilst Lp (pls d 5), ilst Ls d, cel (L + 9) (some (.ref Dg)), cel (L + 8) (some (.int nb tn)), cel (L + 7) (some (.ref Lp)), cel (L + 6) (some (.ref Ls)), cel (L + 2) (some (.int low tl))])) ?_ ?_
  · have hgd : gd d u = (decide (V < PP d 5) && dig0 (pls d 5) 5 V == u) := by rw [← hV]; rfl
    refine Ev.and2 ?_
    repeat walk_at "S"
    refine ⟨fun q => ?_, fun q => ?_⟩
    · repeat walk_at "S"
      refine Ev.base fun hb hk hc => digits_spec (B.ext hk) (R.le (by decide)) (hc _ (by walk_at "mem")) hD.pl hD.pp fun Dv => ?_
      dsimp only [List.cons_append, List.nil_append]
      repeat walk_at "S"
      refine Ev.eqII R (Or.inl (by walk_at "mem")) (Or.inl (by walk_at "mem")) ?_
      refine ⟨?_, [_], rfl⟩
      rw [hgd, q, Bool.true_and]
    · refine ⟨?_, [], rfl⟩
      rw [hgd, q, Bool.false_and]
  rintro v Λ' ⟨rfl, junk, rfl⟩
  refine ⟨_, List.sublist_append_right _ _, ?_⟩
  repeat walk_at "S"
  refine Ev.ifs ?_
  repeat walk_at "S"
  refine Ev.base fun hb hk hc => let_spec (B.ext hk) (R.le (by decide)) (by rw [wd_len, hu5]; decide) ?_
  rw [let_gd hD hl.1 hun hu5]
  dsimp only [List.nil_append]
  repeat walk_at "S"
  refine Ev.isNB ?_
  rw [show (gd d u != gd d u) = false by simp]
  refine Ev.truB ⟨(fun e => nomatch e), fun _ => Ev.nil (Ev.aft ?_)⟩
  repeat walk_at "S"
  refine Ev.for ?_
  refine Ev.listI ?_
  repeat walk_at "S"
  refine ⟨by show 2 ≤ sizeLine; decide, [0, 255], .cons _ _ (.cons _ _ .nil), fun Ll => ?_⟩
  refine Ev.iterP (P := (ilst Ll [0, 255]).P) (fun _ => ilst_LL) (Or.inl (by walk_at "mem")) fun it => ?_
  refine EvC.list (n := 2) (P := fun j v => ∃ t, v = .int (([0, 255] : List Int).getD j 0) t) R (fun i Λ => ∃ l', Loc2 l' d low fst ∧ (∃ t, al l' "good" = some (.bool (gd d u)) ∧ al l' "worth" = some (.int V t)) ∧ (∃ t, al l' "word" = some (.str (tx (wd low u)) t)) ∧
    Λ = ilst Ll [0, 255] :: ilst Dg u :: [nsc L l', ilst Lp (pls d 5), ilst Ls d, cel (L + 9) (some (.ref Dg)), cel (L + 8) (some (.int nb tn)), cel (L + 7) (some (.ref Lp)), cel (L + 6) (some (.ref Ls)), cel (L + 2) (some (.int low tl))]) ?_ ?_ ?_
    ⟨_, ⟨⟨⟨tf, by walk_at "al"⟩, ⟨tm, by walk_at "al"⟩, ⟨ti, by walk_at "al"⟩⟩, ⟨to, by walk_at "al"⟩⟩, ⟨twr, by walk_at "al", by walk_at "al"⟩, ⟨tw, by walk_at "al"⟩, rfl⟩
  · rintro i Λ s ⟨l', -, -, -, rfl⟩ hs
    exact intsAt (i := i) (ns := [0, 255]) rfl (Or.inl (by walk_at "mem")) hs
  · rintro i Λ v hi ⟨t, rfl⟩ ⟨l', hloc', ⟨tg, hg, hw⟩, ⟨tw', hword⟩, rfl⟩
    obtain ⟨⟨⟨tf', hfront'⟩, ⟨tm', hmost'⟩, ⟨ti', hfirst'⟩⟩, ⟨to', hother'⟩⟩ := hloc'
    have hlost : 0 ≤ ([0, 255] : List Int).getD i 0 ∧ ([0, 255] : List Int).getD i 0 < 256 := by
      have : i = 0 ∨ i = 1 := by omega
      rcases this with rfl | rfl <;> decide
    obtain ⟨y1, y2, y3⟩ := sym_gd hD hun hu5 hlost.1 hlost.2
    generalize ([0, 255] : List Int).getD i 0 = lost at *
    repeat walk_at "S"
    refine Ev.base fun hb hk hc => symbol_spec (B.ext hk) (R.le (by decide)) (hc (ilst Dg u) (by walk_at "mem")) (hc (ilst Ls d) (by walk_at "mem")) hu5 hD.dl hlost.2 fun tsy => ?_
    dsimp only [List.nil_append]
    repeat walk_at "S"
    refine Ev.ifs ?_
    repeat walk_at "S"
    refine Ev.base fun hb hk hc => isnon_spec (B.ext hk) (R.le (by decide)) ?_
    dsimp only [List.nil_append]
    repeat walk_at "S"
    refine Ev.isNB ?_
    rw [y1, show (gd d u != gd d u) = false by simp]
    refine Ev.truB ⟨(fun e => nomatch e), fun _ => ?_⟩
    repeat walk_at "S"
    refine Ev.base fun hb hk hc => isterm_spec (B.ext hk) (R.le (by decide)) ?_
    dsimp only [List.nil_append]
    repeat walk_at "S"
    refine Ev.notB ?_
    refine Ev.isNB ?_
    rw [y2, show ((!gd d u) != (!gd d u)) = false by simp]
    refine Ev.truB ⟨(fun e => nomatch e), fun _ => ?_⟩
    refine Ev.or0 ⟨(fun e => nomatch e), fun _ => Ev.nil (Ev.aft ?_)⟩
    refine Ev.seq (Ev.ifs ?_)
    repeat walk_at "S"
    refine Ev.base fun hb hk hc => iseof_spec (B.ext hk) (R.le (by decide)) ?_
    dsimp only [List.nil_append]
    refine Ev.mono (Q := fun v Λ' => v = .bool (!gd d u && lost == 0) ∧ Λ' = lit it Ll (i + 1) :: ilst Ll [0, 255] :: ilst Dg u :: [nsc L (("symbol", .int (symN d u lost 5) tsy) :: ("lost", .int lost t) :: l'), ilst Lp (pls d 5), ilst Ls d, cel (L + 9) (some (.ref Dg)), cel (L + 8) (some (.int nb tn)), cel (L + 7) (some (.ref Lp)), cel (L + 6) (some (.ref Ls)), cel (L + 2) (some (.int low tl))]) (Ev.and2 ?_) ?_
    · repeat walk_at "S"
      refine Ev.notB ?_
      refine Ev.truB ⟨fun q => ?_, fun q => ?_⟩
      · repeat walk_at "S"
        refine ⟨?_, rfl⟩
        rw [q, Bool.true_and]
      · refine ⟨?_, rfl⟩
        rw [q, Bool.false_and]
    · rintro v Λ' ⟨rfl, rfl⟩
      refine Ev.isNB ?_
      rw [y3, show ((!gd d u && lost == 0) != (!gd d u && lost == 0)) = false by simp]
      refine Ev.truB ⟨(fun e => nomatch e), fun _ => Ev.nil (Ev.aft (Ev.nil ?_))⟩
      exact ⟨_, rfl, ("symbol", .int (symN d u lost 5) tsy) :: ("lost", .int lost t) :: l', ⟨⟨⟨tf', by walk_at "al"⟩, ⟨tm', by walk_at "al"⟩, ⟨ti', by walk_at "al"⟩⟩, ⟨to', by walk_at "al"⟩⟩, ⟨tg, by walk_at "al", by walk_at "al"⟩, ⟨tw', by walk_at "al"⟩, rfl⟩
  rintro Λ ⟨l', hloc', ⟨tg, hg, hw⟩, ⟨tw', hword⟩, rfl⟩
  obtain ⟨⟨⟨tf', hfront'⟩, ⟨tm', hmost'⟩, ⟨ti', hfirst'⟩⟩, ⟨to', hother'⟩⟩ := hloc'
  refine Ev.sub (((List.Sublist.refl _).cons _).cons _) ?_
  repeat walk_at "S"
  refine Ev.base fun hb hk hc => strcoll_spec (B.ext hk) (R.le (by decide)) fun tmk => ?_
  dsimp only [List.nil_append]
  repeat walk_at "S"
  refine Ev.ifs ?_
  repeat walk_at "S"
  refine Ev.instB ?_
  refine Ev.truB ⟨(fun e => nomatch e), fun _ => ?_⟩
  repeat walk_at "S"
  have hloc3 : Loc2 (("mark", .int (coll (tx (wd low u)) (tx (wd low (greedy (PP d) 5 fst)))) tmk) :: l') d low fst := ⟨⟨⟨tf', by walk_at "al"⟩, ⟨tm', by walk_at "al"⟩, ⟨ti', by walk_at "al"⟩⟩, ⟨to', by walk_at "al"⟩⟩
  refine ⟨fun q => ?_, fun q => ?_⟩
  · have hf := (gd_iff hD hun hu5).mp q
    have W := wrd_of_fit hD hun hu5 hf
    have W' := wrd hD h0 h1
    have hm := mark_eq hD hl.1 W W'
    have hV' : Mth.V (PP d) u = V := hV
    rw [hV'] at hm
    repeat walk_at "S"
    refine Ev.min2 R fun _ => ?_
    repeat walk_at "S"
    refine Ev.max2 R fun _ => ?_
    refine Ev.neI ?_
    have e : (coll (tx (wd low u)) (tx (wd low (greedy (PP d) 5 fst))) != if (if V - fst < 1 then V - fst else 1) > -1 then (if V - fst < 1 then V - fst else 1) else -1) = false := by
      rw [hm]
      have : ∀ a b : Int, a = b → (a != b) = false := fun a b h => by rw [h]; simp
      apply this
      split <;> (try split) <;> (try split) <;> (try split) <;> omega
    rw [e]
    refine Ev.truB ⟨(fun e => nomatch e), fun _ => ?_⟩
    repeat walk_at "S"
    refine ⟨(fun e => nomatch e), fun _ => ?_⟩
    refine Ev.or0 ⟨(fun e => nomatch e), fun _ => Ev.nil (Ev.aft (Ev.nil ?_))⟩
    exact ⟨rfl, _, _, hloc3, rfl⟩
  · refine ⟨(fun e => nomatch e), fun _ => ?_⟩
    refine Ev.or0 ⟨(fun e => nomatch e), fun _ => Ev.nil (Ev.aft (Ev.nil ?_))⟩
    exact ⟨rfl, _, _, hloc3, rfl⟩
end
section
open PySem PySem.W PyProof.Rows PySem.Calls
open Mth (greedy mx Fit Nn)
variable {w : World} {A : Around} {X : Amb} {Λ Λ' : List Cell} {env : Env}
theorem perm11 {α : Type} (a b c d e f g h i j k : α) : [d, j, k, c, a, b, e, f, g, h, i].Perm [a, b, c, d, e, f, g, h, i, j, k] := by
  refine (List.perm_middle (l₁ := [d, j, k, c])).trans (.cons a ?_)
  refine (List.perm_middle (l₁ := [d, j, k, c])).trans (.cons b ?_)
  refine (List.perm_middle (l₁ := [d, j, k])).trans (.cons c (.cons d ?_))
  refine (List.perm_middle (l₁ := [j, k])).trans (.cons e ?_)
  refine (List.perm_middle (l₁ := [j, k])).trans (.cons f ?_)
  refine (List.perm_middle (l₁ := [j, k])).trans (.cons g ?_)
  refine (List.perm_middle (l₁ := [j, k])).trans (.cons h ?_)
  exact List.perm_middle (l₁ := [j, k])
/-- the loops -/
theorem law_e {L Lp Ls Dr : Addr} {c : Value} {d0 : Option Addr} {fd : FuncData} {sl' : Array (Option Value)} {body : List Stmt} (hfd : (K0 w).lookup 202 = some ⟨c, d0, .func fd, sl'⟩) (hbody : fd.body = .stmts body)
    (hG : X.gp = AllBare) (B : Base w X.hb) (R : Rm A 100) {l : List (Str × Value)} {ds d : List Int} {low fst : Int} {tl : Tok} (hl : 97 ≤ low ∧ low ≤ 30096) (hD : LawD d (pls d 5)) (hds : Num7 ds) (hloc : Loc l d low fst) (h0 : 0 ≤ fst) (h1 : fst < PP d 5) :
    Ev w X A [ilst Lp (pls d 5), ilst Ls d, nsc L l, ilst Dr ds, cel (L + 9) none, cel (L + 8) none, cel (L + 7) (some (.ref Lp)), cel (L + 6) (some (.ref Ls)), cel (L + 2) (some (.int low tl)), cel (L + 1) (some (.ref Dr)), tabc]
      (execs (body.drop 17) (callEnvC fd L 202)) fun f Λ' => f = .ret (.bool true) ∧ tabc ∈ Λ' := by
  have e := hfd.symm.trans (by rfl : (K0 w).lookup 202 = some ⟨_, _, .func _, _⟩)
  cases e
  cases hbody
  simp only [List.drop_succ_cons, List.drop_zero]
  obtain ⟨tf, hfront⟩ := hloc.front
  obtain ⟨tm, hmost⟩ := hloc.most
  obtain ⟨ti, hfirst⟩ := hloc.first
  have two : 2 ≤ PP d 5 := hD.two
  refine Ev.perm (perm11 _ _ _ _ _ _ _ _ _ _ _) ?_
  refine Ev.seq (Ev.for (Ev.listI ?_))
  repeat walk_at "S"
  refine ⟨by show 2 ≤ sizeLine; decide, [fst, PP d 5 - 2], .cons _ _ (.cons _ _ .nil), fun St => ?_⟩
  refine Ev.iterP (P := (ilst St [fst, PP d 5 - 2]).P) (fun _ => ilst_LL) (Or.inl (by walk_at "mem")) fun it => ?_
  refine EvC.list (n := 2) (P := fun j v => ∃ t, v = .int (([fst, PP d 5 - 2] : List Int).getD j 0) t) R (fun i Λ => ∃ l u9 u8, Loc l d low fst ∧
    Λ = [ilst St [fst, PP d 5 - 2], ilst Dr ds, cel (L + 1) (some (.ref Dr))] ++ [tabc, nsc L l, ilst Lp (pls d 5), ilst Ls d, cel (L + 9) u9, cel (L + 8) u8, cel (L + 7) (some (.ref Lp)), cel (L + 6) (some (.ref Ls)), cel (L + 2) (some (.int low tl))]) ?_ ?_ ?_ ⟨l, none, none, hloc, rfl⟩
  · rintro i Λ s ⟨l', u9, u8, -, rfl⟩ hs
    exact intsAt (i := i) (ns := [fst, PP d 5 - 2]) rfl (Or.inl (by walk_at "mem")) hs
  · rintro i Λ v hi ⟨t, rfl⟩ ⟨l', u9, u8, hloc', rfl⟩
    dsimp only [List.cons_append, List.nil_append]
    obtain ⟨tf', hfront'⟩ := hloc'.front
    obtain ⟨tm', hmost'⟩ := hloc'.most
    obtain ⟨ti', hfirst'⟩ := hloc'.first
    have hz : 0 ≤ ([fst, PP d 5 - 2] : List Int).getD i 0 ∧ ([fst, PP d 5 - 2] : List Int).getD i 0 < PP d 5 := by
      have : i = 0 ∨ i = 1 := by omega
      rcases this with rfl | rfl
      · exact ⟨h0, h1⟩
      · show 0 ≤ PP d 5 - 2 ∧ PP d 5 - 2 < PP d 5
        omega
    generalize ([fst, PP d 5 - 2] : List Int).getD i 0 = z at hz
    refine Ev.store (by walk_at "put") ?_
    refine Ev.aside [_, _, _, _] fun hb hk hc => (law_start (X := ⟨hb, X.gp, X.d, X.os⟩) (tz := t) hfd rfl hG (B.ext hk) R hl hD ⟨⟨tf', by walk_at "al"⟩, ⟨tm', by walk_at "al"⟩, ⟨ti', by walk_at "al"⟩⟩ (by walk_at "al") hz.1 hz.2).mono fun f Λ' q => ?_
    obtain ⟨rfl, l3, u9', u8', g1, rfl⟩ := q
    exact ⟨_, rfl, l3, u9', u8', g1, rfl⟩
  rintro Λ ⟨l', u9, u8, hloc', rfl⟩
  dsimp only [List.cons_append, List.nil_append]
  obtain ⟨tf', hfront'⟩ := hloc'.front
  obtain ⟨tm', hmost'⟩ := hloc'.most
  obtain ⟨ti', hfirst'⟩ := hloc'.first
  have W := wrd hD h0 h1
  generalize hu : greedy (PP d) 5 fst = u at W
  have hud : ∀ i, i < 5 → u[i]? = some (u.getD i 0) ∧ 0 ≤ u.getD i 0 ∧ u.getD i 0 ≤ 3 := fun i hi => by
    have e : u[i]? = some (u.getD i 0) := by rw [List.getD_eq_getElem?_getD, List.getElem?_eq_getElem (by rw [W.len]; omega)]; rfl
    exact ⟨e, W.nn _ (List.mem_of_getElem? e), W.le3 _ (List.mem_of_getElem? e)⟩
  refine Ev.aft (Ev.seq (Ev.asg ?_))
  refine Ev.methS F.slot_str_join F.type_str_join ?_
  repeat walk_at "S"
  refine ⟨tx [], _, rfl, ?_⟩
  repeat walk_at "S"
  refine Ev.compT (fun _ => true) (fun i => tx [(low + u.getD i 0).toNat]) (by rfl) ?_
  repeat walk_at "S"
  refine Ev.base fun hb hk hc => digits_spec (B.ext hk) (R.le (by decide)) (hc (ilst Lp (pls d 5)) (by walk_at "mem")) hD.pl hD.pp fun Dg => ?_
  rw [dig_eq hD h0, hu]
  dsimp only [List.cons_append, List.nil_append]
  refine ⟨5, _, _, IterOf.list (P := (ilst Dg u).P) R (Or.inl (by walk_at "mem")) (fun o h => by have := ilst_items o h; rwa [W.len] at this), ⟨by show 5 ≤ sizeLine; decide, ?_, ?_⟩, fun D => ?_⟩
  · rintro hb C i v hk hC hΛ hi ⟨tk, rfl⟩
    exact Ev.tests0 rfl
  · rintro hb C i v hk hC hΛ hi ⟨tk, rfl⟩ hT
    have B' := B.ext hk
    have c1 := hΛ (cel (L + 2) (some (.int low tl))) (by walk_at "mem")
    have hx := hud i hi
    repeat walk_at "S"
    refine Ev.chr (by omega) (by omega) fun t => ?_
    exact ⟨t, rfl⟩
  have hmap : ((List.range 5).filter (fun _ => true)).map (fun i => tx [(low + u.getD i 0).toNat]) = (wd low u).map fun c => tx [c] := by
    have := map_getD u 0 fun x => tx [(low + x).toNat]
    rw [W.len] at this
    rw [filter_all, this]
    unfold wd
    rw [List.map_map]; rfl
  rw [hmap]
  repeat walk_at "S"
  refine Ev.joinL (Or.inl (by walk_at "mem")) (by rw [wd_len, W.len]; decide) fun tw => ?_
  repeat walk_at "S"
  refine Ev.for ?_
  refine Ev.sliceIL (l := Dr) (ns := ds) (a := 4) ?_
  repeat walk_at "S"
  refine ⟨rfl, ⟨_, _, rfl, rfl⟩, Or.inl (by walk_at "mem"), by rw [hds.1]; decide, fun Dq => ?_⟩
  refine Ev.sub (Λ' := [ilst Dq (ds.drop 4), tabc, nsc L (("other", .str (tx (wd low u)) tw) :: l'), ilst Lp (pls d 5), ilst Ls d, cel (L + 9) u9, cel (L + 8) u8, cel (L + 7) (some (.ref Lp)), cel (L + 6) (some (.ref Ls)), cel (L + 2) (some (.int low tl))]) (by walk_at "sub") ?_
  refine Ev.iterP (P := (ilst Dq (ds.drop 4)).P) (fun _ => ilst_LL) (Or.inl (by walk_at "mem")) fun it2 => ?_
  refine EvC.list (n := 3) (P := fun j v => ∃ t, v = .int ((ds.drop 4).getD j 0) t) R (fun i Λ => ∃ l u9 u8, Loc2 l d low fst ∧
    Λ = [ilst Dq (ds.drop 4), tabc] ++ [nsc L l, ilst Lp (pls d 5), ilst Ls d, cel (L + 9) u9, cel (L + 8) u8, cel (L + 7) (some (.ref Lp)), cel (L + 6) (some (.ref Ls)), cel (L + 2) (some (.int low tl))]) ?_ ?_ ?_ ⟨_, u9, u8, ⟨⟨⟨tf', by walk_at "al"⟩, ⟨tm', by walk_at "al"⟩, ⟨ti', by walk_at "al"⟩⟩, ⟨tw, by rw [hu]; walk_at "al"⟩⟩, rfl⟩
  · rintro i Λ s ⟨l2, v9, v8, -, rfl⟩ hs
    exact intsAt (i := i) (ns := ds.drop 4) (by rw [List.length_drop, hds.1]) (Or.inl (by walk_at "mem")) hs
  · rintro i Λ v hi ⟨t, rfl⟩ ⟨l2, v9, v8, hloc2, rfl⟩
    dsimp only [List.cons_append, List.nil_append]
    refine Ev.storeC (c := L + 8) (by walk_at "put") ?_
    refine Ev.aside [_, _, _] fun hb hk hc => (law_last (X := ⟨hb, X.gp, X.d, X.os⟩) hfd rfl hG (B.ext hk) R hl hD hloc2 h0 h1).mono fun f Λ' q => ?_
    obtain ⟨rfl, l3, u9', g1, rfl⟩ := q
    exact ⟨_, rfl, l3, u9', _, g1, rfl⟩
  rintro Λ ⟨l2, v9, v8, hloc2, rfl⟩
  exact Ev.aft (Ev.seq (Ev.retE (Ev.boolc ⟨rfl, by walk_at "mem"⟩)))
theorem sum_nn {l : List Int} (h : ∀ i, i < l.length → 0 ≤ l.getD i 0) : 0 ≤ l.sum := by
  induction l with
  | nil => exact Int.le_refl 0
  | cons a l ih => rw [List.sum_cons]; exact Int.add_nonneg (h 0 (Nat.succ_pos _)) (ih fun i hi => h (i + 1) (Nat.succ_lt_succ hi))
theorem sum7 {ds : List Int} (h : Num7 ds) : 200 ≤ ds.sum := by
  obtain ⟨hl, hb⟩ := h
  obtain ⟨a, ds, rfl⟩ := List.exists_cons_of_length_eq_add_one hl
  have e1 := Nat.succ.inj hl
  obtain ⟨b, ds, rfl⟩ := List.exists_cons_of_length_eq_add_one e1
  have e2 := Nat.succ.inj e1
  obtain ⟨c, ds, rfl⟩ := List.exists_cons_of_length_eq_add_one e2
  have e3 := Nat.succ.inj e2
  obtain ⟨d, ds, rfl⟩ := List.exists_cons_of_length_eq_add_one e3
  have e4 := Nat.succ.inj e3
  obtain ⟨e, ds, rfl⟩ := List.exists_cons_of_length_eq_add_one e4
  have h0 : 1 ≤ a := hb 0 (by decide)
  have h1 : 4 ≤ b := hb 1 (by decide)
  have h2 : 3 ≤ c := hb 2 (by decide)
  have h3 : 147 ≤ d := hb 3 (by decide)
  have h4 : 617 ≤ e := hb 4 (by decide)
  have h5 : 0 ≤ ds.sum := sum_nn fun i hi => Int.le_trans (by rcases i with _ | _ | i <;> first | decide | exact Int.le_refl _) (hb (i + 5) (by have := Nat.succ.inj e4; omega))
  rw [List.sum_cons, List.sum_cons, List.sum_cons, List.sum_cons, List.sum_cons]
  omega
/-- the whole law -/
theorem law_all {sl : Addr} {ns : List Int} (hG : X.gp = AllBare) (B : Base w X.hb) (R : Rm A 101) (hfr : A.frames = some []) (hsl : Cell.at (ilst sl ns) X.hb) (hn : ns.length ≤ 63) :
    Ev w X A [tabc] (call (.ref 202) [.ref sl]) fun v Λ' => v = .bool true ∧ tabc ∈ Λ' := by
  refine law_enter B R hfr fun c d fd sl' body L A' hfd hbody R' hfr' => ?_
  refine Ev.mono (Q := fun f Λ' => f = .ret (.bool true) ∧ tabc ∈ Λ') ?_ fun f Λ' ⟨e, h⟩ => ⟨by subst e; rfl, h⟩
  refine law_a hfd hbody hG B R' hfr' hsl hn fun T Rl D Dr ds low s1 s2 s3 m tt tl hds hlow b1 b2 b3 hm => ?_
  have hbig := sum7 hds
  refine law_b hfd hbody hG B R' hfr' (sl := sl) hds b1 b2 b3 hm hbig fun Sd => ?_
  have hl : 97 ≤ low ∧ low ≤ 30096 := by
    have := Int.fmod_nonneg_of_pos (ds.sum.fdiv 2000) (show (0 : Int) < 30000 by decide)
    have := Int.fmod_lt_of_pos (ds.sum.fdiv 2000) (show (0 : Int) < 30000 by decide)
    omega
  refine law_c hfd hbody hG B R' b1 b2 b3 hl (by walk_at "al") fun dd tf hD => ?_
  refine law_d hfd hbody hG B R' hl hD hds fun Ls Lp l' tf tm ti a1 a2 a3 => ?_
  have two : 2 ≤ PP dd 5 := hD.two
  exact law_e hfd hbody hG B R' hl hD hds ⟨⟨tf, a1⟩, ⟨tm, a2⟩, ⟨ti, a3⟩⟩ (Int.fmod_nonneg_of_pos _ (show (0 : Int) < PP dd 5 by omega)) (Int.fmod_lt_of_pos _ (show (0 : Int) < PP dd 5 by omega))
end
section
open PySem PySem.W PyProof.Rows PySem.Calls
theorem callerRm : Rm callerA 101 := ⟨rfl, by show 1 + claimMargin + 101 ≤ 600; decide, by show 4 + 10 * 101 ≤ 9000; decide⟩
theorem well_ints {P : Params} {h : Heap} : ∀ {ns : List Int} {vs : List Value}, WellAll P h vs (ofPys (ns.map .int)) → IntsAre vs ns
  | [], _, x => by cases x; exact .nil
  | n :: ns, _, x => by
    have x' : WellAll P h _ (.int n :: ofPys (ns.map .int)) := x
    cases x' with
    | cons a b =>
      cases a
      exact .cons _ _ (well_ints b)
theorem ns_same {h : Heap} {a : Addr} {m m' : Str → Option Value} (x : h.Ns a m) (y : h.Ns a m') (name : Str) : m name = m' name := by
  obtain ⟨o, es, ep, ho, hd, _, hm⟩ := x
  obtain ⟨o', es', ep', ho', hd', _, hm'⟩ := y
  rw [ho] at ho'
  cases ho'
  rw [hd] at hd'
  cases hd'
  rw [← hm, ← hm']
theorem final {w : World} {s₁ : Shared} {a fa : Addr} {mg : Str → Option Value} {ns : List Int} (KX : (K0 w).In s₁.heap) (hns : s₁.heap.Ns mainGlobals mg) (hmg : mg "law" = some (.ref fa)) (hg : s₁.gens = #[]) (hw : Well w.params s₁.heap (.ref a) (ofPy (.list (ns.map .int)))) (hn : ns.length ≤ 63) :
    wpAny (Mod w) callerA (call (.ref fa) [.ref a]) (fun v s' => v = .bool true ∧ OldK s₁.heap s'.heap ∧ s'.os = s₁.os ∧ AllBare s'.gens) (fun _ _ => False) s₁ := by
  have h90 : s₁.heap.get? 90 = some { cls := .none, data := .fields #[] } := KX 90 _ (by rfl)
  have B : Base w (hide s₁.heap [90]) := ⟨fun b o hb e => (hide_ne [90] s₁.heap fun h => hb (List.mem_singleton.mp h)).trans (KX b o e)⟩
  have hm := B.main.keeps (h' := s₁.heap) fun b o e => (hide_some e).2
  have hfa : fa = 202 := by
    have e1 := (ns_same hns hm "law").symm.trans hmg
    have e2 : nsFind (dictAt w mainGlobals) "law" = some (.ref 202) := by kernel_rfl
    rw [e2] at e1
    cases e1
    rfl
  subst hfa
  have hw' : Well w.params s₁.heap (.ref a) (.list (ofPys (ns.map .int))) := hw
  cases hw' with
  | list hget hall =>
  rename_i vs
  have ha : a ≠ 90 := fun e => by
    subst e
    rw [h90] at hget
    have := congrArg (Option.map Obj.cls) hget
    simp at this
  have hsl : Cell.at (ilst a ns) (hide s₁.heap [90]) := ⟨_, (hide_ne [90] s₁.heap fun h => ha (List.mem_singleton.mp h)).trans hget, vs, _, well_ints hall, rfl⟩
  have hS : Sat ⟨hide s₁.heap [90], AllBare, s₁.drawn, s₁.os⟩ [tabc] s₁ :=
    ⟨fun b o e => (hide_some e).2, fun c hc => by rw [List.mem_singleton.mp hc]; exact ⟨_, h90, #[], rfl, trivial⟩, fun c hc => by rw [List.mem_singleton.mp hc]; exact hide_mem _ _ (.head _), by simp, AllBare.of_eq hg, rfl, rfl⟩
  refine wpAny_mono (law_all (X := ⟨hide s₁.heap [90], AllBare, s₁.drawn, s₁.os⟩) rfl B callerRm rfl hsl hn s₁ hS) (fun v s' q => ?_) fun _ _ x => x
  obtain ⟨Λ', h', e, ht⟩ := q
  obtain ⟨o', ho', ps, rfl, _⟩ := h'.own tabc ht
  have keep : ∀ b o, b ≠ 90 → s₁.heap.get? b = some o → s'.heap.get? b = some o := fun b o hb e => h'.keep b o ((hide_ne [90] s₁.heap fun h => hb (List.mem_singleton.mp h)).trans e)
  have ho' : s'.heap.get? 90 = some { cls := .none, data := .fields ps } := ho'
  refine ⟨e, ⟨fun b o eb => ?_, fun b o eb => ?_⟩, h'.os, h'.gp⟩
  · by_cases hb : b = 90
    · subst hb
      rw [h90] at eb
      cases eb
      obtain ⟨d, vs', sl', e94, e11⟩ : ∃ d vs sl, (K0 w).lookup 94 = some ⟨.type "code", d, .fields vs, sl⟩ ∧ vs[11]? = some (.ref 90) := ⟨_, _, _, by rfl, rfl⟩
      exact .inr (.inl ⟨⟨94, _, vs', KX 94 _ e94, rfl, rfl, e11⟩, rfl, #[], ps, rfl, by rw [ho']; simp⟩)
    · exact .inl (keep b o hb eb)
  · by_cases hb : b = 90
    · exact ⟨_, hb ▸ ho'⟩
    · exact ⟨o, keep b o hb eb⟩
end
end Mine
open PySem PySem.W PyProof.Rows PySem.Calls
theorem PySem.Challenge.cw_wr0019_01_holds : PySem.Challenge.rw_wr0019_01.Holds := by
  w_on
  o_law
  refine holds_open (q := Mine.Hd.vw) (loose := Mine.Hd.lo) (Xt := Mine.Hd.xt) (XP := XL Mine.Hd.vw []) (YP := InK Mine.Hd.Kp) (N := 2268) Mine.Hd.leftO (InK.of fun P => by kernel_rfl) InK.keeps (fun s e => xl_of s (Bool.and_eq_true_iff.mp e).1) XL.keeps (by rfl) (by rfl) (by rfl) (fun s e => recFacts_of (Bool.and_eq_true_iff.mp e).2) (by rfl) (by first | assumption | decide +kernel) (by decide +kernel) ⟨rfl, rfl, rfl, rfl, rfl, by decide +kernel⟩ ?hw ?hc
  case hw => w_witness2
  case hc =>
    intro w s₀ s₁ mg mb G Y fa o pm cd doc dV kV ho hd hcd hD hmg hg args vals as hpre hlay hrd hwl hlo
    have Y' : (Mine.Hd.Kp w.params).In s₁.heap := Y
    have KX : (Mine.K0 w).In s₁.heap := (congrArg (fun K : Frag => K.In s₁.heap) (Mine.Hd.kq_eq w.params)).mp Y'
    have hT := G.T
    clear ho hd hcd hD
    wrow_args hpre hlay hrd hwl hlo
    refine wpAny_mono (Mine.final KX hT.g hmg hg ‹Well w.params s₁.heap (.ref _) _› (by omega)) (fun v s' q => ?_) (fun _ _ x => x.elim)
    obtain ⟨rfl, q1, q2, q3⟩ := q
    exact ⟨.inl ⟨.bool true, .bool true, [], rfl, fun cls => rfl, .bool true, by kernel_rfl, fun _ => ⟨List.nodup_nil, fun a h => nomatch h⟩⟩, q1, q2, q3⟩
