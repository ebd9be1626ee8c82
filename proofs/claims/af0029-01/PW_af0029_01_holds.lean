import PyProof.Rows.All
import Wide.All
import OpenK.AllK
import Wide.FinOn
import PySem.Challenge.RW_af0029_01
set_option Elab.async false
set_option rowWalk.seconds 0
section
open PySem PySem.W PyProof.Rows
set_option Elab.async false
set_option maxRecDepth 100000
set_option linter.unusedVariables false
namespace Mine
/-! ## the program's own parts, by name -/
def nth : List Stmt → Nat → Stmt
  | [], _ => .Pass ⟨0, 0, 0, 0⟩
  | s :: _, 0 => s
  | _ :: r, n + 1 => nth r n
def sArgs : Stmt → Arguments
  | .FunctionDef _ a .. => a
  | _ => { posonlyargs := [], args := [], vararg := none, kwonlyargs := [], kw_defaults := [], kwarg := none, defaults := [] }
def sBody : Stmt → List Stmt
  | .FunctionDef _ _ b .. => b
  | .ClassDef _ _ _ b .. => b
  | _ => []
def sScope : Stmt → Scope
  | .FunctionDef _ _ _ _ _ _ s .. => s
  | _ => { kind := .module, names := [], isGenerator := false, isCoroutine := false }
noncomputable def pw : Program := PySem.Challenge.pw_af0029_01
noncomputable def st (i : Nat) : Stmt := nth PySem.Challenge.pw_af0029_01.main.body i
noncomputable def mt (i : Nat) : Stmt := nth (sBody (st 2)) i
noncomputable def at0 : Stmt := nth (sBody (st 4)) 0
/-! ## the objects that the top leaves -/
@[reducible] noncomputable def fobj (name qual : Str) (s : Stmt) (pm : Value) (c : Addr) : Obj :=
  { cls := .type "function", data := .func (fnOf name qual (sArgs s) (sBody s) (sScope s) .none .none .none pm none (.ref c) .none) }
@[reducible] noncomputable def gobj (name qual : Str) (s : Stmt) : Obj :=
  { cls := .none, data := .func { name := name, qualname := qual, params := sArgs s, body := .stmts (sBody s), scope := sScope s, globals := 0, closure := [], defaults := .none, kwdefaults := .none } }
@[reducible] noncomputable def cobj (n : Str) (tn : Tok) (q : Str) (tq : Tok) (f : Str) (tf : Tok) (a b c d e : Int) (r1 : Addr) (i1 : Int) (r2 r3 r4 r5 : Addr) (i2 i3 : Int) (f' : Str) (tf' : Tok) : Obj :=
  { cls := .type "code", data := .fields #[.str n tn, .str q tq, .str f tf, .int a 0, .int b 0, .int c 0, .int d 0, .int e 0, .ref r1, .bool true, .int i1 0, .ref r2, .none, .ref r3, .ref r4, .ref r5, .int i2 0, .int i3 0, .str f' tf'] }
@[reducible] noncomputable def ent (P : Params) (n : Str) (t : Tok) (v : Value) : DictEntry := { hash := PyData.keyHash P n, key := .str n t, val := v }
@[reducible] noncomputable def tobj : Obj := { cls := .type "tuple", data := .seq #[] }
@[reducible] noncomputable def nobj : Obj := { cls := .none, data := .fields #[] }
noncomputable def o3 (P : Params) : Obj := { cls := Value.type "dict", data := Data.dict #[ent P "__name__" 165 (Value.str "law_af0029_01" 474), ent P "__doc__" 166 (Value.none), ent P "__package__" 167 (Value.none), ent P "__loader__" 168 (Value.builtin "__main__.__loader__#opaque"), ent P "__spec__" 169 (Value.none), ent P "__annotations__" 170 (Value.ref 6), ent P "__builtins__" 171 (Value.ref 4), ent P "__file__" 173 (Value.str "/claim/cut.py" 172), ent P "__cached__" 174 (Value.none), ent P "_wall" 193 (Value.ref 21), ent P "BaseStemmer" 438 (Value.ref 199), ent P "Among" 473 (Value.ref 220), ent P "_law_LETTERS" 477 (Value.str "aets" 476), ent P "_law_at" 485 (Value.ref 231), ent P "_law_word" 493 (Value.ref 238), ent P "_law_back" 502 (Value.ref 245), ent P "_law_table" 508 (Value.ref 250), ent P "_law_rows" 514 (Value.ref 255), ent P "_law_act" 523 (Value.ref 262), ent P "_law_drive" 543 (Value.ref 269), ent P "_law_region" 552 (Value.ref 276), ent P "_law_longest" 564 (Value.ref 283), ent P "_law_plain" 583 (Value.ref 290), ent P "_law_piece" 592 (Value.ref 297), ent P "law" 618 (Value.ref 304)] 25 }
noncomputable def o12 (P : Params) : Obj := { cls := Value.none, data := Data.fields #[Value.int 1 0, Value.int 0 0, Value.ref 20, Value.int 5 0, Value.int 0 0, Value.ref 27, Value.int 204 0, Value.int 0 0, Value.ref 209, Value.int 212 0, Value.int 0 0, Value.ref 230, Value.int 214 0, Value.int 0 0, Value.ref 237, Value.int 221 0, Value.int 0 0, Value.ref 244, Value.int 226 0, Value.int 0 0, Value.ref 249, Value.int 250 0, Value.int 0 0, Value.ref 254, Value.int 263 0, Value.int 0 0, Value.ref 261, Value.int 269 0, Value.int 0 0, Value.ref 268, Value.int 340 0, Value.int 0 0, Value.ref 275, Value.int 345 0, Value.int 0 0, Value.ref 282, Value.int 353 0, Value.int 0 0, Value.ref 289, Value.int 393 0, Value.int 0 0, Value.ref 296, Value.int 398 0, Value.int 0 0, Value.ref 303] }
noncomputable def o13 (P : Params) : Obj := { cls := Value.type "code", data := Data.fields #[Value.str "<module>" 182, Value.str "<module>" 183, Value.str "/claim/cut.py" 184, Value.int 1 0, Value.int 0 0, Value.int 0 0, Value.int 0 0, Value.int 0 0, Value.ref 11, Value.bool false, Value.int 181 0, Value.ref 12, Value.none, Value.none, Value.none, Value.none, Value.int 185 0, Value.int 1 0, Value.str "/claim/cut.py" 186] }
noncomputable def o14 (P : Params) : Obj := { cls := Value.type "frame", slots := #[some (Value.ref 13), some (Value.ref 3), some (Value.ref 3), none, some (Value.str "__main__" 164), none, some (Value.ref 0)] }
noncomputable def o17 (P : Params) : Obj := { cls := Value.type "tuple", data := Data.seq #[Value.str "k" 190] }
noncomputable def o19 (P : Params) : Obj := gobj "_wall" "_wall" (st 0)
noncomputable def o20 (P : Params) : Obj := cobj "_wall" 187 "_wall" 188 "/claim/cut.py" 189 1 1 0 0 3 15 181 16 17 18 19 191 1 "/claim/cut.py" 192
noncomputable def o21 (P : Params) : Obj := fobj "_wall" "_wall" (st 0) (.str "__main__" 164) 20
noncomputable def o23 (P : Params) : Obj := { cls := Value.type "builtin_function_or_method", data := Data.fields #[Value.builtin "type.__prepare__", Value.type "type"] }
noncomputable def o24 (P : Params) : Obj := { cls := Value.type "dict", data := Data.dict #[ent P "__module__" 203 (Value.str "snowballstemmer.basestemmer" 194), ent P "__qualname__" 205 (Value.str "BaseStemmer" 204), ent P "__firstlineno__" 207 (Value.int 5 206), ent P "__init__" 214 (Value.ref 35), ent P "set_current" 222 (Value.ref 42), ent P "get_current" 229 (Value.ref 49), ent P "copy_from" 237 (Value.ref 56), ent P "in_grouping" 245 (Value.ref 63), ent P "go_in_grouping" 253 (Value.ref 70), ent P "in_grouping_b" 261 (Value.ref 77), ent P "go_in_grouping_b" 269 (Value.ref 84), ent P "out_grouping" 277 (Value.ref 91), ent P "go_out_grouping" 285 (Value.ref 98), ent P "out_grouping_b" 293 (Value.ref 105), ent P "go_out_grouping_b" 301 (Value.ref 112), ent P "eq_s" 309 (Value.ref 119), ent P "eq_s_b" 317 (Value.ref 126), ent P "find_among" 337 (Value.ref 133), ent P "find_among_b" 357 (Value.ref 140), ent P "replace_s" 368 (Value.ref 147), ent P "slice_from" 376 (Value.ref 154), ent P "slice_del" 383 (Value.ref 161), ent P "insert" 394 (Value.ref 168), ent P "slice_to" 401 (Value.ref 175), ent P "assign_to" 408 (Value.ref 182), ent P "stemWord" 416 (Value.ref 189), ent P "stemWords" 424 (Value.ref 196), ent P "__static_attributes__" 431 (Value.ref 197)] 28 }
noncomputable def o26 (P : Params) : Obj := { cls := Value.none, data := Data.fields #[Value.int 7 0, Value.int 4 0, Value.ref 34, Value.int 10 0, Value.int 4 0, Value.ref 41, Value.int 18 0, Value.int 4 0, Value.ref 48, Value.int 21 0, Value.int 4 0, Value.ref 55, Value.int 24 0, Value.int 4 0, Value.ref 62, Value.int 27 0, Value.int 4 0, Value.ref 69, Value.int 34 0, Value.int 4 0, Value.ref 76, Value.int 42 0, Value.int 4 0, Value.ref 83, Value.int 45 0, Value.int 4 0, Value.ref 90, Value.int 48 0, Value.int 4 0, Value.ref 97, Value.int 55 0, Value.int 4 0, Value.ref 104, Value.int 58 0, Value.int 4 0, Value.ref 111, Value.int 61 0, Value.int 4 0, Value.ref 118, Value.int 64 0, Value.int 4 0, Value.ref 125, Value.int 70 0, Value.int 4 0, Value.ref 132, Value.int 115 0, Value.int 4 0, Value.ref 139, Value.int 160 0, Value.int 4 0, Value.ref 146, Value.int 170 0, Value.int 4 0, Value.ref 153, Value.int 178 0, Value.int 4 0, Value.ref 160, Value.int 181 0, Value.int 4 0, Value.ref 167, Value.int 188 0, Value.int 4 0, Value.ref 174, Value.int 195 0, Value.int 4 0, Value.ref 181, Value.int 198 0, Value.int 4 0, Value.ref 188, Value.int 201 0, Value.int 4 0, Value.ref 195] }
noncomputable def o27 (P : Params) : Obj := { cls := Value.type "code", data := Data.fields #[Value.str "BaseStemmer" 198, Value.str "BaseStemmer" 199, Value.str "/claim/cut.py" 200, Value.int 5 0, Value.int 0 0, Value.int 0 0, Value.int 0 0, Value.int 0 0, Value.ref 25, Value.bool false, Value.int 181 0, Value.ref 26, Value.none, Value.none, Value.none, Value.none, Value.int 201 0, Value.int 5 0, Value.str "/claim/cut.py" 202] }
noncomputable def o28 (P : Params) : Obj := { cls := Value.type "frame", slots := #[some (Value.ref 27), some (Value.ref 3), some (Value.ref 24), none, some (Value.str "snowballstemmer.basestemmer" 194), none, some (Value.ref 0)] }
noncomputable def o31 (P : Params) : Obj := { cls := Value.type "tuple", data := Data.seq #[Value.str "self" 211] }
noncomputable def o33 (P : Params) : Obj := gobj "__init__" "BaseStemmer.__init__" (mt 0)
noncomputable def o34 (P : Params) : Obj := cobj "__init__" 208 "BaseStemmer.__init__" 209 "/claim/cut.py" 210 7 1 0 0 3 29 181 30 31 32 33 212 7 "/claim/cut.py" 213
noncomputable def o35 (P : Params) : Obj := fobj "__init__" "BaseStemmer.__init__" (mt 0) (.str "snowballstemmer.basestemmer" 194) 34
noncomputable def o38 (P : Params) : Obj := { cls := Value.type "tuple", data := Data.seq #[Value.str "self" 218, Value.str "value" 219] }
noncomputable def o40 (P : Params) : Obj := gobj "set_current" "BaseStemmer.set_current" (mt 1)
noncomputable def o41 (P : Params) : Obj := cobj "set_current" 215 "BaseStemmer.set_current" 216 "/claim/cut.py" 217 10 2 0 0 3 36 181 37 38 39 40 220 10 "/claim/cut.py" 221
noncomputable def o42 (P : Params) : Obj := fobj "set_current" "BaseStemmer.set_current" (mt 1) (.str "snowballstemmer.basestemmer" 194) 41
noncomputable def o45 (P : Params) : Obj := { cls := Value.type "tuple", data := Data.seq #[Value.str "self" 226] }
noncomputable def o47 (P : Params) : Obj := gobj "get_current" "BaseStemmer.get_current" (mt 2)
noncomputable def o48 (P : Params) : Obj := cobj "get_current" 223 "BaseStemmer.get_current" 224 "/claim/cut.py" 225 18 1 0 0 3 43 181 44 45 46 47 227 18 "/claim/cut.py" 228
noncomputable def o49 (P : Params) : Obj := fobj "get_current" "BaseStemmer.get_current" (mt 2) (.str "snowballstemmer.basestemmer" 194) 48
noncomputable def o52 (P : Params) : Obj := { cls := Value.type "tuple", data := Data.seq #[Value.str "self" 233, Value.str "other" 234] }
noncomputable def o54 (P : Params) : Obj := gobj "copy_from" "BaseStemmer.copy_from" (mt 3)
noncomputable def o55 (P : Params) : Obj := cobj "copy_from" 230 "BaseStemmer.copy_from" 231 "/claim/cut.py" 232 21 2 0 0 3 50 181 51 52 53 54 235 21 "/claim/cut.py" 236
noncomputable def o56 (P : Params) : Obj := fobj "copy_from" "BaseStemmer.copy_from" (mt 3) (.str "snowballstemmer.basestemmer" 194) 55
noncomputable def o59 (P : Params) : Obj := { cls := Value.type "tuple", data := Data.seq #[Value.str "self" 241, Value.str "s" 242] }
noncomputable def o61 (P : Params) : Obj := gobj "in_grouping" "BaseStemmer.in_grouping" (mt 4)
noncomputable def o62 (P : Params) : Obj := cobj "in_grouping" 238 "BaseStemmer.in_grouping" 239 "/claim/cut.py" 240 24 2 0 0 3 57 181 58 59 60 61 243 24 "/claim/cut.py" 244
noncomputable def o63 (P : Params) : Obj := fobj "in_grouping" "BaseStemmer.in_grouping" (mt 4) (.str "snowballstemmer.basestemmer" 194) 62
noncomputable def o66 (P : Params) : Obj := { cls := Value.type "tuple", data := Data.seq #[Value.str "self" 249, Value.str "s" 250] }
noncomputable def o68 (P : Params) : Obj := gobj "go_in_grouping" "BaseStemmer.go_in_grouping" (mt 5)
noncomputable def o69 (P : Params) : Obj := cobj "go_in_grouping" 246 "BaseStemmer.go_in_grouping" 247 "/claim/cut.py" 248 27 2 0 0 3 64 181 65 66 67 68 251 27 "/claim/cut.py" 252
noncomputable def o70 (P : Params) : Obj := fobj "go_in_grouping" "BaseStemmer.go_in_grouping" (mt 5) (.str "snowballstemmer.basestemmer" 194) 69
noncomputable def o73 (P : Params) : Obj := { cls := Value.type "tuple", data := Data.seq #[Value.str "self" 257, Value.str "s" 258] }
noncomputable def o75 (P : Params) : Obj := gobj "in_grouping_b" "BaseStemmer.in_grouping_b" (mt 6)
noncomputable def o76 (P : Params) : Obj := cobj "in_grouping_b" 254 "BaseStemmer.in_grouping_b" 255 "/claim/cut.py" 256 34 2 0 0 3 71 181 72 73 74 75 259 34 "/claim/cut.py" 260
noncomputable def o77 (P : Params) : Obj := fobj "in_grouping_b" "BaseStemmer.in_grouping_b" (mt 6) (.str "snowballstemmer.basestemmer" 194) 76
noncomputable def o80 (P : Params) : Obj := { cls := Value.type "tuple", data := Data.seq #[Value.str "self" 265, Value.str "s" 266] }
noncomputable def o82 (P : Params) : Obj := gobj "go_in_grouping_b" "BaseStemmer.go_in_grouping_b" (mt 7)
noncomputable def o83 (P : Params) : Obj := cobj "go_in_grouping_b" 262 "BaseStemmer.go_in_grouping_b" 263 "/claim/cut.py" 264 42 2 0 0 3 78 181 79 80 81 82 267 42 "/claim/cut.py" 268
noncomputable def o84 (P : Params) : Obj := fobj "go_in_grouping_b" "BaseStemmer.go_in_grouping_b" (mt 7) (.str "snowballstemmer.basestemmer" 194) 83
noncomputable def o87 (P : Params) : Obj := { cls := Value.type "tuple", data := Data.seq #[Value.str "self" 273, Value.str "s" 274] }
noncomputable def o89 (P : Params) : Obj := gobj "out_grouping" "BaseStemmer.out_grouping" (mt 8)
noncomputable def o90 (P : Params) : Obj := cobj "out_grouping" 270 "BaseStemmer.out_grouping" 271 "/claim/cut.py" 272 45 2 0 0 3 85 181 86 87 88 89 275 45 "/claim/cut.py" 276
noncomputable def o91 (P : Params) : Obj := fobj "out_grouping" "BaseStemmer.out_grouping" (mt 8) (.str "snowballstemmer.basestemmer" 194) 90
noncomputable def o94 (P : Params) : Obj := { cls := Value.type "tuple", data := Data.seq #[Value.str "self" 281, Value.str "s" 282] }
noncomputable def o96 (P : Params) : Obj := gobj "go_out_grouping" "BaseStemmer.go_out_grouping" (mt 9)
noncomputable def o97 (P : Params) : Obj := cobj "go_out_grouping" 278 "BaseStemmer.go_out_grouping" 279 "/claim/cut.py" 280 48 2 0 0 3 92 181 93 94 95 96 283 48 "/claim/cut.py" 284
noncomputable def o98 (P : Params) : Obj := fobj "go_out_grouping" "BaseStemmer.go_out_grouping" (mt 9) (.str "snowballstemmer.basestemmer" 194) 97
noncomputable def o101 (P : Params) : Obj := { cls := Value.type "tuple", data := Data.seq #[Value.str "self" 289, Value.str "s" 290] }
noncomputable def o103 (P : Params) : Obj := gobj "out_grouping_b" "BaseStemmer.out_grouping_b" (mt 10)
noncomputable def o104 (P : Params) : Obj := cobj "out_grouping_b" 286 "BaseStemmer.out_grouping_b" 287 "/claim/cut.py" 288 55 2 0 0 3 99 181 100 101 102 103 291 55 "/claim/cut.py" 292
noncomputable def o105 (P : Params) : Obj := fobj "out_grouping_b" "BaseStemmer.out_grouping_b" (mt 10) (.str "snowballstemmer.basestemmer" 194) 104
noncomputable def o108 (P : Params) : Obj := { cls := Value.type "tuple", data := Data.seq #[Value.str "self" 297, Value.str "s" 298] }
noncomputable def o110 (P : Params) : Obj := gobj "go_out_grouping_b" "BaseStemmer.go_out_grouping_b" (mt 11)
noncomputable def o111 (P : Params) : Obj := cobj "go_out_grouping_b" 294 "BaseStemmer.go_out_grouping_b" 295 "/claim/cut.py" 296 58 2 0 0 3 106 181 107 108 109 110 299 58 "/claim/cut.py" 300
noncomputable def o112 (P : Params) : Obj := fobj "go_out_grouping_b" "BaseStemmer.go_out_grouping_b" (mt 11) (.str "snowballstemmer.basestemmer" 194) 111
noncomputable def o115 (P : Params) : Obj := { cls := Value.type "tuple", data := Data.seq #[Value.str "self" 305, Value.str "s" 306] }
noncomputable def o117 (P : Params) : Obj := gobj "eq_s" "BaseStemmer.eq_s" (mt 12)
noncomputable def o118 (P : Params) : Obj := cobj "eq_s" 302 "BaseStemmer.eq_s" 303 "/claim/cut.py" 304 61 2 0 0 3 113 181 114 115 116 117 307 61 "/claim/cut.py" 308
noncomputable def o119 (P : Params) : Obj := fobj "eq_s" "BaseStemmer.eq_s" (mt 12) (.str "snowballstemmer.basestemmer" 194) 118
noncomputable def o122 (P : Params) : Obj := { cls := Value.type "tuple", data := Data.seq #[Value.str "self" 313, Value.str "s" 314] }
noncomputable def o124 (P : Params) : Obj := gobj "eq_s_b" "BaseStemmer.eq_s_b" (mt 13)
noncomputable def o125 (P : Params) : Obj := cobj "eq_s_b" 310 "BaseStemmer.eq_s_b" 311 "/claim/cut.py" 312 64 2 0 0 3 120 181 121 122 123 124 315 64 "/claim/cut.py" 316
noncomputable def o126 (P : Params) : Obj := fobj "eq_s_b" "BaseStemmer.eq_s_b" (mt 13) (.str "snowballstemmer.basestemmer" 194) 125
noncomputable def o129 (P : Params) : Obj := { cls := Value.type "tuple", data := Data.seq #[Value.str "self" 321, Value.str "v" 322, Value.str "i" 323, Value.str "j" 324, Value.str "c" 325, Value.str "l" 326, Value.str "common_i" 327, Value.str "common_j" 328, Value.str "first_key_inspected" 329, Value.str "k" 330, Value.str "diff" 331, Value.str "common" 332, Value.str "w" 333, Value.str "i2" 334] }
noncomputable def o131 (P : Params) : Obj := gobj "find_among" "BaseStemmer.find_among" (mt 14)
noncomputable def o132 (P : Params) : Obj := cobj "find_among" 318 "BaseStemmer.find_among" 319 "/claim/cut.py" 320 70 2 0 0 3 127 181 128 129 130 131 335 70 "/claim/cut.py" 336
noncomputable def o133 (P : Params) : Obj := fobj "find_among" "BaseStemmer.find_among" (mt 14) (.str "snowballstemmer.basestemmer" 194) 132
noncomputable def o136 (P : Params) : Obj := { cls := Value.type "tuple", data := Data.seq #[Value.str "self" 341, Value.str "v" 342, Value.str "i" 343, Value.str "j" 344, Value.str "c" 345, Value.str "lb" 346, Value.str "common_i" 347, Value.str "common_j" 348, Value.str "first_key_inspected" 349, Value.str "k" 350, Value.str "diff" 351, Value.str "common" 352, Value.str "w" 353, Value.str "i2" 354] }
noncomputable def o138 (P : Params) : Obj := gobj "find_among_b" "BaseStemmer.find_among_b" (mt 15)
noncomputable def o139 (P : Params) : Obj := cobj "find_among_b" 338 "BaseStemmer.find_among_b" 339 "/claim/cut.py" 340 115 2 0 0 3 134 181 135 136 137 138 355 115 "/claim/cut.py" 356
noncomputable def o140 (P : Params) : Obj := fobj "find_among_b" "BaseStemmer.find_among_b" (mt 15) (.str "snowballstemmer.basestemmer" 194) 139
noncomputable def o143 (P : Params) : Obj := { cls := Value.type "tuple", data := Data.seq #[Value.str "self" 361, Value.str "c_bra" 362, Value.str "c_ket" 363, Value.str "s" 364, Value.str "adjustment" 365] }
noncomputable def o145 (P : Params) : Obj := gobj "replace_s" "BaseStemmer.replace_s" (mt 16)
noncomputable def o146 (P : Params) : Obj := cobj "replace_s" 358 "BaseStemmer.replace_s" 359 "/claim/cut.py" 360 160 4 0 0 3 141 181 142 143 144 145 366 160 "/claim/cut.py" 367
noncomputable def o147 (P : Params) : Obj := fobj "replace_s" "BaseStemmer.replace_s" (mt 16) (.str "snowballstemmer.basestemmer" 194) 146
noncomputable def o150 (P : Params) : Obj := { cls := Value.type "tuple", data := Data.seq #[Value.str "self" 372, Value.str "s" 373] }
noncomputable def o152 (P : Params) : Obj := gobj "slice_from" "BaseStemmer.slice_from" (mt 17)
noncomputable def o153 (P : Params) : Obj := cobj "slice_from" 369 "BaseStemmer.slice_from" 370 "/claim/cut.py" 371 170 2 0 0 3 148 181 149 150 151 152 374 170 "/claim/cut.py" 375
noncomputable def o154 (P : Params) : Obj := fobj "slice_from" "BaseStemmer.slice_from" (mt 17) (.str "snowballstemmer.basestemmer" 194) 153
noncomputable def o157 (P : Params) : Obj := { cls := Value.type "tuple", data := Data.seq #[Value.str "self" 380] }
noncomputable def o159 (P : Params) : Obj := gobj "slice_del" "BaseStemmer.slice_del" (mt 18)
noncomputable def o160 (P : Params) : Obj := cobj "slice_del" 377 "BaseStemmer.slice_del" 378 "/claim/cut.py" 379 178 1 0 0 3 155 181 156 157 158 159 381 178 "/claim/cut.py" 382
noncomputable def o161 (P : Params) : Obj := fobj "slice_del" "BaseStemmer.slice_del" (mt 18) (.str "snowballstemmer.basestemmer" 194) 160
noncomputable def o164 (P : Params) : Obj := { cls := Value.type "tuple", data := Data.seq #[Value.str "self" 387, Value.str "c_bra" 388, Value.str "c_ket" 389, Value.str "s" 390, Value.str "adjustment" 391] }
noncomputable def o166 (P : Params) : Obj := gobj "insert" "BaseStemmer.insert" (mt 19)
noncomputable def o167 (P : Params) : Obj := cobj "insert" 384 "BaseStemmer.insert" 385 "/claim/cut.py" 386 181 4 0 0 3 162 181 163 164 165 166 392 181 "/claim/cut.py" 393
noncomputable def o168 (P : Params) : Obj := fobj "insert" "BaseStemmer.insert" (mt 19) (.str "snowballstemmer.basestemmer" 194) 167
noncomputable def o171 (P : Params) : Obj := { cls := Value.type "tuple", data := Data.seq #[Value.str "self" 398] }
noncomputable def o173 (P : Params) : Obj := gobj "slice_to" "BaseStemmer.slice_to" (mt 20)
noncomputable def o174 (P : Params) : Obj := cobj "slice_to" 395 "BaseStemmer.slice_to" 396 "/claim/cut.py" 397 188 1 0 0 3 169 181 170 171 172 173 399 188 "/claim/cut.py" 400
noncomputable def o175 (P : Params) : Obj := fobj "slice_to" "BaseStemmer.slice_to" (mt 20) (.str "snowballstemmer.basestemmer" 194) 174
noncomputable def o178 (P : Params) : Obj := { cls := Value.type "tuple", data := Data.seq #[Value.str "self" 405] }
noncomputable def o180 (P : Params) : Obj := gobj "assign_to" "BaseStemmer.assign_to" (mt 21)
noncomputable def o181 (P : Params) : Obj := cobj "assign_to" 402 "BaseStemmer.assign_to" 403 "/claim/cut.py" 404 195 1 0 0 3 176 181 177 178 179 180 406 195 "/claim/cut.py" 407
noncomputable def o182 (P : Params) : Obj := fobj "assign_to" "BaseStemmer.assign_to" (mt 21) (.str "snowballstemmer.basestemmer" 194) 181
noncomputable def o185 (P : Params) : Obj := { cls := Value.type "tuple", data := Data.seq #[Value.str "self" 412, Value.str "word" 413] }
noncomputable def o187 (P : Params) : Obj := gobj "stemWord" "BaseStemmer.stemWord" (mt 22)
noncomputable def o188 (P : Params) : Obj := cobj "stemWord" 409 "BaseStemmer.stemWord" 410 "/claim/cut.py" 411 198 2 0 0 3 183 181 184 185 186 187 414 198 "/claim/cut.py" 415
noncomputable def o189 (P : Params) : Obj := fobj "stemWord" "BaseStemmer.stemWord" (mt 22) (.str "snowballstemmer.basestemmer" 194) 188
noncomputable def o192 (P : Params) : Obj := { cls := Value.type "tuple", data := Data.seq #[Value.str "self" 420, Value.str "words" 421] }
noncomputable def o194 (P : Params) : Obj := gobj "stemWords" "BaseStemmer.stemWords" (mt 23)
noncomputable def o195 (P : Params) : Obj := cobj "stemWords" 417 "BaseStemmer.stemWords" 418 "/claim/cut.py" 419 201 2 0 0 3 190 181 191 192 193 194 422 201 "/claim/cut.py" 423
noncomputable def o196 (P : Params) : Obj := fobj "stemWords" "BaseStemmer.stemWords" (mt 23) (.str "snowballstemmer.basestemmer" 194) 195
noncomputable def o197 (P : Params) : Obj := { cls := Value.type "tuple", data := Data.seq #[Value.str "bra" 425, Value.str "current" 426, Value.str "cursor" 427, Value.str "ket" 428, Value.str "limit" 429, Value.str "limit_backward" 430] }
noncomputable def o198 (P : Params) : Obj := { cls := Value.type "dict", data := Data.dict #[ent P "__module__" 203 (Value.str "snowballstemmer.basestemmer" 194), ent P "__firstlineno__" 207 (Value.int 5 206), ent P "__init__" 214 (Value.ref 35), ent P "set_current" 222 (Value.ref 42), ent P "get_current" 229 (Value.ref 49), ent P "copy_from" 237 (Value.ref 56), ent P "in_grouping" 245 (Value.ref 63), ent P "go_in_grouping" 253 (Value.ref 70), ent P "in_grouping_b" 261 (Value.ref 77), ent P "go_in_grouping_b" 269 (Value.ref 84), ent P "out_grouping" 277 (Value.ref 91), ent P "go_out_grouping" 285 (Value.ref 98), ent P "out_grouping_b" 293 (Value.ref 105), ent P "go_out_grouping_b" 301 (Value.ref 112), ent P "eq_s" 309 (Value.ref 119), ent P "eq_s_b" 317 (Value.ref 126), ent P "find_among" 337 (Value.ref 133), ent P "find_among_b" 357 (Value.ref 140), ent P "replace_s" 368 (Value.ref 147), ent P "slice_from" 376 (Value.ref 154), ent P "slice_del" 383 (Value.ref 161), ent P "insert" 394 (Value.ref 168), ent P "slice_to" 401 (Value.ref 175), ent P "assign_to" 408 (Value.ref 182), ent P "stemWord" 416 (Value.ref 189), ent P "stemWords" 424 (Value.ref 196), ent P "__static_attributes__" 431 (Value.ref 197), ent P "__dict__" 433 (Value.ref 200), ent P "__weakref__" 435 (Value.ref 201), ent P "__doc__" 436 (Value.none)] 4 }
noncomputable def o199 (P : Params) : Obj := { cls := Value.type "type", data := Data.cls { name := "BaseStemmer", bases := [Value.type "object"], mro := [Value.ref 199, Value.type "object"], ns := 198, qualname := "BaseStemmer" }, slots := #[none, none, some (Value.str "BaseStemmer" 196), some (Value.str "BaseStemmer" 204), some (Value.builtin "object.__new__"), some (Value.bool true)] }
noncomputable def o200 (P : Params) : Obj := { cls := Value.type "getset_descriptor", data := Data.fields #[Value.str "__dict__" 432, Value.ref 199, Value.builtin "function.__dict__", Value.builtin "function.__dict__#set"] }
noncomputable def o201 (P : Params) : Obj := { cls := Value.type "getset_descriptor", data := Data.fields #[Value.str "__weakref__" 434, Value.ref 199, Value.builtin "ExceptionGroup.__weakref__", Value.none] }
noncomputable def o202 (P : Params) : Obj := { cls := Value.type "super", data := Data.fields #[Value.ref 199, Value.ref 199, Value.ref 199] }
noncomputable def o203 (P : Params) : Obj := { cls := Value.type "builtin_function_or_method", data := Data.fields #[Value.builtin "object.__init_subclass__", Value.ref 199] }
noncomputable def o205 (P : Params) : Obj := { cls := Value.type "builtin_function_or_method", data := Data.fields #[Value.builtin "type.__prepare__", Value.type "type"] }
noncomputable def o206 (P : Params) : Obj := { cls := Value.type "dict", data := Data.dict #[ent P "__module__" 448 (Value.str "snowballstemmer.among" 439), ent P "__qualname__" 450 (Value.str "Among" 449), ent P "__firstlineno__" 452 (Value.int 204 451), ent P "__init__" 462 (Value.ref 217), ent P "__static_attributes__" 466 (Value.ref 218)] 5 }
noncomputable def o208 (P : Params) : Obj := { cls := Value.none, data := Data.fields #[Value.int 206 0, Value.int 4 0, Value.ref 216] }
noncomputable def o209 (P : Params) : Obj := { cls := Value.type "code", data := Data.fields #[Value.str "Among" 443, Value.str "Among" 444, Value.str "/claim/cut.py" 445, Value.int 204 0, Value.int 0 0, Value.int 0 0, Value.int 0 0, Value.int 0 0, Value.ref 207, Value.bool false, Value.int 181 0, Value.ref 208, Value.none, Value.none, Value.none, Value.none, Value.int 446 0, Value.int 204 0, Value.str "/claim/cut.py" 447] }
noncomputable def o210 (P : Params) : Obj := { cls := Value.type "frame", slots := #[some (Value.ref 209), some (Value.ref 3), some (Value.ref 206), none, some (Value.str "snowballstemmer.among" 439), none, some (Value.ref 0)] }
noncomputable def o213 (P : Params) : Obj := { cls := Value.type "tuple", data := Data.seq #[Value.str "self" 456, Value.str "s" 457, Value.str "substring_i" 458, Value.str "result" 459] }
noncomputable def o215 (P : Params) : Obj := gobj "__init__" "Among.__init__" at0
noncomputable def o216 (P : Params) : Obj := cobj "__init__" 453 "Among.__init__" 454 "/claim/cut.py" 455 206 4 0 0 3 211 181 212 213 214 215 460 206 "/claim/cut.py" 461
noncomputable def o217 (P : Params) : Obj := fobj "__init__" "Among.__init__" at0 (.str "snowballstemmer.among" 439) 216
noncomputable def o218 (P : Params) : Obj := { cls := Value.type "tuple", data := Data.seq #[Value.str "result" 463, Value.str "s" 464, Value.str "substring_i" 465] }
noncomputable def o219 (P : Params) : Obj := { cls := Value.type "dict", data := Data.dict #[ent P "__module__" 448 (Value.str "snowballstemmer.among" 439), ent P "__firstlineno__" 452 (Value.int 204 451), ent P "__init__" 462 (Value.ref 217), ent P "__static_attributes__" 466 (Value.ref 218), ent P "__dict__" 468 (Value.ref 221), ent P "__weakref__" 470 (Value.ref 222), ent P "__doc__" 471 (Value.none)] 4 }
noncomputable def o220 (P : Params) : Obj := { cls := Value.type "type", data := Data.cls { name := "Among", bases := [Value.type "object"], mro := [Value.ref 220, Value.type "object"], ns := 219, qualname := "Among" }, slots := #[none, none, some (Value.str "Among" 441), some (Value.str "Among" 449), some (Value.builtin "object.__new__"), some (Value.bool true)] }
noncomputable def o221 (P : Params) : Obj := { cls := Value.type "getset_descriptor", data := Data.fields #[Value.str "__dict__" 467, Value.ref 220, Value.builtin "function.__dict__", Value.builtin "function.__dict__#set"] }
noncomputable def o222 (P : Params) : Obj := { cls := Value.type "getset_descriptor", data := Data.fields #[Value.str "__weakref__" 469, Value.ref 220, Value.builtin "ExceptionGroup.__weakref__", Value.none] }
noncomputable def o223 (P : Params) : Obj := { cls := Value.type "super", data := Data.fields #[Value.ref 220, Value.ref 220, Value.ref 220] }
noncomputable def o224 (P : Params) : Obj := { cls := Value.type "builtin_function_or_method", data := Data.fields #[Value.builtin "object.__init_subclass__", Value.ref 220] }
noncomputable def o227 (P : Params) : Obj := { cls := Value.type "tuple", data := Data.seq #[Value.str "script" 481, Value.str "i" 482] }
noncomputable def o229 (P : Params) : Obj := gobj "_law_at" "_law_at" (st 7)
noncomputable def o230 (P : Params) : Obj := cobj "_law_at" 478 "_law_at" 479 "/claim/cut.py" 480 212 2 0 0 3 225 181 226 227 228 229 483 212 "/claim/cut.py" 484
noncomputable def o231 (P : Params) : Obj := fobj "_law_at" "_law_at" (st 7) (.str "law_af0029_01" 474) 230
noncomputable def o234 (P : Params) : Obj := { cls := Value.type "tuple", data := Data.seq #[Value.str "k" 489, Value.str "out" 490] }
noncomputable def o236 (P : Params) : Obj := gobj "_law_word" "_law_word" (st 8)
noncomputable def o237 (P : Params) : Obj := cobj "_law_word" 486 "_law_word" 487 "/claim/cut.py" 488 214 1 0 0 3 232 181 233 234 235 236 491 214 "/claim/cut.py" 492
noncomputable def o238 (P : Params) : Obj := fobj "_law_word" "_law_word" (st 8) (.str "law_af0029_01" 474) 237
noncomputable def o241 (P : Params) : Obj := { cls := Value.type "tuple", data := Data.seq #[Value.str "text" 497, Value.str "out" 498, Value.str "sign" 499] }
noncomputable def o243 (P : Params) : Obj := gobj "_law_back" "_law_back" (st 9)
noncomputable def o244 (P : Params) : Obj := cobj "_law_back" 494 "_law_back" 495 "/claim/cut.py" 496 221 1 0 0 3 239 181 240 241 242 243 500 221 "/claim/cut.py" 501
noncomputable def o245 (P : Params) : Obj := fobj "_law_back" "_law_back" (st 9) (.str "law_af0029_01" 474) 244
noncomputable def o248 (P : Params) : Obj := gobj "_law_table" "_law_table" (st 10)
noncomputable def o249 (P : Params) : Obj := { cls := Value.type "code", data := Data.fields #[Value.str "_law_table" 503, Value.str "_law_table" 504, Value.str "/claim/cut.py" 505, Value.int 226 0, Value.int 3 0, Value.int 0 0, Value.int 0 0, Value.int 3 0, Value.ref 246, Value.bool true, Value.int 181 0, Value.ref 247, Value.none, Value.none, Value.none, Value.ref 248, Value.int 506 0, Value.int 226 0, Value.str "/claim/cut.py" 507] }
noncomputable def o250 (P : Params) : Obj := fobj "_law_table" "_law_table" (st 10) (.str "law_af0029_01" 474) 249
noncomputable def o253 (P : Params) : Obj := gobj "_law_rows" "_law_rows" (st 11)
noncomputable def o254 (P : Params) : Obj := { cls := Value.type "code", data := Data.fields #[Value.str "_law_rows" 509, Value.str "_law_rows" 510, Value.str "/claim/cut.py" 511, Value.int 250 0, Value.int 2 0, Value.int 0 0, Value.int 0 0, Value.int 3 0, Value.ref 251, Value.bool true, Value.int 181 0, Value.ref 252, Value.none, Value.none, Value.none, Value.ref 253, Value.int 512 0, Value.int 250 0, Value.str "/claim/cut.py" 513] }
noncomputable def o255 (P : Params) : Obj := fobj "_law_rows" "_law_rows" (st 11) (.str "law_af0029_01" 474) 254
noncomputable def o258 (P : Params) : Obj := { cls := Value.type "tuple", data := Data.seq #[Value.str "st" 518, Value.str "result" 519, Value.str "puts" 520] }
noncomputable def o260 (P : Params) : Obj := gobj "_law_act" "_law_act" (st 12)
noncomputable def o261 (P : Params) : Obj := cobj "_law_act" 515 "_law_act" 516 "/claim/cut.py" 517 263 3 0 0 3 256 181 257 258 259 260 521 263 "/claim/cut.py" 522
noncomputable def o262 (P : Params) : Obj := fobj "_law_act" "_law_act" (st 12) (.str "law_af0029_01" 474) 261
noncomputable def o265 (P : Params) : Obj := { cls := Value.type "tuple", data := Data.seq #[Value.str "st" 527, Value.str "kind" 528, Value.str "rows" 529, Value.str "puts" 530, Value.str "vowels" 531, Value.str "doubles" 532, Value.str "added" 533, Value.str "p1" 534, Value.str "p2" 535, Value.str "result" 536, Value.str "more" 537, Value.str "c" 538, Value.str "found" 539, Value.str "sign" 540] }
noncomputable def o267 (P : Params) : Obj := gobj "_law_drive" "_law_drive" (st 13)
noncomputable def o268 (P : Params) : Obj := cobj "_law_drive" 524 "_law_drive" 525 "/claim/cut.py" 526 269 7 0 0 3 263 181 264 265 266 267 541 269 "/claim/cut.py" 542
noncomputable def o269 (P : Params) : Obj := fobj "_law_drive" "_law_drive" (st 13) (.str "law_af0029_01" 474) 268
noncomputable def o272 (P : Params) : Obj := { cls := Value.type "tuple", data := Data.seq #[Value.str "text" 547, Value.str "vowels" 548, Value.str "i" 549] }
noncomputable def o274 (P : Params) : Obj := gobj "_law_region" "_law_region" (st 14)
noncomputable def o275 (P : Params) : Obj := cobj "_law_region" 544 "_law_region" 545 "/claim/cut.py" 546 340 2 0 0 3 270 181 271 272 273 274 550 340 "/claim/cut.py" 551
noncomputable def o276 (P : Params) : Obj := fobj "_law_region" "_law_region" (st 14) (.str "law_af0029_01" 474) 275
noncomputable def o279 (P : Params) : Obj := { cls := Value.type "tuple", data := Data.seq #[Value.str "table" 556, Value.str "text" 557, Value.str "back" 558, Value.str "best" 559, Value.str "row" 560, Value.str "k" 561] }
noncomputable def o281 (P : Params) : Obj := gobj "_law_longest" "_law_longest" (st 15)
noncomputable def o282 (P : Params) : Obj := cobj "_law_longest" 553 "_law_longest" 554 "/claim/cut.py" 555 345 3 0 0 3 277 181 278 279 280 281 562 345 "/claim/cut.py" 563
noncomputable def o283 (P : Params) : Obj := fobj "_law_longest" "_law_longest" (st 15) (.str "law_af0029_01" 474) 282
noncomputable def o286 (P : Params) : Obj := { cls := Value.type "tuple", data := Data.seq #[Value.str "text" 568, Value.str "kind" 569, Value.str "table" 570, Value.str "vowels" 571, Value.str "doubles" 572, Value.str "added" 573, Value.str "p1" 574, Value.str "p2" 575, Value.str "row" 576, Value.str "cut" 577, Value.str "out" 578, Value.str "k" 579, Value.str "i" 580] }
noncomputable def o288 (P : Params) : Obj := gobj "_law_plain" "_law_plain" (st 16)
noncomputable def o289 (P : Params) : Obj := cobj "_law_plain" 565 "_law_plain" 566 "/claim/cut.py" 567 353 6 0 0 3 284 181 285 286 287 288 581 353 "/claim/cut.py" 582
noncomputable def o290 (P : Params) : Obj := fobj "_law_plain" "_law_plain" (st 16) (.str "law_af0029_01" 474) 289
noncomputable def o293 (P : Params) : Obj := { cls := Value.type "tuple", data := Data.seq #[Value.str "tables" 587, Value.str "m" 588, Value.str "table" 589] }
noncomputable def o295 (P : Params) : Obj := gobj "_law_piece" "_law_piece" (st 17)
noncomputable def o296 (P : Params) : Obj := cobj "_law_piece" 584 "_law_piece" 585 "/claim/cut.py" 586 393 2 0 0 3 291 181 292 293 294 295 590 393 "/claim/cut.py" 591
noncomputable def o297 (P : Params) : Obj := fobj "_law_piece" "_law_piece" (st 17) (.str "law_af0029_01" 474) 296
noncomputable def o300 (P : Params) : Obj := { cls := Value.type "tuple", data := Data.seq #[Value.str "script" 596, Value.str "choice" 597, Value.str "vowels" 598, Value.str "doubles" 599, Value.str "kinds" 600, Value.str "tables" 601, Value.str "rows" 602, Value.str "puts" 603, Value.str "added" 604, Value.str "base" 605, Value.str "kind" 606, Value.str "table" 607, Value.str "put" 608, Value.str "row" 609, Value.str "st" 610, Value.str "i" 611, Value.str "m" 612, Value.str "text" 613, Value.str "k" 614, Value.str "told" 615] }
noncomputable def o302 (P : Params) : Obj := gobj "law" "law" (st 18)
noncomputable def o303 (P : Params) : Obj := cobj "law" 593 "law" 594 "/claim/cut.py" 595 398 1 0 0 3 298 181 299 300 301 302 616 398 "/claim/cut.py" 617
noncomputable def o304 (P : Params) : Obj := fobj "law" "law" (st 18) (.str "law_af0029_01" 474) 303
noncomputable def o3a (P : Params) : Obj := { cls := Value.type "dict", data := Data.dict #[ent P "__name__" 165 (Value.str "snowballstemmer.basestemmer" 194), ent P "__doc__" 166 (Value.none), ent P "__package__" 167 (Value.none), ent P "__loader__" 168 (Value.builtin "__main__.__loader__#opaque"), ent P "__spec__" 169 (Value.none), ent P "__annotations__" 170 (Value.ref 6), ent P "__builtins__" 171 (Value.ref 4), ent P "__file__" 173 (Value.str "/claim/cut.py" 172), ent P "__cached__" 174 (Value.none), ent P "_wall" 193 (Value.ref 21)] 10 }
noncomputable def o12a (P : Params) : Obj := { cls := Value.none, data := Data.fields #[Value.int 1 0, Value.int 0 0, Value.ref 20] }
noncomputable def o3b (P : Params) : Obj := { cls := Value.type "dict", data := Data.dict #[ent P "__name__" 165 (Value.str "snowballstemmer.basestemmer" 194), ent P "__doc__" 166 (Value.none), ent P "__package__" 167 (Value.none), ent P "__loader__" 168 (Value.builtin "__main__.__loader__#opaque"), ent P "__spec__" 169 (Value.none), ent P "__annotations__" 170 (Value.ref 6), ent P "__builtins__" 171 (Value.ref 4), ent P "__file__" 173 (Value.str "/claim/cut.py" 172), ent P "__cached__" 174 (Value.none), ent P "_wall" 193 (Value.ref 21), ent P "BaseStemmer" 438 (Value.ref 199)] 11 }
noncomputable def o12b (P : Params) : Obj := { cls := Value.none, data := Data.fields #[Value.int 1 0, Value.int 0 0, Value.ref 20, Value.int 5 0, Value.int 0 0, Value.ref 27] }
noncomputable def o3c (P : Params) : Obj := { cls := Value.type "dict", data := Data.dict #[ent P "__name__" 165 (Value.str "snowballstemmer.among" 439), ent P "__doc__" 166 (Value.none), ent P "__package__" 167 (Value.none), ent P "__loader__" 168 (Value.builtin "__main__.__loader__#opaque"), ent P "__spec__" 169 (Value.none), ent P "__annotations__" 170 (Value.ref 6), ent P "__builtins__" 171 (Value.ref 4), ent P "__file__" 173 (Value.str "/claim/cut.py" 172), ent P "__cached__" 174 (Value.none), ent P "_wall" 193 (Value.ref 21), ent P "BaseStemmer" 438 (Value.ref 199), ent P "Among" 473 (Value.ref 220)] 12 }
noncomputable def o12c (P : Params) : Obj := { cls := Value.none, data := Data.fields #[Value.int 1 0, Value.int 0 0, Value.ref 20, Value.int 5 0, Value.int 0 0, Value.ref 27, Value.int 204 0, Value.int 0 0, Value.ref 209] }
noncomputable def o3d (P : Params) : Obj := { cls := Value.type "dict", data := Data.dict #[ent P "__name__" 165 (Value.str "law_af0029_01" 474), ent P "__doc__" 166 (Value.none), ent P "__package__" 167 (Value.none), ent P "__loader__" 168 (Value.builtin "__main__.__loader__#opaque"), ent P "__spec__" 169 (Value.none), ent P "__annotations__" 170 (Value.ref 6), ent P "__builtins__" 171 (Value.ref 4), ent P "__file__" 173 (Value.str "/claim/cut.py" 172), ent P "__cached__" 174 (Value.none), ent P "_wall" 193 (Value.ref 21), ent P "BaseStemmer" 438 (Value.ref 199), ent P "Among" 473 (Value.ref 220), ent P "_law_LETTERS" 477 (Value.str "aets" 476), ent P "_law_at" 485 (Value.ref 231), ent P "_law_word" 493 (Value.ref 238), ent P "_law_back" 502 (Value.ref 245)] 16 }
noncomputable def o12d (P : Params) : Obj := { cls := Value.none, data := Data.fields #[Value.int 1 0, Value.int 0 0, Value.ref 20, Value.int 5 0, Value.int 0 0, Value.ref 27, Value.int 204 0, Value.int 0 0, Value.ref 209, Value.int 212 0, Value.int 0 0, Value.ref 230, Value.int 214 0, Value.int 0 0, Value.ref 237, Value.int 221 0, Value.int 0 0, Value.ref 244] }
noncomputable def o3e (P : Params) : Obj := { cls := Value.type "dict", data := Data.dict #[ent P "__name__" 165 (Value.str "law_af0029_01" 474), ent P "__doc__" 166 (Value.none), ent P "__package__" 167 (Value.none), ent P "__loader__" 168 (Value.builtin "__main__.__loader__#opaque"), ent P "__spec__" 169 (Value.none), ent P "__annotations__" 170 (Value.ref 6), ent P "__builtins__" 171 (Value.ref 4), ent P "__file__" 173 (Value.str "/claim/cut.py" 172), ent P "__cached__" 174 (Value.none), ent P "_wall" 193 (Value.ref 21), ent P "BaseStemmer" 438 (Value.ref 199), ent P "Among" 473 (Value.ref 220), ent P "_law_LETTERS" 477 (Value.str "aets" 476), ent P "_law_at" 485 (Value.ref 231), ent P "_law_word" 493 (Value.ref 238), ent P "_law_back" 502 (Value.ref 245), ent P "_law_table" 508 (Value.ref 250), ent P "_law_rows" 514 (Value.ref 255), ent P "_law_act" 523 (Value.ref 262), ent P "_law_drive" 543 (Value.ref 269)] 20 }
noncomputable def o12e (P : Params) : Obj := { cls := Value.none, data := Data.fields #[Value.int 1 0, Value.int 0 0, Value.ref 20, Value.int 5 0, Value.int 0 0, Value.ref 27, Value.int 204 0, Value.int 0 0, Value.ref 209, Value.int 212 0, Value.int 0 0, Value.ref 230, Value.int 214 0, Value.int 0 0, Value.ref 237, Value.int 221 0, Value.int 0 0, Value.ref 244, Value.int 226 0, Value.int 0 0, Value.ref 249, Value.int 250 0, Value.int 0 0, Value.ref 254, Value.int 263 0, Value.int 0 0, Value.ref 261, Value.int 269 0, Value.int 0 0, Value.ref 268] }
noncomputable def t0 (P : Params) : BT := (.node (boot_o_0 P) (.node (boot_o_1 P) (.node (boot_o_3 P) (.node (boot_o_7 P) .nil .nil) (.node tobj .nil .nil)) (.node (boot_o_5 P) (.node (boot_o_9 P) .nil .nil) (.node (o13 P) .nil .nil))) (.node (boot_o_2 P) (.node (boot_o_4 P) (.node (boot_o_8 P) .nil .nil) (.node nobj .nil .nil)) (.node (boot_o_6 P) (.node (boot_o_10 P) .nil .nil) (.node (o14 P) .nil .nil))))
noncomputable def t1 (P : Params) : BT := (.node (boot_o_0 P) (.node (boot_o_1 P) (.node (o3a P) (.node (boot_o_7 P) (.node tobj .nil .nil) .nil) (.node tobj (.node (o19 P) .nil .nil) .nil)) (.node (boot_o_5 P) (.node (boot_o_9 P) (.node (o17 P) .nil .nil) .nil) (.node (o13 P) (.node (o21 P) .nil .nil) .nil))) (.node (boot_o_2 P) (.node (boot_o_4 P) (.node (boot_o_8 P) (.node nobj .nil .nil) .nil) (.node (o12a P) (.node (o20 P) .nil .nil) .nil)) (.node (boot_o_6 P) (.node (boot_o_10 P) (.node tobj .nil .nil) .nil) (.node (o14 P) .nil .nil))))
noncomputable def t2 (P : Params) : BT := (.node (boot_o_0 P) (.node (boot_o_1 P) (.node (o3b P) (.node (boot_o_7 P) (.node tobj (.node (o31 P) (.node (o63 P) (.node tobj .nil .nil) (.node nobj .nil .nil)) (.node tobj (.node (o159 P) .nil .nil) .nil)) (.node (o47 P) (.node nobj (.node (o143 P) .nil .nil) .nil) (.node (o111 P) (.node (o175 P) .nil .nil) .nil))) (.node (o23 P) (.node tobj (.node tobj (.node nobj .nil .nil) (.node (o199 P) .nil .nil)) (.node (o103 P) (.node (o167 P) .nil .nil) .nil)) (.node (o55 P) (.node (o87 P) (.node tobj .nil .nil) .nil) (.node (o119 P) (.node tobj .nil .nil) .nil)))) (.node tobj (.node (o19 P) (.node (o35 P) (.node tobj (.node (o131 P) .nil .nil) (.node (o195 P) .nil .nil)) (.node tobj (.node nobj .nil .nil) .nil)) (.node nobj (.node (o83 P) (.node (o147 P) .nil .nil) .nil) (.node (o115 P) (.node tobj .nil .nil) .nil))) (.node (o27 P) (.node tobj (.node (o75 P) (.node (o139 P) .nil .nil) (.node (o203 P) .nil .nil)) (.node nobj (.node (o171 P) .nil .nil) .nil)) (.node (o59 P) (.node (o91 P) (.node tobj .nil .nil) .nil) (.node tobj (.node (o187 P) .nil .nil) .nil))))) (.node (boot_o_5 P) (.node (boot_o_9 P) (.node (o17 P) (.node (o33 P) (.node nobj (.node (o129 P) .nil .nil) (.node tobj .nil .nil)) (.node (o97 P) (.node (o161 P) .nil .nil) .nil)) (.node (o49 P) (.node tobj (.node (o145 P) .nil .nil) .nil) (.node tobj (.node nobj .nil .nil) .nil))) (.node tobj (.node (o41 P) (.node (o73 P) (.node tobj .nil .nil) (.node (o201 P) .nil .nil)) (.node (o105 P) (.node tobj .nil .nil) .nil)) (.node tobj (.node (o89 P) (.node (o153 P) .nil .nil) .nil) (.node nobj (.node (o185 P) .nil .nil) .nil)))) (.node (o13 P) (.node (o21 P) (.node nobj (.node (o69 P) (.node (o133 P) .nil .nil) (.node (o197 P) .nil .nil)) (.node (o101 P) (.node tobj .nil .nil) .nil)) (.node tobj (.node tobj (.node nobj .nil .nil) .nil) (.node (o117 P) (.node (o181 P) .nil .nil) .nil))) (.node tobj (.node (o45 P) (.node (o77 P) (.node tobj .nil .nil) .nil) (.node tobj (.node (o173 P) .nil .nil) .nil)) (.node (o61 P) (.node nobj (.node (o157 P) .nil .nil) .nil) (.node (o125 P) (.node (o189 P) .nil .nil) .nil)))))) (.node (boot_o_2 P) (.node (boot_o_4 P) (.node (boot_o_8 P) (.node nobj (.node tobj (.node tobj (.node nobj .nil .nil) (.node (o192 P) .nil .nil)) (.node (o96 P) (.node (o160 P) .nil .nil) .nil)) (.node (o48 P) (.node (o80 P) (.node tobj .nil .nil) .nil) (.node (o112 P) (.node tobj .nil .nil) .nil))) (.node (o24 P) (.node (o40 P) (.node nobj (.node (o136 P) .nil .nil) (.node (o200 P) .nil .nil)) (.node (o104 P) (.node (o168 P) .nil .nil) .nil)) (.node (o56 P) (.node tobj (.node (o152 P) .nil .nil) .nil) (.node tobj (.node nobj .nil .nil) .nil)))) (.node (o12b P) (.node (o20 P) (.node tobj (.node (o68 P) (.node (o132 P) .nil .nil) (.node (o196 P) .nil .nil)) (.node nobj (.node (o164 P) .nil .nil) .nil)) (.node (o52 P) (.node (o84 P) (.node tobj .nil .nil) .nil) (.node tobj (.node (o180 P) .nil .nil) .nil))) (.node (o28 P) (.node nobj (.node (o76 P) (.node (o140 P) .nil .nil) .nil) (.node (o108 P) (.node tobj .nil .nil) .nil)) (.node tobj (.node tobj (.node nobj .nil .nil) .nil) (.node (o124 P) (.node (o188 P) .nil .nil) .nil))))) (.node (boot_o_6 P) (.node (boot_o_10 P) (.node tobj (.node (o34 P) (.node (o66 P) (.node tobj .nil .nil) (.node (o194 P) .nil .nil)) (.node (o98 P) (.node tobj .nil .nil) .nil)) (.node tobj (.node (o82 P) (.node (o146 P) .nil .nil) .nil) (.node nobj (.node (o178 P) .nil .nil) .nil))) (.node (o26 P) (.node (o42 P) (.node tobj (.node (o138 P) .nil .nil) (.node (o202 P) .nil .nil)) (.node tobj (.node nobj .nil .nil) .nil)) (.node nobj (.node (o90 P) (.node (o154 P) .nil .nil) .nil) (.node (o122 P) (.node tobj .nil .nil) .nil)))) (.node (o14 P) (.node tobj (.node (o38 P) (.node (o70 P) (.node tobj .nil .nil) (.node (o198 P) .nil .nil)) (.node tobj (.node (o166 P) .nil .nil) .nil)) (.node (o54 P) (.node nobj (.node (o150 P) .nil .nil) .nil) (.node (o118 P) (.node (o182 P) .nil .nil) .nil))) (.node nobj (.node tobj (.node tobj (.node nobj .nil .nil) .nil) (.node (o110 P) (.node (o174 P) .nil .nil) .nil)) (.node (o62 P) (.node (o94 P) (.node tobj .nil .nil) .nil) (.node (o126 P) (.node tobj .nil .nil) .nil)))))))
noncomputable def t3 (P : Params) : BT := (.node (boot_o_0 P) (.node (boot_o_1 P) (.node (o3c P) (.node (boot_o_7 P) (.node tobj (.node (o31 P) (.node (o63 P) (.node tobj .nil .nil) (.node nobj .nil .nil)) (.node tobj (.node (o159 P) .nil .nil) (.node (o223 P) .nil .nil))) (.node (o47 P) (.node nobj (.node (o143 P) .nil .nil) (.node tobj .nil .nil)) (.node (o111 P) (.node (o175 P) .nil .nil) .nil))) (.node (o23 P) (.node tobj (.node tobj (.node nobj .nil .nil) (.node (o199 P) .nil .nil)) (.node (o103 P) (.node (o167 P) .nil .nil) .nil)) (.node (o55 P) (.node (o87 P) (.node tobj .nil .nil) (.node (o215 P) .nil .nil)) (.node (o119 P) (.node tobj .nil .nil) .nil)))) (.node tobj (.node (o19 P) (.node (o35 P) (.node tobj (.node (o131 P) .nil .nil) (.node (o195 P) .nil .nil)) (.node tobj (.node nobj .nil .nil) .nil)) (.node nobj (.node (o83 P) (.node (o147 P) .nil .nil) (.node tobj .nil .nil)) (.node (o115 P) (.node tobj .nil .nil) .nil))) (.node (o27 P) (.node tobj (.node (o75 P) (.node (o139 P) .nil .nil) (.node (o203 P) .nil .nil)) (.node nobj (.node (o171 P) .nil .nil) .nil)) (.node (o59 P) (.node (o91 P) (.node tobj .nil .nil) (.node (o219 P) .nil .nil)) (.node tobj (.node (o187 P) .nil .nil) .nil))))) (.node (boot_o_5 P) (.node (boot_o_9 P) (.node (o17 P) (.node (o33 P) (.node nobj (.node (o129 P) .nil .nil) (.node tobj .nil .nil)) (.node (o97 P) (.node (o161 P) .nil .nil) .nil)) (.node (o49 P) (.node tobj (.node (o145 P) .nil .nil) (.node (o209 P) .nil .nil)) (.node tobj (.node nobj .nil .nil) .nil))) (.node tobj (.node (o41 P) (.node (o73 P) (.node tobj .nil .nil) (.node (o201 P) .nil .nil)) (.node (o105 P) (.node tobj .nil .nil) .nil)) (.node tobj (.node (o89 P) (.node (o153 P) .nil .nil) (.node (o217 P) .nil .nil)) (.node nobj (.node (o185 P) .nil .nil) .nil)))) (.node (o13 P) (.node (o21 P) (.node nobj (.node (o69 P) (.node (o133 P) .nil .nil) (.node (o197 P) .nil .nil)) (.node (o101 P) (.node tobj .nil .nil) .nil)) (.node tobj (.node tobj (.node nobj .nil .nil) (.node (o213 P) .nil .nil)) (.node (o117 P) (.node (o181 P) .nil .nil) .nil))) (.node tobj (.node (o45 P) (.node (o77 P) (.node tobj .nil .nil) (.node (o205 P) .nil .nil)) (.node tobj (.node (o173 P) .nil .nil) .nil)) (.node (o61 P) (.node nobj (.node (o157 P) .nil .nil) (.node (o221 P) .nil .nil)) (.node (o125 P) (.node (o189 P) .nil .nil) .nil)))))) (.node (boot_o_2 P) (.node (boot_o_4 P) (.node (boot_o_8 P) (.node nobj (.node tobj (.node tobj (.node nobj .nil .nil) (.node (o192 P) .nil .nil)) (.node (o96 P) (.node (o160 P) .nil .nil) (.node (o224 P) .nil .nil))) (.node (o48 P) (.node (o80 P) (.node tobj .nil .nil) (.node (o208 P) .nil .nil)) (.node (o112 P) (.node tobj .nil .nil) .nil))) (.node (o24 P) (.node (o40 P) (.node nobj (.node (o136 P) .nil .nil) (.node (o200 P) .nil .nil)) (.node (o104 P) (.node (o168 P) .nil .nil) .nil)) (.node (o56 P) (.node tobj (.node (o152 P) .nil .nil) (.node (o216 P) .nil .nil)) (.node tobj (.node nobj .nil .nil) .nil)))) (.node (o12c P) (.node (o20 P) (.node tobj (.node (o68 P) (.node (o132 P) .nil .nil) (.node (o196 P) .nil .nil)) (.node nobj (.node (o164 P) .nil .nil) .nil)) (.node (o52 P) (.node (o84 P) (.node tobj .nil .nil) (.node nobj .nil .nil)) (.node tobj (.node (o180 P) .nil .nil) .nil))) (.node (o28 P) (.node nobj (.node (o76 P) (.node (o140 P) .nil .nil) (.node tobj .nil .nil)) (.node (o108 P) (.node tobj .nil .nil) .nil)) (.node tobj (.node tobj (.node nobj .nil .nil) (.node (o220 P) .nil .nil)) (.node (o124 P) (.node (o188 P) .nil .nil) .nil))))) (.node (boot_o_6 P) (.node (boot_o_10 P) (.node tobj (.node (o34 P) (.node (o66 P) (.node tobj .nil .nil) (.node (o194 P) .nil .nil)) (.node (o98 P) (.node tobj .nil .nil) .nil)) (.node tobj (.node (o82 P) (.node (o146 P) .nil .nil) (.node (o210 P) .nil .nil)) (.node nobj (.node (o178 P) .nil .nil) .nil))) (.node (o26 P) (.node (o42 P) (.node tobj (.node (o138 P) .nil .nil) (.node (o202 P) .nil .nil)) (.node tobj (.node nobj .nil .nil) .nil)) (.node nobj (.node (o90 P) (.node (o154 P) .nil .nil) (.node (o218 P) .nil .nil)) (.node (o122 P) (.node tobj .nil .nil) .nil)))) (.node (o14 P) (.node tobj (.node (o38 P) (.node (o70 P) (.node tobj .nil .nil) (.node (o198 P) .nil .nil)) (.node tobj (.node (o166 P) .nil .nil) .nil)) (.node (o54 P) (.node nobj (.node (o150 P) .nil .nil) (.node tobj .nil .nil)) (.node (o118 P) (.node (o182 P) .nil .nil) .nil))) (.node nobj (.node tobj (.node tobj (.node nobj .nil .nil) (.node (o206 P) .nil .nil)) (.node (o110 P) (.node (o174 P) .nil .nil) .nil)) (.node (o62 P) (.node (o94 P) (.node tobj .nil .nil) (.node (o222 P) .nil .nil)) (.node (o126 P) (.node tobj .nil .nil) .nil)))))))
noncomputable def t4 (P : Params) : BT := (.node (boot_o_0 P) (.node (boot_o_1 P) (.node (o3d P) (.node (boot_o_7 P) (.node tobj (.node (o31 P) (.node (o63 P) (.node tobj .nil .nil) (.node nobj .nil .nil)) (.node tobj (.node (o159 P) .nil .nil) (.node (o223 P) .nil .nil))) (.node (o47 P) (.node nobj (.node (o143 P) .nil .nil) (.node tobj .nil .nil)) (.node (o111 P) (.node (o175 P) .nil .nil) (.node tobj .nil .nil)))) (.node (o23 P) (.node tobj (.node tobj (.node nobj .nil .nil) (.node (o199 P) .nil .nil)) (.node (o103 P) (.node (o167 P) .nil .nil) (.node (o231 P) .nil .nil))) (.node (o55 P) (.node (o87 P) (.node tobj .nil .nil) (.node (o215 P) .nil .nil)) (.node (o119 P) (.node tobj .nil .nil) .nil)))) (.node tobj (.node (o19 P) (.node (o35 P) (.node tobj (.node (o131 P) .nil .nil) (.node (o195 P) .nil .nil)) (.node tobj (.node nobj .nil .nil) (.node (o227 P) .nil .nil))) (.node nobj (.node (o83 P) (.node (o147 P) .nil .nil) (.node tobj .nil .nil)) (.node (o115 P) (.node tobj .nil .nil) (.node (o243 P) .nil .nil)))) (.node (o27 P) (.node tobj (.node (o75 P) (.node (o139 P) .nil .nil) (.node (o203 P) .nil .nil)) (.node nobj (.node (o171 P) .nil .nil) (.node tobj .nil .nil))) (.node (o59 P) (.node (o91 P) (.node tobj .nil .nil) (.node (o219 P) .nil .nil)) (.node tobj (.node (o187 P) .nil .nil) .nil))))) (.node (boot_o_5 P) (.node (boot_o_9 P) (.node (o17 P) (.node (o33 P) (.node nobj (.node (o129 P) .nil .nil) (.node tobj .nil .nil)) (.node (o97 P) (.node (o161 P) .nil .nil) (.node tobj .nil .nil))) (.node (o49 P) (.node tobj (.node (o145 P) .nil .nil) (.node (o209 P) .nil .nil)) (.node tobj (.node nobj .nil .nil) (.node (o241 P) .nil .nil)))) (.node tobj (.node (o41 P) (.node (o73 P) (.node tobj .nil .nil) (.node (o201 P) .nil .nil)) (.node (o105 P) (.node tobj .nil .nil) (.node nobj .nil .nil))) (.node tobj (.node (o89 P) (.node (o153 P) .nil .nil) (.node (o217 P) .nil .nil)) (.node nobj (.node (o185 P) .nil .nil) .nil)))) (.node (o13 P) (.node (o21 P) (.node nobj (.node (o69 P) (.node (o133 P) .nil .nil) (.node (o197 P) .nil .nil)) (.node (o101 P) (.node tobj .nil .nil) (.node (o229 P) .nil .nil))) (.node tobj (.node tobj (.node nobj .nil .nil) (.node (o213 P) .nil .nil)) (.node (o117 P) (.node (o181 P) .nil .nil) (.node (o245 P) .nil .nil)))) (.node tobj (.node (o45 P) (.node (o77 P) (.node tobj .nil .nil) (.node (o205 P) .nil .nil)) (.node tobj (.node (o173 P) .nil .nil) (.node (o237 P) .nil .nil))) (.node (o61 P) (.node nobj (.node (o157 P) .nil .nil) (.node (o221 P) .nil .nil)) (.node (o125 P) (.node (o189 P) .nil .nil) .nil)))))) (.node (boot_o_2 P) (.node (boot_o_4 P) (.node (boot_o_8 P) (.node nobj (.node tobj (.node tobj (.node nobj .nil .nil) (.node (o192 P) .nil .nil)) (.node (o96 P) (.node (o160 P) .nil .nil) (.node (o224 P) .nil .nil))) (.node (o48 P) (.node (o80 P) (.node tobj .nil .nil) (.node (o208 P) .nil .nil)) (.node (o112 P) (.node tobj .nil .nil) (.node nobj .nil .nil)))) (.node (o24 P) (.node (o40 P) (.node nobj (.node (o136 P) .nil .nil) (.node (o200 P) .nil .nil)) (.node (o104 P) (.node (o168 P) .nil .nil) (.node tobj .nil .nil))) (.node (o56 P) (.node tobj (.node (o152 P) .nil .nil) (.node (o216 P) .nil .nil)) (.node tobj (.node nobj .nil .nil) .nil)))) (.node (o12d P) (.node (o20 P) (.node tobj (.node (o68 P) (.node (o132 P) .nil .nil) (.node (o196 P) .nil .nil)) (.node nobj (.node (o164 P) .nil .nil) (.node tobj .nil .nil))) (.node (o52 P) (.node (o84 P) (.node tobj .nil .nil) (.node nobj .nil .nil)) (.node tobj (.node (o180 P) .nil .nil) (.node (o244 P) .nil .nil)))) (.node (o28 P) (.node nobj (.node (o76 P) (.node (o140 P) .nil .nil) (.node tobj .nil .nil)) (.node (o108 P) (.node tobj .nil .nil) (.node (o236 P) .nil .nil))) (.node tobj (.node tobj (.node nobj .nil .nil) (.node (o220 P) .nil .nil)) (.node (o124 P) (.node (o188 P) .nil .nil) .nil))))) (.node (boot_o_6 P) (.node (boot_o_10 P) (.node tobj (.node (o34 P) (.node (o66 P) (.node tobj .nil .nil) (.node (o194 P) .nil .nil)) (.node (o98 P) (.node tobj .nil .nil) (.node nobj .nil .nil))) (.node tobj (.node (o82 P) (.node (o146 P) .nil .nil) (.node (o210 P) .nil .nil)) (.node nobj (.node (o178 P) .nil .nil) (.node tobj .nil .nil)))) (.node (o26 P) (.node (o42 P) (.node tobj (.node (o138 P) .nil .nil) (.node (o202 P) .nil .nil)) (.node tobj (.node nobj .nil .nil) (.node (o234 P) .nil .nil))) (.node nobj (.node (o90 P) (.node (o154 P) .nil .nil) (.node (o218 P) .nil .nil)) (.node (o122 P) (.node tobj .nil .nil) .nil)))) (.node (o14 P) (.node tobj (.node (o38 P) (.node (o70 P) (.node tobj .nil .nil) (.node (o198 P) .nil .nil)) (.node tobj (.node (o166 P) .nil .nil) (.node (o230 P) .nil .nil))) (.node (o54 P) (.node nobj (.node (o150 P) .nil .nil) (.node tobj .nil .nil)) (.node (o118 P) (.node (o182 P) .nil .nil) .nil))) (.node nobj (.node tobj (.node tobj (.node nobj .nil .nil) (.node (o206 P) .nil .nil)) (.node (o110 P) (.node (o174 P) .nil .nil) (.node (o238 P) .nil .nil))) (.node (o62 P) (.node (o94 P) (.node tobj .nil .nil) (.node (o222 P) .nil .nil)) (.node (o126 P) (.node tobj .nil .nil) .nil)))))))
noncomputable def t5 (P : Params) : BT := (.node (boot_o_0 P) (.node (boot_o_1 P) (.node (o3e P) (.node (boot_o_7 P) (.node tobj (.node (o31 P) (.node (o63 P) (.node tobj (.node (o255 P) .nil .nil) .nil) (.node nobj .nil .nil)) (.node tobj (.node (o159 P) .nil .nil) (.node (o223 P) .nil .nil))) (.node (o47 P) (.node nobj (.node (o143 P) .nil .nil) (.node tobj .nil .nil)) (.node (o111 P) (.node (o175 P) .nil .nil) (.node tobj .nil .nil)))) (.node (o23 P) (.node tobj (.node tobj (.node nobj (.node tobj .nil .nil) .nil) (.node (o199 P) .nil .nil)) (.node (o103 P) (.node (o167 P) .nil .nil) (.node (o231 P) .nil .nil))) (.node (o55 P) (.node (o87 P) (.node tobj .nil .nil) (.node (o215 P) .nil .nil)) (.node (o119 P) (.node tobj .nil .nil) (.node nobj .nil .nil))))) (.node tobj (.node (o19 P) (.node (o35 P) (.node tobj (.node (o131 P) (.node tobj .nil .nil) .nil) (.node (o195 P) .nil .nil)) (.node tobj (.node nobj .nil .nil) (.node (o227 P) .nil .nil))) (.node nobj (.node (o83 P) (.node (o147 P) .nil .nil) (.node tobj .nil .nil)) (.node (o115 P) (.node tobj .nil .nil) (.node (o243 P) .nil .nil)))) (.node (o27 P) (.node tobj (.node (o75 P) (.node (o139 P) (.node (o267 P) .nil .nil) .nil) (.node (o203 P) .nil .nil)) (.node nobj (.node (o171 P) .nil .nil) (.node tobj .nil .nil))) (.node (o59 P) (.node (o91 P) (.node tobj .nil .nil) (.node (o219 P) .nil .nil)) (.node tobj (.node (o187 P) .nil .nil) (.node tobj .nil .nil)))))) (.node (boot_o_5 P) (.node (boot_o_9 P) (.node (o17 P) (.node (o33 P) (.node nobj (.node (o129 P) (.node nobj .nil .nil) .nil) (.node tobj .nil .nil)) (.node (o97 P) (.node (o161 P) .nil .nil) (.node tobj .nil .nil))) (.node (o49 P) (.node tobj (.node (o145 P) .nil .nil) (.node (o209 P) .nil .nil)) (.node tobj (.node nobj .nil .nil) (.node (o241 P) .nil .nil)))) (.node tobj (.node (o41 P) (.node (o73 P) (.node tobj (.node (o265 P) .nil .nil) .nil) (.node (o201 P) .nil .nil)) (.node (o105 P) (.node tobj .nil .nil) (.node nobj .nil .nil))) (.node tobj (.node (o89 P) (.node (o153 P) .nil .nil) (.node (o217 P) .nil .nil)) (.node nobj (.node (o185 P) .nil .nil) (.node (o249 P) .nil .nil))))) (.node (o13 P) (.node (o21 P) (.node nobj (.node (o69 P) (.node (o133 P) (.node (o261 P) .nil .nil) .nil) (.node (o197 P) .nil .nil)) (.node (o101 P) (.node tobj .nil .nil) (.node (o229 P) .nil .nil))) (.node tobj (.node tobj (.node nobj .nil .nil) (.node (o213 P) .nil .nil)) (.node (o117 P) (.node (o181 P) .nil .nil) (.node (o245 P) .nil .nil)))) (.node tobj (.node (o45 P) (.node (o77 P) (.node tobj (.node (o269 P) .nil .nil) .nil) (.node (o205 P) .nil .nil)) (.node tobj (.node (o173 P) .nil .nil) (.node (o237 P) .nil .nil))) (.node (o61 P) (.node nobj (.node (o157 P) .nil .nil) (.node (o221 P) .nil .nil)) (.node (o125 P) (.node (o189 P) .nil .nil) (.node (o253 P) .nil .nil))))))) (.node (boot_o_2 P) (.node (boot_o_4 P) (.node (boot_o_8 P) (.node nobj (.node tobj (.node tobj (.node nobj (.node tobj .nil .nil) .nil) (.node (o192 P) .nil .nil)) (.node (o96 P) (.node (o160 P) .nil .nil) (.node (o224 P) .nil .nil))) (.node (o48 P) (.node (o80 P) (.node tobj .nil .nil) (.node (o208 P) .nil .nil)) (.node (o112 P) (.node tobj .nil .nil) (.node nobj .nil .nil)))) (.node (o24 P) (.node (o40 P) (.node nobj (.node (o136 P) (.node nobj .nil .nil) .nil) (.node (o200 P) .nil .nil)) (.node (o104 P) (.node (o168 P) .nil .nil) (.node tobj .nil .nil))) (.node (o56 P) (.node tobj (.node (o152 P) .nil .nil) (.node (o216 P) .nil .nil)) (.node tobj (.node nobj .nil .nil) (.node (o248 P) .nil .nil))))) (.node (o12e P) (.node (o20 P) (.node tobj (.node (o68 P) (.node (o132 P) (.node (o260 P) .nil .nil) .nil) (.node (o196 P) .nil .nil)) (.node nobj (.node (o164 P) .nil .nil) (.node tobj .nil .nil))) (.node (o52 P) (.node (o84 P) (.node tobj .nil .nil) (.node nobj .nil .nil)) (.node tobj (.node (o180 P) .nil .nil) (.node (o244 P) .nil .nil)))) (.node (o28 P) (.node nobj (.node (o76 P) (.node (o140 P) (.node (o268 P) .nil .nil) .nil) (.node tobj .nil .nil)) (.node (o108 P) (.node tobj .nil .nil) (.node (o236 P) .nil .nil))) (.node tobj (.node tobj (.node nobj .nil .nil) (.node (o220 P) .nil .nil)) (.node (o124 P) (.node (o188 P) .nil .nil) (.node nobj .nil .nil)))))) (.node (boot_o_6 P) (.node (boot_o_10 P) (.node tobj (.node (o34 P) (.node (o66 P) (.node tobj (.node (o258 P) .nil .nil) .nil) (.node (o194 P) .nil .nil)) (.node (o98 P) (.node tobj .nil .nil) (.node nobj .nil .nil))) (.node tobj (.node (o82 P) (.node (o146 P) .nil .nil) (.node (o210 P) .nil .nil)) (.node nobj (.node (o178 P) .nil .nil) (.node tobj .nil .nil)))) (.node (o26 P) (.node (o42 P) (.node tobj (.node (o138 P) (.node tobj .nil .nil) .nil) (.node (o202 P) .nil .nil)) (.node tobj (.node nobj .nil .nil) (.node (o234 P) .nil .nil))) (.node nobj (.node (o90 P) (.node (o154 P) .nil .nil) (.node (o218 P) .nil .nil)) (.node (o122 P) (.node tobj .nil .nil) (.node (o250 P) .nil .nil))))) (.node (o14 P) (.node tobj (.node (o38 P) (.node (o70 P) (.node tobj (.node (o262 P) .nil .nil) .nil) (.node (o198 P) .nil .nil)) (.node tobj (.node (o166 P) .nil .nil) (.node (o230 P) .nil .nil))) (.node (o54 P) (.node nobj (.node (o150 P) .nil .nil) (.node tobj .nil .nil)) (.node (o118 P) (.node (o182 P) .nil .nil) (.node tobj .nil .nil)))) (.node nobj (.node tobj (.node tobj (.node nobj .nil .nil) (.node (o206 P) .nil .nil)) (.node (o110 P) (.node (o174 P) .nil .nil) (.node (o238 P) .nil .nil))) (.node (o62 P) (.node (o94 P) (.node tobj .nil .nil) (.node (o222 P) .nil .nil)) (.node (o126 P) (.node tobj .nil .nil) (.node (o254 P) .nil .nil))))))))
noncomputable def t6 (P : Params) : BT := (.node (boot_o_0 P) (.node (boot_o_1 P) (.node (o3 P) (.node (boot_o_7 P) (.node tobj (.node (o31 P) (.node (o63 P) (.node tobj (.node (o255 P) .nil .nil) .nil) (.node nobj .nil .nil)) (.node tobj (.node (o159 P) (.node tobj .nil .nil) .nil) (.node (o223 P) .nil .nil))) (.node (o47 P) (.node nobj (.node (o143 P) (.node nobj .nil .nil) .nil) (.node tobj .nil .nil)) (.node (o111 P) (.node (o175 P) (.node (o303 P) .nil .nil) .nil) (.node tobj .nil .nil)))) (.node (o23 P) (.node tobj (.node tobj (.node nobj (.node tobj .nil .nil) .nil) (.node (o199 P) .nil .nil)) (.node (o103 P) (.node (o167 P) (.node (o295 P) .nil .nil) .nil) (.node (o231 P) .nil .nil))) (.node (o55 P) (.node (o87 P) (.node tobj (.node (o279 P) .nil .nil) .nil) (.node (o215 P) .nil .nil)) (.node (o119 P) (.node tobj .nil .nil) (.node nobj .nil .nil))))) (.node tobj (.node (o19 P) (.node (o35 P) (.node tobj (.node (o131 P) (.node tobj .nil .nil) .nil) (.node (o195 P) .nil .nil)) (.node tobj (.node nobj (.node tobj .nil .nil) .nil) (.node (o227 P) .nil .nil))) (.node nobj (.node (o83 P) (.node (o147 P) (.node (o275 P) .nil .nil) .nil) (.node tobj .nil .nil)) (.node (o115 P) (.node tobj .nil .nil) (.node (o243 P) .nil .nil)))) (.node (o27 P) (.node tobj (.node (o75 P) (.node (o139 P) (.node (o267 P) .nil .nil) .nil) (.node (o203 P) .nil .nil)) (.node nobj (.node (o171 P) (.node nobj .nil .nil) .nil) (.node tobj .nil .nil))) (.node (o59 P) (.node (o91 P) (.node tobj (.node (o283 P) .nil .nil) .nil) (.node (o219 P) .nil .nil)) (.node tobj (.node (o187 P) .nil .nil) (.node tobj .nil .nil)))))) (.node (boot_o_5 P) (.node (boot_o_9 P) (.node (o17 P) (.node (o33 P) (.node nobj (.node (o129 P) (.node nobj .nil .nil) .nil) (.node tobj .nil .nil)) (.node (o97 P) (.node (o161 P) (.node (o289 P) .nil .nil) .nil) (.node tobj .nil .nil))) (.node (o49 P) (.node tobj (.node (o145 P) (.node tobj .nil .nil) .nil) (.node (o209 P) .nil .nil)) (.node tobj (.node nobj .nil .nil) (.node (o241 P) .nil .nil)))) (.node tobj (.node (o41 P) (.node (o73 P) (.node tobj (.node (o265 P) .nil .nil) .nil) (.node (o201 P) .nil .nil)) (.node (o105 P) (.node tobj (.node (o297 P) .nil .nil) .nil) (.node nobj .nil .nil))) (.node tobj (.node (o89 P) (.node (o153 P) (.node (o281 P) .nil .nil) .nil) (.node (o217 P) .nil .nil)) (.node nobj (.node (o185 P) .nil .nil) (.node (o249 P) .nil .nil))))) (.node (o13 P) (.node (o21 P) (.node nobj (.node (o69 P) (.node (o133 P) (.node (o261 P) .nil .nil) .nil) (.node (o197 P) .nil .nil)) (.node (o101 P) (.node tobj (.node (o293 P) .nil .nil) .nil) (.node (o229 P) .nil .nil))) (.node tobj (.node tobj (.node nobj (.node tobj .nil .nil) .nil) (.node (o213 P) .nil .nil)) (.node (o117 P) (.node (o181 P) .nil .nil) (.node (o245 P) .nil .nil)))) (.node tobj (.node (o45 P) (.node (o77 P) (.node tobj (.node (o269 P) .nil .nil) .nil) (.node (o205 P) .nil .nil)) (.node tobj (.node (o173 P) (.node tobj .nil .nil) .nil) (.node (o237 P) .nil .nil))) (.node (o61 P) (.node nobj (.node (o157 P) (.node nobj .nil .nil) .nil) (.node (o221 P) .nil .nil)) (.node (o125 P) (.node (o189 P) .nil .nil) (.node (o253 P) .nil .nil))))))) (.node (boot_o_2 P) (.node (boot_o_4 P) (.node (boot_o_8 P) (.node nobj (.node tobj (.node tobj (.node nobj (.node tobj .nil .nil) .nil) (.node (o192 P) .nil .nil)) (.node (o96 P) (.node (o160 P) (.node (o288 P) .nil .nil) .nil) (.node (o224 P) .nil .nil))) (.node (o48 P) (.node (o80 P) (.node tobj (.node (o272 P) .nil .nil) .nil) (.node (o208 P) .nil .nil)) (.node (o112 P) (.node tobj (.node (o304 P) .nil .nil) .nil) (.node nobj .nil .nil)))) (.node (o24 P) (.node (o40 P) (.node nobj (.node (o136 P) (.node nobj .nil .nil) .nil) (.node (o200 P) .nil .nil)) (.node (o104 P) (.node (o168 P) (.node (o296 P) .nil .nil) .nil) (.node tobj .nil .nil))) (.node (o56 P) (.node tobj (.node (o152 P) (.node tobj .nil .nil) .nil) (.node (o216 P) .nil .nil)) (.node tobj (.node nobj .nil .nil) (.node (o248 P) .nil .nil))))) (.node (o12 P) (.node (o20 P) (.node tobj (.node (o68 P) (.node (o132 P) (.node (o260 P) .nil .nil) .nil) (.node (o196 P) .nil .nil)) (.node nobj (.node (o164 P) (.node nobj .nil .nil) .nil) (.node tobj .nil .nil))) (.node (o52 P) (.node (o84 P) (.node tobj (.node (o276 P) .nil .nil) .nil) (.node nobj .nil .nil)) (.node tobj (.node (o180 P) .nil .nil) (.node (o244 P) .nil .nil)))) (.node (o28 P) (.node nobj (.node (o76 P) (.node (o140 P) (.node (o268 P) .nil .nil) .nil) (.node tobj .nil .nil)) (.node (o108 P) (.node tobj (.node (o300 P) .nil .nil) .nil) (.node (o236 P) .nil .nil))) (.node tobj (.node tobj (.node nobj (.node tobj .nil .nil) .nil) (.node (o220 P) .nil .nil)) (.node (o124 P) (.node (o188 P) .nil .nil) (.node nobj .nil .nil)))))) (.node (boot_o_6 P) (.node (boot_o_10 P) (.node tobj (.node (o34 P) (.node (o66 P) (.node tobj (.node (o258 P) .nil .nil) .nil) (.node (o194 P) .nil .nil)) (.node (o98 P) (.node tobj (.node (o290 P) .nil .nil) .nil) (.node nobj .nil .nil))) (.node tobj (.node (o82 P) (.node (o146 P) (.node (o274 P) .nil .nil) .nil) (.node (o210 P) .nil .nil)) (.node nobj (.node (o178 P) .nil .nil) (.node tobj .nil .nil)))) (.node (o26 P) (.node (o42 P) (.node tobj (.node (o138 P) (.node tobj .nil .nil) .nil) (.node (o202 P) .nil .nil)) (.node tobj (.node nobj (.node tobj .nil .nil) .nil) (.node (o234 P) .nil .nil))) (.node nobj (.node (o90 P) (.node (o154 P) (.node (o282 P) .nil .nil) .nil) (.node (o218 P) .nil .nil)) (.node (o122 P) (.node tobj .nil .nil) (.node (o250 P) .nil .nil))))) (.node (o14 P) (.node tobj (.node (o38 P) (.node (o70 P) (.node tobj (.node (o262 P) .nil .nil) .nil) (.node (o198 P) .nil .nil)) (.node tobj (.node (o166 P) (.node tobj .nil .nil) .nil) (.node (o230 P) .nil .nil))) (.node (o54 P) (.node nobj (.node (o150 P) (.node nobj .nil .nil) .nil) (.node tobj .nil .nil)) (.node (o118 P) (.node (o182 P) .nil .nil) (.node tobj .nil .nil)))) (.node nobj (.node tobj (.node tobj (.node nobj (.node tobj .nil .nil) .nil) (.node (o206 P) .nil .nil)) (.node (o110 P) (.node (o174 P) (.node (o302 P) .nil .nil) .nil) (.node (o238 P) .nil .nil))) (.node (o62 P) (.node (o94 P) (.node tobj (.node (o286 P) .nil .nil) .nil) (.node (o222 P) .nil .nil)) (.node (o126 P) (.node tobj .nil .nil) (.node (o254 P) .nil .nil))))))))
noncomputable def hd.heap_39 (P : Params) : Frag :=
  (nat_lit 3, (o3 P)) ::
  (nat_lit 34, (o34 P)) ::
  (nat_lit 35, (o35 P)) ::
  (nat_lit 41, (o41 P)) ::
  (nat_lit 42, (o42 P)) ::
  (nat_lit 48, (o48 P)) ::
  (nat_lit 49, (o49 P)) ::
  (nat_lit 69, (o69 P)) ::
  (nat_lit 70, (o70 P)) ::
  (nat_lit 76, (o76 P)) ::
  (nat_lit 77, (o77 P)) ::
  (nat_lit 97, (o97 P)) ::
  (nat_lit 98, (o98 P)) ::
  (nat_lit 125, (o125 P)) ::
  (nat_lit 126, (o126 P)) ::
  (nat_lit 132, (o132 P)) ::
  (nat_lit 133, (o133 P)) ::
  (nat_lit 139, (o139 P)) ::
  (nat_lit 140, (o140 P)) ::
  (nat_lit 146, (o146 P)) ::
  (nat_lit 147, (o147 P)) ::
  (nat_lit 153, (o153 P)) ::
  (nat_lit 154, (o154 P)) ::
  (nat_lit 160, (o160 P)) ::
  (nat_lit 161, (o161 P)) ::
  (nat_lit 167, (o167 P)) ::
  (nat_lit 168, (o168 P)) ::
  (nat_lit 174, (o174 P)) ::
  (nat_lit 175, (o175 P)) ::
  (nat_lit 181, (o181 P)) ::
  (nat_lit 182, (o182 P)) ::
  (nat_lit 198, (o198 P)) ::
  (nat_lit 199, (o199 P)) ::
  (nat_lit 216, (o216 P)) ::
  (nat_lit 217, (o217 P)) ::
  (nat_lit 219, (o219 P)) ::
  (nat_lit 220, (o220 P)) ::
  (nat_lit 230, (o230 P)) ::
  (nat_lit 231, (o231 P)) ::
  (nat_lit 237, (o237 P)) ::
  (nat_lit 238, (o238 P)) ::
  (nat_lit 244, (o244 P)) ::
  (nat_lit 245, (o245 P)) ::
  (nat_lit 249, (o249 P)) ::
  (nat_lit 250, (o250 P)) ::
  (nat_lit 254, (o254 P)) ::
  (nat_lit 255, (o255 P)) ::
  (nat_lit 261, (o261 P)) ::
  (nat_lit 262, (o262 P)) ::
  (nat_lit 268, (o268 P)) ::
  (nat_lit 269, (o269 P)) ::
  (nat_lit 275, (o275 P)) ::
  (nat_lit 276, (o276 P)) ::
  (nat_lit 282, (o282 P)) ::
  (nat_lit 283, (o283 P)) ::
  (nat_lit 289, (o289 P)) ::
  (nat_lit 290, (o290 P)) ::
  (nat_lit 296, (o296 P)) ::
  (nat_lit 297, (o297 P)) ::
  (nat_lit 303, (o303 P)) ::
  (nat_lit 304, (o304 P)) :: []
noncomputable def hd.keys : List Addr := [3, 34, 35, 41, 42, 48, 49, 69, 70, 76, 77, 97, 98, 125, 126, 132, 133, 139, 140, 146, 147, 153, 154, 160, 161, 167, 168, 174, 175, 181, 182, 198, 199, 216, 217, 219, 220, 230, 231, 237, 238, 244, 245, 249, 250, 254, 255, 261, 262, 268, 269, 275, 276, 282, 283, 289, 290, 296, 297, 303, 304]
noncomputable def hd.view_39 : Program := { PySem.Challenge.pw_af0029_01 with main := { PySem.Challenge.pw_af0029_01.main with body := [st 0, st 2, st 4, st 6, st 7, st 8, st 9, st 10, st 11, st 12, st 13, st 14, st 15, st 16, st 17, st 18] } }
noncomputable def hd.H : Hook := kHook hd.heap_39 hd.keys (fun _ => by kernel_rfl)
noncomputable def hd.row : RowW := OpenRow.toRowW (OpenLaw.row PySem.Challenge.rw_af0029_01)
noncomputable def hd.Xt (s : Shared) : Bool := xlAt hd.view_39 [] s && recOk (RowW.records hd.row) s
/-! ## the run of the top, in three steps -/
noncomputable def hd.env : Env := { scope := PySem.Challenge.pw_af0029_01.main.scope, locals := mainNs, globals := mainNs, cells := [], code := .ref 13, frame := some 14 }
noncomputable def hd.cE : Code := .body (behindTheImports PySem.Challenge.pw_af0029_01) hd.env
noncomputable def hd.q0 : Pos := ⟨0, 0, 0, 0⟩
noncomputable def hd.q1 : Pos := ⟨4, 0, 4, 8⟩
noncomputable def hd.q2 : Pos := ⟨5, 0, 202, 16⟩
noncomputable def hd.q3 : Pos := ⟨204, 0, 209, 28⟩
noncomputable def hd.q4 : Pos := ⟨221, 0, 225, 14⟩
noncomputable def hd.q5 : Pos := ⟨269, 0, 339, 17⟩
noncomputable def hd.q6 : Pos := ⟨398, 0, 443, 15⟩
noncomputable def hd.l1 : List Stmt := [st 0, st 1]
noncomputable def hd.l2 : List Stmt := [st 2]
noncomputable def hd.l3 : List Stmt := [st 3, st 4]
noncomputable def hd.l4 : List Stmt := [st 5, st 6, st 7, st 8, st 9]
noncomputable def hd.l5 : List Stmt := [st 10, st 11, st 12, st 13]
noncomputable def hd.l6 : List Stmt := [st 14, st 15, st 16, st 17, st 18]
noncomputable def hd.S0 (P : Params) (os : OsState) : SharedT := ⟨t0 P, 15, {}, #[], {}, 187, os⟩
noncomputable def hd.S1 (P : Params) (os : OsState) : SharedT := ⟨t1 P, 22, {}, #[], {}, 196, os⟩
noncomputable def hd.S2 (P : Params) (os : OsState) : SharedT := ⟨t2 P, 204, {}, #[], {}, 439, os⟩
noncomputable def hd.S3 (P : Params) (os : OsState) : SharedT := ⟨t3 P, 225, {}, #[], {}, 474, os⟩
noncomputable def hd.S4 (P : Params) (os : OsState) : SharedT := ⟨t4 P, 246, {}, #[], {}, 503, os⟩
noncomputable def hd.S5 (P : Params) (os : OsState) : SharedT := ⟨t5 P, 270, {}, #[], {}, 544, os⟩
noncomputable def hd.S6 (P : Params) (os : OsState) : SharedT := ⟨t6 P, 305, {}, #[], {}, 619, os⟩
theorem hd.body : behindTheImports PySem.Challenge.pw_af0029_01 = hd.l1 ++ (hd.l2 ++ (hd.l3 ++ (hd.l4 ++ (hd.l5 ++ (hd.l6 ++ []))))) := by kernel_rfl
theorem hd.open_e : opening PySem.Challenge.pw_af0029_01 = plainProg PySem.Challenge.pw_af0029_01.main.scope.names := by kernel_rfl
theorem hd.open_f : ∀ s, fenceModules? PySem.Challenge.pw_af0029_01 s = some s := fun s => by kernel_rfl
theorem hd.pre (w : World) (os : OsState) : topGo treeTable PySem.Challenge.pw_af0029_01 w 11 (some (.ref 6)) 12 ⟨boot_heap w.params, #[], boot_drawn, boot_toks, os⟩ (topStub PySem.Challenge.pw_af0029_01)
    = some ((hd.S0 w.params os).abs, ⟨denote treeTable (.body (behindTheImports PySem.Challenge.pw_af0029_01) hd.env), hd.cE, hd.q0, [topFrame hd.q0]⟩) := by kernel_rfl
theorem hd.block (w : World) (os : OsState) : segRun treeTable PySem.Challenge.pw_af0029_01 w 11 (some (.ref 6)) 1 1 (hd.S0 w.params os).abs (blockOf (behindTheImports PySem.Challenge.pw_af0029_01) hd.env hd.cE hd.q0 [topFrame hd.q0])
    = some (.next, (hd.S0 w.params os).abs, hd.cE, hd.q0) := by kernel_rfl
theorem hd.run1 (w : World) (os : OsState) : segRunT treeTable PySem.Challenge.pw_af0029_01 w 11 (some (.ref 6)) 1 39 (hd.S0 w.params os) (piecesOf hd.l1 hd.env hd.cE hd.q0 [topFrame hd.q0])
    = some (.next, hd.S1 w.params os, hd.cE, hd.q1) := by kernel_rfl
theorem hd.run2 (w : World) (os : OsState) : segRunT treeTable PySem.Challenge.pw_af0029_01 w 11 (some (.ref 6)) 1 989 (hd.S1 w.params os) (piecesOf hd.l2 hd.env hd.cE hd.q1 [topFrame hd.q0])
    = some (.next, hd.S2 w.params os, hd.cE, hd.q2) := by kernel_rfl
theorem hd.run3 (w : World) (os : OsState) : segRunT treeTable PySem.Challenge.pw_af0029_01 w 11 (some (.ref 6)) 1 236 (hd.S2 w.params os) (piecesOf hd.l3 hd.env hd.cE hd.q2 [topFrame hd.q0])
    = some (.next, hd.S3 w.params os, hd.cE, hd.q3) := by kernel_rfl
theorem hd.run4 (w : World) (os : OsState) : segRunT treeTable PySem.Challenge.pw_af0029_01 w 11 (some (.ref 6)) 1 110 (hd.S3 w.params os) (piecesOf hd.l4 hd.env hd.cE hd.q3 [topFrame hd.q0])
    = some (.next, hd.S4 w.params os, hd.cE, hd.q4) := by kernel_rfl
theorem hd.run5 (w : World) (os : OsState) : segRunT treeTable PySem.Challenge.pw_af0029_01 w 11 (some (.ref 6)) 1 126 (hd.S4 w.params os) (piecesOf hd.l5 hd.env hd.cE hd.q4 [topFrame hd.q0])
    = some (.next, hd.S5 w.params os, hd.cE, hd.q5) := by kernel_rfl
theorem hd.run6 (w : World) (os : OsState) : segRunT treeTable PySem.Challenge.pw_af0029_01 w 11 (some (.ref 6)) 1 186 (hd.S5 w.params os) (piecesOf hd.l6 hd.env hd.cE hd.q5 [topFrame hd.q0])
    = some (.next, hd.S6 w.params os, hd.cE, hd.q6) := by kernel_rfl
theorem hd.end_ (w : World) (os : OsState) : topRun treeTable PySem.Challenge.pw_af0029_01 w 11 (some (.ref 6)) 2 (hd.S6 w.params os).abs ⟨doneF .next, hd.cE, hd.q6, [topFrame hd.q0]⟩ = some (hd.S6 w.params os).abs := by kernel_rfl
theorem hd.run (w : World) (os : OsState) : topRun treeTable PySem.Challenge.pw_af0029_01 w 11 (some (.ref 6)) (12 + (1 + (39 + (989 + (236 + (110 + (126 + (186 + 2)))))))) ⟨boot_heap w.params, #[], boot_drawn, boot_toks, os⟩ (topStub PySem.Challenge.pw_af0029_01)
    = some ⟨absHeap (t6 w.params) 305 {}, #[], {}, 619, os⟩ := by
  refine go_top (hd.pre w os) (piece_block (hd.block w os) ?_)
  rw [hd.body]
  exact piece_app (segRun_of (hd.run1 w os)) (piece_app (segRun_of (hd.run2 w os)) (piece_app (segRun_of (hd.run3 w os)) (piece_app (segRun_of (hd.run4 w os)) (piece_app (segRun_of (hd.run5 w os)) (piece_app (segRun_of (hd.run6 w os)) (piece_nil (hd.end_ w os)))))))
theorem hd.size (w : World) : ((boot_heap w.params).isNs mainGlobals && (#[] : Array GenState).size == 0, (boot_heap w.params).objs.size, (boot_heap w.params).nsMap mainGlobals "__annotations__") = (true, 11, some (.ref 6)) := by kernel_rfl
theorem hd.look1 (w : World) (os : OsState) : (staticsOk (importedModules PySem.Challenge.pw_af0029_01.main.body) (boot_heap w.params) (absHeap (t6 w.params) 305 {}) && namesBound PySem.Challenge.pw_af0029_01 (absHeap (t6 w.params) 305 {}) && gensDone ⟨absHeap (t6 w.params) 305 {}, #[], {}, 619, os⟩ && laidKept (boot_heap w.params) (absHeap (t6 w.params) 305 {})) = true := by kernel_rfl
theorem hd.look2 (w : World) (os : OsState) : openSeen hd.view_39 [] (importedModules PySem.Challenge.pw_af0029_01.main.body) hd.Xt true ⟨absHeap (t6 w.params) 305 {}, #[], {}, 619, os⟩ = openGood hd.view_39 [] := by kernel_rfl
theorem hd.look3 (w : World) (os : OsState) : Hook.obs hd.H ⟨absHeap (t6 w.params) 305 {}, #[], {}, 619, os⟩ = Hook.val hd.H w := by kernel_rfl
theorem hd.left : LeftO (OpenLaw.row PySem.Challenge.rw_af0029_01).prog hd.view_39 [] hd.Xt (Hook.obs hd.H) (Hook.val hd.H) 3486 :=
  LeftO.of_pieces (p := PySem.Challenge.pw_af0029_01) (H₀ := boot_heap) (H₁ := fun P => absHeap (t6 P) 305 {}) (gs₀ := #[]) (gs₁ := #[]) (boot_open hd.open_e rfl hd.open_f) hd.size hd.run rfl
    (fun w => funext fun os => looks_pair (hd.look1 w os) (looks_pair (hd.look2 w os) (hd.look3 w os)))
/-! ## the law's own looks -/
theorem hd.looks : looksOpen PySem.Challenge.pw_af0029_01 = true := by
  unfold looksOpen
  repeat' (with_reducible refine look_both ?_ ?_)
  all_goals decide +kernel
theorem hd.rowSaid : OpenRow.wellSaid (OpenLaw.row PySem.Challenge.rw_af0029_01) = true := by
  unfold OpenRow.wellSaid OpenRow.partSaid
  repeat' (with_reducible refine look_both ?_ ?_)
  · exact hd.looks
  all_goals decide +kernel
theorem hd.said : PySem.Challenge.rw_af0029_01.wellSaid = true := by
  unfold OpenLaw.wellSaid
  repeat' (with_reducible refine look_both ?_ ?_)
  · exact hd.rowSaid
  all_goals decide +kernel
end Mine
end
section
open PySem PySem.W PyProof.Rows PySem.Calls
set_option Elab.async false
set_option autoImplicit false
namespace Mine

/-! ## erased values, abstract heap -/
inductive PV where
  | none | bool (b : Bool) | int (i : Int) | str (x : List Nat) | ref (a : Addr) | raw (v : Value)

def er : Value → PV
  | .none => .none
  | .bool b => .bool b
  | .int i _ => .int i
  | .str x _ => .str x.cps.toList
  | .ref a => .ref a
  | v => .raw v

theorem er_int {v : Value} {i : Int} (h : er v = .int i) : ∃ t, v = .int i t := by
  cases v <;> simp [er] at h
  exact ⟨_, by rw [h]⟩
theorem er_bool {v : Value} {b : Bool} (h : er v = .bool b) : v = .bool b := by
  cases v <;> simp [er] at h
  rw [h]
theorem er_ref {v : Value} {a : Addr} (h : er v = .ref a) : v = .ref a := by
  cases v <;> simp [er] at h
  rw [h]
theorem er_none {v : Value} (h : er v = .none) : v = .none := by
  cases v <;> simp [er] at h
  rfl
theorem er_str {v : Value} {x : List Nat} (h : er v = .str x) : ∃ t, v = .str ⟨x.toArray⟩ t := by
  cases v with
  | str y t => simp [er] at h; exact ⟨t, by rw [← h]⟩
  | _ => simp [er] at h
theorem er_raw {v u : Value} (h : er v = .raw u) : v = u := by
  cases v <;> simp [er] at h <;> exact h

inductive AO where
  | list (vs : List PV)
  | tuple (vs : List PV)
  | inst (C dx : Addr)
  | flds (fs : List (Str × PV))
  | sset (xs : List (List Nat))
  | range (a b st : Int)
  | cell (v : PV)

abbrev Hp := Addr → Option AO
def Hp.upd (hp : Hp) (a : Addr) (o : AO) : Hp := fun b => if b = a then some o else hp b
def Hp.le (hp hp' : Hp) : Prop := ∀ a o, hp a = some o → hp' a = some o
theorem Hp.le_refl (hp : Hp) : hp.le hp := fun _ _ h => h
theorem Hp.le_trans {a b c : Hp} (h : a.le b) (h' : b.le c) : a.le c := fun x o e => h' x o (h x o e)
theorem Hp.upd_self (hp : Hp) (a : Addr) (o : AO) : hp.upd a o a = some o := if_pos rfl
theorem Hp.upd_ne (hp : Hp) {a b : Addr} (o : AO) (h : b ≠ a) : hp.upd a o b = hp b := if_neg h
theorem Hp.le_upd {hp : Hp} {a : Addr} {o : AO} (h : hp a = Option.none) : hp.le (hp.upd a o) := fun b x e => by
  by_cases hb : b = a
  · subst hb; rw [h] at e; cases e
  · rw [hp.upd_ne o hb]; exact e
theorem Hp.upd_upd (hp : Hp) (a : Addr) (o o' : AO) : (hp.upd a o).upd a o' = hp.upd a o' := by
  funext b; unfold Hp.upd; split <;> rfl
theorem Hp.upd_same {hp : Hp} {a : Addr} {o : AO} (h : hp a = some o) : hp.upd a o = hp := by
  funext b; unfold Hp.upd; split
  · next e => subst e; exact h.symm
  · rfl

/-- dict entries of an object, key by key -/
inductive Ents : List DictEntry → List (Str × PV) → Prop
  | nil : Ents [] []
  | cons {e : DictEntry} {r x v fs} {t : Tok} : e.key = .str x t → er e.val = v → Ents r fs → Ents (e :: r) ((x, v) :: fs)

/-- the world of the call -/
structure Gl where
  prog : Program
  w : World
  h₀ : Heap
  mg : Str → Option Value
  mb : Str → Option Value
  os : OsState
  gens : Array GenState
  kin : (hd.heap_39 w.params).In h₀
  top : TopRead hd.view_39 (looseW hd.view_39 []) mg mb h₀

noncomputable abbrev Gl.K (g : Gl) : Frag := hd.heap_39 g.w.params

def RepO (g : Gl) : AO → Obj → Prop
  | .list vs, o => ∃ (xs : List Value) (n : Nat), o = { cls := .type "list", data := .seq xs.toArray n } ∧ xs.map er = vs
  | .tuple vs, o => ∃ (xs : List Value), o = { cls := .type "tuple", data := .seq xs.toArray } ∧ xs.map er = vs
  | .inst C dx, o => o = instObj C dx
  | .flds fs, o => ∃ (es : List DictEntry) (n : Nat), o = dictOf es n ∧ Ents es fs
  | .sset xs, o => ∃ n, n ≤ 10 ∧ o.SetObjOf (PySem.strKind g.prog g.w) (fun s => decide (s.cps.toList ∈ xs)) n
  | .range a b st, o => ∃ t u v, o = { cls := .type "range", dict := Option.none, data := .fields #[.int a t, .int b u, .int st v], slots := #[] }
  | .cell v, o => ∃ u, o.data = .cell (some u) ∧ er u = v

abbrev Kp := Addr → Obj → Prop

structure RepH (g : Gl) (K : Kp) (hp : Hp) (h : Heap) : Prop where
  base : ∀ a o, g.h₀.get? a = some o → h.get? a = some o
  kept : ∀ a o, K a o → h.get? a = some o
  obj : ∀ a ao, hp a = some ao → g.h₀.get? a = Option.none ∧ (∀ o, ¬ K a o) ∧ ∃ o, h.get? a = some o ∧ RepO g ao o
  size : g.h₀.objs.size ≤ h.objs.size

abbrev Loc := List (Str × Option PV)

/-- room left: how deep calls may go from here -/
structure Room (A : Around) (d : Nat) : Prop where
  handled : A.handled = Option.none
  depth : A.depth + 2 * d ≤ 900
  units : A.units + 20 * d ≤ 9000

/-- what a frame's code may lean on -/
structure Cx where
  g : Gl
  A : Around
  d : Nat
  env : Env
  names : List Str
  kind : env.scope.kind = .function
  locs : ∀ x ∈ names, env.kindOf x = some .local ∧ (x == ("__debug__" : Str)) = false
  nodup : names.Nodup
  above : g.h₀.objs.size ≤ env.locals
  form : env.globals = mainGlobals ∧ env.builtins = builtinsNs
  room : Room A d

structure St (c : Cx) (K : Kp) (loc : Loc) (hp : Hp) (s : Shared) : Prop where
  rep : RepH c.g K hp s.heap
  ns : ∃ m, s.heap.Ns c.env.locals m ∧ ∀ x v, (x, some v) ∈ loc → ∃ u, m x = some u ∧ er u = v
  LK : ∀ o, ¬ K c.env.locals o
  Lhp : hp c.env.locals = Option.none
  names : loc.map (·.1) = c.names
  os : s.os = c.g.os
  gens : s.gens = c.g.gens

abbrev Cx.M (c : Cx) : Model := model c.g.prog c.g.w

def noE : Value → Shared → Prop := fun _ _ => False

def TE (c : Cx) (e : Expr) (loc : Loc) (hp : Hp) (P : PV → Hp → Prop) : Prop :=
  ∀ K s, St c K loc hp s → wpAny (model c.g.prog c.g.w) c.A (eval e c.env) (fun v s' => ∃ hp', St c K loc hp' s' ∧ P (er v) hp') noE s

/-- truth of a test -/
def TB (c : Cx) (e : Expr) (loc : Loc) (hp : Hp) (P : Bool → Hp → Prop) : Prop :=
  ∀ K s, St c K loc hp s → wpAny (model c.g.prog c.g.w) c.A (PySem.isTrue e c.env (eval e c.env)) (fun v s' => ∃ hp', St c K loc hp' s' ∧ P v hp') noE s

inductive Fl where
  | next | brk | cont | ret (v : PV)
def erF : Flow → Fl
  | .next => .next
  | .brk => .brk
  | .cont => .cont
  | .ret v => .ret (er v)

def TS (c : Cx) (st : Stmt) (loc : Loc) (hp : Hp) (P : Fl → Loc → Hp → Prop) : Prop :=
  ∀ K s, St c K loc hp s → wpAny (model c.g.prog c.g.w) c.A (exec st c.env) (fun f s' => ∃ loc' hp', St c K loc' hp' s' ∧ P (erF f) loc' hp') noE s
def TSs (c : Cx) (sts : List Stmt) (loc : Loc) (hp : Hp) (P : Fl → Loc → Hp → Prop) : Prop :=
  ∀ K s, St c K loc hp s → wpAny (model c.g.prog c.g.w) c.A (execs sts c.env) (fun f s' => ∃ loc' hp', St c K loc' hp' s' ∧ P (erF f) loc' hp') noE s

section basic
variable {c : Cx} {loc : Loc} {hp : Hp}

theorem TE.mono {e : Expr} {P P' : PV → Hp → Prop} (h : TE c e loc hp P) (hP : ∀ v hp', P v hp' → P' v hp') : TE c e loc hp P' :=
  fun K s S => wpAny_mono (h K s S) (fun _ _ ⟨hp', S', p⟩ => ⟨hp', S', hP _ _ p⟩) fun _ _ x => x
theorem TB.mono {e : Expr} {P P' : Bool → Hp → Prop} (h : TB c e loc hp P) (hP : ∀ v hp', P v hp' → P' v hp') : TB c e loc hp P' :=
  fun K s S => wpAny_mono (h K s S) (fun _ _ ⟨hp', S', p⟩ => ⟨hp', S', hP _ _ p⟩) fun _ _ x => x
theorem TS.mono {e : Stmt} {P P' : Fl → Loc → Hp → Prop} (h : TS c e loc hp P) (hP : ∀ f l hp', P f l hp' → P' f l hp') : TS c e loc hp P' :=
  fun K s S => wpAny_mono (h K s S) (fun _ _ ⟨l, hp', S', p⟩ => ⟨l, hp', S', hP _ _ _ p⟩) fun _ _ x => x
theorem TSs.mono {e : List Stmt} {P P' : Fl → Loc → Hp → Prop} (h : TSs c e loc hp P) (hP : ∀ f l hp', P f l hp' → P' f l hp') : TSs c e loc hp P' :=
  fun K s S => wpAny_mono (h K s S) (fun _ _ ⟨l, hp', S', p⟩ => ⟨l, hp', S', hP _ _ _ p⟩) fun _ _ x => x

theorem St.mem_names {K : Kp} {s : Shared} (S : St c K loc hp s) {x : Str} {v : Option PV} (h : (x, v) ∈ loc) : x ∈ c.names := by
  rw [← S.names]; exact List.mem_map.mpr ⟨_, h, rfl⟩

theorem St.toks {K : Kp} {s : Shared} (S : St c K loc hp s) (tk : Nat) : St c K loc hp { s with toks := tk } :=
  ⟨S.rep, S.ns, S.LK, S.Lhp, S.names, S.os, S.gens⟩

theorem St.fr {K : Kp} {s : Shared} (S : St c K loc hp s) : ∃ m, Fr c.g.h₀ c.env.locals s.heap m :=
  let ⟨m, hn, _⟩ := S.ns
  ⟨m, hn, S.rep.base, c.above⟩

theorem St.kin {K : Kp} {s : Shared} (S : St c K loc hp s) : (hd.heap_39 c.g.w.params).In s.heap := c.g.kin.keeps S.rep.base

/-! the bridge to the library's ledger -/
def allN (h₀ : Heap) (L : Addr) (h : Heap) : List (Addr × Obj) :=
  (List.range h.objs.size).filterMap fun a => match h.get? a with
    | some o => if a = L ∨ (h₀.get? a).isSome = true then Option.none else some (a, o)
    | Option.none => Option.none

theorem mem_allN {h₀ : Heap} {L : Addr} {h : Heap} {a : Addr} {o : Obj} : (a, o) ∈ allN h₀ L h ↔ h.get? a = some o ∧ a ≠ L ∧ h₀.get? a = Option.none := by
  unfold allN
  rw [List.mem_filterMap]
  constructor
  · rintro ⟨b, hb, e⟩
    cases hg : h.get? b with
    | none => rw [hg] at e; cases e
    | some o' =>
      rw [hg] at e
      dsimp only at e
      split at e
      · cases e
      · next hn =>
        cases e
        refine ⟨hg, fun q => hn (.inl q), ?_⟩
        cases q : h₀.get? a with
        | none => rfl
        | some z => exact absurd (.inr (by rw [q]; rfl)) hn
  · rintro ⟨hg, h1, h2⟩
    refine ⟨a, List.mem_range.mpr (Heap.lt_size hg), ?_⟩
    rw [hg]
    dsimp only
    rw [if_neg]
    rintro (q | q)
    · exact h1 q
    · rw [h2] at q; cases q

theorem allN_nodup (h₀ : Heap) (L : Addr) (h : Heap) : ((allN h₀ L h).map (·.1)).Nodup := by
  unfold allN
  have key : ∀ l : List Nat, l.Nodup → ((l.filterMap fun a => match h.get? a with
    | some o => if a = L ∨ (h₀.get? a).isSome = true then Option.none else some (a, o)
    | Option.none => Option.none).map (·.1)).Nodup ∧ ∀ b ∈ ((l.filterMap fun a => match h.get? a with
    | some o => if a = L ∨ (h₀.get? a).isSome = true then Option.none else some (a, o)
    | Option.none => Option.none).map (·.1)), b ∈ l := by
    intro l hl
    induction l with
    | nil => exact ⟨by simp, by simp⟩
    | cons a r ih =>
      obtain ⟨ih1, ih2⟩ := ih (List.nodup_cons.mp hl).2
      have ha := (List.nodup_cons.mp hl).1
      rw [List.filterMap_cons]
      split
      · exact ⟨ih1, fun b hb => List.mem_cons_of_mem _ (ih2 b hb)⟩
      · next q e =>
        have hq : q.1 = a := by
          split at e
          · split at e
            · cases e
            · cases e; rfl
          · cases e
        rw [List.map_cons, hq]
        refine ⟨List.nodup_cons.mpr ⟨fun hm => ha (ih2 a hm), ih1⟩, fun b hb => ?_⟩
        rcases List.mem_cons.mp hb with rfl | hb
        · exact List.mem_cons_self
        · exact List.mem_cons_of_mem _ (ih2 b hb)
  exact (key _ List.nodup_range).1

theorem exists_upd {d : Addr} {o o' : Obj} : ∀ {l : List (Addr × Obj)}, (l.map (·.1)).Nodup → (d, o) ∈ l → ∃ l', Upd d o o' l l'
  | [], _, h => nomatch h
  | p :: r, hn, h => by
    rw [List.map_cons] at hn
    obtain ⟨h1, h2⟩ := List.nodup_cons.mp hn
    by_cases hp : p.1 = d
    · have : p = (d, o) := by
        rcases List.mem_cons.mp h with e | e
        · exact e.symm
        · exact absurd (List.mem_map.mpr ⟨_, e, hp.symm⟩) h1
      subst this
      exact ⟨_, .head fun q hq e => h1 (List.mem_map.mpr ⟨q, hq, e⟩)⟩
    · have : (d, o) ∈ r := by
        rcases List.mem_cons.mp h with e | e
        · exact absurd (congrArg Prod.fst e).symm hp
        · exact e
      obtain ⟨l', u⟩ := exists_upd h2 this
      exact ⟨_, .tail hp u⟩

theorem news_allN {h₀ : Heap} {L : Addr} {h : Heap} : News h₀ L h (allN h₀ L h) := fun p hp => mem_allN.mp hp

def LocIs (loc : Loc) (m : Str → Option Value) : Prop := ∀ x v, (x, some v) ∈ loc → ∃ u, m x = some u ∧ er u = v

theorem St.frm {K : Kp} {s : Shared} (S : St c K loc hp s) : ∃ m, Fr c.g.h₀ c.env.locals s.heap m ∧ LocIs loc m :=
  let ⟨m, hn, hm⟩ := S.ns
  ⟨m, ⟨hn, S.rep.base, c.above⟩, hm⟩

/-- everything kept (the locals may be another object of the same reading) -/
def Kept (h₀ : Heap) (L : Addr) (h h' : Heap) : Prop := ∀ p ∈ allN h₀ L h, h'.get? p.1 = some p.2

theorem St.back {K : Kp} {s : Shared} {m : Str → Option Value} {h' : Heap} (S : St c K loc hp s) (hm : LocIs loc m) (F' : Fr c.g.h₀ c.env.locals h' m)
    (N' : Kept c.g.h₀ c.env.locals s.heap h') (tk : Nat) : St c K loc hp { s with heap := h', toks := tk } where
  rep := {
    base := F'.keep
    kept := fun a o k => by
      have e := S.rep.kept a o k
      have hL : a ≠ c.env.locals := fun q => S.LK o (q ▸ k)
      cases q : c.g.h₀.get? a with
      | some o' => have := S.rep.base _ _ q; rw [e] at this; cases this; exact F'.keep _ _ q
      | none => exact N' _ (mem_allN.mpr ⟨e, hL, q⟩)
    obj := fun a ao h => by
      obtain ⟨h1, h2, o, e, r⟩ := S.rep.obj a ao h
      have hL : a ≠ c.env.locals := fun q => by rw [q, S.Lhp] at h; cases h
      exact ⟨h1, h2, o, N' _ (mem_allN.mpr ⟨e, hL, h1⟩), r⟩
    size := Nat.le_trans c.above (Nat.le_of_lt F'.ns.lt) }
  ns := ⟨m, F'.ns, hm⟩
  LK := S.LK
  Lhp := S.Lhp
  names := S.names
  os := S.os
  gens := S.gens

theorem St.ext {K : Kp} {s : Shared} {h' : Heap} (S : St c K loc hp s) (hk : ∀ b o, s.heap.get? b = some o → h'.get? b = some o) (tk : Nat) :
    St c K loc hp { s with heap := h', toks := tk } := by
  obtain ⟨m, hn, hm⟩ := S.ns
  exact S.back hm ⟨hn.keeps hk, fun b o e => hk _ _ (S.rep.base b o e), c.above⟩ (fun p hp => hk _ _ (mem_allN.mp hp).1) tk

/-- a new object, written out -/
theorem St.alloc {K : Kp} {s : Shared} {m : Str → Option Value} {h' : Heap} {a : Addr} {o : Obj} {ao : AO} (S : St c K loc hp s) (hm : LocIs loc m)
    (F' : Fr c.g.h₀ c.env.locals h' m) (N' : News c.g.h₀ c.env.locals h' ((a, o) :: allN c.g.h₀ c.env.locals s.heap))
    (hlt : ∀ p ∈ allN c.g.h₀ c.env.locals s.heap, p.1 < a) (hr : RepO c.g ao o) (tk : Nat) :
    St c K loc (hp.upd a ao) { s with heap := h', toks := tk } ∧ hp a = Option.none := by
  obtain ⟨e1, e2, e3⟩ := N' _ (.head _)
  have T := S.back hm F' (fun p hp => (N' p (.tail _ hp)).1) tk
  have fresh : ∀ o', s.heap.get? a = some o' → False := fun o' q => Nat.lt_irrefl _ (hlt (a, o') (mem_allN.mpr ⟨q, e2, e3⟩))
  have hnone : hp a = Option.none := by
    cases q : hp a with
    | none => rfl
    | some ao' => obtain ⟨_, _, o', e, _⟩ := S.rep.obj a ao' q; exact (fresh o' e).elim
  refine ⟨⟨⟨T.rep.base, T.rep.kept, fun b bo h => ?_, T.rep.size⟩, T.ns, T.LK, ?_, T.names, T.os, T.gens⟩, hnone⟩
  · by_cases hb : b = a
    · subst hb
      rw [hp.upd_self] at h
      cases h
      exact ⟨e3, fun o' k => fresh o' (S.rep.kept _ _ k), o, e1, hr⟩
    · rw [hp.upd_ne _ hb] at h
      exact T.rep.obj b bo h
  · rw [hp.upd_ne _ (Ne.symm e2)]; exact S.Lhp

/-- an object changed -/
theorem St.change {K : Kp} {s : Shared} {m : Str → Option Value} {h' : Heap} {d : Addr} {o o' : Obj} {ao ao' : AO} {news' : List (Addr × Obj)} (S : St c K loc hp s) (hm : LocIs loc m)
    (hd : hp d = some ao) (U : Upd d o o' (allN c.g.h₀ c.env.locals s.heap) news') (F' : Fr c.g.h₀ c.env.locals h' m) (N' : News c.g.h₀ c.env.locals h' news') (hr : RepO c.g ao' o') (tk : Nat) :
    St c K loc (hp.upd d ao') { s with heap := h', toks := tk } := by
  obtain ⟨pre, post, e, rfl, n1, n2⟩ := U.split
  have other : ∀ p ∈ allN c.g.h₀ c.env.locals s.heap, p.1 ≠ d → h'.get? p.1 = some p.2 := fun p hp hne => by
    rw [e] at hp
    rcases List.mem_append.mp hp with q | q
    · exact (N' p (List.mem_append_left _ q)).1
    · rcases List.mem_cons.mp q with rfl | q
      · exact absurd rfl hne
      · exact (N' p (List.mem_append_right _ (.tail _ q))).1
  obtain ⟨f1, f2, f3⟩ := N' (d, o') (by simp)
  obtain ⟨_, hKd, _⟩ := S.rep.obj d ao hd
  refine ⟨⟨F'.keep, fun a o k => ?_, fun b bo h => ?_, Nat.le_trans c.above (Nat.le_of_lt F'.ns.lt)⟩, ⟨m, F'.ns, hm⟩, S.LK, ?_, S.names, S.os, S.gens⟩
  · have e := S.rep.kept a o k
    have hL : a ≠ c.env.locals := fun q => S.LK o (q ▸ k)
    have had : a ≠ d := fun q => hKd o (q ▸ k)
    cases q : c.g.h₀.get? a with
    | some o' => have := S.rep.base _ _ q; rw [e] at this; cases this; exact F'.keep _ _ q
    | none => exact other _ (mem_allN.mpr ⟨e, hL, q⟩) had
  · by_cases hb : b = d
    · subst hb
      rw [hp.upd_self] at h
      cases h
      exact ⟨f3, hKd, o', f1, hr⟩
    · rw [hp.upd_ne _ hb] at h
      obtain ⟨h1, h2, o, e, r⟩ := S.rep.obj b bo h
      have hL : b ≠ c.env.locals := fun q => by rw [q, S.Lhp] at h; cases h
      exact ⟨h1, h2, o, other _ (mem_allN.mpr ⟨e, hL, h1⟩) hb, r⟩
  · rw [hp.upd_ne _ (Ne.symm f2)]; exact S.Lhp

/-- what an object known is in the heap and the ledger -/
theorem St.obj_at {K : Kp} {s : Shared} {a : Addr} {ao : AO} (S : St c K loc hp s) (h : hp a = some ao) :
    ∃ o, s.heap.get? a = some o ∧ RepO c.g ao o ∧ (a, o) ∈ allN c.g.h₀ c.env.locals s.heap := by
  obtain ⟨h1, _, o, e, r⟩ := S.rep.obj a ao h
  have hL : a ≠ c.env.locals := fun q => by rw [q, S.Lhp] at h; cases h
  exact ⟨o, e, r, mem_allN.mpr ⟨e, hL, h1⟩⟩

theorem lt_allN {h₀ : Heap} {L : Addr} {h : Heap} : ∀ p ∈ allN h₀ L h, p.1 < h.objs.size := fun _ hp => Heap.lt_size (mem_allN.mp hp).1

end basic
end Mine
end
section
open PySem PySem.W PyProof.Rows PySem.Calls
set_option Elab.async false
set_option autoImplicit false
set_option linter.unusedVariables false
namespace Mine

/-- a tree of a value -/
def TM (c : Cx) (loc : Loc) (hp : Hp) (t : Sem Value) (P : PV → Hp → Prop) : Prop :=
  ∀ K s, St c K loc hp s → wpAny c.M c.A t (fun v s' => ∃ hp', St c K loc hp' s' ∧ P (er v) hp') noE s
def TMB (c : Cx) (loc : Loc) (hp : Hp) (t : Sem Bool) (P : Bool → Hp → Prop) : Prop :=
  ∀ K s, St c K loc hp s → wpAny c.M c.A t (fun v s' => ∃ hp', St c K loc hp' s' ∧ P v hp') noE s
def TMU (c : Cx) (loc : Loc) (hp : Hp) (t : Sem Unit) (P : Hp → Prop) : Prop :=
  ∀ K s, St c K loc hp s → wpAny c.M c.A t (fun _ s' => ∃ hp', St c K loc hp' s' ∧ P hp') noE s

def Bin (c : Cx) (op : Operator) (a : PV) (b : PV) (loc : Loc) (hp : Hp) (P : PV → Hp → Prop) : Prop := ∀ va vb, er va = a → er vb = b → TM c loc hp (binaryOp op va vb) P
def Ibin (c : Cx) (op : Operator) (a : PV) (b : PV) (loc : Loc) (hp : Hp) (P : PV → Hp → Prop) : Prop := ∀ va vb, er va = a → er vb = b → TM c loc hp (inplaceOp op va vb) P
def Cmp (c : Cx) (op : CmpOp) (a : PV) (b : PV) (loc : Loc) (hp : Hp) (P : PV → Hp → Prop) : Prop := ∀ va vb, er va = a → er vb = b → TM c loc hp (compareOp op va vb) P
def Tru (c : Cx) (a : PV) (loc : Loc) (hp : Hp) (P : Bool → Hp → Prop) : Prop := ∀ va, er va = a → TMB c loc hp (truthy va) P
def Atr (c : Cx) (a : PV) (name : Str) (loc : Loc) (hp : Hp) (P : PV → Hp → Prop) : Prop := ∀ va, er va = a → TM c loc hp (getAttr va name true) P
def Sat (c : Cx) (a : PV) (name : Str) (v : PV) (loc : Loc) (hp : Hp) (P : Hp → Prop) : Prop := ∀ va vv, er va = a → er vv = v → TMU c loc hp (setAttr va name vv) P
def Sub (c : Cx) (a b : PV) (value slice : Expr) (loc : Loc) (hp : Hp) (P : PV → Hp → Prop) : Prop := ∀ va vb, er va = a → er vb = b → TM c loc hp (subscriptTail value slice va vb) P
/-- a call of a value with values -/
def Cal (c : Cx) (f : Value) (as : List PV) (loc : Loc) (hp : Hp) (P : PV → Hp → Prop) : Prop := ∀ vs, vs.map er = as → TM c loc hp (call f vs) P
/-- arguments -/
def TA (c : Cx) (es : List Expr) (loc : Loc) (hp : Hp) (P : List PV → Hp → Prop) : Prop :=
  ∀ K s pos, St c K loc hp s → wpAny c.M c.A (spliced (backTo pos (starEach es c.env))) (fun vs s' => ∃ hp', St c K loc hp' s' ∧ P (vs.map er) hp') noE s

def Plain (es : List Expr) : Prop := ∀ env pos, starEach es env = es.map (fun e => (false, eval e env)) ∧ (backTo pos (starEach es env)).any (·.1) = false

def Req (a p : Prop) : Prop := a ∧ p
def IfQ (b : Bool) (p q : Prop) : Prop := (b = true → p) ∧ (b = false → q)

section
variable {c : Cx} {loc : Loc} {hp : Hp}

@[reducible] def KB (c : Cx) (op : Operator) (a : PV) (loc : Loc) (P : PV → Hp → Prop) : PV → Hp → Prop := fun b h2 => Bin c op a b loc h2 P
@[reducible] def KB2 (c : Cx) (op : Operator) (r : Expr) (loc : Loc) (P : PV → Hp → Prop) : PV → Hp → Prop := fun a h1 => TE c r loc h1 (KB c op a loc P)
@[reducible] def KC (c : Cx) (op : CmpOp) (a : PV) (loc : Loc) (P : PV → Hp → Prop) : PV → Hp → Prop := fun b h2 => Cmp c op a b loc h2 P
@[reducible] def KC2 (c : Cx) (op : CmpOp) (r : Expr) (loc : Loc) (P : PV → Hp → Prop) : PV → Hp → Prop := fun a h1 => TE c r loc h1 (KC c op a loc P)
@[reducible] def KT (c : Cx) (loc : Loc) (P : Bool → Hp → Prop) : PV → Hp → Prop := fun v h3 => Tru c v loc h3 P
@[reducible] def KS (c : Cx) (a : PV) (value slice : Expr) (loc : Loc) (P : PV → Hp → Prop) : PV → Hp → Prop := fun b h2 => Sub c a b value slice loc h2 P
@[reducible] def KS2 (c : Cx) (value slice : Expr) (loc : Loc) (P : PV → Hp → Prop) : PV → Hp → Prop := fun a h1 => TE c slice loc h1 (KS c a value slice loc P)
@[reducible] def KAt (c : Cx) (name : Str) (loc : Loc) (P : PV → Hp → Prop) : PV → Hp → Prop := fun v h1 => Atr c v name loc h1 P
@[reducible] def KNo (P : Bool → Hp → Prop) : Bool → Hp → Prop := fun b h1 => P (!b) h1
@[reducible] def KAnd (c : Cx) (y : Expr) (loc : Loc) (P : Bool → Hp → Prop) : Bool → Hp → Prop := fun b h1 => IfQ b (TB c y loc h1 P) (P false h1)
@[reducible] def KOr (c : Cx) (e : Expr) (loc : Loc) (P : Bool → Hp → Prop) : Bool → Hp → Prop := fun b h1 => IfQ b (P true h1) (TB c e loc h1 P)

theorem TM.mono {e : Sem Value} {P P' : PV → Hp → Prop} (h : TM c loc hp e P) (hP : ∀ v hp', P v hp' → P' v hp') : TM c loc hp e P' :=
  fun K s S => wpAny_mono (h K s S) (fun _ _ hh => by obtain ⟨hp', S', p⟩ := hh; exact ⟨hp', S', hP _ _ p⟩) fun _ _ x => x

theorem E_local {x : Str} {v : PV} {pos : Pos} {P : PV → Hp → Prop} (hm : (x, some v) ∈ loc) (h : P v hp) : TE c (.Name x pos) loc hp P := by
  intro K s S
  obtain ⟨m, hn, hl⟩ := S.ns
  obtain ⟨u, hu, rfl⟩ := hl x v hm
  obtain ⟨h1, h2⟩ := c.locs x (S.mem_names hm)
  exact wpAny_Name (wpAny_loadName_local c.kind h1 hn hu ⟨hp, S, h⟩) h2

/-- a global name of the text, or a built-in one -/
structure GlbOk (g : Gl) (env : Env) (x : Str) (v : Value) : Prop where
  kind : env.kindOf x = some .globalImplicit
  dbg : (x == ("__debug__" : Str)) = false
  is : nsIn (hd.heap_39 g.w.params) mainGlobals x = some (some v) ∨ (nsIn (hd.heap_39 g.w.params) mainGlobals x = some Option.none ∧ bootBuiltins x = some v ∧ x ≠ "__name__")

theorem E_glob {x : Str} {v : Value} {pos : Pos} {P : PV → Hp → Prop} (hg : GlbOk c.g c.env x v) (h : P (er v) hp) : TE c (.Name x pos) loc hp P := by
  intro K s S
  obtain ⟨m, F, hm⟩ := S.frm
  have q : ∃ hp', St c K loc hp' s ∧ P (er v) hp' := ⟨hp, S, h⟩
  have T := c.g.top
  have G : s.heap.Ns c.env.globals c.g.mg := by rw [c.form.1]; exact T.g.keeps F.keep
  have B : s.heap.Ns c.env.builtins c.g.mb := by rw [c.form.2]; exact T.b.keeps F.keep
  rcases hg.is with e | ⟨e, e2, e3⟩
  · exact Calls.Name_function_global c.kind hg.kind (Calls.loadGlobal_global G (mg_of c.g.kin T.g e) q) hg.dbg
  · exact Calls.Name_function_global c.kind hg.kind (Calls.loadGlobal_builtin G (mg_none_of c.g.kin T.g e) B ((T.builtins x e3).trans e2) q) hg.dbg
/-- a name kept in a cell -/
theorem E_cell {x : Str} {pos : Pos} {a : Addr} {v : PV} {P : PV → Hp → Prop} (hk : c.env.kindOf x = some .cell) (hc : c.env.cells.lookup x = some a) (ha : hp a = some (.cell v)) (h : P v hp)
    (hb : (x == ("__debug__" : Str)) = false := by decide) : TE c (.Name x pos) loc hp P := by
  intro K s S
  obtain ⟨o, ho, ⟨u, hu, rfl⟩, _⟩ := S.obj_at ha
  exact wpAny_Name (wpAny_loadName_cell c.kind hk hc ⟨o, ho, hu⟩ ⟨hp, S, h⟩) hb

theorem E_int {i : Int} {k : Nat} {pos : Pos} {P : PV → Hp → Prop} (h : P (.int i) hp) : TE c (.Constant (.int i) k pos) loc hp P :=
  fun _ _ S => wpAny_Constant_int ⟨hp, S.toks _, h⟩
theorem E_str {x : Str} {l : List Nat} {k : Nat} {pos : Pos} {P : PV → Hp → Prop} (hx : x.cps.toList = l) (h : P (.str l) hp) : TE c (.Constant (.str x) k pos) loc hp P :=
  fun _ _ S => Constant_str ⟨hp, S.toks _, by show P (.str x.cps.toList) hp; rw [hx]; exact h⟩
theorem E_bool {b : Bool} {k : Nat} {pos : Pos} {P : PV → Hp → Prop} (h : P (.bool b) hp) : TE c (.Constant (.bool b) k pos) loc hp P :=
  fun _ _ S => Constant_bool ⟨hp, S, h⟩

theorem E_bin {l r : Expr} {op : Operator} {pos : Pos} {P : PV → Hp → Prop} (h : TE c l loc hp (KB2 c op r loc P)) :
    TE c (.BinOp l op r pos) loc hp P := fun K s S =>
  wpAny_BinOp (wpAny_mono (h K s S) (fun va s1 hh => by obtain ⟨h1, S1, p⟩ := hh; exact wpAny_mono (p K s1 S1) (fun vb s2 hh => by obtain ⟨h2, S2, q⟩ := hh; exact q va vb rfl rfl K s2 S2) fun _ _ x => x) fun _ _ x => x)

theorem E_cmp {l r : Expr} {op : CmpOp} {pos : Pos} {P : PV → Hp → Prop} (h : TE c l loc hp (KC2 c op r loc P))
    (hm : behindInMarks op r = false := by with_unfolding_all rfl) : TE c (.Compare l [op] [r] pos) loc hp P := fun K s S =>
  wpAny_Compare1 (wpAny_mono (h K s S) (fun va s1 hh => by obtain ⟨h1, S1, p⟩ := hh; exact wpAny_mono (p K s1 S1) (fun vb s2 hh => by obtain ⟨h2, S2, q⟩ := hh; exact q va vb rfl rfl K s2 S2) fun _ _ x => x) fun _ _ x => x) hm

theorem B_cmp {l r : Expr} {op : CmpOp} {pos : Pos} {P : Bool → Hp → Prop} (h : TE c l loc hp (KC2 c op r loc (KT c loc P)))
    (hm : behindInMarks op r = false := by with_unfolding_all rfl) : TB c (.Compare l [op] [r] pos) loc hp P := fun K s S =>
  wpAny_isTrue_Compare1 (wpAny_mono (h K s S) (fun va s1 hh => by obtain ⟨h1, S1, p⟩ := hh; exact wpAny_mono (p K s1 S1) (fun vb s2 hh => by obtain ⟨h2, S2, q⟩ := hh; exact wpAny_mono (q va vb rfl rfl K s2 S2) (fun v s3 hh => by obtain ⟨h3, S3, r⟩ := hh; exact r v rfl K s3 S3) fun _ _ x => x) fun _ _ x => x) fun _ _ x => x) hm

theorem B_not {x : Expr} {pos : Pos} {P : Bool → Hp → Prop} (h : TB c x loc hp (KNo P)) : TB c (.UnaryOp .Not x pos) loc hp P := fun K s S =>
  isTrue_not (wpAny_mono (h K s S) (fun _ _ q => q) fun _ _ x => x)

theorem B_and {x y : Expr} {pos : Pos} {P : Bool → Hp → Prop} (h : TB c x loc hp (KAnd c y loc P)) :
    TB c (.BoolOp .And [x, y] pos) loc hp P := fun K s S => by
  refine isTrue_and (wpAny_mono (h K s S) (fun b s1 hh => ?_) fun _ _ x => x)
  obtain ⟨h1, S1, p⟩ := hh
  cases b with
  | false => exact ⟨h1, S1, p.2 rfl⟩
  | true =>
    refine isTrue_and (wpAny_mono (p.1 rfl K s1 S1) (fun b s2 q => ?_) fun _ _ x => x)
    cases b with
    | false => exact q
    | true => exact isTrue_and_nil q

theorem B_or_last {x : Expr} {pos : Pos} {P : Bool → Hp → Prop} (h : TB c x loc hp P) : TB c (.BoolOp .Or [x] pos) loc hp P := fun K s S =>
  isTrue_or (wpAny_mono (h K s S) (fun b s1 q => by
    cases b with
    | true => exact q
    | false => exact isTrue_or_nil q) fun _ _ x => x)
theorem B_or {x y : Expr} {r : List Expr} {pos : Pos} {P : Bool → Hp → Prop} (h : TB c x loc hp (KOr c (.BoolOp .Or (y :: r) pos) loc P)) :
    TB c (.BoolOp .Or (x :: y :: r) pos) loc hp P := fun K s S => by
  refine isTrue_or (wpAny_mono (h K s S) (fun b s1 hh => ?_) fun _ _ x => x)
  obtain ⟨h1, S1, p⟩ := hh
  cases b with
  | true => exact ⟨h1, S1, p.1 rfl⟩
  | false => exact p.2 rfl K s1 S1

/-- any other test -/
theorem B_of {e : Expr} {P : Bool → Hp → Prop} (h : TE c e loc hp (KT c loc P))
    (hs : PySem.isTrue e c.env (eval e c.env) = (do let v ← eval e c.env; standAt e.pos; holding [v] (truthy v)) := by rfl) : TB c e loc hp P := fun K s S =>
  isTrue_plain (wpAny_mono (h K s S) (fun v s1 hh => by obtain ⟨h1, S1, p⟩ := hh; exact p v rfl K s1 S1) fun _ _ x => x) hs

theorem E_ifexp {t b o : Expr} {pos : Pos} {P : PV → Hp → Prop} (h : TB c t loc hp fun k h1 => IfQ k (TE c b loc h1 P) (TE c o loc h1 P)) :
    TE c (.IfExp t b o pos) loc hp P := fun K s S =>
  IfExp_ (wpAny_mono (h K s S) (fun k s1 hh => by
    obtain ⟨h1, S1, p⟩ := hh
    cases k with
    | true => exact p.1 rfl K s1 S1
    | false => exact p.2 rfl K s1 S1) fun _ _ x => x)

theorem E_neg {i : Int} {k : Nat} {pos pos' : Pos} {P : PV → Hp → Prop} (h : P (.int (-i)) hp) : TE c (.UnaryOp .USub (.Constant (.int i) k pos) pos') loc hp P := fun K s S =>
  UnaryOp_ (wpAny_Constant_int (neg_int ⟨hp, (S.toks _).toks _, h⟩))

theorem E_attr {o : Expr} {name : Str} {pos : Pos} {P : PV → Hp → Prop} (h : TE c o loc hp (KAt c name loc P))
    (hs : eval (o.Attribute name pos) c.env = (do
          let o' ← eval o c.env
          standAt pos.atName
          let r ← holding [o'] (getAttr o' name true)
          letTemporaryGo o o' r
          pure r) := by rfl) : TE c (.Attribute o name pos) loc hp P := fun K s S =>
  Attribute_any_ (wpAny_mono (h K s S) (fun v s1 hh => by obtain ⟨h1, S1, p⟩ := hh; exact p v rfl K s1 S1) fun _ _ x => x) hs

theorem E_sub {value slice : Expr} {pos : Pos} {P : PV → Hp → Prop} (h : TE c value loc hp (KS2 c value slice loc P)) :
    TE c (.Subscript value slice pos) loc hp P := fun K s S =>
  Subscript_ (wpAny_mono (h K s S) (fun va s1 hh => by obtain ⟨h1, S1, p⟩ := hh; exact wpAny_mono (p K s1 S1) (fun vb s2 hh => by obtain ⟨h2, S2, q⟩ := hh; exact q va vb rfl rfl K s2 S2) fun _ _ x => x) fun _ _ x => x)

/-! operations -/
section ops
variable {P : PV → Hp → Prop} {i j : Int} {x y : List Nat}

theorem int2 {f : Value → Value → Sem Value} (h : ∀ K s t u, St c K loc hp s → wpAny c.M c.A (f (.int i t) (.int j u)) (fun v s' => ∃ hp', St c K loc hp' s' ∧ P (er v) hp') noE s) :
    ∀ va vb, er va = .int i → er vb = .int j → TM c loc hp (f va vb) P := by
  intro va vb ha hb K s S; obtain ⟨t, rfl⟩ := er_int ha; obtain ⟨u, rfl⟩ := er_int hb; exact h K s t u S
theorem Bin_add (h : P (.int (i + j)) hp) : Bin c .Add (.int i) (.int j) loc hp P := int2 fun K s t u S => add_int ⟨hp, S.toks _, h⟩
theorem Bin_sub (h : P (.int (i - j)) hp) : Bin c .Sub (.int i) (.int j) loc hp P := int2 fun K s t u S => sub_int ⟨hp, S.toks _, h⟩
theorem Bin_mul (hi : IntMulOk i j) (h : P (.int (i * j)) hp) : Bin c .Mult (.int i) (.int j) loc hp P := int2 fun K s t u S => mul_int ⟨hp, S.toks _, h⟩ hi
theorem Bin_mod (hj : 0 < j) (h : P (.int (i % j)) hp) : Bin c .Mod (.int i) (.int j) loc hp P := by
  refine int2 fun K s t u S => ?_
  refine mod_int (Int.ne_of_gt hj) ⟨hp, S.toks _, ?_⟩
  show P (.int (i.fmod j)) hp
  rw [Int.fmod_eq_emod_of_nonneg i (Int.le_of_lt hj)]
  exact h
theorem Bin_fdiv (hj : 0 < j) (hd : Builtin.divisionGoesByPylong i j = false) (h : P (.int (i / j)) hp) : Bin c .FloorDiv (.int i) (.int j) loc hp P := by
  refine int2 fun K s t u S => ?_
  refine floordiv_int (Int.ne_of_gt hj) ⟨hp, S.toks _, ?_⟩ (.inl hd)
  show P (.int (i.fdiv j)) hp
  rw [Int.fdiv_eq_ediv_of_nonneg i (Int.le_of_lt hj)]
  exact h
theorem Bin_shr1 (h : P (.int (i / 2)) hp) : Bin c .RShift (.int i) (.int 1) loc hp P := by
  refine int2 fun K s t u S => ?_
  refine rshift_int (by decide) ⟨hp, S.toks _, ?_⟩
  show P (.int (i.fdiv (2 ^ (1 : Int).toNat))) hp
  rw [show ((2 : Int) ^ (1 : Int).toNat) = 2 from rfl, Int.fdiv_eq_ediv_of_nonneg i (by decide)]
  exact h
theorem Ibin_add (h : P (.int (i + j)) hp) : Ibin c .Add (.int i) (.int j) loc hp P := int2 fun K s t u S => iadd_int ⟨hp, S.toks _, h⟩
theorem Ibin_sub (h : P (.int (i - j)) hp) : Ibin c .Sub (.int i) (.int j) loc hp P := int2 fun K s t u S => isub_int ⟨hp, S.toks _, h⟩
theorem Cmp_lt (h : P (.bool (decide (i < j))) hp) : Cmp c .Lt (.int i) (.int j) loc hp P := int2 fun K s t u S => lt_int ⟨hp, S, h⟩
theorem Cmp_le (h : P (.bool (decide (i ≤ j))) hp) : Cmp c .LtE (.int i) (.int j) loc hp P := int2 fun K s t u S => le_int ⟨hp, S, h⟩
theorem Cmp_gt (h : P (.bool (decide (j < i))) hp) : Cmp c .Gt (.int i) (.int j) loc hp P := int2 fun K s t u S => gt_int ⟨hp, S, h⟩
theorem Cmp_ge (h : P (.bool (decide (j ≤ i))) hp) : Cmp c .GtE (.int i) (.int j) loc hp P := int2 fun K s t u S => ge_int ⟨hp, S, h⟩
theorem Cmp_eq (h : P (.bool (decide (i = j))) hp) : Cmp c .Eq (.int i) (.int j) loc hp P := by
  refine int2 fun K s t u S => ?_; refine eq_int ⟨hp, S, ?_⟩; show P (.bool (i == j)) hp; rw [show (i == j) = decide (i = j) from rfl]; exact h
theorem Cmp_ne (h : P (.bool (decide (i ≠ j))) hp) : Cmp c .NotEq (.int i) (.int j) loc hp P := by
  refine int2 fun K s t u S => ?_; refine ne_int ⟨hp, S, ?_⟩; show P (.bool (i != j)) hp
  rw [show (i != j) = decide (i ≠ j) from by by_cases q : i = j <;> simp [q]]; exact h
theorem Tru_bool {b : Bool} {P : Bool → Hp → Prop} (h : P b hp) : Tru c (.bool b) loc hp P := by
  intro va ha K s S; obtain rfl := er_bool ha; exact wpAny_truthy_bool ⟨hp, S, h⟩

theorem Bin_adds (hl : x.length + y.length ≤ sizeLine) (h : P (.str (x ++ y)) hp) : Bin c .Add (.str x) (.str y) loc hp P := by
  intro va vb ha hb K s S; obtain ⟨t, rfl⟩ := er_str ha; obtain ⟨u, rfl⟩ := er_str hb
  refine add_str (fun t' tk => ⟨hp, S.toks _, ?_⟩) (by simpa [Str.length] using hl)
  show P (.str ((⟨x.toArray⟩ : Str) ++ ⟨y.toArray⟩ : Str).cps.toList) hp
  rw [show ((⟨x.toArray⟩ : Str) ++ ⟨y.toArray⟩ : Str).cps.toList = x ++ y from by show (x.toArray ++ y.toArray).toList = _; simp]
  exact h
theorem str_beq {x y : List Nat} : ((⟨x.toArray⟩ : Str) == ⟨y.toArray⟩) = decide (x = y) := by
  by_cases q : x = y
  · subst q; simp
  · have : (⟨x.toArray⟩ : Str) ≠ ⟨y.toArray⟩ := fun e => q (by simpa using congrArg (fun s : Str => s.cps.toList) e)
    simp [q, this]
theorem Cmp_eqs (h : P (.bool (decide (x = y))) hp) : Cmp c .Eq (.str x) (.str y) loc hp P := by
  intro va vb ha hb K s S; obtain ⟨t, rfl⟩ := er_str ha; obtain ⟨u, rfl⟩ := er_str hb
  refine eq_str ⟨hp, S, ?_⟩; show P (.bool (_ == _)) hp; rw [str_beq]; exact h
theorem Cmp_nes (h : P (.bool (decide (x ≠ y))) hp) : Cmp c .NotEq (.str x) (.str y) loc hp P := by
  intro va vb ha hb K s S; obtain ⟨t, rfl⟩ := er_str ha; obtain ⟨u, rfl⟩ := er_str hb
  refine ne_str ⟨hp, S, ?_⟩; show P (.bool (_ != _)) hp
  rw [show ((⟨x.toArray⟩ : Str) != ⟨y.toArray⟩) = decide (x ≠ y) from by rw [bne, str_beq]; simp]; exact h
end ops

/-! attributes -/
/-- an object's own field may be read under that name -/
structure AttrOk (F : Frag) (C : Addr) (name : Str) : Prop where
  plain : plainGet F C name = true
  dict : hasDictIn F C = true
  own : ∃ attr, findIn F (.ref C) name = some attr ∧ noGet F attr = true
/-- and written -/
structure SetOk (F : Frag) (C : Addr) (name : Str) : Prop where
  sat : findIn F (.ref C) "__setattr__" = some (some (.builtin "object.__setattr__"))
  over : plainOver F C = true
  taker : takerIn F C name = some Option.none
  dict : hasDictIn F C = true

inductive Lk (x : Str) (v : PV) : List (Str × PV) → Prop
  | head {r} : Lk x v ((x, v) :: r)
  | tail {y u r} : y ≠ x → Lk x v r → Lk x v ((y, u) :: r)
inductive Put (x : Str) (v : PV) : List (Str × PV) → List (Str × PV) → Prop
  | nil : Put x v [] [(x, v)]
  | head {u r} : Put x v ((x, u) :: r) ((x, v) :: r)
  | tail {y u r r'} : y ≠ x → Put x v r r' → Put x v ((y, u) :: r) ((y, u) :: r')
def NoKey (x : Str) (fs : List (Str × PV)) : Prop := ∀ p ∈ fs, p.1 ≠ x

theorem isStr_iff {x y : Str} {t : Tok} : (Value.str y t).isStr x = true ↔ y = x := by
  show (y == x) = true ↔ _; exact beq_iff_eq
theorem Ents.any_ref : ∀ {es : List DictEntry} {fs : List (Str × PV)}, Ents es fs → es.any (·.refKey) = false
  | _, _, .nil => rfl
  | _, _, .cons (e := e) hk _ r => by
    rw [List.any_cons, r.any_ref, Bool.or_false]
    show e.refKey = false
    unfold DictEntry.refKey; rw [hk]
theorem Ents.get {x : Str} {v : PV} : ∀ {es : List DictEntry} {fs : List (Str × PV)}, Ents es fs → Lk x v fs → ∃ u, getL x es = some (some u) ∧ er u = v
  | _, _, .cons (e := e) hk hv r, .head => ⟨e.val, by unfold getL; rw [List.find?_cons, hk, show (Value.str x _).isStr x = true from isStr_iff.mpr rfl], hv⟩
  | _, _, .cons (e := e) hk hv r, .tail hne l => by
    obtain ⟨u, hu, hv'⟩ := r.get l
    refine ⟨u, ?_, hv'⟩
    have hf : e.key.isStr x = false := by
      rw [hk]; exact Bool.eq_false_iff.mpr fun q => hne (isStr_iff.mp q)
    unfold getL at hu ⊢
    rw [List.find?_cons, hf]
    dsimp only
    rw [List.any_cons, show e.refKey = false from by unfold DictEntry.refKey; rw [hk], Bool.false_or]
    exact hu
theorem Ents.none {x : Str} {es : List DictEntry} {fs : List (Str × PV)} (E : Ents es fs) (h : NoKey x fs) : getL x es = some Option.none := by
  have hf : es.find? (·.key.isStr x) = Option.none := by
    rw [List.find?_eq_none]
    induction E with
    | nil => intro e he; cases he
    | cons hk _ r ih =>
      intro e he
      rcases List.mem_cons.mp he with rfl | he
      · rw [hk]; exact fun q => h _ List.mem_cons_self (isStr_iff.mp q)
      · exact ih (fun p hp => h p (List.mem_cons_of_mem _ hp)) e he
  unfold getL
  rw [hf, E.any_ref]
  rfl
theorem Ents.isSome {x : Str} {es : List DictEntry} {fs : List (Str × PV)} (E : Ents es fs) : (getL x es).isSome = true := by
  unfold getL
  cases es.find? (·.key.isStr x) with
  | some e => rfl
  | none => rw [E.any_ref]; rfl
theorem Ents.length : ∀ {es : List DictEntry} {fs : List (Str × PV)}, Ents es fs → es.length = fs.length
  | _, _, .nil => rfl
  | _, _, .cons _ _ r => by rw [List.length_cons, List.length_cons, r.length]
theorem Ents.put {x : Str} {v : PV} {hs : Int} {t : Tok} {u : Value} (hu : er u = v) : ∀ {es : List DictEntry} {fs fs' : List (Str × PV)}, Ents es fs → Put x v fs fs' → Ents (putL x hs (.str x t) u es) fs'
  | _, _, _, .nil, .nil => .cons rfl hu .nil
  | _, _, _, .cons (e := e) hk hv r, .head => by
    unfold putL
    rw [hk, if_pos (isStr_iff.mpr rfl)]
    exact .cons rfl hu r
  | _, _, _, .cons (e := e) hk hv r, .tail hne p => by
    unfold putL
    rw [if_neg (by rw [hk]; exact fun q => hne (isStr_iff.mp q))]
    exact .cons hk hv (r.put hu p)
theorem Put.length_le {x : Str} {v : PV} : ∀ {fs fs' : List (Str × PV)}, Put x v fs fs' → fs'.length ≤ fs.length + 1
  | _, _, .nil => by simp
  | _, _, .head => by simp
  | _, _, .tail _ p => by have := p.length_le; simp only [List.length_cons]; lia

theorem handed_er {v : Value} {u : PV} (h : er v = u) (hu : ∀ w, u ≠ .raw w) : handedIn v = true := by
  cases v <;> first | rfl | (exact absurd h.symm (hu _))

theorem Atr_own {x C dx : Addr} {name : Str} {fs : List (Str × PV)} {u : PV} {P : PV → Hp → Prop} (hx : hp x = some (.inst C dx)) (hdx : hp dx = some (.flds fs)) (ok : AttrOk (hd.heap_39 c.g.w.params) C name) (l : Lk name u fs)
    (hu : ∀ w, u ≠ .raw w) (h : P u hp) : Atr c (.ref x) name loc hp P := by
  intro va ha K s S
  obtain rfl := er_ref ha
  obtain ⟨m, F, hm⟩ := S.frm
  obtain ⟨o, ho, ro, _⟩ := S.obj_at hx
  obtain ⟨od, hod, ⟨es, n, rfl, E⟩, _⟩ := S.obj_at hdx
  obtain rfl : o = instObj C dx := ro
  obtain ⟨v, hv, hev⟩ := E.get l
  obtain ⟨attr, ha1, ha2⟩ := ok.own
  exact get_own F c.g.kin (InstAt.mk ho rfl rfl hod) ok.plain ok.dict ha1 ha2 hv (handed_er hev hu) ⟨hp, S.toks _, hev ▸ h⟩

theorem Sat_own {x C dx : Addr} {name : Str} {fs fs' : List (Str × PV)} {v : PV} {P : Hp → Prop} (hx : hp x = some (.inst C dx)) (hdx : hp dx = some (.flds fs)) (ok : SetOk (hd.heap_39 c.g.w.params) C name) (p : Put name v fs fs')
    (hl : fs.length ≤ 100) (h : P (hp.upd dx (.flds fs'))) : Sat c (.ref x) name v loc hp P := by
  intro va vv ha hv K s S
  obtain rfl := er_ref ha
  obtain ⟨m, F, hm⟩ := S.frm
  obtain ⟨o, ho, ro, _⟩ := S.obj_at hx
  obtain ⟨od, hod, ⟨es, n, rfl, E⟩, hin⟩ := S.obj_at hdx
  obtain rfl : o = instObj C dx := ro
  have E' := E.put (hs := PyData.keyHash c.g.w.params name) (t := s.toks + 1) hv p
  obtain ⟨news', U⟩ := exists_upd (o' := dictOf (putL name (PyData.keyHash c.g.w.params name) (.str name (s.toks + 1)) vv es) (putN name es n)) (allN_nodup _ _ _) hin
  refine set_dict F c.g.kin news_allN (InstAt.mk ho rfl rfl hod) rfl ok.sat ok.over ok.taker ok.dict E.isSome rfl U ?_ fun h' F' N' => ⟨_, S.change hm hdx U F' N' (ao' := .flds fs') ⟨_, _, rfl, E'⟩ _, h⟩
  have := E'.length
  have := p.length_le
  lia

end
end Mine
end
section
open PySem PySem.W PyProof.Rows PySem.Calls
set_option Elab.async false
set_option autoImplicit false
set_option linter.unusedVariables false
namespace Mine

inductive SetL (x : Str) (v : PV) : Loc → Loc → Prop
  | head {u r} : SetL x v ((x, u) :: r) ((x, some v) :: r)
  | tail {p r r'} : SetL x v r r' → SetL x v (p :: r) (p :: r')
theorem SetL.names {x : Str} {v : PV} : ∀ {l l' : Loc}, SetL x v l l' → l'.map (·.1) = l.map (·.1)
  | _, _, .head => rfl
  | _, _, .tail h => by rw [List.map_cons, List.map_cons, h.names]
theorem SetL.mem {x : Str} {v : PV} : ∀ {l l' : Loc}, SetL x v l l' → x ∈ l.map (·.1)
  | _, _, .head => by simp
  | _, _, .tail h => by rw [List.map_cons]; exact List.mem_cons_of_mem _ h.mem
theorem SetL.look {x : Str} {v : PV} : ∀ {l l' : Loc}, SetL x v l l' → (l.map (·.1)).Nodup → ∀ {y : Str} {w : PV}, (y, some w) ∈ l' → (y = x ∧ w = v) ∨ (y ≠ x ∧ (y, some w) ∈ l)
  | _, _, .head (u := u) (r := r), hn, y, w, h => by
    rw [List.map_cons] at hn
    obtain ⟨h1, h2⟩ := List.nodup_cons.mp hn
    rcases List.mem_cons.mp h with e | e
    · cases e; exact .inl ⟨rfl, rfl⟩
    · exact .inr ⟨fun q => h1 (List.mem_map.mpr ⟨_, e, q⟩), List.mem_cons_of_mem _ e⟩
  | _, _, .tail (p := p) h', hn, y, w, h => by
    rw [List.map_cons] at hn
    obtain ⟨h1, h2⟩ := List.nodup_cons.mp hn
    rcases List.mem_cons.mp h with e | e
    · refine .inr ⟨fun q => ?_, e ▸ List.mem_cons_self⟩
      subst e
      subst q
      exact h1 h'.mem
    · rcases h'.look h2 e with q | ⟨q1, q2⟩
      · exact .inl q
      · exact .inr ⟨q1, List.mem_cons_of_mem _ q2⟩

section
variable {c : Cx} {loc : Loc} {hp : Hp}

theorem St.le {K : Kp} {s : Shared} {hp' : Hp} (S : St c K loc hp' s) (h : hp.le hp') : St c K loc hp s :=
  St.mk ⟨S.rep.base, S.rep.kept, fun a ao e => S.rep.obj a ao (h a ao e), S.rep.size⟩ S.ns S.LK (by
    cases q : hp c.env.locals with
    | none => rfl
    | some o => have := h _ _ q; rw [S.Lhp] at this; cases this) S.names S.os S.gens
theorem St.kle {K K' : Kp} {s : Shared} (S : St c K' loc hp s) (h : ∀ a o, K a o → K' a o) : St c K loc hp s :=
  ⟨⟨S.rep.base, fun a o k => S.rep.kept a o (h a o k), fun a ao e => let ⟨h1, h2, h3⟩ := S.rep.obj a ao e; ⟨h1, fun o k => h2 o (h a o k), h3⟩, S.rep.size⟩, S.ns, fun o k => S.LK o (h _ _ k), S.Lhp, S.names, S.os, S.gens⟩

theorem store_St {K : Kp} {s : Shared} {x : Str} {val : Value} {loc' : Loc} {Q : Unit → Shared → Prop} {E : Value → Shared → Prop} (S : St c K loc hp s) (h : SetL x (er val) loc loc')
    (hq : ∀ s', St c K loc' hp s' → (∀ b o, b ≠ c.env.locals → s.heap.get? b = some o → s'.heap.get? b = some o) → Q () s') : wpAny c.M c.A (storeName c.env x val) Q E s := by
  obtain ⟨m, hn, hm⟩ := S.ns
  have hx : x ∈ c.names := by rw [← S.names]; exact h.mem
  refine wpAny_storeName_local (c.locs x hx).1 hn (fun h' hn' hs' => ?_) (by rw [c.kind]; rfl)
  refine hq _ ⟨⟨fun a o e => ?_, fun a o k => ?_, fun a ao e => ?_, Nat.le_trans c.above (Nat.le_of_lt hn'.lt)⟩, ⟨_, hn', fun y w hy => ?_⟩, S.LK, S.Lhp, ?_, S.os, S.gens⟩ ?_
  · exact (hs'.2 a (Nat.ne_of_lt (Nat.lt_of_lt_of_le (Heap.lt_size e) c.above))).trans (S.rep.base a o e)
  · exact (hs'.2 a fun q => S.LK o (q ▸ k)).trans (S.rep.kept a o k)
  · obtain ⟨h1, h2, o, e', r⟩ := S.rep.obj a ao e
    exact ⟨h1, h2, o, (hs'.2 a fun q => by rw [q, S.Lhp] at e; cases e).trans e', r⟩
  · rcases h.look (by rw [S.names]; exact c.nodup) hy with ⟨rfl, rfl⟩ | ⟨q, hy'⟩
    · exact ⟨val, if_pos rfl, rfl⟩
    · obtain ⟨u, hu, hu'⟩ := hm y w hy'
      exact ⟨u, (if_neg q).trans hu, hu'⟩
  · rw [h.names, S.names]
  · intro b o hb e; exact (hs'.2 b hb).trans e

/-! what follows, folded -/
@[reducible] def Nx (c : Cx) (rest : List Stmt) (P : Fl → Loc → Hp → Prop) : Fl → Loc → Hp → Prop
  | .next, l, h' => TSs c rest l h' P
  | .brk, l, h' => P .brk l h'
  | .cont, l, h' => P .cont l h'
  | .ret v, l, h' => P (.ret v) l h'
@[reducible] def Rt (P : PV → Hp → Prop) : Fl → Loc → Hp → Prop
  | .next, _, h => P .none h
  | .ret v, _, h => P v h
  | .brk, _, _ => False
  | .cont, _, _ => False
@[reducible] def KA (x : Str) (loc : Loc) (P : Fl → Loc → Hp → Prop) : PV → Hp → Prop := fun v h1 => ∃ loc', SetL x v loc loc' ∧ P .next loc' h1
@[reducible] def KI (c : Cx) (body orelse : List Stmt) (loc : Loc) (P : Fl → Loc → Hp → Prop) : Bool → Hp → Prop := fun b h1 => IfQ b (TSs c body loc h1 P) (TSs c orelse loc h1 P)
@[reducible] def KR (loc : Loc) (P : Fl → Loc → Hp → Prop) : PV → Hp → Prop := fun v h1 => P (.ret v) loc h1
@[reducible] def KE (loc : Loc) (P : Fl → Loc → Hp → Prop) : PV → Hp → Prop := fun v h1 => (∀ a, v ≠ .ref a) ∧ P .next loc h1
@[reducible] def KN (loc : Loc) (P : Fl → Loc → Hp → Prop) : Hp → Prop := fun h => P .next loc h
@[reducible] def KSa (c : Cx) (name : Str) (v : PV) (loc : Loc) (P : Fl → Loc → Hp → Prop) : PV → Hp → Prop := fun ov h2 => Sat c ov name v loc h2 (KN loc P)
@[reducible] def KSv (c : Cx) (o : Expr) (name : Str) (loc : Loc) (P : Fl → Loc → Hp → Prop) : PV → Hp → Prop := fun v h1 => TE c o loc h1 (KSa c name v loc P)
@[reducible] def KIb (c : Cx) (op : Operator) (x : Str) (v0 : PV) (loc : Loc) (P : Fl → Loc → Hp → Prop) : PV → Hp → Prop := fun v h1 => Ibin c op v0 v loc h1 (KA x loc P)
@[reducible] def KAa4 (c : Cx) (ov : PV) (name : Str) (loc : Loc) (P : Fl → Loc → Hp → Prop) : PV → Hp → Prop := fun r h4 => Sat c ov name r loc h4 (KN loc P)
@[reducible] def KAa3 (c : Cx) (op : Operator) (ov old : PV) (name : Str) (loc : Loc) (P : Fl → Loc → Hp → Prop) : PV → Hp → Prop := fun v h3 => Ibin c op old v loc h3 (KAa4 c ov name loc P)
@[reducible] def KAa2 (c : Cx) (op : Operator) (value : Expr) (ov : PV) (name : Str) (loc : Loc) (P : Fl → Loc → Hp → Prop) : PV → Hp → Prop := fun old h2 => TE c value loc h2 (KAa3 c op ov old name loc P)
@[reducible] def KAa (c : Cx) (op : Operator) (value : Expr) (name : Str) (loc : Loc) (P : Fl → Loc → Hp → Prop) : PV → Hp → Prop := fun ov h1 => Atr c ov name loc h1 (KAa2 c op value ov name loc P)
@[reducible] def KAs (loc : Loc) (P : Fl → Loc → Hp → Prop) : Bool → Hp → Prop := fun b h1 => Req (b = true) (P .next loc h1)

theorem Ss_nil {P : Fl → Loc → Hp → Prop} (h : P .next loc hp) : TSs c [] loc hp P := fun K s S => wpAny_execs_nil ⟨loc, hp, S, h⟩
theorem Ss_cons {st : Stmt} {rest : List Stmt} {P : Fl → Loc → Hp → Prop} (h : TS c st loc hp (Nx c rest P)) :
    TSs c (st :: rest) loc hp P := fun K s S =>
  wpAny_execs_cons (wpAny_mono (h K s S) (fun f s' hh => by
    obtain ⟨l, h', S', p⟩ := hh
    cases f with
    | next => exact p K s' S'
    | brk => exact ⟨l, h', S', p⟩
    | cont => exact ⟨l, h', S', p⟩
    | ret v => exact ⟨l, h', S', p⟩) fun _ _ x => x)

theorem S_assign {x : Str} {value : Expr} {pos pos' : Pos} {P : Fl → Loc → Hp → Prop} (h : TE c value loc hp (KA x loc P))
    (hs : swapsWith value (some (.Name x pos')) pos.line c.env = pure false := by rfl) : TS c (.Assign [.Name x pos'] value pos) loc hp P := fun K s S =>
  wpAny_Assign_Name (wpAny_mono (h K s S) (fun v s1 hh => by obtain ⟨h1, S1, loc', q, p⟩ := hh; exact store_St S1 q fun s' S' _ => ⟨loc', h1, S', p⟩) fun _ _ x => x) hs

theorem S_aug {x : Str} {value : Expr} {op : Operator} {pos pos' : Pos} {v0 : PV} {P : Fl → Loc → Hp → Prop} (hm : (x, some v0) ∈ loc)
    (h : TE c value loc hp (KIb c op x v0 loc P)) : TS c (.AugAssign (.Name x pos') op value pos) loc hp P := by
  intro K s S
  obtain ⟨m, hn, hl⟩ := S.ns
  obtain ⟨u, hu, rfl⟩ := hl x v0 hm
  obtain ⟨h1, h2⟩ := c.locs x (S.mem_names hm)
  exact wpAny_AugAssign_Name (wpAny_loadName_local c.kind h1 hn hu (wpAny_mono (h K s S) (fun v s1 hh => by obtain ⟨h1, S1, q⟩ := hh; exact wpAny_mono (q u v rfl rfl K s1 S1) (fun r s2 hh => by obtain ⟨h2, S2, loc', q', p⟩ := hh; exact store_St S2 q' fun s' S' _ => ⟨loc', h2, S', p⟩) fun _ _ x => x) fun _ _ x => x))

theorem S_sattr {o value : Expr} {name : Str} {pos pos' : Pos} {P : Fl → Loc → Hp → Prop} (h : TE c value loc hp (KSv c o name loc P))
    (hs : swapsWith value (some (o.Attribute name pos')) pos.line c.env = pure false := by rfl) : TS c (.Assign [o.Attribute name pos'] value pos) loc hp P := fun K s S =>
  plainObj_wpAny_Assign_Attribute (wpAny_mono (h K s S) (fun v s1 hh => by obtain ⟨h1, S1, q⟩ := hh; exact wpAny_mono (q K s1 S1) (fun ov s2 hh => by obtain ⟨h2, S2, r⟩ := hh; exact wpAny_mono (r ov v rfl rfl K s2 S2) (fun _ s3 hh => by obtain ⟨h3, S3, p⟩ := hh; exact ⟨loc, h3, S3, p⟩) fun _ _ x => x) fun _ _ x => x) fun _ _ x => x) hs

theorem S_aattr {o value : Expr} {name : Str} {op : Operator} {pos pos' : Pos} {P : Fl → Loc → Hp → Prop}
    (h : TE c o loc hp (KAa c op value name loc P)) :
    TS c (.AugAssign (o.Attribute name pos') op value pos) loc hp P := fun K s S =>
  wpAny_AugAssign_AttributeAny (wpAny_mono (h K s S) (fun ov s1 hh => by obtain ⟨h1, S1, q⟩ := hh; exact wpAny_mono (q ov rfl K s1 S1) (fun old s2 hh => by obtain ⟨h2, S2, q2⟩ := hh; exact wpAny_mono (q2 K s2 S2) (fun v s3 hh => by obtain ⟨h3, S3, q3⟩ := hh; exact wpAny_mono (q3 old v rfl rfl K s3 S3) (fun r s4 hh => by obtain ⟨h4, S4, q4⟩ := hh; exact wpAny_mono (q4 ov r rfl rfl K s4 S4) (fun _ s5 hh => by obtain ⟨h5, S5, p⟩ := hh; exact ⟨loc, h5, S5, p⟩) fun _ _ x => x) fun _ _ x => x) fun _ _ x => x) fun _ _ x => x) fun _ _ x => x)

theorem S_if {test : Expr} {body orelse : List Stmt} {pos : Pos} {P : Fl → Loc → Hp → Prop} (h : TB c test loc hp (KI c body orelse loc P)) :
    TS c (.If test body orelse pos) loc hp P := fun K s S =>
  wpAny_If (wpAny_mono (h K s S) (fun b s1 hh => by
    obtain ⟨h1, S1, p⟩ := hh
    cases b with
    | true => exact p.1 rfl K s1 S1
    | false => exact p.2 rfl K s1 S1) fun _ _ x => x)

theorem S_ret {e : Expr} {pos : Pos} {P : Fl → Loc → Hp → Prop} (h : TE c e loc hp (KR loc P)) : TS c (.Return (some e) pos) loc hp P := fun K s S =>
  wpAny_Return_some (wpAny_mono (h K s S) (fun v s1 hh => by obtain ⟨h1, S1, p⟩ := hh; exact ⟨loc, h1, S1, p⟩) fun _ _ x => x)
theorem S_brk {pos : Pos} {P : Fl → Loc → Hp → Prop} (h : P .brk loc hp) : TS c (.Break pos) loc hp P := fun K s S => wpAny_Break ⟨loc, hp, S, h⟩
theorem S_cont {pos : Pos} {P : Fl → Loc → Hp → Prop} (h : P .cont loc hp) : TS c (.Continue pos) loc hp P := fun K s S => wpAny_Continue ⟨loc, hp, S, h⟩

theorem er_not_ref {v : Value} (h : ∀ a, er v ≠ .ref a) : ∀ a, v ≠ .ref a := fun a q => h a (by rw [q]; rfl)
theorem S_expr {e : Expr} {pos : Pos} {P : Fl → Loc → Hp → Prop} (h : TE c e loc hp (KE loc P))
    (hs : swapsWith e Option.none pos.line c.env = pure false := by rfl) : TS c (.Expr e pos) loc hp P := fun K s S =>
  wpAny_Expr (wpAny_mono (h K s S) (fun v s1 hh => by
    obtain ⟨h1, S1, q, p⟩ := hh
    have := er_not_ref q
    cases v <;> first | exact absurd rfl (this _) | exact ⟨loc, h1, S1, p⟩) fun _ _ x => x) (by
    show (c.env.scope.kind == .module && _) = false
    rw [c.kind]; rfl) hs

theorem S_assert {test : Expr} {pos : Pos} {P : Fl → Loc → Hp → Prop} (h : TB c test loc hp (KAs loc P)) : TS c (.Assert test Option.none pos) loc hp P := fun K s S =>
  wpAny_Assert_new c.room.handled (wpAny_mono (h K s S) (fun b s1 hh => by
    obtain ⟨h1, S1, q, p⟩ := hh
    subst q; exact ⟨loc, h1, S1, p⟩) fun _ _ x => x)

/-- what a loop's body hands back -/
def Turn (P : Fl → Loc → Hp → Prop) (again : Loc → Hp → Prop) : Fl → Loc → Hp → Prop
  | .next, l, h => again l h
  | .cont, l, h => again l h
  | .brk, l, h => P .next l h
  | .ret v, l, h => P (.ret v) l h

theorem S_while {test : Expr} {body : List Stmt} {pos : Pos} {P : Fl → Loc → Hp → Prop} (I : Nat → Loc → Hp → Prop) (n : Nat) (h0 : I n loc hp)
    (turn : ∀ n loc hp, I n loc hp → TB c test loc hp fun b h1 => IfQ b (TSs c body loc h1 (Turn P fun l h => ∃ m, m < n ∧ I m l h)) (P .next loc h1)) :
    TS c (.While test body [] pos) loc hp P := fun K s S => by
  refine wpAny_While (codeAny_mono (codeAny_whileLoop (R := fun r s' => match r with | .ok f => ∃ l h, St c K l h s' ∧ P (erF f) l h | .error _ => False)
    (fun n s' => ∃ l h, St c K l h s' ∧ I n l h) (fun n s' ⟨l, h, S', hI⟩ => ?_) n ⟨loc, hp, S, h0⟩) fun r s' q => ?_)
  · refine wpAny_mono (turn n l h hI K s' S') (fun b s1 hh => ?_) fun _ _ x => x.elim
    obtain ⟨h1, S1, p1, p2⟩ := hh
    cases b with
    | true =>
      refine wpAny_mono (p1 rfl K s1 S1) (fun f s2 hh => ?_) fun _ _ x => x.elim
      obtain ⟨l2, h2, S2, q⟩ := hh
      cases f with
      | next => obtain ⟨m, hm, hI'⟩ := q; exact ⟨m, hm, l2, h2, S2, hI'⟩
      | cont => obtain ⟨m, hm, hI'⟩ := q; exact ⟨m, hm, l2, h2, S2, hI'⟩
      | brk => exact ⟨l2, h2, S2, q⟩
      | ret v => exact ⟨l2, h2, S2, q⟩
    | false => exact wpAny_execs_nil ⟨l, h1, S1, p2 rfl⟩
  · cases r with
    | ok f => exact q
    | error e => exact q.elim

/-- a loop over an iterator at I -/
theorem loop_core {x : Str} {px : Pos} {body : List Stmt} {I : Addr} {n : Nat} {Pv : Nat → PV → Prop} {Stt : Nat → Heap → Prop} {P : Fl → Loc → Hp → Prop} (J : Nat → Loc → Hp → Prop)
    (hob : ∀ i h, Stt i h → ∃ o, h.get? I = some o)
    (hfr : ∀ i h h', Stt i h → (∀ o, h.get? I = some o → h'.get? I = some o) → Stt i h')
    (item : ∀ i loc hp K s, i < n → J i loc hp → St c K loc hp s → Stt i s.heap → ∀ (Q : Option Value → Shared → Prop) (E : Value → Shared → Prop),
      (∀ v h' tk, Pv i (er v) → Stt (i + 1) h' → (∀ b o, b ≠ I → s.heap.get? b = some o → h'.get? b = some o) → Q (some v) { s with heap := h', toks := tk }) → wpAny c.M c.A (pyNext (.ref I)) Q E s)
    (fin : ∀ loc hp K s, J n loc hp → St c K loc hp s → Stt n s.heap → ∀ (Q : Option Value → Shared → Prop) (E : Value → Shared → Prop),
      (∀ h' tk, (∀ b o, b ≠ I → s.heap.get? b = some o → h'.get? b = some o) → Q Option.none { s with heap := h', toks := tk }) → wpAny c.M c.A (pyNext (.ref I)) Q E s)
    (turn : ∀ i loc hp v, i < n → J i loc hp → Pv i v → ∃ loc', SetL x v loc loc' ∧ TSs c body loc' hp (Turn P (J (i + 1))))
    (done : ∀ loc hp, J n loc hp → P .next loc hp)
    {K : Kp} {s : Shared} (S : St c K loc hp s) (h0 : J 0 loc hp) (hst : Stt 0 s.heap) (hIK : ∀ o, ¬ K I o) (hI0 : c.g.h₀.get? I = Option.none) (hIL : I ≠ c.env.locals) (hIh : hp I = Option.none) :
    codeAny c.M c.A (.forLoop (.Name x px) (.ref I) body [] c.env) (fun r s' => match r with | .ok f => ∃ l h, St c K l h s' ∧ P (erF f) l h | .error _ => False) s := by
  refine codeAny_forLoop (fun k s' => ∃ i l h, k = n + 1 - i ∧ i ≤ n ∧ J i l h ∧ St c K l h s' ∧ Stt i s'.heap ∧ h I = Option.none) ?_ (n + 1) ⟨0, loc, hp, rfl, Nat.zero_le _, h0, S, hst, hIh⟩
  rintro k s' ⟨i, l, h, rfl, hi, hJ, S', hst', hh⟩
  have but : ∀ {h' : Heap} (tk : Nat), (∀ b o, b ≠ I → s'.heap.get? b = some o → h'.get? b = some o) → St c K l h { s' with heap := h', toks := tk } := by
    intro h' tk hk
    obtain ⟨m, hn, hm⟩ := S'.ns
    refine ⟨⟨fun a o e => hk a o (fun q => by rw [q, hI0] at e; cases e) (S'.rep.base a o e), fun a o k => hk a o (fun q => hIK o (q ▸ k)) (S'.rep.kept a o k), fun a ao e => ?_, ?_⟩, ⟨m, ?_, hm⟩, S'.LK, S'.Lhp, S'.names, S'.os, S'.gens⟩
    · obtain ⟨h1, h2, o, e', r⟩ := S'.rep.obj a ao e
      exact ⟨h1, h2, o, hk a o (fun q => by rw [q, hh] at e; cases e) e', r⟩
    · obtain ⟨o, es, ep, ho, r⟩ := hn
      exact Nat.le_trans c.above (Nat.le_of_lt (Heap.lt_size (hk _ _ (Ne.symm hIL) ho)))
    · obtain ⟨o, es, ep, ho, r⟩ := hn
      exact ⟨o, es, ep, hk _ _ (Ne.symm hIL) ho, r⟩
  by_cases hlt : i < n
  · refine item i l h K s' hlt hJ S' hst' _ _ fun v h' tk hv hst1 hk => ?_
    have S1 := but tk hk
    obtain ⟨l', hset, hbody⟩ := turn i l h (er v) hlt hJ hv
    refine wpAny_assign_Name (store_St S1 hset fun s2 S2 hk2 => ?_)
    obtain ⟨oI, hoI⟩ := hob _ _ hst1
    have hoI2 : s2.heap.get? I = some oI := hk2 I oI hIL hoI
    have hst2 : Stt (i + 1) s2.heap := hfr _ _ _ hst1 fun o e => hk2 I o hIL e
    have S3 : St c (fun b o => K b o ∨ (b = I ∧ o = oI)) l' h s2 := by
      refine ⟨⟨S2.rep.base, fun a o k => ?_, fun a ao e => ?_, S2.rep.size⟩, S2.ns, fun o k => ?_, S2.Lhp, S2.names, S2.os, S2.gens⟩
      · rcases k with k | ⟨rfl, rfl⟩
        · exact S2.rep.kept a o k
        · exact hoI2
      · obtain ⟨h1, h2, h3⟩ := S2.rep.obj a ao e
        refine ⟨h1, fun o k => ?_, h3⟩
        rcases k with k | ⟨q, _⟩
        · exact h2 o k
        · rw [q, hh] at e; cases e
      · rcases k with k | ⟨q, _⟩
        · exact S2.LK o k
        · exact hIL q.symm
    refine wpAny_mono (hbody _ s2 S3) (fun f s4 hh => ?_) fun _ _ x => x.elim
    obtain ⟨l4, h4, S4, q⟩ := hh
    have hst4 : Stt (i + 1) s4.heap := hfr _ _ _ hst2 fun o e => by
      rw [hoI2] at e; cases e; exact S4.rep.kept _ _ (.inr ⟨rfl, rfl⟩)
    have hh4 : h4 I = Option.none := by
      cases q : h4 I with
      | none => rfl
      | some ao => exact absurd (.inr ⟨rfl, rfl⟩) ((S4.rep.obj _ _ q).2.1 oI)
    have S5 : St c K l4 h4 s4 := S4.kle fun _ _ k => .inl k
    cases f with
    | next => exact ⟨n + 1 - (i + 1), by lia, i + 1, l4, h4, rfl, hlt, q, S5, hst4, hh4⟩
    | cont => exact ⟨n + 1 - (i + 1), by lia, i + 1, l4, h4, rfl, hlt, q, S5, hst4, hh4⟩
    | brk => exact ⟨l4, h4, S5, q⟩
    | ret v => exact ⟨l4, h4, S5, q⟩
  · obtain rfl : i = n := by lia
    refine fin l h K s' hJ S' hst' _ _ fun h' tk hk => wpAny_execs_nil ⟨l, h, but tk hk, done l h hJ⟩

/-- for over a list known -/
def ForL (c : Cx) (x : Str) (body : List Stmt) (a : Addr) (vs : List PV) (P : Fl → Loc → Hp → Prop) (loc : Loc) (hp : Hp) : Prop :=
  ∃ J : Nat → Loc → Hp → Prop, J 0 loc hp ∧ (∀ i l h, J i l h → h a = some (.list vs)) ∧
    (∀ i l h v, vs[i]? = some v → J i l h → ∃ l', SetL x v l l' ∧ TSs c body l' h (Turn P (J (i + 1)))) ∧ (∀ l h, J vs.length l h → P .next l h)

theorem new_facts {K : Kp} {s : Shared} (S : St c K loc hp s) {s2 : Shared} {o : Obj} (e : s2 = { s with heap := s.heap.push o }) :
    St c K loc hp s2 ∧ (∀ o, ¬ K s.heap.objs.size o) ∧ c.g.h₀.get? s.heap.objs.size = Option.none ∧ s.heap.objs.size ≠ c.env.locals ∧ hp s.heap.objs.size = Option.none := by
  subst e
  have no : ∀ o, s.heap.get? s.heap.objs.size = some o → False := fun o q => Nat.lt_irrefl _ (Heap.lt_size q)
  refine ⟨S.ext (fun b o e => Heap.get?_push_of_some _ e) s.toks, fun o k => no o (S.rep.kept _ _ k), ?_, ?_, ?_⟩
  · cases q : c.g.h₀.get? s.heap.objs.size with
    | none => rfl
    | some o => exact (no o (S.rep.base _ _ q)).elim
  · intro q
    obtain ⟨m, ⟨o, _, _, ho, _⟩, _⟩ := S.ns
    exact no o (q ▸ ho)
  · cases q : hp s.heap.objs.size with
    | none => rfl
    | some ao => obtain ⟨_, _, o, e, _⟩ := S.rep.obj _ _ q; exact (no o e).elim

theorem S_for_list {x : Str} {px pos : Pos} {iter : Expr} {body : List Stmt} {P : Fl → Loc → Hp → Prop} (h : TE c iter loc hp fun v h1 => ∃ a vs, v = .ref a ∧ ForL c x body a vs P loc h1)
    (hs : ∀ x, foldedSetIterable iter c.env x = pure x := by intro _; rfl) : TS c (.For (.Name x px) iter body [] pos) loc hp P := fun K s S => by
  refine wpAny_For (wpAny_mono (h K s S) (fun v s1 hh => ?_) fun _ _ x => x) hs
  obtain ⟨h1, S1, a, vs, hv, J, j0, jl, jt, jd⟩ := hh
  obtain rfl := er_ref hv
  obtain ⟨o, ho, ⟨xs, n, rfl, hxs⟩, _⟩ := S1.obj_at (jl _ _ _ j0)
  refine wpAny_pyIter_list (items := xs.toArray) ⟨_, ho, rfl, _, rfl⟩ ?_
  obtain ⟨S2, f1, f2, f3, f4⟩ := new_facts S1 (o := { cls := .type "list_iterator", data := .fields #[.ref a, .int 0 0] }) rfl
  refine codeAny_mono (loop_core (n := vs.length) (Pv := fun i v => vs[i]? = some v) (Stt := fun i h => h.IsListIter s1.heap.objs.size a i) J ?_ ?_ ?_ ?_ ?_ jd S2 j0 ⟨_, Heap.get?_push_size _ rfl, rfl, rfl⟩ f1 f2 f3 f4) fun r s' q => ?_
  · rintro i h ⟨o, ho, _⟩; exact ⟨o, ho⟩
  · rintro i h h' ⟨o, ho, r⟩ hk; exact ⟨o, hk o ho, r⟩
  · intro i l hq K' s' hi hJ S' hst Q E hQ
    obtain ⟨o', ho', ⟨ys, n', rfl, hys⟩, _⟩ := S'.obj_at (jl _ _ _ hJ)
    have hlen : ys.length = vs.length := by rw [← hys]; simp
    obtain ⟨y, hy⟩ : ∃ y, ys[i]? = some y := ⟨_, List.getElem?_eq_getElem (by lia : i < ys.length)⟩
    refine wpAny_pyNext_list_item (items := ys.toArray) (x := y) hst ⟨_, ho', rfl, _, rfl⟩ (by simp [hy]) fun h' hit hsb => hQ _ h' s'.toks ?_ hit fun b o hb e => (hsb.2 b hb).trans e
    show vs[i]? = some (er _)
    rw [← hys, List.getElem?_map, hy]; rfl
  · intro l hq K' s' hJ S' hst Q E hQ
    obtain ⟨o', ho', ⟨ys, n', rfl, hys⟩, _⟩ := S'.obj_at (jl _ _ _ hJ)
    have hlen : ys.length = vs.length := by rw [← hys]; simp
    exact wpAny_pyNext_list_end (items := ys.toArray) c.room.handled hst ⟨_, ho', rfl, _, rfl⟩ (by simp [hlen]) fun h' he => hQ h' s'.toks fun b o hb e => he b o hb e
  · intro i l hq v hi hJ hv
    exact jt i l hq v hv hJ
  · cases r with
    | ok f => exact q
    | error e => exact q.elim

/-- for over a text -/
def ForS (c : Cx) (x : Str) (body : List Stmt) (t : List Nat) (P : Fl → Loc → Hp → Prop) (loc : Loc) (hp : Hp) : Prop :=
  ∃ J : Nat → Loc → Hp → Prop, J 0 loc hp ∧
    (∀ i l h k, t[i]? = some k → J i l h → ∃ l', SetL x (.str [k]) l l' ∧ TSs c body l' h (Turn P (J (i + 1)))) ∧ (∀ l h, J t.length l h → P .next l h)

theorem S_for_str {x : Str} {px pos : Pos} {iter : Expr} {body : List Stmt} {P : Fl → Loc → Hp → Prop} (h : TE c iter loc hp fun v h1 => ∃ t, v = .str t ∧ ForS c x body t P loc h1)
    (hs : ∀ x, foldedSetIterable iter c.env x = pure x := by intro _; rfl) : TS c (.For (.Name x px) iter body [] pos) loc hp P := fun K s S => by
  refine wpAny_For (wpAny_mono (h K s S) (fun v s1 hh => ?_) fun _ _ x => x) hs
  obtain ⟨h1, S1, t, hv, J, j0, jt, jd⟩ := hh
  obtain ⟨tk, rfl⟩ := er_str hv
  have key : ∀ (T : String) (W : Walks c.g.prog c.g.w c.A s1.heap.objs.size [s1.heap.objs.size] [s1.heap.objs.size] (⟨t.toArray⟩ : Str).cps.size (SignAt ⟨t.toArray⟩) (fun i h => h.IsStrIter s1.heap.objs.size T ⟨t.toArray⟩ tk i)) (o : Obj),
      (s1.heap.push o).IsStrIter s1.heap.objs.size T ⟨t.toArray⟩ tk 0 →
      codeAny c.M c.A (.forLoop (.Name x px) (.ref s1.heap.objs.size) body [] c.env) (fun r s' => match r with | .ok f => ∃ l h, St c K l h s' ∧ P (erF f) l h | .error e => cameBackBy c.M c.A c.env noE e s') { s1 with heap := s1.heap.push o } := by
    intro T W o hst
    obtain ⟨S2, f1, f2, f3, f4⟩ := new_facts S1 (o := o) rfl
    have hsz : (⟨t.toArray⟩ : Str).cps.size = t.length := by simp
    rw [hsz] at W
    refine codeAny_mono (loop_core (n := t.length) (Pv := fun i v => ∃ k, t[i]? = some k ∧ v = .str [k]) (Stt := fun i h => h.IsStrIter s1.heap.objs.size T ⟨t.toArray⟩ tk i) J ?_ ?_ ?_ ?_ ?_ jd S2 j0 hst f1 f2 f3 f4) fun r s' q => ?_
    · rintro i h ⟨o, ho, _⟩; exact ⟨o, ho⟩
    · rintro i h h' ⟨o, ho, r⟩ hk; exact ⟨o, hk o ho, r⟩
    · intro i l hq K' s' hi hJ S' hst Q E hQ
      refine W.item i s' Q E hi hst fun v h' tk' hv hst' hk => hQ v h' tk' ?_ hst' fun b o hb e => hk b o (by simpa using hb) e
      obtain ⟨k, u, hk', rfl⟩ := hv
      exact ⟨k, by simpa using hk', rfl⟩
    · intro l hq K' s' hJ S' hst Q E hQ
      exact W.done s' Q E hst fun h' tk' hk => hQ h' tk' fun b o hb e => hk b o (by simpa using hb) e
    · rintro i l hq v hi hJ ⟨k, hk, rfl⟩
      exact jt i l hq k hk hJ
    · cases r with
      | ok f => exact q
      | error e => exact q.elim
  cases ha : (⟨t.toArray⟩ : Str).cps.all (· < 128)
  · exact wpAny_pyIter_wide ha (key _ (Walks.strWide c.room.handled _ _ _) _ ⟨_, Heap.get?_push_size _ rfl, rfl, rfl⟩)
  · exact wpAny_pyIter_ascii ha (key _ (Walks.strAscii c.room.handled _ _ _) _ ⟨_, Heap.get?_push_size _ rfl, rfl, rfl⟩)

/-- for over a range object, by ones up or down -/
def ForR (c : Cx) (x : Str) (body : List Stmt) (a st : Int) (n : Nat) (P : Fl → Loc → Hp → Prop) (loc : Loc) (hp : Hp) : Prop :=
  ∃ J : Nat → Loc → Hp → Prop, J 0 loc hp ∧
    (∀ i l h, i < n → J i l h → ∃ l', SetL x (.int (a + i * st)) l l' ∧ TSs c body l' h (Turn P (J (i + 1)))) ∧ (∀ l h, J n l h → P .next l h)

theorem S_for_range {x : Str} {px pos : Pos} {iter : Expr} {body : List Stmt} {P : Fl → Loc → Hp → Prop}
    (h : TE c iter loc hp fun v h1 => ∃ (r : Addr) (a b st : Int) (n : Nat) (h0 : Hp), v = .ref r ∧ h1 r = some (.range a b st) ∧ Builtin.Range.small a b st = true ∧ Builtin.Range.rangeSize a b st = (n : Int) ∧ Hp.le h0 h1 ∧ ForR c x body a st n P loc h0)
    (hs : ∀ x, foldedSetIterable iter c.env x = pure x := by intro _; rfl) : TS c (.For (.Name x px) iter body [] pos) loc hp P := fun K s S => by
  refine wpAny_For (wpAny_mono (h K s S) (fun v s1 hh => ?_) fun _ _ x => x) hs
  obtain ⟨h1, S1, r, a, b, st, n, h0, hv, hr, hsm, hsz, hle, J, j0, jt, jd⟩ := hh
  obtain rfl := er_ref hv
  obtain ⟨o, ho, ⟨t, u, w, rfl⟩, _⟩ := S1.obj_at hr
  refine wpAny_pyIter_range ho hsm ?_
  obtain ⟨S2, f1, f2, f3, f4⟩ := new_facts (S1.le hle) (o := { cls := .type "range_iterator", data := .fields #[rawInt a, rawInt (Builtin.Range.rangeSize a b st), rawInt st] }) rfl
  have W := Walks.range (prog := c.g.prog) (w := c.g.w) c.room.handled s1.heap.objs.size a st n
  refine codeAny_mono (loop_core (n := n) (Pv := fun i v => v = .int (a + i * st)) (Stt := fun i h => IsRangeIter h s1.heap.objs.size (a + (i : Nat) * st) ((n : Int) - (i : Nat)) st) J ?_ ?_ ?_ ?_ ?_ jd S2 j0 ?_ f1 f2 f3 f4) fun r s' q => ?_
  · rintro i h ho; exact ⟨_, ho⟩
  · rintro i h h' ho hk; exact hk _ ho
  · intro i l hq K' s' hi hJ S' hst Q E hQ
    refine W.item i s' Q E hi hst fun v h' tk' hv hst' hk => hQ v h' tk' ?_ hst' fun b o hb e => hk b o (by simpa using hb) e
    obtain ⟨t', rfl⟩ := hv
    rfl
  · intro l hq K' s' hJ S' hst Q E hQ
    exact W.done s' Q E hst fun h' tk' hk => hQ h' tk' fun b o hb e => hk b o (by simpa using hb) e
  · rintro i l hq v hi hJ rfl
    exact jt i l hq hi hJ
  · show Heap.get? _ _ = _
    rw [hsz]
    simpa using Heap.get?_push_size s1.heap (o := { cls := .type "range_iterator", data := .fields #[rawInt a, rawInt (n : Int), rawInt st] }) rfl
  · cases r with
    | ok f => exact q
    | error e => exact q.elim
end
end Mine
end
section
open PySem PySem.W PyProof.Rows PySem.Calls
set_option Elab.async false
set_option autoImplicit false
set_option linter.unusedVariables false
namespace Mine

/-- the contract of a def -/
def FnOk (g : Gl) (d : Nat) (fa : Addr) (as : List PV) (hp : Hp) (P : PV → Hp → Prop) : Prop :=
  ∀ (A : Around) (K : Kp) (s : Shared) (vs : List Value) (R : Result → Shared → Prop), Room A d → RepH g K hp s.heap → s.os = g.os → s.gens = g.gens → vs.map er = as →
    (∀ v s' hp', RepH g K hp' s'.heap → s'.os = g.os → s'.gens = g.gens → P (er v) hp' → R (.ok (.ret v)) s') → codeAny (model g.prog g.w) A (.call (.ref fa) ⟨vs, []⟩) R s

theorem FnOk.mono {g : Gl} {d : Nat} {fa : Addr} {as : List PV} {hp : Hp} {P P' : PV → Hp → Prop} (h : FnOk g d fa as hp P) (hP : ∀ v hp', P v hp' → P' v hp') : FnOk g d fa as hp P' :=
  fun A K s vs R hA hr ho hg hv hR => h A K s vs R hA hr ho hg hv fun v s' hp' r o g p => hR v s' hp' r o g (hP _ _ p)

theorem Room.le {A : Around} {d d' : Nat} (h : Room A d) (hd : d' ≤ d) : Room A d' := ⟨h.handled, by have := h.depth; lia, by have := h.units; lia⟩

section
variable {c : Cx} {loc : Loc} {hp : Hp}

theorem frame_K {K : Kp} {s : Shared} (S : St c K loc hp s) : ∃ oL, s.heap.get? c.env.locals = some oL ∧ RepH c.g (fun a o => K a o ∨ (a = c.env.locals ∧ o = oL)) hp s.heap ∧
    ∀ hp' s', RepH c.g (fun a o => K a o ∨ (a = c.env.locals ∧ o = oL)) hp' s'.heap → s'.os = c.g.os → s'.gens = c.g.gens → St c K loc hp' s' := by
  obtain ⟨m, ⟨oL, es, ep, ho, r⟩, hm⟩ := S.ns
  refine ⟨oL, ho, ⟨S.rep.base, fun a o k => ?_, fun a ao e => ?_, S.rep.size⟩, fun hp' s' R h1 h2 => ?_⟩
  · rcases k with k | ⟨rfl, rfl⟩
    · exact S.rep.kept a o k
    · exact ho
  · obtain ⟨h1, h2, h3⟩ := S.rep.obj a ao e
    refine ⟨h1, fun o k => ?_, h3⟩
    rcases k with k | ⟨q, _⟩
    · exact h2 o k
    · rw [q, S.Lhp] at e; cases e
  · refine ⟨⟨R.base, fun a o k => R.kept a o (.inl k), fun a ao e => let ⟨a1, a2, a3⟩ := R.obj a ao e; ⟨a1, fun o k => a2 o (.inl k), a3⟩, R.size⟩, ⟨m, ⟨oL, es, ep, R.kept _ _ (.inr ⟨rfl, rfl⟩), r⟩, hm⟩, S.LK, ?_, S.names, h1, h2⟩
    cases q : hp' c.env.locals with
    | none => rfl
    | some ao => exact absurd (.inr ⟨rfl, rfl⟩) ((R.obj _ _ q).2.1 oL)

theorem Cal_fn {d : Nat} {fa : Addr} {as : List PV} {P : PV → Hp → Prop} (h : FnOk c.g d fa as hp P) (hd : d ≤ c.d) : Cal c (.ref fa) as loc hp P := by
  intro vs hv K s S
  obtain ⟨oL, ho, R, back⟩ := frame_K S
  refine wpAny_call (h c.A _ s vs _ (c.room.le hd) R S.os S.gens hv fun v s' hp' r o g p => ?_)
  exact ⟨hp', back hp' s' r o g, p⟩

@[reducible] def KTv (v : PV) (P : List PV → Hp → Prop) : List PV → Hp → Prop := fun vs h2 => P (v :: vs) h2
@[reducible] def KTa (c : Cx) (rest : List Expr) (loc : Loc) (P : List PV → Hp → Prop) : PV → Hp → Prop := fun v h1 => TA c rest loc h1 (KTv v P)
@[reducible] def KCl (c : Cx) (f : Value) (loc : Loc) (P : PV → Hp → Prop) : List PV → Hp → Prop := fun vs h2 => Cal c f vs loc h2 P
@[reducible] def KCm (c : Cx) (f : Value) (o : PV) (loc : Loc) (P : PV → Hp → Prop) : List PV → Hp → Prop := fun vs h2 => Cal c f (o :: vs) loc h2 P
@[reducible] def KFn (c : Cx) (es : List Expr) (loc : Loc) (P : PV → Hp → Prop) : PV → Hp → Prop := fun fv h1 => ∃ fa, fv = .ref fa ∧ keepIn (hd.heap_39 c.g.w.params) (.ref fa) = true ∧ TA c es loc h1 (KCl c (.ref fa) loc P)
@[reducible] def KF0 (c : Cx) (loc : Loc) (P : PV → Hp → Prop) : PV → Hp → Prop := fun fv h1 => ∃ fa, fv = .ref fa ∧ keepIn (hd.heap_39 c.g.w.params) (.ref fa) = true ∧ Cal c (.ref fa) [] loc h1 P
@[reducible] def KBi (c : Cx) (es : List Expr) (loc : Loc) (P : PV → Hp → Prop) : PV → Hp → Prop := fun fv h1 => ∃ id, fv = .raw (.builtin id) ∧ TA c es loc h1 (KCl c (.builtin id) loc P)
@[reducible] def KTy (c : Cx) (es : List Expr) (loc : Loc) (P : PV → Hp → Prop) : PV → Hp → Prop := fun fv h1 => ∃ id, fv = .raw (.type id) ∧ TA c es loc h1 (KCl c (.type id) loc P)
theorem TA_nil {P : List PV → Hp → Prop} (h : P [] hp) : TA c [] loc hp P := fun K s pos S => spliced_none ⟨hp, S, h⟩
theorem TA_cons {e : Expr} {rest : List Expr} {P : List PV → Hp → Prop} (h : TE c e loc hp (KTa c rest loc P))
    (he : starEach (e :: rest) c.env = (false, eval e c.env) :: starEach rest c.env := by rfl) : TA c (e :: rest) loc hp P := fun K s pos S =>
  spliced_more (wpAny_mono (h K s S) (fun v s1 hh => by obtain ⟨h1, S1, q⟩ := hh; exact wpAny_mono (q K s1 pos S1) (fun vs s2 hh => by obtain ⟨h2, S2, p⟩ := hh; exact ⟨h2, S2, p⟩) fun _ _ x => x) fun _ _ x => x) he

/-- a call of a text's def or class, with arguments -/
theorem E_call {func e : Expr} {rest : List Expr} {pos : Pos} {P : PV → Hp → Prop}
    (h : TE c func loc hp (KFn c (e :: rest) loc P))
    (hs : eval (func.Call (e :: rest) [] pos) c.env = (do let f ← eval func c.env; callWith pos f [] (backTo pos (starEach (e :: rest) c.env)) (backToKw pos (keywordEach [] c.env))) := by rfl)
    (he : starEach (e :: rest) c.env = (false, eval e c.env) :: starEach rest c.env := by rfl) (hp' : ∀ pos, (backTo pos (starEach rest c.env)).any (·.1) = false := by intro _; rfl) :
    TE c (func.Call (e :: rest) [] pos) loc hp P := fun K s S => by
  refine Call_ (wpAny_mono (h K s S) (fun fv s1 hh => ?_) fun _ _ x => x) hs
  obtain ⟨h1, S1, fa, hf, hk, q⟩ := hh
  obtain rfl := er_ref hf
  refine callWith_K c.g.kin hk (wpAny_mono (q K s1 pos S1) (fun vs s2 hh => by obtain ⟨h2, S2, r⟩ := hh; exact ⟨c.g.kin.keeps S2.rep.base, r vs rfl K s2 S2⟩) fun _ _ x => x) he (hp' pos)
theorem E_call0 {func : Expr} {pos : Pos} {P : PV → Hp → Prop}
    (h : TE c func loc hp (KF0 c loc P))
    (hs : eval (func.Call [] [] pos) c.env = (do let f ← eval func c.env; callWith pos f [] (backTo pos (starEach [] c.env)) (backToKw pos (keywordEach [] c.env))) := by rfl) :
    TE c (func.Call [] [] pos) loc hp P := fun K s S => by
  refine Call_ (wpAny_mono (h K s S) (fun fv s1 hh => ?_) fun _ _ x => x) hs
  obtain ⟨h1, S1, fa, hf, hk, q⟩ := hh
  obtain rfl := er_ref hf
  exact callWith_K0 (c.g.kin.keeps S1.rep.base) hk (q [] rfl K s1 S1)
theorem E_callb {func e : Expr} {rest : List Expr} {pos : Pos} {P : PV → Hp → Prop}
    (h : TE c func loc hp (KBi c (e :: rest) loc P))
    (hs : eval (func.Call (e :: rest) [] pos) c.env = (do let f ← eval func c.env; callWith pos f [] (backTo pos (starEach (e :: rest) c.env)) (backToKw pos (keywordEach [] c.env))) := by rfl)
    (he : starEach (e :: rest) c.env = (false, eval e c.env) :: starEach rest c.env := by rfl) (hp' : ∀ pos, (backTo pos (starEach rest c.env)).any (·.1) = false := by intro _; rfl) :
    TE c (func.Call (e :: rest) [] pos) loc hp P := fun K s S => by
  refine Call_ (wpAny_mono (h K s S) (fun fv s1 hh => ?_) fun _ _ x => x) hs
  obtain ⟨h1, S1, id, hf, q⟩ := hh
  obtain rfl := er_raw hf
  exact PyProof.Rows.callWith_builtin1 (wpAny_mono (q K s1 pos S1) (fun vs s2 hh => by obtain ⟨h2, S2, r⟩ := hh; exact r vs rfl K s2 S2) fun _ _ x => x) he (hp' pos)
theorem E_callt {func e : Expr} {rest : List Expr} {pos : Pos} {P : PV → Hp → Prop}
    (h : TE c func loc hp (KTy c (e :: rest) loc P))
    (hs : eval (func.Call (e :: rest) [] pos) c.env = (do let f ← eval func c.env; callWith pos f [] (backTo pos (starEach (e :: rest) c.env)) (backToKw pos (keywordEach [] c.env))) := by rfl)
    (he : starEach (e :: rest) c.env = (false, eval e c.env) :: starEach rest c.env := by rfl) (hp' : ∀ pos, (backTo pos (starEach rest c.env)).any (·.1) = false := by intro _; rfl) :
    TE c (func.Call (e :: rest) [] pos) loc hp P := fun K s S => by
  refine Call_ (wpAny_mono (h K s S) (fun fv s1 hh => ?_) fun _ _ x => x) hs
  obtain ⟨h1, S1, id, hf, q⟩ := hh
  obtain rfl := er_raw hf
  exact PyProof.Rows.callWith_type1 (wpAny_mono (q K s1 pos S1) (fun vs s2 hh => by obtain ⟨h2, S2, r⟩ := hh; exact r vs rfl K s2 S2) fun _ _ x => x) he (hp' pos)

/-- a class's method, found -/
structure MethOk (F : Frag) (C : Addr) (name : Str) (fa : Addr) : Prop where
  plain : plainGet F C name = true
  find : findIn F (.ref C) name = some (some (.ref fa))
  fn : isFn F (.ref fa) = true
  keep : keepIn F (.ref fa) = true

abbrev MethEq (c : Cx) (o : Expr) (name : Str) (apos pos : Pos) (args : List Expr) : Prop :=
  ∃ pl : Sem Bool, eval ((o.Attribute name apos).Call args [] pos) c.env = (do
          let ov ← eval o c.env
          standAt apos.atName
          let x ← holding [ov] (getMethod ov name pl)
          match x with
            | (f, first) => callWith pos f first (backTo pos (starEach args c.env)) [])

theorem E_meth {o e : Expr} {rest : List Expr} {name : Str} {apos pos : Pos} {P : PV → Hp → Prop}
    (h : TE c o loc hp fun ov h1 => ∃ x C dx fs fa, ov = .ref x ∧ h1 x = some (.inst C dx) ∧ h1 dx = some (.flds fs) ∧ NoKey name fs ∧ MethOk (hd.heap_39 c.g.w.params) C name fa ∧
      TA c (e :: rest) loc h1 fun vs h2 => Cal c (.ref fa) (.ref x :: vs) loc h2 P)
    (hs : MethEq c o name apos pos (e :: rest) := by exact ⟨_, rfl⟩)
    (he : starEach (e :: rest) c.env = (false, eval e c.env) :: starEach rest c.env := by rfl) (hp' : ∀ pos, (backTo pos (starEach rest c.env)).any (·.1) = false := by intro _; rfl) :
    TE c ((o.Attribute name apos).Call (e :: rest) [] pos) loc hp P := fun K s S => by
  obtain ⟨pl, hs⟩ := hs
  refine MethodCall_ (pl := pl) (wpAny_mono (h K s S) (fun ov s1 hh => ?_) fun _ _ x => x) hs
  obtain ⟨h1, S1, x, C, dx, fs, fa, hov, hx, hdx, hk, ok, q⟩ := hh
  obtain rfl := er_ref hov
  obtain ⟨m, F, hm⟩ := S1.frm
  obtain ⟨ob, hob, rob, _⟩ := S1.obj_at hx
  obtain ⟨od, hod, ⟨es, n, rfl, En⟩, _⟩ := S1.obj_at hdx
  obtain rfl : ob = instObj C dx := rob
  refine method_inst F c.g.kin (InstAt.mk hob rfl rfl hod) ok.plain ok.find ok.fn (En.none hk) ?_
  exact callWith_K c.g.kin ok.keep (wpAny_mono (q K s1 pos S1) (fun vs s2 hh => by obtain ⟨h2, S2, r⟩ := hh; exact ⟨c.g.kin.keeps S2.rep.base, r (.ref x :: vs) rfl K s2 S2⟩) fun _ _ x => x) he (hp' pos)

theorem E_meth0 {o : Expr} {name : Str} {apos pos : Pos} {P : PV → Hp → Prop}
    (h : TE c o loc hp fun ov h1 => ∃ x C dx fs fa, ov = .ref x ∧ h1 x = some (.inst C dx) ∧ h1 dx = some (.flds fs) ∧ NoKey name fs ∧ MethOk (hd.heap_39 c.g.w.params) C name fa ∧ Cal c (.ref fa) [.ref x] loc h1 P)
    (hs : MethEq c o name apos pos [] := by exact ⟨_, rfl⟩) :
    TE c ((o.Attribute name apos).Call [] [] pos) loc hp P := fun K s S => by
  obtain ⟨pl, hs⟩ := hs
  refine MethodCall_ (pl := pl) (wpAny_mono (h K s S) (fun ov s1 hh => ?_) fun _ _ x => x) hs
  obtain ⟨h1, S1, x, C, dx, fs, fa, hov, hx, hdx, hk, ok, q⟩ := hh
  obtain rfl := er_ref hov
  obtain ⟨m, F, hm⟩ := S1.frm
  obtain ⟨ob, hob, rob, _⟩ := S1.obj_at hx
  obtain ⟨od, hod, ⟨es, n, rfl, En⟩, _⟩ := S1.obj_at hdx
  obtain rfl : ob = instObj C dx := rob
  refine method_inst F c.g.kin (InstAt.mk hob rfl rfl hod) ok.plain ok.find ok.fn (En.none hk) ?_
  exact callWith_K0 (c.g.kin.keeps S1.rep.base) ok.keep (q [.ref x] rfl K s1 S1)

theorem E_append {o e : Expr} {apos pos : Pos} {P : PV → Hp → Prop}
    (h : TE c o loc hp fun ov h1 => ∃ a vs, ov = .ref a ∧ h1 a = some (.list vs) ∧ TE c e loc h1 fun v h2 => ∃ vs', h2 a = some (.list vs') ∧ vs'.length ≤ 1000 ∧ P .none (h2.upd a (.list (vs' ++ [v]))))
    (hs : MethEq c o "append" apos pos [e] := by exact ⟨_, rfl⟩)
    (he : starEach [e] c.env = [(false, eval e c.env)] := by rfl) :
    TE c ((o.Attribute "append" apos).Call [e] [] pos) loc hp P := fun K s S => by
  obtain ⟨pl, hs⟩ := hs
  refine MethodCall_ (pl := pl) (wpAny_mono (h K s S) (fun ov s1 hh => ?_) fun _ _ x => x) hs
  obtain ⟨h1, S1, a, vs, hov, ha, q⟩ := hh
  obtain rfl := er_ref hov
  obtain ⟨ob, hob, ⟨xs, n, rfl, _⟩, _⟩ := S1.obj_at ha
  refine getMethod_list_append hob rfl rfl ?_
  refine callWith_method1 (e := e) (rest := []) ?_ he rfl
  refine spliced_more (wpAny_mono (q K s1 S1) (fun v s2 hh => ?_) fun _ _ x => x) he
  obtain ⟨h2, S2, vs', ha', hl, p⟩ := hh
  refine spliced_none ?_
  obtain ⟨m, F, hm⟩ := S2.frm
  obtain ⟨ob, hob, ⟨ys, n', rfl, hys⟩, hin⟩ := S2.obj_at ha'
  obtain ⟨news', U⟩ := exists_upd (o' := W.listOf (ys.toArray.push v) (n' + 1)) (allN_nodup _ _ _) hin
  refine append_K F news_allN U (fun h' F' N' => ⟨_, S2.change hm ha' U F' N' (ao' := .list (vs' ++ [er v])) ⟨ys ++ [v], n' + 1, ?_, ?_⟩ _, p⟩) ?_
  · simp [W.listOf]
  · rw [List.map_append, hys]; rfl
  · have : ys.length = vs'.length := by rw [← hys]; simp
    rw [sizeLine_eq]; simp; lia

theorem lookup_mem {l : List (Str × Value)} {x : Str} {v : Value} (hn : (l.map (·.1)).Nodup) (h : (x, v) ∈ l) : l.lookup x = some v := by
  induction l with
  | nil => cases h
  | cons p r ih =>
    rw [List.map_cons] at hn
    obtain ⟨h1, h2⟩ := List.nodup_cons.mp hn
    obtain ⟨y, u⟩ := p
    rcases List.mem_cons.mp h with e | e
    · cases e; simp [List.lookup_cons]
    · have : (x == y) = false := by
        rw [beq_eq_false_iff_ne]; rintro rfl; exact h1 (List.mem_map.mpr ⟨_, e, rfl⟩)
      rw [List.lookup_cons, this]; exact ih h2 e
theorem zip_look {ns : List Str} {vs : List Value} {x : Str} {v : PV} (hn : ns.Nodup) (hl : vs.length = ns.length) (h : (x, v) ∈ ns.zip (vs.map er)) :
    ∃ u, (ns.zip vs).reverse.lookup x = some u ∧ er u = v := by
  rw [List.zip_map_right] at h
  obtain ⟨⟨y, u⟩, hm, e⟩ := List.mem_map.mp h
  cases e
  refine ⟨u, lookup_mem ?_ (List.mem_reverse.mpr hm), rfl⟩
  rw [List.map_reverse, List.map_fst_zip (Nat.le_of_eq hl.symm)]
  exact (List.reverse_perm ns).nodup_iff.mpr hn

theorem all_cons {n : Nat} {p : List Value → Prop} (h : ∀ a (r : List Value), r.length = n → p (a :: r)) : ∀ vs : List Value, vs.length = n + 1 → p vs
  | [], e => Nat.noConfusion e
  | a :: r, e => h a r (Nat.succ.inj e)
theorem all_nil {p : List Value → Prop} (h : p []) : ∀ vs : List Value, vs.length = 0 → p vs
  | [], _ => h
  | _ :: _, e => Nat.noConfusion e
/-- a def's frame -/
theorem fn_intro {g : Gl} {d : Nat} {fa : Addr} {as : List PV} {P : PV → Hp → Prop} {name qual : Str} {params : Arguments} {body : List Stmt} {scope : Scope} {dV kV doc pm cdv ct oc : Value} {an od : Option Addr} {osl : Array (Option Value)}
    (ns lns : List Str)
    (ho : (hd.heap_39 g.w.params).lookup fa = some ⟨oc, od, .func (fnOf name qual params body scope dV kV doc pm an cdv ct), osl⟩) (hcd : codeIn (hd.heap_39 g.w.params) cdv qual = true)
    (hbind : ∀ vs : List Value, vs.length = ns.length → bindArgs (fnOf name qual params body scope dV kV doc pm an cdv ct) ⟨vs, []⟩ = pure (ns.zip vs))
    (hlen : as.length = ns.length)
    (hloc : ((ns ++ lns).all fun x => decide (scope.names.lookup x = some .local) && !(x == ("__debug__" : Str))) = true) (hnd : (ns ++ lns).Nodup)
    (h : ∀ c : Cx, c.g = g → c.d = d → c.env.scope = scope → TSs c body ((ns.zip as).map (fun p => (p.1, some p.2)) ++ lns.map (fun x => (x, Option.none))) hp (Rt P))
    (hco : scope.isCoroutine = false := by rfl) (hgen : scope.isGenerator = false := by rfl) (hk : scope.kind = .function := by rfl)
    (hcell : ∀ x ∈ scope.names, x.2 ≠ .cell := by decide) : FnOk g (d + 1) fa as hp P := by
  intro A K s vs R hA hr hos hgens hv hR
  have hvl : vs.length = ns.length := by rw [← hlen, ← hv, List.length_map]
  have ok := List.all_eq_true.mp hloc
  have loc1 : ∀ x ∈ ns ++ lns, scope.names.lookup x = some .local := fun x hx => by
    have := ok x hx; simp only [Bool.and_eq_true, decide_eq_true_eq] at this; exact this.1
  have loc2 : ∀ x ∈ ns ++ lns, (x == ("__debug__" : Str)) = false := fun x hx => by
    have := ok x hx; simp only [Bool.and_eq_true, Bool.not_eq_true'] at this; exact this.2
  have X := g.kin.keeps hr.base
  refine codeAny_call_def (fd := fnOf name qual params body scope dV kV doc pm an cdv ct) (body := body) (binds := ns.zip vs) (by have := hA.depth; show A.depth < 1000; lia) (X _ _ ho) rfl (g.top.nolimit.keeps hr.base) (codeRec_of X hcd) rfl
    (BindsTo.of_eq (hbind vs hvl)) hcell (fun x hx => loc1 _ (List.mem_append_left _ (List.of_mem_zip hx).1)) (fun h₁ hns hk₁ => ?_) hco hgen hk
  have hL0 : ∀ o, s.heap.get? s.heap.objs.size = some o → False := fun o q => Nat.lt_irrefl _ (Heap.lt_size q)
  let env : Env := callEnv (fnOf name qual params body scope dV kV doc pm an cdv ct) s.heap.objs.size fa
  have henv : env = envOf qual scope s.heap.objs.size fa cdv := rfl
  have hL : env.locals = s.heap.objs.size := rfl
  let c : Cx := Cx.mk g (A.deeper env) d env (ns ++ lns) hk (fun x hx => ⟨loc1 x hx, loc2 x hx⟩) hnd hr.size ⟨rfl, rfl⟩
    ⟨hA.handled, by have := hA.depth; show A.depth + 1 + 2 * d ≤ 900; lia, by have := hA.units; show A.units + 3 + 20 * d ≤ 9000; lia⟩
  have S : St c K ((ns.zip as).map (fun p => (p.1, some p.2)) ++ lns.map (fun x => (x, Option.none))) hp { s with heap := h₁, toks := s.toks + (ns.zip vs).length } := by
    refine ⟨⟨fun a o e => hk₁ _ _ (hr.base a o e), fun a o k => hk₁ _ _ (hr.kept a o k), fun a ao e => ?_, Nat.le_trans hr.size (Nat.le_of_lt hns.lt)⟩, ⟨_, hns, fun x v hx => ?_⟩, fun o k => hL0 o (hr.kept _ _ k), ?_, ?_, hos, hgens⟩
    · obtain ⟨h1, h2, o, e', r⟩ := hr.obj a ao e
      exact ⟨h1, h2, o, hk₁ _ _ e', r⟩
    · rcases List.mem_append.mp hx with q | q
      · obtain ⟨p, hp', e⟩ := List.mem_map.mp q
        cases e
        subst hv
        exact zip_look (by exact (List.nodup_append.mp hnd).1) hvl hp'
      · obtain ⟨p, hp', e⟩ := List.mem_map.mp q
        cases e
    · cases q : hp s.heap.objs.size with
      | none => exact q
      | some ao => obtain ⟨_, _, o, e, _⟩ := hr.obj _ _ q; exact (hL0 o e).elim
    · show List.map _ _ = ns ++ lns
      rw [List.map_append, List.map_map, List.map_map]
      congr 1
      · rw [show ((fun p : Str × Option PV => p.1) ∘ fun p : Str × PV => (p.1, some p.2)) = Prod.fst from rfl, List.map_fst_zip (Nat.le_of_eq hlen.symm)]
      · exact List.map_id _
  refine wpAny_mono (h c rfl rfl rfl K _ S) (fun f s' hh => ?_) fun _ _ x => x.elim
  obtain ⟨l, h', S', p⟩ := hh
  cases f with
  | next => exact hR .none s' h' S'.rep S'.os S'.gens p
  | brk => exact p.elim
  | cont => exact p.elim
  | ret v => exact hR v s' h' S'.rep S'.os S'.gens p
end
end Mine
end
section
open PySem PySem.W PyProof.Rows PySem.Calls
set_option Elab.async false
set_option autoImplicit false
set_option linter.unusedVariables false
namespace Mine

section
variable {c : Cx} {loc : Loc} {hp : Hp}

/-- an object found in the heap, told -/
theorem St.know {K : Kp} {s : Shared} {a : Addr} {o : Obj} {ao : AO} (S : St c K loc hp s) (e : s.heap.get? a = some o) (r : RepO c.g ao o) (h0 : c.g.h₀.get? a = Option.none) (hL : a ≠ c.env.locals) (hK : ∀ o, ¬ K a o) :
    St c K loc (hp.upd a ao) s := by
  refine ⟨⟨S.rep.base, S.rep.kept, fun b bo h => ?_, S.rep.size⟩, S.ns, S.LK, ?_, S.names, S.os, S.gens⟩
  · by_cases hb : b = a
    · subst hb; rw [hp.upd_self] at h; cases h; exact ⟨h0, hK, o, e, r⟩
    · rw [hp.upd_ne _ hb] at h; exact S.rep.obj b bo h
  · rw [hp.upd_ne _ (Ne.symm hL)]; exact S.Lhp

theorem St.notK {K : Kp} {s : Shared} {a : Addr} (S : St c K loc hp s) (hlt : ∀ p ∈ allN c.g.h₀ c.env.locals s.heap, p.1 < a) (h0 : c.g.h₀.get? a = Option.none) (hL : a ≠ c.env.locals) :
    (∀ o, ¬ K a o) ∧ hp a = Option.none := by
  have no : ∀ o, s.heap.get? a = some o → False := fun o e => Nat.lt_irrefl _ (hlt (a, o) (mem_allN.mpr ⟨e, hL, h0⟩))
  refine ⟨fun o k => no o (S.rep.kept a o k), ?_⟩
  cases q : hp a with
  | none => rfl
  | some ao => obtain ⟨_, _, o, e, _⟩ := S.rep.obj a ao q; exact (no o e).elim

/-- a class called: its __init__ fills a new object -/
theorem Cal_cls {d : Nat} {C fI : Addr} {as : List PV} {P : PV → Hp → Prop} (hm : makesIn (hd.heap_39 c.g.w.params) C = true) (hi : findIn (hd.heap_39 c.g.w.params) (.ref C) "__init__" = some (some (.ref fI))) (hf : isFn (hd.heap_39 c.g.w.params) (.ref fI) = true)
    (h : ∀ x dx, hp x = Option.none → hp dx = Option.none → x ≠ dx →
      FnOk c.g d fI (.ref x :: as) ((hp.upd dx (.flds [])).upd x (.inst C dx)) fun v h => v = .none ∧ P (.ref x) h) (hd : d + 1 ≤ c.d) : Cal c (.ref C) as loc hp P := by
  intro vs hv K s S
  obtain ⟨m, F, hm'⟩ := S.frm
  refine call_cls F c.g.kin news_allN hm hi hf fun x dx h' F' N' l1 l2 => ?_
  obtain ⟨S1, hdx⟩ := S.alloc hm' F' (o := dictOf [] 0) (ao := .flds []) (fun p hp => N' p (.tail _ hp)) l1 ⟨[], 0, rfl, .nil⟩ s.toks
  obtain ⟨e1, e2, e3⟩ := N' _ (.head _)
  obtain ⟨nk, hx⟩ := S.notK (a := x) (fun p hp => Nat.lt_trans (l1 p hp) l2) e3 e2
  have S2 := S1.know e1 (ao := .inst C dx) rfl e3 e2 nk
  obtain ⟨oL, ho, R, back⟩ := frame_K S2
  refine h x dx hx hdx (Nat.ne_of_gt l2) _ _ _ (.ref x :: vs) _ ⟨c.room.handled, ?_, ?_⟩ R S.os S.gens (by rw [List.map_cons, hv]; rfl) fun v s' hp' r o g ⟨p1, p2⟩ => ?_
  · have := c.room.depth; rw [depth_under_make]; lia
  · have := c.room.units; show c.A.units + 1 + 20 * d ≤ 9000; lia
  · exact ⟨er_none p1, hp', back hp' s' r o g, p2⟩

/-- a new object: its address stands free -/
def NewQ (n : Nat) (hp : Hp) (f : Addr → Prop) : Prop := n ≤ 1000 ∧ ∀ a, hp a = Option.none → f a
theorem E_list {elts : List Expr} {pos : Pos} {P : PV → Hp → Prop} (h : TA c elts loc hp fun vs h1 => NewQ vs.length h1 fun a => P (.ref a) (h1.upd a (.list vs))) :
    TE c (.List elts pos) loc hp P := fun K s S => by
  refine List_ (wpAny_mono (h K s pos S) (fun vs s1 hh => ?_) fun _ _ x => x)
  obtain ⟨h1, S1, hl, p⟩ := hh
  obtain ⟨m, F, hm⟩ := S1.frm
  refine newList_N F news_allN (fun h' F' N' => ?_) (by rw [sizeLine_eq]; simp at hl; lia)
  obtain ⟨S2, hn⟩ := S1.alloc (ao := .list (vs.map er)) hm F' N' lt_allN ⟨vs, 0, rfl, rfl⟩ s1.toks
  exact ⟨_, S2, p _ hn⟩
theorem E_tuple {elts : List Expr} {k : Nat} {pos : Pos} {P : PV → Hp → Prop} (h : TA c elts loc hp fun vs h1 => NewQ vs.length h1 fun a => P (.ref a) (h1.upd a (.tuple vs))) :
    TE c (.Tuple elts k pos) loc hp P := fun K s S => by
  refine Tuple_ (wpAny_mono (h K s pos S) (fun vs s1 hh => ?_) fun _ _ x => x)
  obtain ⟨h1, S1, hl, p⟩ := hh
  obtain ⟨m, F, hm⟩ := S1.frm
  refine newTuple_N F news_allN (fun h' F' N' => ?_) (by rw [sizeLine_eq]; simp at hl; lia)
  obtain ⟨S2, hn⟩ := S1.alloc (ao := .tuple (vs.map er)) hm F' N' lt_allN ⟨vs, rfl, rfl⟩ s1.toks
  exact ⟨_, S2, p _ hn⟩

/-! items -/
abbrev SubEq (value slice : Expr) : Prop := ∀ o i, subscripted slice false o i = operate [o, i] (getItem o i)
theorem Sub_list {value slice : Expr} {a : Addr} {vs : List PV} {k : Int} {v : PV} {P : PV → Hp → Prop} (ha : hp a = some (.list vs)) (h0 : 0 ≤ k) (hl : k < 1000) (hx : vs[k.toNat]? = some v) (h : P v hp)
    (hs : SubEq value slice := by intro _ _; with_unfolding_all rfl) : Sub c (.ref a) (.int k) value slice loc hp P := by
  intro va vb h1 h2 K s S
  obtain rfl := er_ref h1
  obtain ⟨t, rfl⟩ := er_int h2
  obtain ⟨o, ho, ⟨xs, n, rfl, hxs⟩, _⟩ := S.obj_at ha
  have hL : s.heap.IsList a xs.toArray := ⟨_, ho, rfl, _, rfl⟩
  subst hxs
  rw [List.getElem?_map, Option.map_eq_some_iff] at hx
  obtain ⟨x, hx, rfl⟩ := hx
  exact tail_any hL.typeIs slot_list_getitem.lookup (wpAny_getItem_list hL h0 (by lia) (by simpa using hx) ⟨hp, S, h⟩) (hs _ _)
theorem Sub_tuple {value slice : Expr} {a : Addr} {vs : List PV} {k : Int} {v : PV} {P : PV → Hp → Prop} (ha : hp a = some (.tuple vs)) (h0 : 0 ≤ k) (hl : k < 1000) (hx : vs[k.toNat]? = some v) (h : P v hp)
    (hs : SubEq value slice := by intro _ _; with_unfolding_all rfl) : Sub c (.ref a) (.int k) value slice loc hp P := by
  intro va vb h1 h2 K s S
  obtain rfl := er_ref h1
  obtain ⟨t, rfl⟩ := er_int h2
  obtain ⟨o, ho, ⟨xs, rfl, hxs⟩, _⟩ := S.obj_at ha
  have hL : IsTup s.heap a xs.toArray := ⟨_, ho, rfl, _, rfl⟩
  subst hxs
  rw [List.getElem?_map, Option.map_eq_some_iff] at hx
  obtain ⟨x, hx, rfl⟩ := hx
  have hlt : k.toNat < xs.length := (List.getElem?_eq_some_iff.mp hx).1
  exact item_tupleT hL (by lia) (by lia) (StrLaws.seqIndex_nonneg h0 (by lia)) hx ⟨hp, S, h⟩ (hs _ _)
theorem charAt_of {x : List Nat} {k : Int} {n : Nat} (h0 : 0 ≤ k) (hx : x[k.toNat]? = some n) : Txt.charAt ⟨x.toArray⟩ k = some n := by
  have hlt : k.toNat < x.length := (List.getElem?_eq_some_iff.mp hx).1
  unfold Txt.charAt
  rw [StrLaws.seqIndex_nonneg h0 (by show k < ((⟨x.toArray⟩ : Str).length : Int); unfold Str.length; simp; lia)]
  simpa using hx
theorem Sub_str {value slice : Expr} {x : List Nat} {k : Int} {n : Nat} {P : PV → Hp → Prop} (h0 : 0 ≤ k) (hl : k < 100000) (hx : x[k.toNat]? = some n) (h : P (.str [n]) hp)
    (hs : SubEq value slice := by intro _ _; with_unfolding_all rfl) (ht : ∀ o r, (∀ a, o ≠ Value.ref a) → letTemporaryGo value o r = pure () := by intro o r h; cases o <;> first | rfl | exact absurd rfl (h _)) :
    Sub c (.str x) (.int k) value slice loc hp P := by
  intro va vb h1 h2 K s S
  obtain ⟨u, rfl⟩ := er_str h1
  obtain ⟨t, rfl⟩ := er_int h2
  have hlt : k.toNat < x.length := (List.getElem?_eq_some_iff.mp hx).1
  have hc := charAt_of h0 hx
  have hlen : (⟨x.toArray⟩ : Str).length = x.length := by unfold Str.length; simp
  refine item_str (by unfold fitsSsize; simp; lia) (by rw [hlen]; lia) (by rw [hlen]; lia) (fun _ => ⟨hp, S.toks _, ?_⟩) (hs _ _) (fun r => ht _ _ fun a q => by cases q)
  show P (.str (Txt.item ⟨x.toArray⟩ k).cps.toList) hp
  unfold Txt.item
  rw [hc]
  exact h
end
end Mine
end
section
open PySem PySem.W PyProof.Rows PySem.Calls
set_option Elab.async false
set_option autoImplicit false
set_option linter.unusedVariables false
namespace Mine

/-! slices of texts, in plain lists -/
theorem slice_idx (l u : Option Int) (n : Nat) : Builtin.Str.strSliceIndices l u 1 n = Builtin.Str.strSliceIndices l u 1 n := rfl

theorem slice_ss {x : List Nat} {i j : Int} (h0 : 0 ≤ i) (h1 : i ≤ j) (h2 : j ≤ x.length) : (Txt.slice ⟨x.toArray⟩ (some i) (some j)).cps.toList = (x.drop i.toNat).take (j - i).toNat := by
  have := StrLaws.sliceText_plain (x := ⟨x.toArray⟩) (i := i) (j := j) ⟨h0, h1, by simpa using h2⟩
  show (StrLaws.sliceText ⟨x.toArray⟩ (some i) (some j)).cps.toList = _
  rw [this]
theorem slice_sn {x : List Nat} {i : Int} (h0 : 0 ≤ i) (h1 : i ≤ x.length) : (Txt.slice ⟨x.toArray⟩ (some i) Option.none).cps.toList = x.drop i.toNat := by
  have := StrLaws.sliceText_from (x := ⟨x.toArray⟩) (i := i) ⟨h0, by simpa using h1⟩
  show (StrLaws.sliceText ⟨x.toArray⟩ (some i) Option.none).cps.toList = _
  rw [this]
  simp only
  rw [List.take_of_length_le]
  simp; lia
theorem slice_clamp (n : Nat) {j : Int} (h : (n : Int) ≤ j) : Builtin.Str.strSliceIndices Option.none (some j) 1 n = Builtin.Str.strSliceIndices Option.none (some (n : Int)) 1 n := by
  have a : ¬ (j < 0) := by lia
  have b : ¬ ((n : Int) < 0) := by lia
  have d : max (0 : Int) (min j n) = max 0 (min (n : Int) n) := by lia
  simp [Builtin.Str.strSliceIndices, a, b, d]
theorem slice_ns {x : List Nat} {j : Int} (h0 : 0 ≤ j) : (Txt.slice ⟨x.toArray⟩ Option.none (some j)).cps.toList = x.take j.toNat := by
  by_cases h : j ≤ x.length
  · have := StrLaws.sliceText_to (x := ⟨x.toArray⟩) (j := j) ⟨h0, by simpa using h⟩
    show (StrLaws.sliceText ⟨x.toArray⟩ Option.none (some j)).cps.toList = _
    rw [this]
    simp only [List.drop_zero, Int.sub_zero]
  · have h' : (x.length : Int) ≤ j := by lia
    have := StrLaws.sliceText_to (x := ⟨x.toArray⟩) (j := (x.length : Int)) ⟨by lia, by simp⟩
    have e : Txt.slice ⟨x.toArray⟩ Option.none (some j) = StrLaws.sliceText ⟨x.toArray⟩ Option.none (some (x.length : Int)) := by
      unfold Txt.slice StrLaws.sliceText
      have hl : (⟨x.toArray⟩ : Str).length = x.length := by unfold Str.length; simp
      rw [hl, slice_clamp x.length h']
    rw [e, this]
    simp only [List.drop_zero, Int.sub_zero]
    rw [List.take_of_length_le (by lia), List.take_of_length_le (by lia)]

section
variable {c : Cx} {loc : Loc} {hp : Hp}

abbrev LtEq (value : Expr) : Prop := ∀ o r, (∀ a, o ≠ Value.ref a) → letTemporaryGo value o r = pure ()
/-- all of a heap's objects stand on -/
def KeptAll (h h' : Heap) : Prop := ∀ b o, h.get? b = some o → h'.get? b = some o
theorem keptAll (h : Heap) : KeptH (KeptAll h) := fun h' ob hk b o e => Heap.get?_push_of_some _ (hk b o e)

theorem E_slice_ns {value upper : Expr} {p pos : Pos} {P : PV → Hp → Prop}
    (h : TE c value loc hp fun v h1 => ∃ x, v = .str x ∧ Req (x.length ≤ 100000) (TE c upper loc h1 fun u h2 => ∃ j, u = .int j ∧ Req (0 ≤ j) (P (.str (x.take j.toNat)) h2)))
    (ht : LtEq value := by intro o r h; cases o <;> first | rfl | exact absurd rfl (h _)) : TE c (.Subscript value (.Slice Option.none (some upper) Option.none p) pos) loc hp P := fun K s S => by
  refine Subscript_ (wpAny_mono (h K s S) (fun v s1 hh => ?_) fun _ _ x => x)
  obtain ⟨h1, S1, x, hv, hl, q⟩ := hh
  obtain ⟨t, rfl⟩ := er_str hv
  refine wpAny_Slice (evalPart_none_step (evalPart_some_step (wpAny_mono (q K s1 S1) (fun u s2 ⟨h2, S2, j, hu, h0, p⟩ => evalPart_none_step ?_) fun _ _ x => x)))
  obtain ⟨tu, rfl⟩ := er_int hu
  refine tail_of_ItemOn (SBH.sliceItem_ns (P := KeptAll s2.heap) (keptAll s2.heap) (fun _ _ e => e) (fun h' t' k hk => ⟨h2, S2.ext hk _, ?_⟩) ?_) (by with_unfolding_all rfl) fun r => ht _ _ fun a q => by cases q
  · show P (.str _) h2
    rw [slice_ns h0]; exact p
  · unfold Str.length; rw [sizeLine_eq]; simp; lia
theorem E_slice_sn {value lower : Expr} {p pos : Pos} {P : PV → Hp → Prop}
    (h : TE c value loc hp fun v h1 => ∃ x, v = .str x ∧ Req (x.length ≤ 100000) (TE c lower loc h1 fun u h2 => ∃ i, u = .int i ∧ Req (0 ≤ i ∧ i ≤ x.length) (P (.str (x.drop i.toNat)) h2)))
    (ht : LtEq value := by intro o r h; cases o <;> first | rfl | exact absurd rfl (h _)) : TE c (.Subscript value (.Slice (some lower) Option.none Option.none p) pos) loc hp P := fun K s S => by
  refine Subscript_ (wpAny_mono (h K s S) (fun v s1 hh => ?_) fun _ _ x => x)
  obtain ⟨h1, S1, x, hv, hl, q⟩ := hh
  obtain ⟨t, rfl⟩ := er_str hv
  refine wpAny_Slice (evalPart_some_step (wpAny_mono (q K s1 S1) (fun u s2 ⟨h2, S2, i, hu, ⟨h0, h1⟩, p⟩ => evalPart_none_step (evalPart_none_step ?_)) fun _ _ x => x))
  obtain ⟨tu, rfl⟩ := er_int hu
  refine tail_of_ItemOn (SBH.sliceItem_sn (P := KeptAll s2.heap) (keptAll s2.heap) (fun _ _ e => e) (fun h' t' k hk => ⟨h2, S2.ext hk _, ?_⟩) ?_) (by with_unfolding_all rfl) fun r => ht _ _ fun a q => by cases q
  · show P (.str _) h2
    rw [slice_sn h0 h1]; exact p
  · unfold Str.length; rw [sizeLine_eq]; simp; lia
theorem E_slice_ss {value lower upper : Expr} {p pos : Pos} {P : PV → Hp → Prop}
    (h : TE c value loc hp fun v h1 => ∃ x, v = .str x ∧ Req (x.length ≤ 100000) (TE c lower loc h1 fun u h2 => ∃ i, u = .int i ∧ Req (0 ≤ i) (TE c upper loc h2 fun w h3 => ∃ j, w = .int j ∧ Req (i ≤ j ∧ j ≤ x.length) (P (.str ((x.drop i.toNat).take (j - i).toNat)) h3))))
    (ht : LtEq value := by intro o r h; cases o <;> first | rfl | exact absurd rfl (h _)) : TE c (.Subscript value (.Slice (some lower) (some upper) Option.none p) pos) loc hp P := fun K s S => by
  refine Subscript_ (wpAny_mono (h K s S) (fun v s1 hh => ?_) fun _ _ x => x)
  obtain ⟨h1, S1, x, hv, hl, q⟩ := hh
  obtain ⟨t, rfl⟩ := er_str hv
  refine wpAny_Slice (evalPart_some_step (wpAny_mono (q K s1 S1) (fun u s2 ⟨h2, S2, i, hu, h0, q2⟩ => evalPart_some_step (wpAny_mono (q2 K s2 S2) (fun w s3 ⟨h3, S3, j, hw, ⟨hij, hj⟩, p⟩ => evalPart_none_step ?_) fun _ _ x => x)) fun _ _ x => x))
  obtain ⟨tu, rfl⟩ := er_int hu
  obtain ⟨tw, rfl⟩ := er_int hw
  refine tail_of_ItemOn (SBH.sliceItem_ss (P := KeptAll s3.heap) (keptAll s3.heap) (fun _ _ e => e) (fun h' t' k hk => ⟨h3, S3.ext hk _, ?_⟩) ?_) (by with_unfolding_all rfl) fun r => ht _ _ fun a q => by cases q
  · show P (.str _) h3
    rw [slice_ss h0 hij hj]; exact p
  · unfold Str.length; rw [sizeLine_eq]; simp; lia

/-! built-in functions -/
theorem one_more {vs : List Value} {p : PV} {l : List PV} (hv : vs.map er = p :: l) : ∃ v r, vs = v :: r ∧ er v = p ∧ r.map er = l := by
  cases vs with
  | nil => cases hv
  | cons v r => obtain ⟨a, b⟩ := List.cons.inj hv; exact ⟨v, r, rfl, a, b⟩
theorem no_more {vs : List Value} (hv : vs.map er = []) : vs = [] := List.map_eq_nil_iff.mp hv
theorem one_arg {vs : List Value} {p : PV} (hv : vs.map er = [p]) : ∃ v, vs = [v] ∧ er v = p := by
  obtain ⟨v, r, rfl, h, hr⟩ := one_more hv
  obtain rfl := no_more hr
  exact ⟨v, rfl, h⟩
theorem two_args {vs : List Value} {p q : PV} (hv : vs.map er = [p, q]) : ∃ v u, vs = [v, u] ∧ er v = p ∧ er u = q := by
  obtain ⟨v, r, rfl, h, hr⟩ := one_more hv
  obtain ⟨u, rfl, h'⟩ := one_arg hr
  exact ⟨v, u, rfl, h, h'⟩
theorem three_args {vs : List Value} {p q r : PV} (hv : vs.map er = [p, q, r]) : ∃ v u w, vs = [v, u, w] ∧ er v = p ∧ er u = q ∧ er w = r := by
  obtain ⟨v, r, rfl, h, hr⟩ := one_more hv
  obtain ⟨u, w, rfl, h', h''⟩ := two_args hr
  exact ⟨v, u, w, rfl, h, h', h''⟩

theorem Cal_len_str {x : List Nat} {P : PV → Hp → Prop} (hl : x.length ≤ 100000) (h : P (.int x.length) hp) : Cal c (.builtin "len") [.str x] loc hp P := by
  intro vs hv K s S
  obtain ⟨v, rfl, hv1⟩ := one_arg hv
  obtain ⟨t, rfl⟩ := er_str hv1
  have hlen : (⟨x.toArray⟩ : Str).length = x.length := by unfold Str.length; simp
  exact SBL.len (by rw [hlen]; lia) ⟨hp, S.toks _, by rw [hlen]; exact h⟩
theorem Cal_len_list {a : Addr} {xs : List PV} {P : PV → Hp → Prop} (ha : hp a = some (.list xs)) (hl : xs.length ≤ 100000) (h : P (.int xs.length) hp) : Cal c (.builtin "len") [.ref a] loc hp P := by
  intro vs hv K s S
  obtain ⟨v, rfl, hv1⟩ := one_arg hv
  obtain rfl := er_ref hv1
  obtain ⟨o, ho, ⟨ys, n, rfl, hys⟩, _⟩ := S.obj_at ha
  have hlen : ys.toArray.size = xs.length := by rw [← hys]; simp
  exact len_list (items := ys.toArray) ⟨_, ho, rfl, _, rfl⟩ (by rw [hlen]; lia) ⟨hp, S.toks _, by rw [hlen]; exact h⟩
theorem Cal_min {a b : Int} {P : PV → Hp → Prop} (h : P (.int (min a b)) hp) : Cal c (.builtin "min") [.int a, .int b] loc hp P := by
  intro vs hv K s S
  obtain ⟨v, u, rfl, h1, h2⟩ := two_args hv
  obtain ⟨t1, rfl⟩ := er_int h1
  obtain ⟨t2, rfl⟩ := er_int h2
  obtain ⟨m, F, hm⟩ := S.frm
  refine min_two_N c.room.handled F news_allN fun h' tk F' N' => ⟨hp, S.back hm F' (fun p hp => (N' p hp).1) tk, ?_⟩
  show P (.int _) hp
  rw [show (if b < a then b else a) = min a b from by lia]; exact h
theorem Cal_max {a b : Int} {P : PV → Hp → Prop} (h : P (.int (max a b)) hp) : Cal c (.builtin "max") [.int a, .int b] loc hp P := by
  intro vs hv K s S
  obtain ⟨v, u, rfl, h1, h2⟩ := two_args hv
  obtain ⟨t1, rfl⟩ := er_int h1
  obtain ⟨t2, rfl⟩ := er_int h2
  obtain ⟨m, F, hm⟩ := S.frm
  refine max_two_N c.room.handled F news_allN fun h' tk F' N' => ⟨hp, S.back hm F' (fun p hp => (N' p hp).1) tk, ?_⟩
  show P (.int _) hp
  rw [show (if b > a then b else a) = max a b from by lia]; exact h
theorem Cal_ord {n : Nat} {P : PV → Hp → Prop} (h : P (.int n) hp) : Cal c (.builtin "ord") [.str [n]] loc hp P := by
  intro vs hv K s S
  obtain ⟨v, rfl, h1⟩ := one_arg hv
  obtain ⟨t1, rfl⟩ := er_str h1
  exact PySem.P.ord_of_char ⟨hp, S.toks _, h⟩
theorem Cal_isstr {x : List Nat} {P : PV → Hp → Prop} (h : P (.bool true) hp) : Cal c (.builtin "isinstance") [.str x, .raw (.type "str")] loc hp P := by
  intro vs hv K s S
  obtain ⟨v, u, rfl, h1, h2⟩ := two_args hv
  obtain ⟨t1, rfl⟩ := er_str h1
  obtain rfl := er_raw h2
  exact PySem.IsiPair.str_str ⟨hp, S, h⟩

theorem Cal_range1 {n : Int} {P : PV → Hp → Prop} (h : ∀ r, hp r = Option.none → P (.ref r) (hp.upd r (.range 0 n 1))) : Cal c (.type "range") [.int n] loc hp P := by
  intro vs hv K s S
  obtain ⟨v, rfl, h1⟩ := one_arg hv
  obtain ⟨t1, rfl⟩ := er_int h1
  obtain ⟨m, F, hm⟩ := S.frm
  refine range1_rows F news_allN fun h' tk t₁ u₁ v₁ hr F' N' hk => ?_
  obtain ⟨_, f1, f2, f3, f4⟩ := new_facts S (o := default) rfl
  exact ⟨_, (S.ext hk tk).know (ao := .range 0 n 1) hr ⟨_, _, _, rfl⟩ f2 f3 f1, h _ f4⟩
theorem Cal_range2 {a b : Int} {P : PV → Hp → Prop} (h : ∀ r, hp r = Option.none → P (.ref r) (hp.upd r (.range a b 1))) : Cal c (.type "range") [.int a, .int b] loc hp P := by
  intro vs hv K s S
  obtain ⟨v, u, rfl, h1, h2⟩ := two_args hv
  obtain ⟨t1, rfl⟩ := er_int h1
  obtain ⟨t2, rfl⟩ := er_int h2
  obtain ⟨m, F, hm⟩ := S.frm
  refine range2_rows F news_allN fun h' tk t₁ u₁ v₁ hr F' N' hk => ?_
  obtain ⟨_, f1, f2, f3, f4⟩ := new_facts S (o := default) rfl
  exact ⟨_, (S.ext hk tk).know (ao := .range a b 1) hr ⟨_, _, _, rfl⟩ f2 f3 f1, h _ f4⟩
theorem Cal_range3 {a b d : Int} {P : PV → Hp → Prop} (hd : d ≠ 0) (hp' : Builtin.divisionGoesByPylong (b - a) d = false) (h : ∀ r, hp r = Option.none → P (.ref r) (hp.upd r (.range a b d))) : Cal c (.type "range") [.int a, .int b, .int d] loc hp P := by
  intro vs hv K s S
  obtain ⟨v, u, w, rfl, h1, h2, h3⟩ := three_args hv
  obtain ⟨t1, rfl⟩ := er_int h1
  obtain ⟨t2, rfl⟩ := er_int h2
  obtain ⟨t3, rfl⟩ := er_int h3
  obtain ⟨m, F, hm⟩ := S.frm
  refine range3_rows F news_allN hd (fun h' tk t₁ u₁ v₁ hr F' N' hk => ?_) (.inl hp')
  obtain ⟨_, f1, f2, f3, f4⟩ := new_facts S (o := default) rfl
  exact ⟨_, (S.ext hk tk).know (ao := .range a b d) hr ⟨_, _, _, rfl⟩ f2 f3 f1, h _ f4⟩

/-! x in .. -/
theorem Cmp_in_set {x : List Nat} {a : Addr} {xs : List (List Nat)} {P : PV → Hp → Prop} (ha : hp a = some (.sset xs)) (h : P (.bool (decide (x ∈ xs))) hp) : Cmp c .In (.str x) (.ref a) loc hp P := by
  intro va vb h1 h2 K s S
  obtain ⟨t, rfl⟩ := er_str h1
  obtain rfl := er_ref h2
  obtain ⟨o, ho, ⟨n, hn, hso⟩, _⟩ := S.obj_at ha
  exact wpAny_inSet_of (k := (⟨x.toArray⟩ : Str)) (strKind_is _ _ _ _) rfl (hso.setOf ho (Nat.lt_of_le_of_lt hn (by decide))) ⟨hp, S.toks _, h⟩
theorem Cmp_notin_set {x : List Nat} {a : Addr} {xs : List (List Nat)} {P : PV → Hp → Prop} (ha : hp a = some (.sset xs)) (h : P (.bool (!decide (x ∈ xs))) hp) : Cmp c .NotIn (.str x) (.ref a) loc hp P := by
  intro va vb h1 h2 K s S
  obtain ⟨t, rfl⟩ := er_str h1
  obtain rfl := er_ref h2
  obtain ⟨o, ho, ⟨n, hn, hso⟩, _⟩ := S.obj_at ha
  exact wpAny_notInSet_of (k := (⟨x.toArray⟩ : Str)) (strKind_is _ _ _ _) rfl (hso.setOf ho (Nat.lt_of_le_of_lt hn (by decide))) ⟨hp, S.toks _, h⟩

theorem strsAre_of : ∀ {ys : List Value} {xs : List (List Nat)}, ys.map er = xs.map .str → StrsAre ys (xs.map fun x => ⟨x.toArray⟩)
  | [], [], _ => .nil
  | [], _ :: _, h => by cases h
  | _ :: _, [], h => by cases h
  | y :: ys, x :: xs, h => by
    rw [List.map_cons, List.map_cons] at h
    injection h with h1 h2
    obtain ⟨t, rfl⟩ := er_str h1
    exact .cons _ _ (strsAre_of h2)
theorem any_strs {x : List Nat} : ∀ xs : List (List Nat), ((xs.map fun x => (⟨x.toArray⟩ : Str)).any fun y => y == ⟨x.toArray⟩) = decide (x ∈ xs)
  | [] => by simp
  | y :: r => by
    rw [List.map_cons, List.any_cons, any_strs r, str_beq]
    by_cases q : y = x
    · subst q; simp
    · have q' : ¬ x = y := fun e => q e.symm
      simp [q, q']
theorem Cmp_in_list {x : List Nat} {a : Addr} {xs : List (List Nat)} {P : PV → Hp → Prop} (ha : hp a = some (.list (xs.map .str))) (h : P (.bool (decide (x ∈ xs))) hp) : Cmp c .In (.str x) (.ref a) loc hp P := by
  intro va vb h1 h2 K s S
  obtain ⟨t, rfl⟩ := er_str h1
  obtain rfl := er_ref h2
  obtain ⟨o, ho, ⟨ys, n, rfl, hys⟩, _⟩ := S.obj_at ha
  refine in_list_strs (vs := ys) ⟨_, ho, rfl, _, rfl⟩ (strsAre_of hys) ⟨hp, S, ?_⟩
  show P (.bool _) hp
  rw [any_strs]; exact h

theorem Tru_list {a : Addr} {xs : List PV} {P : Bool → Hp → Prop} (ha : hp a = some (.list xs)) (hl : xs.length ≤ 100000) (h : P (!xs.isEmpty) hp) : Tru c (.ref a) loc hp P := by
  intro va h1 K s S
  obtain rfl := er_ref h1
  obtain ⟨o, ho, ⟨ys, n, rfl, hys⟩, _⟩ := S.obj_at ha
  have hlen : ys.toArray.size = xs.length := by rw [← hys]; simp
  refine wpAny_truthy_list (items := ys.toArray) ⟨_, ho, rfl, _, rfl⟩ (by rw [hlen]; lia) ⟨hp, S.toks _, ?_⟩
  rw [show (!ys.toArray.isEmpty) = !xs.isEmpty from by rw [← hys]; cases ys <;> simp]; exact h

/-- x[i] = v -/
theorem S_setitem {o i value : Expr} {pos pos' : Pos} {P : Fl → Loc → Hp → Prop}
    (h : TE c value loc hp fun v h1 => TE c o loc h1 fun ov h2 => TE c i loc h2 fun iv h3 => ∃ a vs k, ov = .ref a ∧ iv = .int k ∧ h3 a = some (.list vs) ∧ 0 ≤ k ∧ k < vs.length ∧ k < 1000 ∧ P .next loc (h3.upd a (.list (vs.set k.toNat v))))
    (hs : swapsWith value (some (o.Subscript i pos')) pos.line c.env = pure false := by rfl) : TS c (.Assign [o.Subscript i pos'] value pos) loc hp P := fun K s S => by
  refine wpAny_Assign_Subscript (wpAny_mono (h K s S) (fun v s1 ⟨h1, S1, q1⟩ => wpAny_mono (q1 K s1 S1) (fun ov s2 ⟨h2, S2, q2⟩ => wpAny_mono (q2 K s2 S2) (fun iv s3 hh => ?_) fun _ _ x => x) fun _ _ x => x) fun _ _ x => x) hs
  obtain ⟨h3, S3, a, vs, k, hov, hiv, ha, h0, hk, hk2, p⟩ := hh
  obtain rfl := er_ref hov
  obtain ⟨t, rfl⟩ := er_int hiv
  obtain ⟨m, F, hm⟩ := S3.frm
  obtain ⟨ob, hob, ⟨ys, n, rfl, hys⟩, hin⟩ := S3.obj_at ha
  have hlen : ys.length = vs.length := by rw [← hys]; simp
  obtain ⟨news', U⟩ := exists_upd (o' := W.listOf (ys.set k.toNat v).toArray n) (allN_nodup _ _ _) hin
  obtain ⟨pre, post, e1, e2, a1, a2⟩ := U.split
  have N : News c.g.h₀ c.env.locals s3.heap (pre ++ (a, W.listOf ys.toArray n) :: post) := by rw [← e1]; exact news_allN
  have z := N (a, W.listOf ys.toArray n) (by simp)
  refine ki_setAt z.1 h0 (by lia) (by simp; lia) ⟨loc, _, S3.change hm ha U (F.change (Heap.SameBut.update ..) z.2.1 z.2.2) (e2 ▸ ki_turn _ N a1 a2 ?_ ?_) (ao' := .list (vs.set k.toNat (er v))) ⟨ys.set k.toNat v, n, rfl, ?_⟩ _, p⟩
  · rw [List.map_set, hys]
  · show ys.toArray.setIfInBounds k.toNat v = (ys.set k.toNat v).toArray
    apply Array.toList_inj.mp
    simp
  · simp
end
end Mine
end
section
open PySem PySem.W PyProof.Rows PySem.Calls
set_option Elab.async false
set_option autoImplicit false
set_option linter.unusedVariables false
set_option maxRecDepth 100000
namespace Mine
abbrev lI (x : String) (i : Int) : Str × Option PV := (Str.ofString x, some (.int i))
abbrev lS (x : String) (i : List Nat) : Str × Option PV := (Str.ofString x, some (.str i))
abbrev lR (x : String) (i : Addr) : Str × Option PV := (Str.ofString x, some (.ref i))
abbrev lB (x : String) (i : Bool) : Str × Option PV := (Str.ofString x, some (.bool i))
abbrev lV (x : String) (i : PV) : Str × Option PV := (Str.ofString x, some i)
abbrev lO (x : String) (i : Option PV) : Str × Option PV := (Str.ofString x, i)
abbrev lN (x : String) : Str × Option PV := (Str.ofString x, Option.none)
theorem lit_nil : (Str.ofString "").cps.toList = [] := by rfl
theorem lit_a : (Str.ofString "a").cps.toList = [97] := by decide +kernel
theorem lit_e : (Str.ofString "e").cps.toList = [101] := by decide +kernel
theorem lit_t : (Str.ofString "t").cps.toList = [116] := by decide +kernel
theorem lit_s : (Str.ofString "s").cps.toList = [115] := by decide +kernel
theorem lit_LET : (Str.ofString "aets").cps.toList = [97, 101, 116, 115] := by decide +kernel
theorem E_globL {c : Cx} {loc : Loc} {hp : Hp} {x y : Str} {t : Tok} {l : List Nat} {pos : Pos} {P : PV → Hp → Prop} (e : y.cps.toList = l) (hg : GlbOk c.g c.env x (.str y t)) (h : P (.str l) hp) : TE c (.Name x pos) loc hp P :=
  E_glob hg (by show P (.str y.cps.toList) hp; rw [e]; exact h)
theorem turn_next {P : Fl → Loc → Hp → Prop} {again : Loc → Hp → Prop} {l : Loc} {h : Hp} (q : again l h) : Turn P again .next l h := q
theorem turn_cont {P : Fl → Loc → Hp → Prop} {again : Loc → Hp → Prop} {l : Loc} {h : Hp} (q : again l h) : Turn P again .cont l h := q
theorem turn_brk {P : Fl → Loc → Hp → Prop} {again : Loc → Hp → Prop} {l : Loc} {h : Hp} (q : P .next l h) : Turn P again .brk l h := q
theorem turn_ret {P : Fl → Loc → Hp → Prop} {again : Loc → Hp → Prop} {l : Loc} {h : Hp} {v : PV} (q : P (.ret v) l h) : Turn P again (.ret v) l h := q
theorem ifq_true {p q : Prop} (h : p) : IfQ true p q := ⟨fun _ => h, fun e => by cases e⟩
theorem ifq_false {p q : Prop} (h : q) : IfQ false p q := ⟨(fun e => by cases e), fun _ => h⟩
theorem B_or2 {c : Cx} {loc : Loc} {hp : Hp} {x y : Expr} {pos : Pos} {P : Bool → Hp → Prop} (b1 b2 : Bool) (h1 : ∀ P : Bool → Hp → Prop, P b1 hp → TB c x loc hp P) (h2 : b1 = false → ∀ P : Bool → Hp → Prop, P b2 hp → TB c y loc hp P)
    (h : P (b1 || b2) hp) : TB c (.BoolOp .Or [x, y] pos) loc hp P := B_or (h1 _ ⟨fun e => by subst e; exact h, fun e => by subst e; exact B_or_last (h2 rfl _ h)⟩)
theorem B_and2 {c : Cx} {loc : Loc} {hp : Hp} {x y : Expr} {pos : Pos} {P : Bool → Hp → Prop} (b1 b2 : Bool) (h1 : ∀ P : Bool → Hp → Prop, P b1 hp → TB c x loc hp P) (h2 : b1 = true → ∀ P : Bool → Hp → Prop, P b2 hp → TB c y loc hp P)
    (h : P (b1 && b2) hp) : TB c (.BoolOp .And [x, y] pos) loc hp P := B_and (h1 _ ⟨fun e => by subst e; exact h2 rfl _ h, fun e => by subst e; exact h⟩)
theorem E_ifexp2 {c : Cx} {loc : Loc} {hp : Hp} {t b o : Expr} {pos : Pos} {P : PV → Hp → Prop} (b1 : Bool) (v1 v2 : PV) (h1 : ∀ P : Bool → Hp → Prop, P b1 hp → TB c t loc hp P) (h2 : b1 = true → ∀ P : PV → Hp → Prop, P v1 hp → TE c b loc hp P)
    (h3 : b1 = false → ∀ P : PV → Hp → Prop, P v2 hp → TE c o loc hp P) (h : P (if b1 = true then v1 else v2) hp) : TE c (.IfExp t b o pos) loc hp P :=
  E_ifexp (h1 _ ⟨fun e => h2 e _ (by rw [e, if_pos rfl] at h; exact h), fun e => h3 e _ (by rw [e] at h; exact h)⟩)
theorem kind_of {c : Cx} {sc : Scope} {x : Str} {k : NameKind} (hs : c.env.scope = sc) (h : sc.names.lookup x = some k) : c.env.kindOf x = some k := by
  show c.env.scope.names.lookup x = _
  rw [hs]; exact h

theorem set_here {x : Str} {v : PV} {u : Option PV} {r : Loc} {Q : Loc → Prop} (h : Q ((x, some v) :: r)) : ∃ l, SetL x v ((x, u) :: r) l ∧ Q l := ⟨_, .head, h⟩
theorem set_there {x : Str} {v : PV} {p : Str × Option PV} {r : Loc} {Q : Loc → Prop} (h : ∃ l, SetL x v r l ∧ Q (p :: l)) : ∃ l, SetL x v (p :: r) l ∧ Q l :=
  let ⟨l, a, b⟩ := h; ⟨_, .tail a, b⟩
theorem ex_int {i : Int} {Q : Int → Prop} (h : Q i) : ∃ j, PV.int i = .int j ∧ Q j := ⟨_, rfl, h⟩
theorem ex_str {x : List Nat} {Q : List Nat → Prop} (h : Q x) : ∃ y, PV.str x = .str y ∧ Q y := ⟨_, rfl, h⟩
theorem ex_ref {a : Addr} {Q : Addr → Prop} (h : Q a) : ∃ b, PV.ref a = .ref b ∧ Q b := ⟨_, rfl, h⟩
theorem ex_erref {a : Addr} {Q : Addr → Prop} (h : Q a) : ∃ b, er (Value.ref a) = .ref b ∧ Q b := ⟨_, rfl, h⟩
theorem ex_bi {x : String} {Q : String → Prop} (h : Q x) : ∃ y, er (Value.builtin x) = .raw (.builtin y) ∧ Q y := ⟨_, rfl, h⟩
theorem ex_ty {x : String} {Q : String → Prop} (h : Q x) : ∃ y, er (Value.type x) = .raw (.type y) ∧ Q y := ⟨_, rfl, h⟩

end Mine
end
section
set_option autoImplicit false
set_option linter.unusedVariables false
namespace Mine
abbrev LN := List Nat
theorem lt_tr {a b c : LN} (h1 : a < b) (h2 : b < c) : a < c := List.lt_trans h1 h2
theorem lt_ir (a : LN) : ¬ a < a := List.lt_irrefl a
theorem lt_tri (a b : LN) : a < b ∨ a = b ∨ b < a := by
  rcases Classical.em (a < b) with h | h
  · exact .inl h
  · rcases Classical.em (b < a) with h' | h'
    · exact .inr (.inr h')
    · exact .inr (.inl (List.le_antisymm h' h))
theorem pre_between : ∀ {x a k b : LN}, x <+: a → x <+: b → ¬ k < a → ¬ b < k → x <+: k
  | [], _, _, _, _, _, _, _ => List.nil_prefix
  | c :: x, a, k, b, h1, h2, h3, h4 => by
    obtain ⟨a', rfl⟩ := h1
    obtain ⟨b', rfl⟩ := h2
    cases k with
    | nil => exact absurd (by exact List.Lex.nil) h3
    | cons d k =>
      rw [List.cons_append, List.cons_lt_cons_iff] at h3 h4
      have e : d = c := by lia
      subst e
      rw [List.prefix_cons_inj]
      exact pre_between (a := x ++ a') (b := x ++ b') ⟨_, rfl⟩ ⟨_, rfl⟩ (fun q => h3 (.inr ⟨rfl, q⟩)) (fun q => h4 (.inr ⟨rfl, q⟩))
theorem not_lt_pre : ∀ {x t : LN}, x <+: t → ¬ t < x
  | [], t, _ => List.not_lt_nil t
  | c :: x, t, h => by
    obtain ⟨t', rfl⟩ := h
    rw [List.cons_append, List.cons_lt_cons_iff]
    rintro (q | ⟨_, q⟩)
    · lia
    · exact not_lt_pre ⟨_, rfl⟩ q
theorem pre_take {x t : LN} (h : x <+: t) : x = t.take x.length := List.prefix_iff_eq_take.mp h
theorem take_pre_iff {x w t : LN} {m : Nat} (hx : x <+: w) (hm : m ≤ t.length) (ht : t.take m <+: w) (hl : x.length ≤ m) : x <+: t := by
  have e := List.prefix_of_prefix_length_le hx ht (by rw [List.length_take]; lia)
  exact e.trans (List.take_prefix ..)

/-- how one key meets the text -/
def Out (t w : LN) (diff : Int) (m : Nat) : Prop :=
  m ≤ t.length ∧ t.take m <+: w ∧ (diff < 0 → t < w) ∧ (0 ≤ diff → ¬ t < w ∧ ∀ x, x <+: w → (x <+: t ↔ x.length ≤ m))
theorem lt_of_strict : ∀ {t w : LN}, t <+: w → t.length < w.length → t < w
  | [], w, _, h => by
    cases w with
    | nil => simp at h
    | cons a w => exact List.Lex.nil
  | c :: t, w, h, hl => by
    obtain ⟨w', rfl⟩ := h
    rw [List.cons_append, List.cons_lt_cons_iff]
    refine .inr ⟨rfl, lt_of_strict ⟨_, rfl⟩ ?_⟩
    simp at hl ⊢; exact hl
theorem out_end {t w : LN} (h : t <+: w) (hl : t.length < w.length) : Out t w (-1) t.length :=
  ⟨Nat.le_refl _, by rw [List.take_length]; exact h, fun _ => lt_of_strict h hl, fun q => by lia⟩
theorem out_full {t w : LN} (hl : w.length ≤ t.length) (h : t.take w.length <+: w) : Out t w 0 w.length := by
  have e : t.take w.length = w := by
    obtain ⟨r, hr⟩ := h
    have h2 : r.length = 0 := by have := congrArg List.length hr; simp at this; lia
    rw [List.length_eq_zero_iff.mp h2, List.append_nil] at hr; exact hr
  have hp : w <+: t := by rw [← e]; exact List.take_prefix ..
  exact ⟨hl, h, fun q => by lia, fun _ => ⟨not_lt_pre hp, fun x hx => ⟨fun _ => hx.length_le, fun _ => hx.trans hp⟩⟩⟩
theorem lex_at : ∀ {m : Nat} {t w : LN} {a b : Nat}, t[m]? = some a → w[m]? = some b → t.take m <+: w → (t < w ↔ a < b ∨ (a = b ∧ t.drop (m + 1) < w.drop (m + 1)))
  | 0, x :: t, y :: w, a, b, h1, h2, _ => by
    simp at h1 h2; subst h1 h2
    rw [List.cons_lt_cons_iff]; simp
  | m + 1, x :: t, y :: w, a, b, h1, h2, h => by
    simp only [List.getElem?_cons_succ] at h1 h2
    obtain ⟨r, hr⟩ := h
    simp only [List.take_succ_cons, List.cons_append, List.cons.injEq] at hr
    obtain ⟨rfl, hr2⟩ := hr
    have := lex_at h1 h2 ⟨r, hr2⟩
    rw [List.cons_lt_cons_iff, this]
    simp
  | 0, [], _, _, _, h1, _, _ => by simp at h1
  | 0, _ :: _, [], _, _, _, h1, _ => by simp at h1
  | _ + 1, [], _, _, _, h1, _, _ => by simp at h1
  | _ + 1, _ :: _, [], _, _, _, h1, _ => by simp at h1
theorem out_diff {t w : LN} {m a b : Nat} (h1 : t[m]? = some a) (h2 : w[m]? = some b) (h : t.take m <+: w) (hab : a ≠ b) : Out t w ((a : Int) - b) m := by
  have hm : m < t.length := (List.getElem?_eq_some_iff.mp h1).1
  refine ⟨Nat.le_of_lt hm, h, fun q => (lex_at h1 h2 h).mpr (.inl (by lia)), fun q => ⟨fun l => ?_, fun x hx => ⟨fun hxt => ?_, fun hl => take_pre_iff hx (Nat.le_of_lt hm) h hl⟩⟩⟩
  · rcases (lex_at h1 h2 h).mp l with l | l
    · lia
    · exact hab l.1
  · rcases Nat.lt_or_ge m x.length with l | l
    · exfalso
      have e1 : x[m]? = some a := by
        obtain ⟨r, rfl⟩ := hxt; rw [List.getElem?_append_left l] at h1; exact h1
      have e2 : x[m]? = some b := by
        obtain ⟨r, rfl⟩ := hx; rw [List.getElem?_append_left l] at h2; exact h2
      rw [e1] at e2; exact hab (Option.some.inj e2)
    · exact l
theorem out_step {t w : LN} {m a : Nat} (h1 : t[m]? = some a) (h2 : w[m]? = some a) (h : t.take m <+: w) : t.take (m + 1) <+: w := by
  have hw : w.take m = t.take m := by
    have := pre_take h
    rw [List.length_take, Nat.min_eq_left (Nat.le_of_lt (List.getElem?_eq_some_iff.mp h1).1)] at this
    exact this.symm
  have e : t.take (m + 1) = w.take (m + 1) := by
    rw [List.take_add_one, List.take_add_one, hw, h1, h2]
  rw [e]; exact List.take_prefix ..

def Srt (K : List LN) : Prop := ∀ a b, a < b → b < K.length → K.getD a [] < K.getD b []
theorem Srt.le {K : List LN} (h : Srt K) {a b : Nat} (hab : a ≤ b) (hb : b < K.length) : ¬ K.getD b [] < K.getD a [] := by
  rcases Nat.lt_or_ge a b with l | l
  · exact fun q => lt_ir _ (lt_tr (h a b l hb) q)
  · obtain rfl : a = b := by lia
    exact lt_ir _
def Dn (K : List LN) (t : LN) (i ci : Nat) : Prop := ¬ t < K.getD i [] ∧ ∀ x, x <+: K.getD i [] → (x <+: t ↔ x.length ≤ ci)
structure Inv (K : List LN) (t : LN) (i j ci cj : Nat) : Prop where
  hi : i < K.length
  hij : i ≤ j
  hj : j ≤ K.length
  hci : ci ≤ t.length
  pi : t.take ci <+: K.getD i []
  hcj : cj ≤ t.length
  pj : j < K.length → t.take cj <+: K.getD j []
  z : j = K.length → cj = 0
  up : ∀ m, j ≤ m → m < K.length → t < K.getD m []
  dn : 0 < i → Dn K t i ci
theorem inv_start {K : List LN} {t : LN} (h : 0 < K.length) : Inv K t 0 K.length 0 0 :=
  ⟨h, Nat.zero_le _, Nat.le_refl _, Nat.zero_le _, by simp, Nat.zero_le _, fun q => absurd q (Nat.lt_irrefl _), fun _ => rfl, fun m a b => absurd b (by lia), fun q => absurd q (Nat.lt_irrefl _)⟩
theorem take_le_pre {t k : LN} {a b : Nat} (h : t.take a <+: k) (hab : b ≤ a) : t.take b <+: k := by
  have : t.take b = (t.take a).take b := by rw [List.take_take, Nat.min_eq_left hab]
  rw [this]; exact (List.take_prefix ..).trans h
theorem Inv.pre {K : List LN} {t : LN} {i j ci cj k : Nat} (S : Srt K) (I : Inv K t i j ci cj) (h1 : i ≤ k) (h2 : k < j) : t.take (min ci cj) <+: K.getD k [] := by
  rcases Nat.lt_or_ge j K.length with l | l
  · exact pre_between (take_le_pre I.pi (Nat.min_le_left ..)) (take_le_pre (I.pj l) (Nat.min_le_right ..)) (S.le h1 (by lia)) (S.le (Nat.le_of_lt h2) l)
  · rw [I.z (Nat.le_antisymm I.hj l), Nat.min_zero]; simp
theorem Inv.left {K : List LN} {t : LN} {i j ci cj k m : Nat} {d : Int} (S : Srt K) (I : Inv K t i j ci cj) (h1 : i ≤ k) (h2 : k < j) (O : Out t (K.getD k []) d m) (hd : d < 0) : Inv K t i k ci m := by
  have hk : k < K.length := Nat.lt_of_lt_of_le h2 I.hj
  refine ⟨I.hi, h1, Nat.le_of_lt hk, I.hci, I.pi, O.1, fun _ => O.2.1, fun q => by lia, fun p a b => ?_, I.dn⟩
  rcases Nat.lt_or_ge k p with l | l
  · exact lt_tr (O.2.2.1 hd) (S k p l b)
  · obtain rfl : k = p := by lia
    exact O.2.2.1 hd
theorem Inv.right {K : List LN} {t : LN} {i j ci cj k m : Nat} {d : Int} (I : Inv K t i j ci cj) (h1 : i ≤ k) (h2 : k < j) (O : Out t (K.getD k []) d m) (hd : 0 ≤ d) : Inv K t k j m cj ∧ Dn K t k m :=
  have hk : k < K.length := Nat.lt_of_lt_of_le h2 I.hj
  ⟨⟨hk, Nat.le_of_lt h2, I.hj, O.1, O.2.1, I.hcj, I.pj, I.z, I.up, fun _ => O.2.2.2 hd⟩, O.2.2.2 hd⟩
structure Fin' (K : List LN) (t : LN) (i ci : Nat) : Prop where
  hi : i < K.length
  up : ∀ m, i < m → m < K.length → t < K.getD m []
  at' : ∀ m, m < K.length → K.getD m [] <+: K.getD i [] → (K.getD m [] <+: t ↔ (K.getD m []).length ≤ ci)
  dn : 0 < i → ¬ t < K.getD i []
theorem Inv.finDn {K : List LN} {t : LN} {i j ci cj : Nat} (I : Inv K t i j ci cj) (hj : j ≤ i + 1) (D : Dn K t i ci) : Fin' K t i ci :=
  ⟨I.hi, fun m a b => I.up m (by lia) b, fun m _ h => D.2 _ h, fun _ => D.1⟩
theorem Inv.finUp {K : List LN} {t : LN} {ci cj : Nat} (S : Srt K) (I : Inv K t 0 0 ci cj) : Fin' K t 0 ci := by
  refine ⟨I.hi, fun m a b => I.up m (by lia) b, fun m hm h => ?_, fun q => absurd q (Nat.lt_irrefl _)⟩
  have hn : ¬ K.getD m [] <+: t := fun q => not_lt_pre q (I.up m (Nat.zero_le _) hm)
  refine ⟨fun q => absurd q hn, fun q => absurd (take_pre_iff h I.hci I.pi q) hn⟩
structure Ch (K : List LN) (t : LN) (i ci p : Nat) : Prop where
  hp : p < K.length
  pi : K.getD p [] <+: K.getD i []
  all : ∀ m, m < K.length → K.getD m [] <+: t → m ≤ p ∧ K.getD m [] <+: K.getD p []
theorem Fin'.ch {K : List LN} {t : LN} {i ci : Nat} (S : Srt K) (F : Fin' K t i ci) : Ch K t i ci i := by
  refine ⟨F.hi, List.prefix_rfl, fun m hm h => ?_⟩
  have hmi : m ≤ i := Nat.le_of_not_lt fun q => not_lt_pre h (F.up m q hm)
  refine ⟨hmi, ?_⟩
  rcases Nat.lt_or_ge m i with l | l
  · exact pre_between List.prefix_rfl h (S.le hmi F.hi) (F.dn (by lia))
  · obtain rfl : m = i := by lia
    exact List.prefix_rfl
def LinksOk (K : List LN) (L : Nat → Int) : Prop :=
  ∀ p, p < K.length → (L p = -1 ∧ ∀ m, m < p → ¬ K.getD m [] <+: K.getD p []) ∨ ∃ q, q < p ∧ L p = (q : Nat) ∧ K.getD q [] <+: K.getD p [] ∧ ∀ m, m < p → K.getD m [] <+: K.getD p [] → m ≤ q
/-- what a search finds -/
def Fnd (K : List LN) (R : Nat → Int) (t : LN) (r : Int) (k : Nat) : Prop :=
  (∃ p, p < K.length ∧ K.getD p [] <+: t ∧ (∀ m, m < K.length → K.getD m [] <+: t → K.getD m [] <+: K.getD p []) ∧ r = R p ∧ k = (K.getD p []).length) ∨
  ((∀ m, m < K.length → ¬ K.getD m [] <+: t) ∧ r = 0 ∧ k = 0)
theorem Ch.hit {K : List LN} {t : LN} {i ci p : Nat} {R : Nat → Int} (F : Fin' K t i ci) (C : Ch K t i ci p) (h : (K.getD p []).length ≤ ci) : Fnd K R t (R p) (K.getD p []).length :=
  .inl ⟨p, C.hp, (F.at' p C.hp C.pi).mpr h, fun m hm q => (C.all m hm q).2, rfl, rfl⟩
theorem Ch.miss {K : List LN} {t : LN} {i ci p : Nat} {R L : Nat → Int} (S : Srt K) (F : Fin' K t i ci) (C : Ch K t i ci p) (hL : LinksOk K L) (h : ¬ (K.getD p []).length ≤ ci) :
    (L p = -1 ∧ Fnd K R t 0 0) ∨ ∃ q, q < p ∧ L p = (q : Nat) ∧ Ch K t i ci q := by
  have hn : ¬ K.getD p [] <+: t := fun q => h ((F.at' p C.hp C.pi).mp q)
  have hlt : ∀ m, m < K.length → K.getD m [] <+: t → m < p := fun m hm q =>
    Nat.lt_of_le_of_ne (C.all m hm q).1 fun e => hn (e ▸ q)
  rcases hL p C.hp with ⟨e, hm⟩ | ⟨q, hq, e, hp, hm⟩
  · exact .inl ⟨e, .inr ⟨fun m hm' q => hm m (hlt m hm' q) (C.all m hm' q).2, rfl, rfl⟩⟩
  · refine .inr ⟨q, hq, e, by have := C.hp; lia, hp.trans C.pi, fun m hm' x => ?_⟩
    have hmq := hm m (hlt m hm' x) (C.all m hm' x).2
    exact ⟨hmq, pre_between List.prefix_rfl (C.all m hm' x).2 (S.le hmq (by have := C.hp; lia)) (S.le (Nat.le_of_lt hq) C.hp)⟩
end Mine
end
open PySem PySem.W PyProof.Rows PySem.Calls
set_option Elab.async false
set_option autoImplicit false
set_option linter.unusedVariables false
set_option maxRecDepth 100000
namespace Mine
theorem fill (g : Gl) : hd.heap_39 g.w.params = hd.heap_39 g.w.params ∧ PySem.Challenge.rw_af0029_01 = PySem.Challenge.rw_af0029_01 := by
  k_fill
  exact ⟨rfl, rfl⟩
local macro_rules | `(tactic| walk_at "m mem") => `(tactic| first | exact List.Mem.head _ | (refine List.Mem.tail _ ?_; walk_at "m mem"))
local macro_rules | `(tactic| walk_at "m size") => `(tactic| (rw [sizeLine_eq]; (try simp only [List.length_append, List.length_cons, List.length_nil, List.length_take, List.length_drop]); lia))
local macro_rules | `(tactic| walk_at "m loc") => `(tactic| ((try show TSs _ (_ :: _) _ _ _); simp only [List.zip_cons_cons, List.zip_nil_left, List.zip_nil_right, List.map_cons, List.map_nil, List.cons_append, List.nil_append]))
-- one step of the walk
local macro_rules | `(tactic| walk_at "TSs cons") => `(tactic| refine Ss_cons ?_)
local macro_rules | `(tactic| walk_at "TSs nil") => `(tactic| refine Ss_nil ?_)
local macro_rules | `(tactic| walk_at "TS Assign") => `(tactic| k_dflt (first | refine S_assign ?_ | refine S_sattr ?_ | refine S_setitem ?_))
local macro_rules | `(tactic| walk_at "TS AugAssign") => `(tactic| k_dflt (first | refine S_aug (by with_reducible walk_at "m mem") ?_ | refine S_aattr ?_))
local macro_rules | `(tactic| walk_at "TS If") => `(tactic| k_dflt (refine S_if ?_))
local macro_rules | `(tactic| walk_at "TS Return") => `(tactic| k_dflt (refine S_ret ?_))
local macro_rules | `(tactic| walk_at "TS Break") => `(tactic| k_dflt (refine S_brk ?_))
local macro_rules | `(tactic| walk_at "TS Continue") => `(tactic| k_dflt (refine S_cont ?_))
local macro_rules | `(tactic| walk_at "TS Expr") => `(tactic| k_dflt (refine S_expr ?_))
local macro_rules | `(tactic| walk_at "TS Assert") => `(tactic| k_dflt (refine S_assert ?_))
local macro_rules | `(tactic| walk_at "TE Name") => `(tactic| first | refine E_local (by walk_at "m mem") ?_ | k_dflt (refine E_globL lit_LET (GlbOk.mk (kind_of (by with_reducible assumption) (by rfl)) (by rfl) (.inl (by k_is))) ?_) | k_dflt (refine E_glob (GlbOk.mk (kind_of (by with_reducible assumption) (by rfl)) (by rfl) (.inl (by k_is))) ?_) | k_dflt (refine E_glob (GlbOk.mk (kind_of (by with_reducible assumption) (by rfl)) (by rfl) (.inr ⟨by k_is, by boot_by_name, by decide⟩)) ?_))
local macro_rules | `(tactic| walk_at "TE Constant") => `(tactic| with_reducible first | refine E_int ?_ | refine E_bool ?_ | refine E_str lit_nil ?_ | refine E_str lit_a ?_ | refine E_str lit_e ?_ | refine E_str lit_t ?_ | refine E_str lit_s ?_)
local macro_rules | `(tactic| walk_at "TE BinOp") => `(tactic| refine E_bin ?_)
local macro_rules | `(tactic| walk_at "TE Compare") => `(tactic| k_dflt (refine E_cmp ?_))
local macro_rules | `(tactic| walk_at "TE UnaryOp") => `(tactic| refine E_neg ?_)
local macro_rules | `(tactic| walk_at "TE Attribute") => `(tactic| k_dflt (refine E_attr ?_))
local macro_rules | `(tactic| walk_at "TE Subscript") => `(tactic| k_dflt (first | refine E_slice_ns ?_ | refine E_slice_sn ?_ | refine E_slice_ss ?_ | refine E_sub ?_))
local macro_rules | `(tactic| walk_at "TE List") => `(tactic| refine E_list ?_)
local macro_rules | `(tactic| walk_at "TE Tuple") => `(tactic| refine E_tuple ?_)
local macro_rules | `(tactic| walk_at "TA nil") => `(tactic| refine TA_nil ?_)
local macro_rules | `(tactic| walk_at "TA cons") => `(tactic| k_dflt (refine TA_cons ?_))
local macro_rules | `(tactic| walk_at "TB Compare") => `(tactic| k_dflt (refine B_cmp ?_))
local macro_rules | `(tactic| walk_at "TB UnaryOp") => `(tactic| refine B_not ?_)
local macro_rules | `(tactic| walk_at "TB Name") => `(tactic| k_dflt (refine B_of ?_))
local macro_rules | `(tactic| walk_at "TB Call") => `(tactic| k_dflt (refine B_of ?_))
local macro_rules | `(tactic| walk_at "TB Constant") => `(tactic| k_dflt (refine B_of ?_))
local macro_rules | `(tactic| walk_at "Bin Add int int") => `(tactic| refine Bin_add ?_)
local macro_rules | `(tactic| walk_at "Bin Sub int int") => `(tactic| refine Bin_sub ?_)
local macro_rules | `(tactic| walk_at "Bin Mod int int") => `(tactic| refine Bin_mod (by first | decide | lia) ?_)
local macro_rules | `(tactic| walk_at "Bin FloorDiv int int") => `(tactic| k_dflt (refine Bin_fdiv (by decide) (by first | rfl | decide) ?_))
local macro_rules | `(tactic| walk_at "Bin RShift int int") => `(tactic| refine Bin_shr1 ?_)
local macro_rules | `(tactic| walk_at "Bin Add str str") => `(tactic| refine Bin_adds (by walk_at "m size") ?_)
local macro_rules | `(tactic| walk_at "Ibin Add int int") => `(tactic| refine Ibin_add ?_)
local macro_rules | `(tactic| walk_at "Ibin Sub int int") => `(tactic| refine Ibin_sub ?_)
local macro_rules | `(tactic| walk_at "Cmp Lt int int") => `(tactic| refine Cmp_lt ?_)
local macro_rules | `(tactic| walk_at "Cmp LtE int int") => `(tactic| refine Cmp_le ?_)
local macro_rules | `(tactic| walk_at "Cmp Gt int int") => `(tactic| refine Cmp_gt ?_)
local macro_rules | `(tactic| walk_at "Cmp GtE int int") => `(tactic| refine Cmp_ge ?_)
local macro_rules | `(tactic| walk_at "Cmp Eq int int") => `(tactic| refine Cmp_eq ?_)
local macro_rules | `(tactic| walk_at "Cmp NotEq int int") => `(tactic| refine Cmp_ne ?_)
local macro_rules | `(tactic| walk_at "Cmp Eq str str") => `(tactic| refine Cmp_eqs ?_)
local macro_rules | `(tactic| walk_at "Cmp NotEq str str") => `(tactic| refine Cmp_nes ?_)
local macro_rules | `(tactic| walk_at "Tru bool") => `(tactic| refine Tru_bool ?_)
local macro_rules | `(tactic| walk_at "Exists") => `(tactic| with_reducible first | refine set_here ?_ | refine set_there ?_ | refine ex_int ?_ | refine ex_str ?_ | refine ex_ref ?_ | refine ex_erref ?_ | refine ex_bi ?_ | refine ex_ty ?_)
local macro_rules | `(tactic| walk_at "And") => `(tactic| k_dflt (first | refine ⟨(by k_is : keepIn _ _ = true), ?_⟩ | refine ⟨(fun _ q => by cases q), ?_⟩))
local macro_rules | `(tactic| walk_at "Req") => `(tactic| refine ⟨by first | lia | exact decide_eq_true (by lia), ?_⟩)
local macro_rules | `(tactic| walk_at "m fn") => `(tactic| (
  (case ho => k_is); (case hcd => k_is); (case hlen => rfl); (case hloc => decide +kernel); (case hnd => decide +kernel); (case c1 => rfl); (case c2 => rfl); (case c3 => rfl); (case c4 => decide)))
local macro_rules | `(tactic| walk_at "TE Call") => `(tactic| k_dflt (first
  | refine E_callb (E_glob (GlbOk.mk (kind_of (by with_reducible assumption) (by rfl)) (by rfl) (.inr ⟨by k_is, by boot_by_name, by decide⟩)) (ex_bi ?_))
  | refine E_callt (E_glob (GlbOk.mk (kind_of (by with_reducible assumption) (by rfl)) (by rfl) (.inr ⟨by k_is, by boot_by_name, by decide⟩)) (ex_ty ?_))
  | refine E_call (E_glob (GlbOk.mk (kind_of (by with_reducible assumption) (by rfl)) (by rfl) (.inl (by k_is))) ⟨_, rfl, by k_is, ?_⟩)
  | refine E_call0 (E_glob (GlbOk.mk (kind_of (by with_reducible assumption) (by rfl)) (by rfl) (.inl (by k_is))) ⟨_, rfl, by k_is, ?_⟩)))
local macro_rules | `(tactic| walk_at "IfQ true") => `(tactic| refine ifq_true ?_)
local macro_rules | `(tactic| walk_at "IfQ false") => `(tactic| refine ifq_false ?_)
section
def LET : List Nat := [97, 101, 116, 115]
def wordL (k : Nat) : List Nat := if h : k = 0 then [] else LET.getD ((k - 1) % 4) 0 :: wordL ((k - 1) / 4)
decreasing_by lia

theorem wordL_zero : wordL 0 = [] := by rw [wordL]; rfl
theorem wordL_succ {k : Nat} (h : 0 < k) : wordL k = LET.getD ((k - 1) % 4) 0 :: wordL ((k - 1) / 4) := by rw [wordL, dif_neg (by lia)]

theorem word_ok {g : Gl} {k : Int} {hp : Hp} {P : PV → Hp → Prop} (hk : 0 ≤ k) (hk2 : k < 1000) (h : P (.str (wordL k.toNat)) hp) : FnOk g 1 238 [.int k] hp P := by
  refine' fn_intro [("k" : Str)] [("out" : Str)] ?ho ?hcd ?hbind ?hlen ?hloc ?hnd ?_ ?c1 ?c2 ?c3 ?c4
  walk_at "m fn"
  case hbind => (repeat refine all_cons fun _ => ?_); exact all_nil rfl
  intro c hg hd hs
  subst hg
  walk_at "m loc"
  iterate 6 walk1
  refine S_while (fun n loc h' => ∃ (j : Int) (out : List Nat), loc = [lI "k" j, lS "out" out] ∧ hp = h' ∧ 0 ≤ j ∧ j.toNat = n ∧ out.length + n ≤ 1000 ∧ out ++ wordL j.toNat = wordL k.toNat) k.toNat ⟨k, [], rfl, rfl, hk, rfl, by simp; lia, rfl⟩ ?_
  rintro n l' h' ⟨j, out, hl, hh, h0, hn, hlen, hw⟩
  subst hl hh
  iterate 5 walk1
  refine ⟨fun hb => ?_, fun hb => ?_⟩
  · have hj : 0 < j := of_decide_eq_true hb
    iterate 17 walk1
    refine Sub_str (n := LET.getD ((j.toNat - 1) % 4) 0) (by lia) (by lia) ?_ ?_
    · have : ((j - 1) % 4).toNat = (j.toNat - 1) % 4 := by lia
      rw [this]
      have h4 : (j.toNat - 1) % 4 < 4 := Nat.mod_lt _ (by decide)
      show LET[_]? = _
      rw [List.getD_eq_getElem?_getD, List.getElem?_eq_getElem (show (j.toNat - 1) % 4 < LET.length from h4)]
      rfl
    iterate 11 walk1
    refine turn_next ⟨((j - 1) / 4).toNat, by lia, (j - 1) / 4, _, rfl, rfl, by lia, rfl, ?_, ?_⟩
    · simp only [List.length_append, List.length_cons, List.length_nil]; lia
    · rw [← hw, wordL_succ (by lia : 0 < j.toNat), List.append_assoc]
      have : ((j - 1) / 4).toNat = (j.toNat - 1) / 4 := by lia
      rw [this]; rfl
  · have hj : ¬ 0 < j := of_decide_eq_false hb
    iterate 3 walk1
    have e : j.toNat = 0 := by lia
    rw [e, wordL_zero, List.append_nil] at hw
    rw [hw]; exact h
end
section
def atI (ns : List Int) (i : Nat) : Int := ns.getD (i % ns.length) 0 + i * i

theorem mul_ok (i : Nat) (hi : i < 100) : IntMulOk (i : Int) (i : Int) := by
  have key : ∀ j : Nat, j < 100 → (decide (Builtin.Int.intBits (j : Int) > shortFactorBits)) = false := by decide +kernel
  unfold IntMulOk
  rw [key i hi]
  simp

theorem at_ok {g : Gl} {a : Addr} {ns : List Int} {i : Nat} {hp : Hp} {P : PV → Hp → Prop} (ha : hp a = some (.list (ns.map .int))) (h0 : 0 < ns.length) (hl : ns.length ≤ 100) (hi : i < 100)
    (h : P (.int (atI ns i)) hp) : FnOk g 1 231 [.ref a, .int i] hp P := by
  refine' fn_intro [("script" : Str), ("i" : Str)] [] ?ho ?hcd ?hbind ?hlen ?hloc ?hnd ?_ ?c1 ?c2 ?c3 ?c4
  walk_at "m fn"
  case hbind => (repeat refine all_cons fun _ => ?_); exact all_nil rfl
  intro c hg hd hs
  subst hg
  walk_at "m loc"
  repeat walk1
  refine Cal_len_list ha (by simp; lia) ?_
  rw [List.length_map]
  repeat walk1
  have hlt : i % ns.length < ns.length := Nat.mod_lt _ h0
  have e : ((i : Int) % (ns.length : Int)).toNat = i % ns.length := by lia
  refine Sub_list (v := .int (ns.getD (i % ns.length) 0)) ha (by lia) (by lia) ?_ ?_
  · rw [e, List.getElem?_map, List.getD_eq_getElem?_getD, List.getElem?_eq_getElem hlt]; rfl
  repeat walk1
  refine Bin_mul (mul_ok i hi) ?_
  repeat walk1
  exact h

theorem back_ok {g : Gl} {x : List Nat} {hp : Hp} {P : PV → Hp → Prop} (hx : x.length ≤ 1000) (h : P (.str x.reverse) hp) : FnOk g 1 245 [.str x] hp P := by
  refine' fn_intro [("text" : Str)] [("out" : Str), ("sign" : Str)] ?ho ?hcd ?hbind ?hlen ?hloc ?hnd ?_ ?c1 ?c2 ?c3 ?c4
  walk_at "m fn"
  case hbind => (repeat refine all_cons fun _ => ?_); exact all_nil rfl
  intro c hg hd hs
  subst hg
  walk_at "m loc"
  repeat walk1
  refine S_for_str ?_
  repeat walk1
  refine ⟨fun i loc h' => hp = h' ∧ ∃ o, loc = [lS "text" x, lS "out" (x.take i).reverse, lO "sign" o], ⟨rfl, _, rfl⟩, ?_, ?_⟩
  · rintro i l h' k hk ⟨hh, o, hl⟩
    subst hh hl
    have hlen : (x.take i).reverse.length ≤ 1000 := by simp; lia
    repeat walk1
    refine turn_next ⟨rfl, some (.str [k]), ?_⟩
    rw [List.take_add_one, hk]
    simp [lS, lO]
  · rintro l h' ⟨hh, o, hl⟩
    subst hh hl
    repeat walk1
    rw [List.take_length]
    exact h

/-- the letters in a set, as bits -/
def isIn (V : List (List Nat)) (k : Nat) : Bool := decide ([k] ∈ V)

def regionGo (V : List (List Nat)) : List Nat → Nat → Nat → Nat
  | a :: b :: r, i, n => if isIn V a && !isIn V b then i + 1 else regionGo V (b :: r) (i + 1) n
  | _, _, n => n
def regionL (x : List Nat) (V : List (List Nat)) : Nat := regionGo V x 1 x.length

theorem region_step {V : List (List Nat)} {x : List Nat} {i n a b : Nat} (hi : 1 ≤ i) (ha : x[i - 1]? = some a) (hb : x[i]? = some b) :
    regionGo V (x.drop (i - 1)) i n = if isIn V a && !isIn V b then i + 1 else regionGo V (x.drop i) (i + 1) n := by
  obtain ⟨h1, e1⟩ := List.getElem?_eq_some_iff.mp ha
  obtain ⟨h2, e2⟩ := List.getElem?_eq_some_iff.mp hb
  have d1 : x.drop (i - 1) = a :: x.drop i := by
    rw [List.drop_eq_getElem_cons h1, e1, Nat.sub_add_cancel hi]
  have d2 : x.drop i = b :: x.drop (i + 1) := by rw [List.drop_eq_getElem_cons h2, e2]
  rw [d1, d2, regionGo]
theorem region_end {V : List (List Nat)} {x : List Nat} {i n : Nat} (hi : x.length ≤ i) : regionGo V (x.drop (i - 1)) i n = n := by
  have : (x.drop (i - 1)).length ≤ 1 := by simp; lia
  match h : x.drop (i - 1) with
  | [] => rfl
  | [_] => rfl
  | _ :: _ :: _ => rw [h] at this; simp at this

theorem small_range {a b : Int} (ha : -1000 ≤ a) (ha2 : a ≤ 1000) (hb : -1000 ≤ b) (hb2 : b ≤ 1000) : Builtin.Range.small a b 1 = true ∧ Builtin.Range.rangeSize a b 1 = ((b - a).toNat : Int) := by
  have e : Builtin.Range.rangeSize a b 1 = ((b - a).toNat : Int) := by
    unfold Builtin.Range.rangeSize
    simp only [show (1 : Int) > 0 from by decide, if_true]
    split <;> lia
  refine ⟨?_, e⟩
  unfold Builtin.Range.small
  rw [e]
  simp only [show (1 : Int) > 0 from by decide, if_true, Builtin.Range.rangeFitsLong, Bool.and_eq_true, Bool.or_eq_true, decide_eq_true_eq, beq_iff_eq]
  lia

theorem region_ok {g : Gl} {x : List Nat} {v : Addr} {V : List (List Nat)} {hp : Hp} {P : PV → Hp → Prop} (hx : x.length ≤ 900) (hv : hp v = some (.sset V)) (h : P (.int (regionL x V)) hp) :
    FnOk g 1 276 [.str x, .ref v] hp P := by
  refine' fn_intro [("text" : Str), ("vowels" : Str)] [("i" : Str)] ?ho ?hcd ?hbind ?hlen ?hloc ?hnd ?_ ?c1 ?c2 ?c3 ?c4
  walk_at "m fn"
  case hbind => (repeat refine all_cons fun _ => ?_); exact all_nil rfl
  intro c hg hd hs
  subst hg
  walk_at "m loc"
  repeat walk1
  refine S_for_range ?_
  repeat walk1
  refine Cal_len_str (by lia) ?_
  repeat walk1
  refine Cal_range2 fun r hr => ?_
  obtain ⟨r1, r2⟩ := small_range (a := 1) (b := x.length) (by lia) (by lia) (by lia) (by lia)
  refine ⟨r, 1, x.length, 1, _, hp, rfl, Hp.upd_self .., r1, r2, Hp.le_upd hr, ?_⟩
  refine ⟨fun i loc h' => hp = h' ∧ (∃ o, loc = [lS "text" x, lR "vowels" v, lO "i" o]) ∧ regionGo V (x.drop i) (i + 1) x.length = regionL x V, ⟨rfl, ⟨_, rfl⟩, rfl⟩, ?_, ?_⟩
  · rintro i loc h' hi ⟨hh, ⟨o, hl⟩, hq⟩
    subst hh hl
    have hi' : i + 1 < x.length := by lia
    have ha : x[(i + 1) - 1]? = some (x[i]'(by lia)) := List.getElem?_eq_getElem (by lia)
    have hb : x[i + 1]? = some (x[i + 1]'hi') := List.getElem?_eq_getElem hi'
    have hstep := region_step (V := V) (n := x.length) (i := i + 1) (by lia) ha hb
    rw [Nat.add_sub_cancel] at hstep
    rw [hstep] at hq
    repeat walk1
    refine B_and2 (isIn V (x[i]'(by lia))) (!isIn V (x[i + 1]'hi')) (fun P' hP => ?_) (fun _ P' hP => ?_) ?_
    · repeat walk1
      refine Sub_str (n := x[i]'(by lia)) (by lia) (by lia) ?_ ?_
      · rw [show (1 + (i : Int) * 1 - 1).toNat = i from by lia]; exact ha
      repeat walk1
      refine Cmp_in_set hv ?_
      repeat walk1
      exact hP
    · repeat walk1
      refine Sub_str (n := x[i + 1]'hi') (by lia) (by lia) ?_ ?_
      · rw [show (1 + (i : Int) * 1).toNat = i + 1 from by lia]; exact hb
      repeat walk1
      refine Cmp_notin_set hv ?_
      repeat walk1
      exact hP
    refine ⟨fun h2 => ?_, fun h2 => ?_⟩
    · repeat walk1
      refine turn_ret ?_
      have : (1 + (i : Int) * 1 + 1) = (regionL x V : Nat) := by
        rw [← hq, if_pos h2]; lia
      show P (.int _) hp
      rw [this]; exact h
    · repeat walk1
      refine turn_next ⟨rfl, ⟨_, rfl⟩, ?_⟩
      rw [← hq, if_neg (by rw [h2]; exact Bool.false_ne_true)]
  · rintro loc h' ⟨hh, ⟨o, hl⟩, hq⟩
    subst hh hl
    repeat walk1
    repeat walk1
    refine Cal_len_str (by lia) ?_
    have : (x.length : Nat) = regionL x V := by
      rw [← hq]
      have := region_end (V := V) (x := x) (i := ((x.length : Int) - 1).toNat + 1) (n := x.length) (by lia)
      rw [Nat.add_sub_cancel] at this
      exact this.symm
    rw [this]; exact h
end
section
structure Row where
  p : List Nat
  r : Int
  q : List Nat
def rowT (t : Row) : List PV := [.str t.p, .int t.r, .str t.q]
def TableAt (hp : Hp) (a : Addr) (T : List Row) : Prop :=
  ∃ refs : List Addr, hp a = some (.list (refs.map .ref)) ∧ refs.length = T.length ∧ ∀ (i : Nat) (r : Addr) (t : Row), refs[i]? = some r → T[i]? = some t → hp r = some (.tuple (rowT t))
theorem TableAt.mono {hp hp' : Hp} {a : Addr} {T : List Row} (h : TableAt hp a T) (hle : hp.le hp') : TableAt hp' a T :=
  let ⟨refs, h1, h2, h3⟩ := h
  ⟨refs, hle _ _ h1, h2, fun i r t a b => hle _ _ (h3 i r t a b)⟩

theorem RepH.le {g : Gl} {K : Kp} {hp hp' : Hp} {h : Heap} (R : RepH g K hp' h) (hle : hp.le hp') : RepH g K hp h :=
  ⟨R.base, R.kept, fun a ao e => R.obj a ao (hle a ao e), R.size⟩
/-- what a def has made is forgotten -/
theorem FnOk.forget {g : Gl} {d : Nat} {fa : Addr} {as : List PV} {hp : Hp} {P : PV → Hp → Prop} {v₀ : PV} (h : FnOk g d fa as hp fun v h => hp.le h ∧ v = v₀) (hP : P v₀ hp) : FnOk g d fa as hp P :=
  fun A K s vs R hA hr ho hg hv hR => h A K s vs R hA hr ho hg hv fun v s' hp' r o g ⟨hle, e⟩ => hR v s' hp (r.le hle) o g (by rw [e]; exact hP)

/-- the piece fits the text's end | start -/
def fitsL (back : Bool) (x p : List Nat) : Bool := decide (p.length ≤ x.length) && decide ((if back then x.drop (x.length - p.length) else x.take p.length) = p)
def longStep (back : Bool) (x : List Nat) (b t : Row) : Row := if (decide (b.r = 0) || decide (t.p.length > b.p.length)) && fitsL back x t.p then t else b
def row0 : Row := ⟨[], 0, []⟩
def longestL (T : List Row) (x : List Nat) (back : Bool) : Row := T.foldl (longStep back x) row0

theorem take_succ_foldl {α β : Type} (f : β → α → β) (b : β) {l : List α} {i : Nat} {a : α} (h : l[i]? = some a) : (l.take (i + 1)).foldl f b = f ((l.take i).foldl f b) a := by
  rw [List.take_add_one, h]; simp

theorem mem_of_fold (T : List Row) (back : Bool) (x : List Nat) (i : Nat) : (T.take i).foldl (longStep back x) row0 = row0 ∨ (T.take i).foldl (longStep back x) row0 ∈ T := by
  induction i with
  | zero => left; rfl
  | succ i ih =>
    cases h : T[i]? with
    | none => rw [List.take_add_one, h]; simpa using ih
    | some t =>
      rw [take_succ_foldl _ _ h]
      unfold longStep
      split
      · exact .inr (List.mem_of_getElem? h)
      · exact ih

theorem longest_ok {g : Gl} {a : Addr} {T : List Row} {x : List Nat} {back : Bool} {hp : Hp} {P : PV → Hp → Prop} (hT : TableAt hp a T) (hx : x.length ≤ 900) (hTl : T.length ≤ 6) (hTp : ∀ t ∈ T, t.p.length ≤ 10)
    (h : ∀ r hp', hp.le hp' → hp' r = some (.tuple (rowT (longestL T x back))) → P (.ref r) hp') : FnOk g 1 283 [.ref a, .str x, .bool back] hp P := by
  refine' fn_intro [("table" : Str), ("text" : Str), ("back" : Str)] [("best" : Str), ("row" : Str), ("k" : Str)] ?ho ?hcd ?hbind ?hlen ?hloc ?hnd ?_ ?c1 ?c2 ?c3 ?c4
  walk_at "m fn"
  case hbind => (repeat refine all_cons fun _ => ?_); exact all_nil rfl
  intro c hg hd hs
  subst hg
  walk_at "m loc"
  repeat walk1
  refine ⟨by simp, fun r0 hr0 => ?_⟩
  repeat walk1
  generalize hq : hp.upd r0 (.tuple [.str [], .int 0, .str []]) = hp'
  have hle : hp.le hp' := by rw [← hq]; exact Hp.le_upd hr0
  have hb0 : hp' r0 = some (.tuple (rowT row0)) := by rw [← hq]; exact Hp.upd_self ..
  obtain ⟨refs, ha, hrl, hrt⟩ := hT.mono hle
  refine S_for_list ?_
  walk1
  refine ⟨a, refs.map .ref, rfl, ?_⟩
  refine ⟨fun i loc h' => hp' = h' ∧ ∃ b o1 o2, loc = [lR "table" a, lS "text" x, lB "back" back, lR "best" b, lO "row" o1, lO "k" o2] ∧ hp' b = some (.tuple (rowT ((T.take i).foldl (longStep back x) row0))), ⟨rfl, _, _, _, rfl, hb0⟩, ?_, ?_, ?_⟩
  · rintro i l h' ⟨rfl, _⟩; exact ha
  · rintro i loc h' v hv ⟨hh, b, o1, o2, hl, hb⟩
    subst hh hl
    rw [List.getElem?_map, Option.map_eq_some_iff] at hv
    obtain ⟨rr, hrr, rfl⟩ := hv
    have hi : i < T.length := by rw [← hrl]; exact (List.getElem?_eq_some_iff.mp hrr).1
    have hti : T[i]? = some T[i] := List.getElem?_eq_getElem hi
    have ht := hrt i rr T[i] hrr hti
    have htp : T[i].p.length ≤ 10 := hTp _ (List.getElem_mem hi)
    generalize T[i] = t at hti ht htp
    have hnext := take_succ_foldl (longStep back x) row0 hti
    have hbp : ((T.take i).foldl (longStep back x) row0).p.length ≤ 10 := by
      rcases mem_of_fold T back x i with e | e
      · rw [e]; decide
      · exact hTp _ e
    obtain ⟨best, hbest⟩ : ∃ b, (T.take i).foldl (longStep back x) row0 = b := ⟨_, rfl⟩
    rw [hbest] at hb hbp hnext
    repeat walk1
    refine Sub_tuple ht (by lia) (by lia) (v := .str t.p) rfl ?_
    repeat walk1
    refine Cal_len_str (by lia) ?_
    repeat walk1
    refine B_and2 (decide (t.p.length ≤ x.length)) (decide (best.r = 0) || decide (t.p.length > best.p.length)) (fun P' hP => ?_) (fun _ P' hP => ?_) ?_
    · repeat walk1
      refine Cal_len_str (by lia) ?_
      repeat walk1
      rw [show decide ((t.p.length : Int) ≤ (x.length : Int)) = decide (t.p.length ≤ x.length) from by simp]
      exact hP
    · refine B_or2 (decide (best.r = 0)) (decide (t.p.length > best.p.length)) (fun P' hP => ?_) (fun _ P' hP => ?_) hP
      · repeat walk1
        refine Sub_tuple hb (by lia) (by lia) (v := .int best.r) rfl ?_
        repeat walk1
        exact hP
      · repeat walk1
        refine Sub_tuple hb (by lia) (by lia) (v := .str best.p) rfl ?_
        repeat walk1
        refine Cal_len_str (by lia) ?_
        repeat walk1
        rw [show decide ((best.p.length : Int) < (t.p.length : Int)) = decide (t.p.length > best.p.length) from by simp]
        exact hP
    refine ⟨fun h1 => ?_, fun h1 => ?_⟩
    · rw [Bool.and_eq_true, decide_eq_true_eq] at h1
      repeat walk1
      refine E_ifexp2 back (.str (x.drop (x.length - t.p.length))) (.str (x.take t.p.length)) (fun P' hP => ?_) (fun _ P' hP => ?_) (fun _ P' hP => ?_) ?_
      · repeat walk1
        exact hP
      · repeat walk1
        refine Cal_len_str (by lia) ?_
        repeat walk1
        rw [show ((x.length : Int) - (t.p.length : Int)).toNat = x.length - t.p.length from by lia]
        exact hP
      · repeat walk1
        exact hP
      rw [show (if back = true then PV.str (x.drop (x.length - t.p.length)) else .str (x.take t.p.length)) = .str (if back = true then x.drop (x.length - t.p.length) else x.take t.p.length) from by split <;> rfl]
      repeat walk1
      refine Sub_tuple ht (by lia) (by lia) (v := .str t.p) rfl ?_
      repeat walk1
      refine ⟨fun h2 => ?_, fun h2 => ?_⟩
      · repeat walk1
        refine turn_next ⟨rfl, rr, _, _, rfl, ?_⟩
        rw [hnext]
        unfold longStep fitsL
        rw [if_pos (by rw [h1.2, h2]; simp [h1.1])]
        exact ht
      · repeat walk1
        refine turn_next ⟨rfl, b, _, _, rfl, ?_⟩
        rw [hnext]
        unfold longStep fitsL
        rw [if_neg (by rw [h2]; simp)]
        exact hb
    · repeat walk1
      refine turn_next ⟨rfl, b, _, _, rfl, ?_⟩
      rw [hnext]
      unfold longStep fitsL
      rw [if_neg (fun q => ?_)]
      · exact hb
      · simp only [Bool.and_eq_true, decide_eq_true_eq] at q
        rw [q.1, Bool.and_true, decide_eq_false_iff_not] at h1
        exact h1 q.2.1
  · rintro loc h' ⟨hh, b, o1, o2, hl, hb⟩
    subst hh hl
    rw [List.length_map, hrl, List.take_length] at hb
    repeat walk1
    exact h b hp' hle hb
end
section
def pieceL (Ts : List (List Row)) (m : Int) : List Nat :=
  if m % 5 = 4 then [] else ((Ts.getD (m % 5).toNat []).getD ((m / 5) % ((Ts.getD (m % 5).toNat []).length : Int)).toNat row0).p

def TablesAt (hp : Hp) (a : Addr) (Ts : List (List Row)) : Prop :=
  ∃ refs : List Addr, hp a = some (.list (refs.map .ref)) ∧ refs.length = Ts.length ∧ ∀ (i : Nat) (r : Addr) (T : List Row), refs[i]? = some r → Ts[i]? = some T → TableAt hp r T

theorem piece_ok {g : Gl} {a : Addr} {Ts : List (List Row)} {m : Int} {hp : Hp} {P : PV → Hp → Prop} (hT : TablesAt hp a Ts) (h4 : Ts.length = 4) (hTl : ∀ T ∈ Ts, 0 < T.length ∧ T.length ≤ 6)
    (h : P (.str (pieceL Ts m)) hp) : FnOk g 1 297 [.ref a, .int m] hp P := by
  refine' fn_intro [("tables" : Str), ("m" : Str)] [("table" : Str)] ?ho ?hcd ?hbind ?hlen ?hloc ?hnd ?_ ?c1 ?c2 ?c3 ?c4
  walk_at "m fn"
  case hbind => (repeat refine all_cons fun _ => ?_); exact all_nil rfl
  intro c hg hd hs
  subst hg
  walk_at "m loc"
  repeat walk1
  refine ⟨fun h1 => ?_, fun h1 => ?_⟩
  · have h1 := of_decide_eq_true h1
    repeat walk1
    unfold pieceL at h
    rw [if_pos h1] at h
    exact h
  · have h1 := of_decide_eq_false h1
    unfold pieceL at h
    rw [if_neg h1] at h
    obtain ⟨refs, ha, hl, hr⟩ := hT
    have hk : (m % 5).toNat < Ts.length := by lia
    have hr1 : refs[(m % 5).toNat]? = some (refs[(m % 5).toNat]'(by lia)) := List.getElem?_eq_getElem (by lia)
    have ht1 : Ts[(m % 5).toNat]? = some (Ts[(m % 5).toNat]'hk) := List.getElem?_eq_getElem hk
    have hmem : Ts[(m % 5).toNat]'hk ∈ Ts := List.getElem_mem hk
    have hget : Ts.getD (m % 5).toNat [] = Ts[(m % 5).toNat]'hk := by rw [List.getD_eq_getElem?_getD, ht1]; rfl
    rw [hget] at h
    obtain ⟨rs, hra, hrl, hrt⟩ := hr _ _ _ hr1 ht1
    obtain ⟨z1, z2⟩ := hTl _ hmem
    generalize Ts[(m % 5).toNat]'hk = T at *
    repeat walk1
    refine Sub_list ha (by lia) (by lia) (v := .ref (refs[(m % 5).toNat]'(by lia))) (by rw [List.getElem?_map, hr1]; rfl) ?_
    repeat walk1
    refine Cal_len_list hra (by simp; lia) ?_
    rw [List.length_map, hrl]
    repeat walk1
    have hj : (m / 5 % (T.length : Int)).toNat < T.length := by
      have := Int.emod_lt_of_pos (m / 5) (show (0 : Int) < T.length by lia)
      have := Int.emod_nonneg (m / 5) (show (T.length : Int) ≠ 0 by lia)
      lia
    have hj0 := Int.emod_nonneg (m / 5) (show (T.length : Int) ≠ 0 by lia)
    have e1 : rs[(m / 5 % (T.length : Int)).toNat]? = some (rs[(m / 5 % (T.length : Int)).toNat]'(by lia)) := List.getElem?_eq_getElem (by lia)
    have e2 : T[(m / 5 % (T.length : Int)).toNat]? = some (T[(m / 5 % (T.length : Int)).toNat]'hj) := List.getElem?_eq_getElem hj
    have e3 : T.getD (m / 5 % (T.length : Int)).toNat row0 = T[(m / 5 % (T.length : Int)).toNat]'hj := by rw [List.getD_eq_getElem?_getD, e2]; rfl
    refine Sub_list hra hj0 (by lia) (v := .ref (rs[(m / 5 % (T.length : Int)).toNat]'(by lia))) (by rw [List.getElem?_map, e1]; rfl) ?_
    repeat walk1
    rw [e3] at h
    exact Sub_tuple (hrt _ _ _ e1 e2) (by lia) (by lia) (v := .str (T[(m / 5 % (T.length : Int)).toNat]'hj).p) rfl h

/-! the stemmer's state -/
structure Stm where
  cur : List Nat
  c : Int
  l : Int
  lb : Int
  br : Int
  ke : Int
def stF (σ : Stm) : List (Str × PV) := [("current", .str σ.cur), ("cursor", .int σ.c), ("limit", .int σ.l), ("limit_backward", .int σ.lb), ("bra", .int σ.br), ("ket", .int σ.ke)]
def stH (hp : Hp) (dx : Addr) (σ : Stm) : Hp := hp.upd dx (.flds (stF σ))
theorem stH_dx (hp : Hp) (dx : Addr) (σ : Stm) : stH hp dx σ dx = some (.flds (stF σ)) := Hp.upd_self ..
theorem stH_ne {hp : Hp} {dx a : Addr} {σ : Stm} (h : a ≠ dx) : stH hp dx σ a = hp a := Hp.upd_ne _ _ h
theorem stH_upd (hp : Hp) (dx : Addr) (σ σ' : Stm) : (stH hp dx σ).upd dx (.flds (stF σ')) = stH hp dx σ' := Hp.upd_upd ..
theorem aok_current (g : Gl) : AttrOk (hd.heap_39 g.w.params) 199 "current" := ⟨by k_is, by k_is, _, by k_is, by k_is⟩
theorem sok_current (g : Gl) : SetOk (hd.heap_39 g.w.params) 199 "current" := ⟨by k_is, by k_is, by k_is, by k_is⟩
theorem Atr_current {c : Cx} {loc : Loc} {hp : Hp} {x dx : Addr} {cur : List Nat} {i l b p q : Int} {P : PV → Hp → Prop} (hx : hp x = some (.inst 199 dx)) (hne : x ≠ dx) (h : P (.str cur) (stH hp dx ⟨cur, i, l, b, p, q⟩)) : Atr c (.ref x) "current" loc (stH hp dx ⟨cur, i, l, b, p, q⟩) P :=
  Atr_own ((stH_ne hne).trans hx) (stH_dx ..) (aok_current c.g) (.head) (fun _ e => by cases e) h
theorem Sat_current {c : Cx} {loc : Loc} {hp : Hp} {x dx : Addr} {cur : List Nat} {i l b p q : Int} {k : List Nat} {P : Hp → Prop} (hx : hp x = some (.inst 199 dx)) (hne : x ≠ dx) (h : P (stH hp dx ⟨k, i, l, b, p, q⟩)) : Sat c (.ref x) "current" (.str k) loc (stH hp dx ⟨cur, i, l, b, p, q⟩) P :=
  Sat_own ((stH_ne hne).trans hx) (stH_dx ..) (sok_current c.g) (fs' := stF ⟨k, i, l, b, p, q⟩) (.head) (by simp [stF]) (by rw [stH_upd]; exact h)
theorem aok_cursor (g : Gl) : AttrOk (hd.heap_39 g.w.params) 199 "cursor" := ⟨by k_is, by k_is, _, by k_is, by k_is⟩
theorem sok_cursor (g : Gl) : SetOk (hd.heap_39 g.w.params) 199 "cursor" := ⟨by k_is, by k_is, by k_is, by k_is⟩
theorem Atr_cursor {c : Cx} {loc : Loc} {hp : Hp} {x dx : Addr} {cur : List Nat} {i l b p q : Int} {P : PV → Hp → Prop} (hx : hp x = some (.inst 199 dx)) (hne : x ≠ dx) (h : P (.int i) (stH hp dx ⟨cur, i, l, b, p, q⟩)) : Atr c (.ref x) "cursor" loc (stH hp dx ⟨cur, i, l, b, p, q⟩) P :=
  Atr_own ((stH_ne hne).trans hx) (stH_dx ..) (aok_cursor c.g) (.tail (by decide) (.head)) (fun _ e => by cases e) h
theorem Sat_cursor {c : Cx} {loc : Loc} {hp : Hp} {x dx : Addr} {cur : List Nat} {i l b p q : Int} {k : Int} {P : Hp → Prop} (hx : hp x = some (.inst 199 dx)) (hne : x ≠ dx) (h : P (stH hp dx ⟨cur, k, l, b, p, q⟩)) : Sat c (.ref x) "cursor" (.int k) loc (stH hp dx ⟨cur, i, l, b, p, q⟩) P :=
  Sat_own ((stH_ne hne).trans hx) (stH_dx ..) (sok_cursor c.g) (fs' := stF ⟨cur, k, l, b, p, q⟩) (.tail (by decide) (.head)) (by simp [stF]) (by rw [stH_upd]; exact h)
theorem aok_limit (g : Gl) : AttrOk (hd.heap_39 g.w.params) 199 "limit" := ⟨by k_is, by k_is, _, by k_is, by k_is⟩
theorem sok_limit (g : Gl) : SetOk (hd.heap_39 g.w.params) 199 "limit" := ⟨by k_is, by k_is, by k_is, by k_is⟩
theorem Atr_limit {c : Cx} {loc : Loc} {hp : Hp} {x dx : Addr} {cur : List Nat} {i l b p q : Int} {P : PV → Hp → Prop} (hx : hp x = some (.inst 199 dx)) (hne : x ≠ dx) (h : P (.int l) (stH hp dx ⟨cur, i, l, b, p, q⟩)) : Atr c (.ref x) "limit" loc (stH hp dx ⟨cur, i, l, b, p, q⟩) P :=
  Atr_own ((stH_ne hne).trans hx) (stH_dx ..) (aok_limit c.g) (.tail (by decide) (.tail (by decide) (.head))) (fun _ e => by cases e) h
theorem Sat_limit {c : Cx} {loc : Loc} {hp : Hp} {x dx : Addr} {cur : List Nat} {i l b p q : Int} {k : Int} {P : Hp → Prop} (hx : hp x = some (.inst 199 dx)) (hne : x ≠ dx) (h : P (stH hp dx ⟨cur, i, k, b, p, q⟩)) : Sat c (.ref x) "limit" (.int k) loc (stH hp dx ⟨cur, i, l, b, p, q⟩) P :=
  Sat_own ((stH_ne hne).trans hx) (stH_dx ..) (sok_limit c.g) (fs' := stF ⟨cur, i, k, b, p, q⟩) (.tail (by decide) (.tail (by decide) (.head))) (by simp [stF]) (by rw [stH_upd]; exact h)
theorem aok_limit_backward (g : Gl) : AttrOk (hd.heap_39 g.w.params) 199 "limit_backward" := ⟨by k_is, by k_is, _, by k_is, by k_is⟩
theorem sok_limit_backward (g : Gl) : SetOk (hd.heap_39 g.w.params) 199 "limit_backward" := ⟨by k_is, by k_is, by k_is, by k_is⟩
theorem Atr_limit_backward {c : Cx} {loc : Loc} {hp : Hp} {x dx : Addr} {cur : List Nat} {i l b p q : Int} {P : PV → Hp → Prop} (hx : hp x = some (.inst 199 dx)) (hne : x ≠ dx) (h : P (.int b) (stH hp dx ⟨cur, i, l, b, p, q⟩)) : Atr c (.ref x) "limit_backward" loc (stH hp dx ⟨cur, i, l, b, p, q⟩) P :=
  Atr_own ((stH_ne hne).trans hx) (stH_dx ..) (aok_limit_backward c.g) (.tail (by decide) (.tail (by decide) (.tail (by decide) (.head)))) (fun _ e => by cases e) h
theorem Sat_limit_backward {c : Cx} {loc : Loc} {hp : Hp} {x dx : Addr} {cur : List Nat} {i l b p q : Int} {k : Int} {P : Hp → Prop} (hx : hp x = some (.inst 199 dx)) (hne : x ≠ dx) (h : P (stH hp dx ⟨cur, i, l, k, p, q⟩)) : Sat c (.ref x) "limit_backward" (.int k) loc (stH hp dx ⟨cur, i, l, b, p, q⟩) P :=
  Sat_own ((stH_ne hne).trans hx) (stH_dx ..) (sok_limit_backward c.g) (fs' := stF ⟨cur, i, l, k, p, q⟩) (.tail (by decide) (.tail (by decide) (.tail (by decide) (.head)))) (by simp [stF]) (by rw [stH_upd]; exact h)
theorem aok_bra (g : Gl) : AttrOk (hd.heap_39 g.w.params) 199 "bra" := ⟨by k_is, by k_is, _, by k_is, by k_is⟩
theorem sok_bra (g : Gl) : SetOk (hd.heap_39 g.w.params) 199 "bra" := ⟨by k_is, by k_is, by k_is, by k_is⟩
theorem Atr_bra {c : Cx} {loc : Loc} {hp : Hp} {x dx : Addr} {cur : List Nat} {i l b p q : Int} {P : PV → Hp → Prop} (hx : hp x = some (.inst 199 dx)) (hne : x ≠ dx) (h : P (.int p) (stH hp dx ⟨cur, i, l, b, p, q⟩)) : Atr c (.ref x) "bra" loc (stH hp dx ⟨cur, i, l, b, p, q⟩) P :=
  Atr_own ((stH_ne hne).trans hx) (stH_dx ..) (aok_bra c.g) (.tail (by decide) (.tail (by decide) (.tail (by decide) (.tail (by decide) (.head))))) (fun _ e => by cases e) h
theorem Sat_bra {c : Cx} {loc : Loc} {hp : Hp} {x dx : Addr} {cur : List Nat} {i l b p q : Int} {k : Int} {P : Hp → Prop} (hx : hp x = some (.inst 199 dx)) (hne : x ≠ dx) (h : P (stH hp dx ⟨cur, i, l, b, k, q⟩)) : Sat c (.ref x) "bra" (.int k) loc (stH hp dx ⟨cur, i, l, b, p, q⟩) P :=
  Sat_own ((stH_ne hne).trans hx) (stH_dx ..) (sok_bra c.g) (fs' := stF ⟨cur, i, l, b, k, q⟩) (.tail (by decide) (.tail (by decide) (.tail (by decide) (.tail (by decide) (.head))))) (by simp [stF]) (by rw [stH_upd]; exact h)
theorem aok_ket (g : Gl) : AttrOk (hd.heap_39 g.w.params) 199 "ket" := ⟨by k_is, by k_is, _, by k_is, by k_is⟩
theorem sok_ket (g : Gl) : SetOk (hd.heap_39 g.w.params) 199 "ket" := ⟨by k_is, by k_is, by k_is, by k_is⟩
theorem Atr_ket {c : Cx} {loc : Loc} {hp : Hp} {x dx : Addr} {cur : List Nat} {i l b p q : Int} {P : PV → Hp → Prop} (hx : hp x = some (.inst 199 dx)) (hne : x ≠ dx) (h : P (.int q) (stH hp dx ⟨cur, i, l, b, p, q⟩)) : Atr c (.ref x) "ket" loc (stH hp dx ⟨cur, i, l, b, p, q⟩) P :=
  Atr_own ((stH_ne hne).trans hx) (stH_dx ..) (aok_ket c.g) (.tail (by decide) (.tail (by decide) (.tail (by decide) (.tail (by decide) (.tail (by decide) (.head)))))) (fun _ e => by cases e) h
theorem Sat_ket {c : Cx} {loc : Loc} {hp : Hp} {x dx : Addr} {cur : List Nat} {i l b p q : Int} {k : Int} {P : Hp → Prop} (hx : hp x = some (.inst 199 dx)) (hne : x ≠ dx) (h : P (stH hp dx ⟨cur, i, l, b, p, k⟩)) : Sat c (.ref x) "ket" (.int k) loc (stH hp dx ⟨cur, i, l, b, p, q⟩) P :=
  Sat_own ((stH_ne hne).trans hx) (stH_dx ..) (sok_ket c.g) (fs' := stF ⟨cur, i, l, b, p, k⟩) (.tail (by decide) (.tail (by decide) (.tail (by decide) (.tail (by decide) (.tail (by decide) (.head)))))) (by simp [stF]) (by rw [stH_upd]; exact h)
/-- the value is the stemmer -/
def StQ (v : PV) (h : Hp) (f : Addr → Prop) : Prop := ∃ x dx σ hp, v = .ref x ∧ h = stH hp dx σ ∧ hp x = some (.inst 199 dx) ∧ x ≠ dx ∧ f x
theorem stq {x dx : Addr} {σ : Stm} {hp : Hp} {f : Addr → Prop} (hx : hp x = some (.inst 199 dx)) (hne : x ≠ dx) (h : f x) : StQ (.ref x) (stH hp dx σ) f := ⟨x, dx, σ, hp, rfl, rfl, hx, hne, h⟩
theorem E_stm {c : Cx} {loc : Loc} {hp : Hp} {o e : Expr} {rest : List Expr} {name : Str} {apos pos : Pos} {fa : Addr} {P : PV → Hp → Prop} (ok : MethOk (hd.heap_39 c.g.w.params) 199 name fa) (nk : ∀ σ, NoKey name (stF σ))
    (h : TE c o loc hp fun ov h1 => StQ ov h1 fun x => TA c (e :: rest) loc h1 fun vs h2 => Cal c (.ref fa) (.ref x :: vs) loc h2 P)
    (hs : MethEq c o name apos pos (e :: rest) := by exact ⟨_, rfl⟩)
    (he : starEach (e :: rest) c.env = (false, eval e c.env) :: starEach rest c.env := by rfl) (hp' : ∀ pos, (backTo pos (starEach rest c.env)).any (·.1) = false := by intro _; rfl) :
    TE c ((o.Attribute name apos).Call (e :: rest) [] pos) loc hp P :=
  E_meth (h.mono fun v h' ⟨x, dx, σ, hp0, e1, e2, e3, e4, q⟩ => ⟨x, 199, dx, stF σ, fa, e1, by rw [e2, stH_ne e4]; exact e3, by rw [e2]; exact stH_dx .., nk σ, ok, q⟩) hs he hp'
theorem E_stm0 {c : Cx} {loc : Loc} {hp : Hp} {o : Expr} {name : Str} {apos pos : Pos} {fa : Addr} {P : PV → Hp → Prop} (ok : MethOk (hd.heap_39 c.g.w.params) 199 name fa) (nk : ∀ σ, NoKey name (stF σ))
    (h : TE c o loc hp fun ov h1 => StQ ov h1 fun x => Cal c (.ref fa) [.ref x] loc h1 P)
    (hs : MethEq c o name apos pos [] := by exact ⟨_, rfl⟩) :
    TE c ((o.Attribute name apos).Call [] [] pos) loc hp P :=
  E_meth0 (h.mono fun v h' ⟨x, dx, σ, hp0, e1, e2, e3, e4, q⟩ => ⟨x, 199, dx, stF σ, fa, e1, by rw [e2, stH_ne e4]; exact e3, by rw [e2]; exact stH_dx .., nk σ, ok, q⟩) hs
theorem mok_go_in_grouping (g : Gl) : MethOk (hd.heap_39 g.w.params) 199 "go_in_grouping" 70 := ⟨by k_is, by k_is, by k_is, by k_is⟩
theorem nok_go_in_grouping (σ : Stm) : NoKey "go_in_grouping" (stF σ) := by
  intro p hp
  have : p.1 ∈ (stF σ).map (·.1) := List.mem_map_of_mem hp
  have key : ∀ y ∈ [Str.ofString "current", Str.ofString "cursor", Str.ofString "limit", Str.ofString "limit_backward", Str.ofString "bra", Str.ofString "ket"], y ≠ Str.ofString "go_in_grouping" := by decide +kernel
  exact key p.1 this
theorem mok_in_grouping_b (g : Gl) : MethOk (hd.heap_39 g.w.params) 199 "in_grouping_b" 77 := ⟨by k_is, by k_is, by k_is, by k_is⟩
theorem nok_in_grouping_b (σ : Stm) : NoKey "in_grouping_b" (stF σ) := by
  intro p hp
  have : p.1 ∈ (stF σ).map (·.1) := List.mem_map_of_mem hp
  have key : ∀ y ∈ [Str.ofString "current", Str.ofString "cursor", Str.ofString "limit", Str.ofString "limit_backward", Str.ofString "bra", Str.ofString "ket"], y ≠ Str.ofString "in_grouping_b" := by decide +kernel
  exact key p.1 this
theorem mok_go_out_grouping (g : Gl) : MethOk (hd.heap_39 g.w.params) 199 "go_out_grouping" 98 := ⟨by k_is, by k_is, by k_is, by k_is⟩
theorem nok_go_out_grouping (σ : Stm) : NoKey "go_out_grouping" (stF σ) := by
  intro p hp
  have : p.1 ∈ (stF σ).map (·.1) := List.mem_map_of_mem hp
  have key : ∀ y ∈ [Str.ofString "current", Str.ofString "cursor", Str.ofString "limit", Str.ofString "limit_backward", Str.ofString "bra", Str.ofString "ket"], y ≠ Str.ofString "go_out_grouping" := by decide +kernel
  exact key p.1 this
theorem mok_eq_s_b (g : Gl) : MethOk (hd.heap_39 g.w.params) 199 "eq_s_b" 126 := ⟨by k_is, by k_is, by k_is, by k_is⟩
theorem nok_eq_s_b (σ : Stm) : NoKey "eq_s_b" (stF σ) := by
  intro p hp
  have : p.1 ∈ (stF σ).map (·.1) := List.mem_map_of_mem hp
  have key : ∀ y ∈ [Str.ofString "current", Str.ofString "cursor", Str.ofString "limit", Str.ofString "limit_backward", Str.ofString "bra", Str.ofString "ket"], y ≠ Str.ofString "eq_s_b" := by decide +kernel
  exact key p.1 this
theorem mok_find_among (g : Gl) : MethOk (hd.heap_39 g.w.params) 199 "find_among" 133 := ⟨by k_is, by k_is, by k_is, by k_is⟩
theorem nok_find_among (σ : Stm) : NoKey "find_among" (stF σ) := by
  intro p hp
  have : p.1 ∈ (stF σ).map (·.1) := List.mem_map_of_mem hp
  have key : ∀ y ∈ [Str.ofString "current", Str.ofString "cursor", Str.ofString "limit", Str.ofString "limit_backward", Str.ofString "bra", Str.ofString "ket"], y ≠ Str.ofString "find_among" := by decide +kernel
  exact key p.1 this
theorem mok_find_among_b (g : Gl) : MethOk (hd.heap_39 g.w.params) 199 "find_among_b" 140 := ⟨by k_is, by k_is, by k_is, by k_is⟩
theorem nok_find_among_b (σ : Stm) : NoKey "find_among_b" (stF σ) := by
  intro p hp
  have : p.1 ∈ (stF σ).map (·.1) := List.mem_map_of_mem hp
  have key : ∀ y ∈ [Str.ofString "current", Str.ofString "cursor", Str.ofString "limit", Str.ofString "limit_backward", Str.ofString "bra", Str.ofString "ket"], y ≠ Str.ofString "find_among_b" := by decide +kernel
  exact key p.1 this
theorem mok_replace_s (g : Gl) : MethOk (hd.heap_39 g.w.params) 199 "replace_s" 147 := ⟨by k_is, by k_is, by k_is, by k_is⟩
theorem nok_replace_s (σ : Stm) : NoKey "replace_s" (stF σ) := by
  intro p hp
  have : p.1 ∈ (stF σ).map (·.1) := List.mem_map_of_mem hp
  have key : ∀ y ∈ [Str.ofString "current", Str.ofString "cursor", Str.ofString "limit", Str.ofString "limit_backward", Str.ofString "bra", Str.ofString "ket"], y ≠ Str.ofString "replace_s" := by decide +kernel
  exact key p.1 this
theorem mok_slice_from (g : Gl) : MethOk (hd.heap_39 g.w.params) 199 "slice_from" 154 := ⟨by k_is, by k_is, by k_is, by k_is⟩
theorem nok_slice_from (σ : Stm) : NoKey "slice_from" (stF σ) := by
  intro p hp
  have : p.1 ∈ (stF σ).map (·.1) := List.mem_map_of_mem hp
  have key : ∀ y ∈ [Str.ofString "current", Str.ofString "cursor", Str.ofString "limit", Str.ofString "limit_backward", Str.ofString "bra", Str.ofString "ket"], y ≠ Str.ofString "slice_from" := by decide +kernel
  exact key p.1 this
theorem mok_slice_del (g : Gl) : MethOk (hd.heap_39 g.w.params) 199 "slice_del" 161 := ⟨by k_is, by k_is, by k_is, by k_is⟩
theorem nok_slice_del (σ : Stm) : NoKey "slice_del" (stF σ) := by
  intro p hp
  have : p.1 ∈ (stF σ).map (·.1) := List.mem_map_of_mem hp
  have key : ∀ y ∈ [Str.ofString "current", Str.ofString "cursor", Str.ofString "limit", Str.ofString "limit_backward", Str.ofString "bra", Str.ofString "ket"], y ≠ Str.ofString "slice_del" := by decide +kernel
  exact key p.1 this
theorem mok_insert (g : Gl) : MethOk (hd.heap_39 g.w.params) 199 "insert" 168 := ⟨by k_is, by k_is, by k_is, by k_is⟩
theorem nok_insert (σ : Stm) : NoKey "insert" (stF σ) := by
  intro p hp
  have : p.1 ∈ (stF σ).map (·.1) := List.mem_map_of_mem hp
  have key : ∀ y ∈ [Str.ofString "current", Str.ofString "cursor", Str.ofString "limit", Str.ofString "limit_backward", Str.ofString "bra", Str.ofString "ket"], y ≠ Str.ofString "insert" := by decide +kernel
  exact key p.1 this
theorem mok_slice_to (g : Gl) : MethOk (hd.heap_39 g.w.params) 199 "slice_to" 175 := ⟨by k_is, by k_is, by k_is, by k_is⟩
theorem nok_slice_to (σ : Stm) : NoKey "slice_to" (stF σ) := by
  intro p hp
  have : p.1 ∈ (stF σ).map (·.1) := List.mem_map_of_mem hp
  have key : ∀ y ∈ [Str.ofString "current", Str.ofString "cursor", Str.ofString "limit", Str.ofString "limit_backward", Str.ofString "bra", Str.ofString "ket"], y ≠ Str.ofString "slice_to" := by decide +kernel
  exact key p.1 this
theorem mok_assign_to (g : Gl) : MethOk (hd.heap_39 g.w.params) 199 "assign_to" 182 := ⟨by k_is, by k_is, by k_is, by k_is⟩
theorem nok_assign_to (σ : Stm) : NoKey "assign_to" (stF σ) := by
  intro p hp
  have : p.1 ∈ (stF σ).map (·.1) := List.mem_map_of_mem hp
  have key : ∀ y ∈ [Str.ofString "current", Str.ofString "cursor", Str.ofString "limit", Str.ofString "limit_backward", Str.ofString "bra", Str.ofString "ket"], y ≠ Str.ofString "assign_to" := by decide +kernel
  exact key p.1 this
theorem mok_set_current (g : Gl) : MethOk (hd.heap_39 g.w.params) 199 "set_current" 42 := ⟨by k_is, by k_is, by k_is, by k_is⟩
theorem nok_set_current (σ : Stm) : NoKey "set_current" (stF σ) := by
  intro p hp
  have : p.1 ∈ (stF σ).map (·.1) := List.mem_map_of_mem hp
  have key : ∀ y ∈ [Str.ofString "current", Str.ofString "cursor", Str.ofString "limit", Str.ofString "limit_backward", Str.ofString "bra", Str.ofString "ket"], y ≠ Str.ofString "set_current" := by decide +kernel
  exact key p.1 this
theorem mok_get_current (g : Gl) : MethOk (hd.heap_39 g.w.params) 199 "get_current" 49 := ⟨by k_is, by k_is, by k_is, by k_is⟩
theorem nok_get_current (σ : Stm) : NoKey "get_current" (stF σ) := by
  intro p hp
  have : p.1 ∈ (stF σ).map (·.1) := List.mem_map_of_mem hp
  have key : ∀ y ∈ [Str.ofString "current", Str.ofString "cursor", Str.ofString "limit", Str.ofString "limit_backward", Str.ofString "bra", Str.ofString "ket"], y ≠ Str.ofString "get_current" := by decide +kernel
  exact key p.1 this

theorem endsw {x y : List Nat} : Txt.endswith ⟨x.toArray⟩ ⟨y.toArray⟩ = y.isSuffixOf x := by
  unfold Txt.endswith
  have h1 : (⟨x.toArray⟩ : Str).length = x.length := by unfold Str.length; simp
  have h2 : (⟨y.toArray⟩ : Str).length = y.length := by unfold Str.length; simp
  rw [StrLaws.subAt_eq, h1, h2]
  apply Bool.eq_iff_iff.mpr
  rw [List.isSuffixOf_iff_suffix, Bool.and_eq_true, decide_eq_true_eq, beq_iff_eq]
  constructor
  · rintro ⟨hl, e⟩
    rw [List.take_of_length_le (by simp; lia)] at e
    have e' : x.drop (x.length - y.length) = y := e
    exact ⟨x.take (x.length - y.length), by
      have z := List.take_append_drop (x.length - y.length) x
      rw [e'] at z; exact z⟩
  · rintro ⟨t, rfl⟩
    refine ⟨by simp, ?_⟩
    simp
theorem E_endswith {c : Cx} {loc : Loc} {hp : Hp} {o e : Expr} {apos pos : Pos} {P : PV → Hp → Prop}
    (h : TE c o loc hp fun ov h1 => ∃ x, ov = .str x ∧ TE c e loc h1 fun v h2 => ∃ y, v = .str y ∧ P (.bool (y.isSuffixOf x)) h2)
    (hs : MethEq c o "endswith" apos pos [e] := by exact ⟨_, rfl⟩)
    (he : starEach [e] c.env = [(false, eval e c.env)] := by rfl) :
    TE c ((o.Attribute "endswith" apos).Call [e] [] pos) loc hp P := fun K s S => by
  obtain ⟨pl, hs⟩ := hs
  refine MethodCall_ (pl := pl) (wpAny_mono (h K s S) (fun ov s1 ⟨h1, S1, x, hov, q⟩ => ?_) fun _ _ x => x) hs
  obtain ⟨t, rfl⟩ := er_str hov
  refine GM.endswith ?_
  refine callWith_method1 (e := e) (rest := []) ?_ he rfl
  refine spliced_more (wpAny_mono (q K s1 S1) (fun v s2 ⟨h2, S2, y, hv, p⟩ => ?_) fun _ _ x => x) he
  obtain ⟨u, rfl⟩ := er_str hv
  refine spliced_none ?_
  refine SC.endswith ⟨h2, S2, ?_⟩
  rw [endsw]; exact p
end
local macro_rules | `(tactic| walk_at "Atr ref") => `(tactic| with_reducible first | refine Atr_current (by assumption) (by assumption) ?_ | refine Atr_cursor (by assumption) (by assumption) ?_ | refine Atr_limit (by assumption) (by assumption) ?_ | refine Atr_limit_backward (by assumption) (by assumption) ?_ | refine Atr_bra (by assumption) (by assumption) ?_ | refine Atr_ket (by assumption) (by assumption) ?_)
local macro_rules | `(tactic| walk_at "Sat ref") => `(tactic| with_reducible first | refine Sat_current (by assumption) (by assumption) ?_ | refine Sat_cursor (by assumption) (by assumption) ?_ | refine Sat_limit (by assumption) (by assumption) ?_ | refine Sat_limit_backward (by assumption) (by assumption) ?_ | refine Sat_bra (by assumption) (by assumption) ?_ | refine Sat_ket (by assumption) (by assumption) ?_)
local macro_rules | `(tactic| walk_at "StQ") => `(tactic| with_reducible refine stq (by assumption) (by assumption) ?_)
local macro_rules | `(tactic| walk_at "TE Call") => `(tactic| k_dflt (first | focus ((with_reducible refine' E_stm (mok_go_in_grouping _) nok_go_in_grouping ?_ ?_ ?_ ?_); rotate_left 1; exact ⟨_, rfl⟩; rfl; (intro _; rfl)) | focus ((with_reducible refine' E_stm0 (mok_go_in_grouping _) nok_go_in_grouping ?_ ?_); rotate_left 1; exact ⟨_, rfl⟩) | focus ((with_reducible refine' E_stm (mok_in_grouping_b _) nok_in_grouping_b ?_ ?_ ?_ ?_); rotate_left 1; exact ⟨_, rfl⟩; rfl; (intro _; rfl)) | focus ((with_reducible refine' E_stm0 (mok_in_grouping_b _) nok_in_grouping_b ?_ ?_); rotate_left 1; exact ⟨_, rfl⟩) | focus ((with_reducible refine' E_stm (mok_go_out_grouping _) nok_go_out_grouping ?_ ?_ ?_ ?_); rotate_left 1; exact ⟨_, rfl⟩; rfl; (intro _; rfl)) | focus ((with_reducible refine' E_stm0 (mok_go_out_grouping _) nok_go_out_grouping ?_ ?_); rotate_left 1; exact ⟨_, rfl⟩) | focus ((with_reducible refine' E_stm (mok_eq_s_b _) nok_eq_s_b ?_ ?_ ?_ ?_); rotate_left 1; exact ⟨_, rfl⟩; rfl; (intro _; rfl)) | focus ((with_reducible refine' E_stm0 (mok_eq_s_b _) nok_eq_s_b ?_ ?_); rotate_left 1; exact ⟨_, rfl⟩) | focus ((with_reducible refine' E_stm (mok_find_among _) nok_find_among ?_ ?_ ?_ ?_); rotate_left 1; exact ⟨_, rfl⟩; rfl; (intro _; rfl)) | focus ((with_reducible refine' E_stm0 (mok_find_among _) nok_find_among ?_ ?_); rotate_left 1; exact ⟨_, rfl⟩) | focus ((with_reducible refine' E_stm (mok_find_among_b _) nok_find_among_b ?_ ?_ ?_ ?_); rotate_left 1; exact ⟨_, rfl⟩; rfl; (intro _; rfl)) | focus ((with_reducible refine' E_stm0 (mok_find_among_b _) nok_find_among_b ?_ ?_); rotate_left 1; exact ⟨_, rfl⟩) | focus ((with_reducible refine' E_stm (mok_replace_s _) nok_replace_s ?_ ?_ ?_ ?_); rotate_left 1; exact ⟨_, rfl⟩; rfl; (intro _; rfl)) | focus ((with_reducible refine' E_stm0 (mok_replace_s _) nok_replace_s ?_ ?_); rotate_left 1; exact ⟨_, rfl⟩) | focus ((with_reducible refine' E_stm (mok_slice_from _) nok_slice_from ?_ ?_ ?_ ?_); rotate_left 1; exact ⟨_, rfl⟩; rfl; (intro _; rfl)) | focus ((with_reducible refine' E_stm0 (mok_slice_from _) nok_slice_from ?_ ?_); rotate_left 1; exact ⟨_, rfl⟩) | focus ((with_reducible refine' E_stm (mok_slice_del _) nok_slice_del ?_ ?_ ?_ ?_); rotate_left 1; exact ⟨_, rfl⟩; rfl; (intro _; rfl)) | focus ((with_reducible refine' E_stm0 (mok_slice_del _) nok_slice_del ?_ ?_); rotate_left 1; exact ⟨_, rfl⟩) | focus ((with_reducible refine' E_stm (mok_insert _) nok_insert ?_ ?_ ?_ ?_); rotate_left 1; exact ⟨_, rfl⟩; rfl; (intro _; rfl)) | focus ((with_reducible refine' E_stm0 (mok_insert _) nok_insert ?_ ?_); rotate_left 1; exact ⟨_, rfl⟩) | focus ((with_reducible refine' E_stm (mok_slice_to _) nok_slice_to ?_ ?_ ?_ ?_); rotate_left 1; exact ⟨_, rfl⟩; rfl; (intro _; rfl)) | focus ((with_reducible refine' E_stm0 (mok_slice_to _) nok_slice_to ?_ ?_); rotate_left 1; exact ⟨_, rfl⟩) | focus ((with_reducible refine' E_stm (mok_assign_to _) nok_assign_to ?_ ?_ ?_ ?_); rotate_left 1; exact ⟨_, rfl⟩; rfl; (intro _; rfl)) | focus ((with_reducible refine' E_stm0 (mok_assign_to _) nok_assign_to ?_ ?_); rotate_left 1; exact ⟨_, rfl⟩) | focus ((with_reducible refine' E_stm (mok_set_current _) nok_set_current ?_ ?_ ?_ ?_); rotate_left 1; exact ⟨_, rfl⟩; rfl; (intro _; rfl)) | focus ((with_reducible refine' E_stm0 (mok_set_current _) nok_set_current ?_ ?_); rotate_left 1; exact ⟨_, rfl⟩) | focus ((with_reducible refine' E_stm (mok_get_current _) nok_get_current ?_ ?_ ?_ ?_); rotate_left 1; exact ⟨_, rfl⟩; rfl; (intro _; rfl)) | focus ((with_reducible refine' E_stm0 (mok_get_current _) nok_get_current ?_ ?_); rotate_left 1; exact ⟨_, rfl⟩)))
section
/-- how far p goes on from i -/
def scan (p : Nat → Bool) (x : List Nat) (i : Nat) : Nat := i + ((x.drop i).takeWhile p).length
theorem scan_stop {p : Nat → Bool} {x : List Nat} {i k : Nat} (h : x[i]? = some k) (hp : p k = false) : scan p x i = i := by
  obtain ⟨h1, e⟩ := List.getElem?_eq_some_iff.mp h
  unfold scan
  rw [List.drop_eq_getElem_cons h1, e, List.takeWhile_cons, hp]
  rfl
theorem scan_go {p : Nat → Bool} {x : List Nat} {i k : Nat} (h : x[i]? = some k) (hp : p k = true) : scan p x i = scan p x (i + 1) := by
  obtain ⟨h1, e⟩ := List.getElem?_eq_some_iff.mp h
  unfold scan
  rw [List.drop_eq_getElem_cons h1, e, List.takeWhile_cons, hp]
  simp; lia
theorem scan_end {p : Nat → Bool} {x : List Nat} {i : Nat} (h : x.length ≤ i) : scan p x i = i := by
  unfold scan; rw [List.drop_eq_nil_of_le h]; rfl
theorem scan_le {p : Nat → Bool} {x : List Nat} {i : Nat} (h : i ≤ x.length) : scan p x i ≤ x.length := by
  unfold scan
  have := (List.takeWhile_sublist (p := p) (l := x.drop i)).length_le
  simp at this; lia

def goSpec (neg : Bool) (V : List (List Nat)) (k : Nat) : Bool := if neg then !isIn V k else isIn V k

theorem go_out_ok {g : Gl} {x dx v : Addr} {V : List (List Nat)} {cur : List Nat} {i : Nat} {b p q : Int} {hp : Hp} {P : PV → Hp → Prop} (hx : hp x = some (.inst 199 dx)) (hne : x ≠ dx) (hv : hp v = some (.sset V)) (hvd : v ≠ dx)
    (hi : i ≤ cur.length) (h9 : cur.length ≤ 900)
    (h : P (.bool (decide (scan (fun k => !isIn V k) cur i < cur.length))) (stH hp dx ⟨cur, scan (fun k => !isIn V k) cur i, cur.length, b, p, q⟩)) : FnOk g 1 98 [.ref x, .ref v] (stH hp dx ⟨cur, i, cur.length, b, p, q⟩) P := by
  refine' fn_intro [("self" : Str), ("s" : Str)] [] ?ho ?hcd ?hbind ?hlen ?hloc ?hnd ?_ ?c1 ?c2 ?c3 ?c4
  walk_at "m fn"
  case hbind => (repeat refine all_cons fun _ => ?_); exact all_nil rfl
  intro c hg hd hs
  subst hg
  walk_at "m loc"
  repeat walk1
  refine S_while (fun n loc h' => ∃ j : Nat, loc = [lR "self" x, lR "s" v] ∧ h' = stH hp dx ⟨cur, j, cur.length, b, p, q⟩ ∧ j ≤ cur.length ∧ n = cur.length - j ∧ scan (fun k => !isIn V k) cur j = scan (fun k => !isIn V k) cur i) (cur.length - i)
    ⟨i, rfl, rfl, hi, rfl, rfl⟩ ?_
  rintro n l' h' ⟨j, hl', hh, hj, hn, hsc⟩
  subst hl' hh
  repeat walk1
  refine ⟨fun hb => ?_, fun hb => ?_⟩
  · have hb := of_decide_eq_true hb
    have hj : j < cur.length := by lia
    have hk : cur[j]? = some (cur[j]'hj) := List.getElem?_eq_getElem hj
    repeat walk1
    refine Sub_str (n := cur[j]'hj) (by lia) (by lia) (by simp) ?_
    repeat walk1
    refine Cmp_in_set ((stH_ne hvd).trans hv) ?_
    repeat walk1
    refine ⟨fun h1 => ?_, fun h1 => ?_⟩
    · have e := scan_stop (p := fun k => !isIn V k) hk (by show (!isIn V _) = false; unfold isIn; rw [h1]; rfl)
      rw [e] at hsc
      repeat walk1
      refine turn_ret ?_
      rw [← hsc, decide_eq_true hj] at h
      exact h
    · have e := scan_go (p := fun k => !isIn V k) hk (by show (!isIn V _) = true; unfold isIn; rw [h1]; rfl)
      repeat walk1
      refine turn_next ⟨cur.length - (j + 1), by lia, j + 1, rfl, by push_cast; rfl, by lia, rfl, by rw [← hsc, e]⟩
  · have hb := of_decide_eq_false hb
    have hj : j = cur.length := by lia
    have e := scan_end (p := fun k => !isIn V k) (x := cur) (i := j) (by lia)
    rw [e] at hsc
    repeat walk1
    rw [← hsc, decide_eq_false (by lia)] at h
    exact h

theorem go_in_ok {g : Gl} {x dx v : Addr} {V : List (List Nat)} {cur : List Nat} {i : Nat} {b p q : Int} {hp : Hp} {P : PV → Hp → Prop} (hx : hp x = some (.inst 199 dx)) (hne : x ≠ dx) (hv : hp v = some (.sset V)) (hvd : v ≠ dx)
    (hi : i ≤ cur.length) (h9 : cur.length ≤ 900)
    (h : P (.bool (decide (scan (fun k => isIn V k) cur i < cur.length))) (stH hp dx ⟨cur, scan (fun k => isIn V k) cur i, cur.length, b, p, q⟩)) : FnOk g 1 70 [.ref x, .ref v] (stH hp dx ⟨cur, i, cur.length, b, p, q⟩) P := by
  refine' fn_intro [("self" : Str), ("s" : Str)] [] ?ho ?hcd ?hbind ?hlen ?hloc ?hnd ?_ ?c1 ?c2 ?c3 ?c4
  walk_at "m fn"
  case hbind => (repeat refine all_cons fun _ => ?_); exact all_nil rfl
  intro c hg hd hs
  subst hg
  walk_at "m loc"
  repeat walk1
  refine S_while (fun n loc h' => ∃ j : Nat, loc = [lR "self" x, lR "s" v] ∧ h' = stH hp dx ⟨cur, j, cur.length, b, p, q⟩ ∧ j ≤ cur.length ∧ n = cur.length - j ∧ scan (fun k => isIn V k) cur j = scan (fun k => isIn V k) cur i) (cur.length - i)
    ⟨i, rfl, rfl, hi, rfl, rfl⟩ ?_
  rintro n l' h' ⟨j, hl', hh, hj, hn, hsc⟩
  subst hl' hh
  repeat walk1
  refine ⟨fun hb => ?_, fun hb => ?_⟩
  · have hb := of_decide_eq_true hb
    have hj : j < cur.length := by lia
    have hk : cur[j]? = some (cur[j]'hj) := List.getElem?_eq_getElem hj
    repeat walk1
    refine Sub_str (n := cur[j]'hj) (by lia) (by lia) (by simp) ?_
    repeat walk1
    refine Cmp_notin_set ((stH_ne hvd).trans hv) ?_
    repeat walk1
    refine ⟨fun h1 => ?_, fun h1 => ?_⟩
    · have e := scan_stop (p := fun k => isIn V k) hk (by show isIn V _ = false; unfold isIn; simpa using h1)
      rw [e] at hsc
      repeat walk1
      refine turn_ret ?_
      rw [← hsc, decide_eq_true hj] at h
      exact h
    · have e := scan_go (p := fun k => isIn V k) hk (by show isIn V _ = true; unfold isIn; simpa using h1)
      repeat walk1
      refine turn_next ⟨cur.length - (j + 1), by lia, j + 1, rfl, by push_cast; rfl, by lia, rfl, by rw [← hsc, e]⟩
  · have hb := of_decide_eq_false hb
    have hj : j = cur.length := by lia
    have e := scan_end (p := fun k => isIn V k) (x := cur) (i := j) (by lia)
    rw [e] at hsc
    repeat walk1
    rw [← hsc, decide_eq_false (by lia)] at h
    exact h

theorem in_b_ok {g : Gl} {x dx v : Addr} {V : List (List Nat)} {cur : List Nat} {i b : Nat} {l p q : Int} {hp : Hp} {P : PV → Hp → Prop} (hx : hp x = some (.inst 199 dx)) (hne : x ≠ dx) (hv : hp v = some (.sset V)) (hvd : v ≠ dx)
    (hi : i ≤ cur.length) (h9 : cur.length ≤ 900) (r : Bool) (hr : r = (decide (b < i) && isIn V (cur.getD (i - 1) 0)))
    (h : P (.bool r) (stH hp dx ⟨cur, if r then (i : Int) - 1 else i, l, b, p, q⟩)) : FnOk g 1 77 [.ref x, .ref v] (stH hp dx ⟨cur, i, l, b, p, q⟩) P := by
  refine' fn_intro [("self" : Str), ("s" : Str)] [] ?ho ?hcd ?hbind ?hlen ?hloc ?hnd ?_ ?c1 ?c2 ?c3 ?c4
  walk_at "m fn"
  case hbind => (repeat refine all_cons fun _ => ?_); exact all_nil rfl
  intro c hg hd hs
  subst hg
  walk_at "m loc"
  repeat walk1
  refine ⟨fun hb => ?_, fun hb => ?_⟩
  · have hb := of_decide_eq_true hb
    rw [decide_eq_false (by lia), Bool.false_and] at hr
    subst hr
    repeat walk1
    exact h
  · have hb := of_decide_eq_false hb
    rw [decide_eq_true (by lia), Bool.true_and] at hr
    have hj : i - 1 < cur.length := by lia
    have hk : cur[i - 1]? = some (cur[i - 1]'hj) := List.getElem?_eq_getElem hj
    have hg : cur.getD (i - 1) 0 = cur[i - 1]'hj := by rw [List.getD_eq_getElem?_getD, hk]; rfl
    rw [hg] at hr
    repeat walk1
    refine Sub_str (n := cur[i - 1]'hj) (by lia) (by lia) (by rw [show ((i : Int) - 1).toNat = i - 1 from by lia]; exact hk) ?_
    repeat walk1
    refine Cmp_notin_set ((stH_ne hvd).trans hv) ?_
    repeat walk1
    refine ⟨fun h1 => ?_, fun h1 => ?_⟩
    · have e : isIn V (cur[i - 1]'hj) = false := by unfold isIn; simpa using h1
      rw [e] at hr; subst hr
      repeat walk1
      exact h
    · have e : isIn V (cur[i - 1]'hj) = true := by unfold isIn; simpa using h1
      rw [e] at hr; subst hr
      repeat walk1
      exact h

theorem eq_b_ok {g : Gl} {x dx : Addr} {cur y : List Nat} {i b : Nat} {l p q : Int} {hp : Hp} {P : PV → Hp → Prop} (hx : hp x = some (.inst 199 dx)) (hne : x ≠ dx)
    (hbi : b ≤ i) (hi : i ≤ cur.length) (h9 : cur.length ≤ 900) (hy : y.length ≤ 900) (r : Bool) (hr : r = y.isSuffixOf ((cur.drop b).take (i - b)))
    (h : P (.bool r) (stH hp dx ⟨cur, if r then (i : Int) - y.length else i, l, b, p, q⟩)) : FnOk g 1 126 [.ref x, .str y] (stH hp dx ⟨cur, i, l, b, p, q⟩) P := by
  refine' fn_intro [("self" : Str), ("s" : Str)] [] ?ho ?hcd ?hbind ?hlen ?hloc ?hnd ?_ ?c1 ?c2 ?c3 ?c4
  walk_at "m fn"
  case hbind => (repeat refine all_cons fun _ => ?_); exact all_nil rfl
  intro c hg hd hs
  subst hg
  walk_at "m loc"
  repeat walk1
  refine E_endswith ?_
  repeat walk1
  rw [show ((b : Int)).toNat = b from by lia, show ((i : Int) - (b : Int)).toNat = i - b from by lia, ← hr]
  repeat walk1
  refine ⟨fun h1 => ?_, fun h1 => ?_⟩
  · rw [h1] at h
    repeat walk1
    refine Cal_len_str (by lia) ?_
    repeat walk1
    exact h
  · rw [h1] at h
    repeat walk1
    exact h

/-- x with the part from a to b replaced -/
def splice (x : List Nat) (a b : Nat) (y : List Nat) : List Nat := x.take a ++ y ++ x.drop b

theorem replace_ok {g : Gl} {x dx : Addr} {cur y : List Nat} {a e : Nat} {i l b p q : Int} {hp : Hp} {P : PV → Hp → Prop} (hx : hp x = some (.inst 199 dx)) (hne : x ≠ dx)
    (hae : a ≤ e) (he : e ≤ cur.length) (h9 : cur.length ≤ 900) (hy : y.length ≤ 900)
    (h : P (.int ((y.length : Int) - (e - a))) (stH hp dx ⟨splice cur a e y, if (e : Int) ≤ i then i + ((y.length : Int) - (e - a)) else if (a : Int) < i then a else i, l + ((y.length : Int) - (e - a)), b, p, q⟩)) :
    FnOk g 1 147 [.ref x, .int a, .int e, .str y] (stH hp dx ⟨cur, i, l, b, p, q⟩) P := by
  refine' fn_intro [("self" : Str), ("c_bra" : Str), ("c_ket" : Str), ("s" : Str)] [("adjustment" : Str)] ?ho ?hcd ?hbind ?hlen ?hloc ?hnd ?_ ?c1 ?c2 ?c3 ?c4
  walk_at "m fn"
  case hbind => (repeat refine all_cons fun _ => ?_); exact all_nil rfl
  intro c hg hd hs
  subst hg
  walk_at "m loc"
  repeat walk1
  refine Cal_len_str (by lia) ?_
  repeat walk1
  have e1 : List.take ((a : Int) - 0).toNat (List.drop (Int.toNat 0) cur) ++ y ++ List.drop ((e : Int)).toNat cur = splice cur a e y := by
    unfold splice; simp
  rw [e1]
  refine ⟨fun hb => ?_, fun hb => ?_⟩
  · have hb := of_decide_eq_true hb
    rw [if_pos hb] at h
    repeat walk1
    exact h
  · have hb := of_decide_eq_false hb
    rw [if_neg hb] at h
    repeat walk1
    refine ⟨fun hb => ?_, fun hb => ?_⟩
    · have hb := of_decide_eq_true hb
      rw [if_pos hb] at h
      repeat walk1
      exact h
    · have hb := of_decide_eq_false hb
      rw [if_neg hb] at h
      repeat walk1
      exact h
end
section
/-- where the cursor stands behind a replacement -/
def curAt (i a e : Int) (n : Int) : Int := if e ≤ i then i + (n - (e - a)) else if a < i then a else i

theorem slice_from_ok {g : Gl} {x dx : Addr} {cur y : List Nat} {a e : Nat} {i b : Int} {hp : Hp} {P : PV → Hp → Prop} (hx : hp x = some (.inst 199 dx)) (hne : x ≠ dx)
    (hae : a ≤ e) (he : e ≤ cur.length) (h9 : cur.length ≤ 900) (hy : y.length ≤ 900)
    (h : P .none (stH hp dx ⟨splice cur a e y, curAt i a e y.length, (cur.length : Int) + ((y.length : Int) - (e - a)), b, a, (a : Int) + y.length⟩)) :
    FnOk g 2 154 [.ref x, .str y] (stH hp dx ⟨cur, i, cur.length, b, a, e⟩) P := by
  refine' fn_intro [("self" : Str), ("s" : Str)] [] ?ho ?hcd ?hbind ?hlen ?hloc ?hnd ?_ ?c1 ?c2 ?c3 ?c4
  walk_at "m fn"
  case hbind => (repeat refine all_cons fun _ => ?_); exact all_nil rfl
  intro c hg hd hs
  subst hg
  walk_at "m loc"
  repeat walk1
  refine Cal_len_str (by lia) ?_
  repeat walk1

  refine Cal_fn (replace_ok hx hne hae he h9 hy ?_) (by lia)
  repeat walk1
  refine Cal_len_str (by lia) ?_
  repeat walk1
  exact h

theorem slice_del_ok {g : Gl} {x dx : Addr} {cur : List Nat} {a e : Nat} {i b : Int} {hp : Hp} {P : PV → Hp → Prop} (hx : hp x = some (.inst 199 dx)) (hne : x ≠ dx)
    (hae : a ≤ e) (he : e ≤ cur.length) (h9 : cur.length ≤ 900)
    (h : P .none (stH hp dx ⟨splice cur a e [], curAt i a e 0, (cur.length : Int) + (0 - (e - a)), b, a, a⟩)) :
    FnOk g 3 161 [.ref x] (stH hp dx ⟨cur, i, cur.length, b, a, e⟩) P := by
  refine' fn_intro [("self" : Str)] [] ?ho ?hcd ?hbind ?hlen ?hloc ?hnd ?_ ?c1 ?c2 ?c3 ?c4
  walk_at "m fn"
  case hbind => (repeat refine all_cons fun _ => ?_); exact all_nil rfl
  intro c hg hd hs
  subst hg
  walk_at "m loc"
  repeat walk1
  refine Cal_fn (slice_from_ok hx hne hae he h9 (y := []) (by simp) ?_) (by lia)
  repeat walk1
  simp only [List.length_nil, Int.natCast_zero, Int.add_zero]
  exact h

theorem slice_to_ok {g : Gl} {x dx : Addr} {cur : List Nat} {a e : Nat} {i b : Int} {hp : Hp} {P : PV → Hp → Prop} (hx : hp x = some (.inst 199 dx)) (hne : x ≠ dx)
    (hae : a ≤ e) (he : e ≤ cur.length) (h9 : cur.length ≤ 900)
    (h : P (.str ((cur.drop a).take (e - a))) (stH hp dx ⟨cur, i, cur.length, b, a, e⟩)) :
    FnOk g 1 175 [.ref x] (stH hp dx ⟨cur, i, cur.length, b, a, e⟩) P := by
  refine' fn_intro [("self" : Str)] [] ?ho ?hcd ?hbind ?hlen ?hloc ?hnd ?_ ?c1 ?c2 ?c3 ?c4
  walk_at "m fn"
  case hbind => (repeat refine all_cons fun _ => ?_); exact all_nil rfl
  intro c hg hd hs
  subst hg
  walk_at "m loc"
  repeat walk1
  refine Cal_len_str (by lia) ?_
  repeat walk1
  rw [show ((a : Int)).toNat = a from by lia, show ((e : Int) - (a : Int)).toNat = e - a from by lia]
  exact h

theorem insert_ok {g : Gl} {x dx : Addr} {cur y : List Nat} {a e : Nat} {i l b p q : Int} {hp : Hp} {P : PV → Hp → Prop} (hx : hp x = some (.inst 199 dx)) (hne : x ≠ dx)
    (hae : a ≤ e) (he : e ≤ cur.length) (h9 : cur.length ≤ 900) (hy : y.length ≤ 900)
    (h : ∀ p' q', P .none (stH hp dx ⟨splice cur a e y, curAt i a e y.length, l + ((y.length : Int) - (e - a)), b, p', q'⟩)) :
    FnOk g 2 168 [.ref x, .int a, .int e, .str y] (stH hp dx ⟨cur, i, l, b, p, q⟩) P := by
  refine' fn_intro [("self" : Str), ("c_bra" : Str), ("c_ket" : Str), ("s" : Str)] [("adjustment" : Str)] ?ho ?hcd ?hbind ?hlen ?hloc ?hnd ?_ ?c1 ?c2 ?c3 ?c4
  walk_at "m fn"
  case hbind => (repeat refine all_cons fun _ => ?_); exact all_nil rfl
  intro c hg hd hs
  subst hg
  walk_at "m loc"
  repeat walk1
  refine Cal_fn (replace_ok hx hne hae he h9 hy ?_) (by lia)
  repeat walk1
  refine ⟨fun hb => ?_, fun hb => ?_⟩
  · repeat walk1
    refine ⟨fun hb => ?_, fun hb => ?_⟩
    · repeat walk1
      exact h _ _
    · repeat walk1
      exact h _ _
  · repeat walk1
    refine ⟨fun hb => ?_, fun hb => ?_⟩
    · repeat walk1
      exact h _ _
    · repeat walk1
      exact h _ _

theorem assign_to_ok {g : Gl} {x dx : Addr} {cur : List Nat} {i b p q : Int} {hp : Hp} {P : PV → Hp → Prop} (hx : hp x = some (.inst 199 dx)) (hne : x ≠ dx) (h9 : cur.length ≤ 900)
    (h : P (.str cur) (stH hp dx ⟨cur, i, cur.length, b, p, q⟩)) : FnOk g 1 182 [.ref x] (stH hp dx ⟨cur, i, cur.length, b, p, q⟩) P := by
  refine' fn_intro [("self" : Str)] [] ?ho ?hcd ?hbind ?hlen ?hloc ?hnd ?_ ?c1 ?c2 ?c3 ?c4
  walk_at "m fn"
  case hbind => (repeat refine all_cons fun _ => ?_); exact all_nil rfl
  intro c hg hd hs
  subst hg
  walk_at "m loc"
  repeat walk1
  rw [show ((cur.length : Int) - 0).toNat = cur.length from by lia]
  simp only [Int.toNat_zero, List.drop_zero, List.take_length]
  exact h

theorem get_current_ok {g : Gl} {x dx : Addr} {cur : List Nat} {i l b p q : Int} {hp : Hp} {P : PV → Hp → Prop} (hx : hp x = some (.inst 199 dx)) (hne : x ≠ dx)
    (h : P (.str cur) (stH hp dx ⟨cur, i, l, b, p, q⟩)) : FnOk g 1 49 [.ref x] (stH hp dx ⟨cur, i, l, b, p, q⟩) P := by
  refine' fn_intro [("self" : Str)] [] ?ho ?hcd ?hbind ?hlen ?hloc ?hnd ?_ ?c1 ?c2 ?c3 ?c4
  walk_at "m fn"
  case hbind => (repeat refine all_cons fun _ => ?_); exact all_nil rfl
  intro c hg hd hs
  subst hg
  walk_at "m loc"
  repeat walk1
  exact h

theorem set_current_ok {g : Gl} {x dx : Addr} {cur y : List Nat} {i l b p q : Int} {hp : Hp} {P : PV → Hp → Prop} (hx : hp x = some (.inst 199 dx)) (hne : x ≠ dx) (hy : y.length ≤ 900)
    (h : P .none (stH hp dx ⟨y, 0, y.length, 0, 0, y.length⟩)) : FnOk g 1 42 [.ref x, .str y] (stH hp dx ⟨cur, i, l, b, p, q⟩) P := by
  refine' fn_intro [("self" : Str), ("value" : Str)] [] ?ho ?hcd ?hbind ?hlen ?hloc ?hnd ?_ ?c1 ?c2 ?c3 ?c4
  walk_at "m fn"
  case hbind => (repeat refine all_cons fun _ => ?_); exact all_nil rfl
  intro c hg hd hs
  subst hg
  walk_at "m loc"
  repeat walk1
  refine Cal_len_str (by lia) ?_
  repeat walk1
  exact h
end
section
structure Am where
  s : LN
  link : Int
  res : Int
def am0 : Am := ⟨[], 0, 0⟩
def amF (w : Am) : List (Str × PV) := [("s", .str w.s), ("substring_i", .int w.link), ("result", .int w.res)]
def RowsAt (hp : Hp) (a : Addr) (R : List Am) : Prop :=
  ∃ refs : List Addr, hp a = some (.list (refs.map .ref)) ∧ refs.length = R.length ∧ ∀ (i : Nat) (r : Addr) (w : Am), refs[i]? = some r → R[i]? = some w → ∃ dw, hp r = some (.inst 220 dw) ∧ hp dw = some (.flds (amF w))
theorem RowsAt.mono {hp hp' : Hp} {a : Addr} {R : List Am} (h : RowsAt hp a R) (hle : hp.le hp') : RowsAt hp' a R :=
  let ⟨refs, h1, h2, h3⟩ := h
  ⟨refs, hle _ _ h1, h2, fun i r w a b => let ⟨dw, c, d⟩ := h3 i r w a b; ⟨dw, hle _ _ c, hle _ _ d⟩⟩
theorem RowsAt.st {hp : Hp} {a dx : Addr} {R : List Am} (h : RowsAt hp a R) (hn : hp dx = Option.none) (σ : Stm) : RowsAt (stH hp dx σ) a R := h.mono (Hp.le_upd hn)
theorem RowsAt.get {hp : Hp} {a : Addr} {R : List Am} (h : RowsAt hp a R) : ∃ refs : List Addr, hp a = some (.list (refs.map .ref)) ∧ refs.length = R.length ∧
    ∀ i, i < R.length → ∃ r dw, (refs.map PV.ref)[i]? = some (.ref r) ∧ hp r = some (.inst 220 dw) ∧ hp dw = some (.flds (amF (R.getD i am0))) := by
  obtain ⟨refs, h1, h2, h3⟩ := h
  refine ⟨refs, h1, h2, fun i hi => ?_⟩
  have e1 : refs[i]? = some (refs[i]'(by lia)) := List.getElem?_eq_getElem (by lia)
  have e2 : R[i]? = some (R[i]'hi) := List.getElem?_eq_getElem hi
  obtain ⟨dw, a, b⟩ := h3 i _ _ e1 e2
  refine ⟨_, dw, by rw [List.getElem?_map, e1]; rfl, a, ?_⟩
  rw [List.getD_eq_getElem?_getD, e2]; exact b
theorem aok_s (g : Gl) : AttrOk (hd.heap_39 g.w.params) 220 "s" := ⟨by k_is, by k_is, _, by k_is, by k_is⟩
theorem aok_substring_i (g : Gl) : AttrOk (hd.heap_39 g.w.params) 220 "substring_i" := ⟨by k_is, by k_is, _, by k_is, by k_is⟩
theorem aok_result (g : Gl) : AttrOk (hd.heap_39 g.w.params) 220 "result" := ⟨by k_is, by k_is, _, by k_is, by k_is⟩
theorem Atr_am_s {c : Cx} {loc : Loc} {hp : Hp} {r dw : Addr} {w : Am} {P : PV → Hp → Prop} (hx : hp r = some (.inst 220 dw)) (hd : hp dw = some (.flds (amF w))) (h : P (.str w.s) hp) : Atr c (.ref r) "s" loc hp P :=
  Atr_own hx hd (aok_s c.g) (.head) (fun _ e => by cases e) h
theorem Atr_am_i {c : Cx} {loc : Loc} {hp : Hp} {r dw : Addr} {w : Am} {P : PV → Hp → Prop} (hx : hp r = some (.inst 220 dw)) (hd : hp dw = some (.flds (amF w))) (h : P (.int w.link) hp) : Atr c (.ref r) "substring_i" loc hp P :=
  Atr_own hx hd (aok_substring_i c.g) (.tail (by decide) .head) (fun _ e => by cases e) h
theorem Atr_am_r {c : Cx} {loc : Loc} {hp : Hp} {r dw : Addr} {w : Am} {P : PV → Hp → Prop} (hx : hp r = some (.inst 220 dw)) (hd : hp dw = some (.flds (amF w))) (h : P (.int w.res) hp) : Atr c (.ref r) "result" loc hp P :=
  Atr_own hx hd (aok_result c.g) (.tail (by decide) (.tail (by decide) .head)) (fun _ e => by cases e) h
theorem st_some {hp : Hp} {dx r : Addr} {σ : Stm} {o : AO} (hn : hp dx = Option.none) (h : hp r = some o) : stH hp dx σ r = some o := Hp.le_upd hn _ _ h
local macro_rules | `(tactic| walk_at "Atr ref") => `(tactic| with_reducible first | refine Atr_am_s (st_some (by assumption) (by assumption)) (st_some (by assumption) (by assumption)) ?_ | refine Atr_am_i (st_some (by assumption) (by assumption)) (st_some (by assumption) (by assumption)) ?_ | refine Atr_am_r (st_some (by assumption) (by assumption)) (st_some (by assumption) (by assumption)) ?_)
theorem getD_map_s (f : Am → LN) (R : List Am) {i : Nat} (hi : i < R.length) : (R.map f).getD i [] = f (R.getD i am0) := by
  rw [List.getD_eq_getElem?_getD, List.getD_eq_getElem?_getD, List.getElem?_map, List.getElem?_eq_getElem hi]; rfl

set_option maxHeartbeats 4000000 in
theorem find_ok {g : Gl} {x dx a : Addr} {cur : List Nat} {R : List Am} {i l : Nat} {b p q : Int} {hp : Hp} {P : PV → Hp → Prop} (hx : hp x = some (.inst 199 dx)) (hne : x ≠ dx) (hn : hp dx = Option.none)
    (hR : RowsAt hp a R) (hil : i ≤ l) (hl : l ≤ cur.length) (h9 : cur.length ≤ 900) (h0 : 0 < R.length) (h6 : R.length ≤ 6) (hs10 : ∀ w ∈ R, w.s.length ≤ 10)
    (hS : Srt (R.map Am.s)) (hL : LinksOk (R.map Am.s) fun p => (R.getD p am0).link)
    (h : ∀ r k, Fnd (R.map Am.s) (fun p => (R.getD p am0).res) ((cur.drop i).take (l - i)) r k → P (.int r) (stH hp dx ⟨cur, (i : Int) + (k : Nat), l, b, p, q⟩)) :
    FnOk g 1 133 [.ref x, .ref a] (stH hp dx ⟨cur, i, l, b, p, q⟩) P := by
  refine' fn_intro [("self" : Str), ("v" : Str)] [("i" : Str), ("j" : Str), ("c" : Str), ("l" : Str), ("common_i" : Str), ("common_j" : Str), ("first_key_inspected" : Str), ("k" : Str), ("diff" : Str), ("common" : Str), ("w" : Str), ("i2" : Str)] ?ho ?hcd ?hbind ?hlen ?hloc ?hnd ?_ ?c1 ?c2 ?c3 ?c4
  walk_at "m fn"
  case hbind => (repeat refine all_cons fun _ => ?_); exact all_nil rfl
  intro c hg hd hs
  subst hg
  walk_at "m loc"
  obtain ⟨refs, ha, hrl, hrow⟩ := hR.get
  replace ha := st_some (σ := ⟨cur, i, l, b, p, q⟩) hn ha
  obtain ⟨t, ht⟩ : ∃ t, (cur.drop i).take (l - i) = t := ⟨_, rfl⟩
  have htl : t.length = l - i := by rw [← ht, List.length_take, List.length_drop]; lia
  have hKl : (R.map Am.s).length = R.length := List.length_map ..
  repeat walk1
  refine Cal_len_list ha (by simp; lia) ?_
  rw [List.length_map, hrl]
  repeat walk1
  generalize hP0 : stH hp dx ⟨cur, i, l, b, p, q⟩ = h1 at ha
  refine TS.mono (P := fun f lo h' => f = .next ∧ h1 = h' ∧ ∃ (i' ci : Nat) (j' cj fi o1 o2 o3 o4 o5 : Option PV), lo = [lR "self" x, lR "v" a, lI "i" i', lO "j" j', lI "c" i, lI "l" l, lI "common_i" ci, lO "common_j" cj, lO "first_key_inspected" fi, lO "k" o1, lO "diff" o2, lO "common" o3, lO "w" o4, lO "i2" o5] ∧ Fin' (R.map Am.s) t i' ci) ?_ ?_
  · subst hP0
    refine S_while (fun n loc h' => stH hp dx ⟨cur, i, l, b, p, q⟩ = h' ∧ ∃ (i' j' ci cj : Nat) (f : Bool) (o1 o2 o3 o4 o5 : Option PV), loc = [lR "self" x, lR "v" a, lI "i" i', lI "j" j', lI "c" i, lI "l" l, lI "common_i" ci, lI "common_j" cj, lB "first_key_inspected" f, lO "k" o1, lO "diff" o2, lO "common" o3, lO "w" o4, lO "i2" o5] ∧ Inv (R.map Am.s) t i' j' ci cj ∧ i' < j' ∧ (f = true → i' = 0 ∧ j' = 1) ∧ 2 * (j' - i') + (if f = true then 0 else 1) = n) (2 * R.length + 1)
      ⟨rfl, 0, R.length, 0, 0, false, _, _, _, _, _, rfl, by rw [← hKl]; exact inv_start (by lia), h0, (fun q => by cases q), by simp⟩ ?_
    rintro n lo h' ⟨hh, i', j', ci, cj, f, o1, o2, o3, o4, o5, hlo, hI, hij, hf, hn'⟩
    subst hh hlo
    have hjR := hI.hj
    rw [hKl] at hjR
    repeat walk1
    try refine ifq_true ?_
    repeat walk1
    refine Cal_min ?_
    repeat walk1
    obtain ⟨k, hk⟩ : ∃ k, i' + (j' - i') / 2 = k := ⟨_, rfl⟩
    rw [show (i' : Int) + (((j' : Int) - i') / 2) = (k : Nat) from by lia]
    obtain ⟨m0, hm0⟩ : ∃ m, min ci cj = m := ⟨_, rfl⟩
    rw [show (min (ci : Int) (cj : Int)) = (m0 : Nat) from by lia]
    have hkj : k < j' := by lia
    have hik : i' ≤ k := by lia
    obtain ⟨r, dw, e1, e2, e3⟩ := hrow k (by lia)
    refine Sub_list ha (by lia) (by lia) (v := .ref r) (by rw [Int.toNat_natCast]; exact e1) ?_
    repeat walk1
    have hpre := hI.pre hS hik hkj
    rw [getD_map_s _ _ (by lia)] at hpre
    have hw10 : (R.getD k am0).s.length ≤ 10 := by
      refine hs10 _ ?_
      rw [List.getD_eq_getElem?_getD, List.getElem?_eq_getElem (by lia)]; exact List.getElem_mem _
    have hO : ∀ {d m}, Out t (R.getD k am0).s d m → Out t ((R.map Am.s).getD k []) d m := fun o => by rw [getD_map_s _ _ (by lia)]; exact o
    generalize R.getD k am0 = w at e3 hpre hw10 hO
    have hm0t : m0 ≤ t.length := by have := hI.hci; lia
    rw [hm0] at hpre
    have hm0w : m0 ≤ w.s.length := by have := hpre.length_le; rw [List.length_take] at this; lia
    refine TS.mono (P := fun f' lo h' => f' = .next ∧ stH hp dx ⟨cur, i, l, b, p, q⟩ = h' ∧ ∃ (d : Int) (m : Nat) (o : Option PV), lo = [lR "self" x, lR "v" a, lI "i" i', lI "j" j', lI "c" i, lI "l" l, lI "common_i" ci, lI "common_j" cj, lB "first_key_inspected" f, lI "k" k, lI "diff" d, lI "common" m, lR "w" r, lO "i2" o] ∧ Out t w.s d m) ?_ ?_
    · refine S_for_range ?_
      repeat walk1
      refine Cal_len_str (by lia) ?_
      repeat walk1
      refine Cal_range2 fun rr hr => ?_
      obtain ⟨r1, r2⟩ := small_range (a := m0) (b := w.s.length) (by lia) (by lia) (by lia) (by lia)
      refine ⟨rr, m0, w.s.length, 1, w.s.length - m0, _, rfl, Hp.upd_self .., r1, by rw [r2]; lia, Hp.le_upd hr, ?_⟩
      refine ⟨fun n lo h' => stH hp dx ⟨cur, i, l, b, p, q⟩ = h' ∧ ∃ (o : Option PV), lo = [lR "self" x, lR "v" a, lI "i" i', lI "j" j', lI "c" i, lI "l" l, lI "common_i" ci, lI "common_j" cj, lB "first_key_inspected" f, lI "k" k, lI "diff" 0, lI "common" (m0 + n : Nat), lR "w" r, lO "i2" o] ∧ m0 + n ≤ t.length ∧ t.take (m0 + n) <+: w.s, ⟨rfl, _, rfl, hm0t, hpre⟩, ?_, ?_⟩
      · rintro n lo h' hn ⟨hh, o, hlo, hnt, hnp⟩
        subst hh hlo
        repeat walk1
        refine ⟨fun hb => ?_, fun hb => ?_⟩
        · have hb := of_decide_eq_true hb
          repeat walk1
          refine turn_brk ?_
          refine ⟨rfl, rfl, _, _, _, rfl, ?_⟩
          have : m0 + n = t.length := by lia
          rw [this] at hnp ⊢
          rw [List.take_length] at hnp
          exact out_end hnp (by lia)
        · have hb := of_decide_eq_false hb
          have hlt : m0 + n < t.length := by lia
          have t1 : t[m0 + n]? = some (t[m0 + n]'hlt) := List.getElem?_eq_getElem hlt
          have c1 : cur[i + (m0 + n)]? = some (t[m0 + n]'hlt) := by
            rw [← t1, ← ht, List.getElem?_take, if_pos (by lia), List.getElem?_drop]
          have w1 : w.s[m0 + n]? = some (w.s[m0 + n]'(by lia)) := List.getElem?_eq_getElem (by lia)
          generalize t[m0 + n]'hlt = ta at t1 c1
          generalize w.s[m0 + n]'_ = wa at w1
          repeat walk1
          refine Sub_str (n := ta) (by lia) (by lia) (by rw [show ((i : Int) + (m0 + n : Nat)).toNat = i + (m0 + n) from by lia]; exact c1) ?_
          repeat walk1
          refine Cal_ord ?_
          repeat walk1
          refine Sub_str (n := wa) (by lia) (by lia) (by rw [show ((m0 : Int) + (n : Nat) * 1).toNat = m0 + n from by lia]; exact w1) ?_
          repeat walk1
          refine Cal_ord ?_
          repeat walk1
          refine ⟨fun hb => ?_, fun hb => ?_⟩
          · have hb := of_decide_eq_true hb
            repeat walk1
            refine turn_brk ?_
            refine ⟨rfl, rfl, _, _, _, rfl, ?_⟩
            exact out_diff t1 w1 hnp (by lia)
          · have hb := of_decide_eq_false hb
            repeat walk1
            refine S_aug (by walk_at "m mem") ?_
            repeat walk1
            have hab : ta = wa := by lia
            subst hab
            refine turn_next ?_
            refine ⟨rfl, some (.int ((m0 : Int) + (n : Nat) * 1)), ?_, by lia, out_step t1 w1 hnp⟩
            rw [show (((m0 + (n + 1) : Nat)) : Int) = ((m0 + n : Nat) : Int) + 1 from by lia, show (ta : Int) - (ta : Int) = 0 from by lia]
      · rintro lo h' ⟨hh, o, hlo, hnt, hnp⟩
        subst hh hlo
        refine ⟨rfl, rfl, _, _, _, rfl, ?_⟩
        rw [show m0 + (w.s.length - m0) = w.s.length from by lia] at hnt hnp ⊢
        exact out_full hnt hnp
    · rintro f' lo h' ⟨hf', hh, d, m, o, hlo, hout⟩
      subst hf' hh hlo
      repeat walk1
      refine ⟨fun hb => ?_, fun hb => ?_⟩
      · have hb := of_decide_eq_true hb
        have hI2 := hI.left hS hik hkj (hO hout) hb
        repeat walk1
        refine ⟨fun hb => ?_, fun hb => ?_⟩
        · have hb := of_decide_eq_true hb
          repeat walk1
          refine ⟨fun hb => ?_, fun hb => ?_⟩
          · have hb := of_decide_eq_true hb
            repeat walk1
            refine turn_brk ?_
            refine ⟨rfl, rfl, _, _, _, _, _, _, _, _, _, _, rfl, hI2.finDn (by lia) (hI2.dn (by lia))⟩
          · have hb := of_decide_eq_false hb
            have : i' = 0 := by lia
            subst this
            repeat walk1
            refine ⟨fun hb => ?_, fun hb => ?_⟩
            · have hb := of_decide_eq_true hb
              have : k = 0 := by lia
              subst this
              repeat walk1
              refine turn_brk ?_
              refine ⟨rfl, rfl, _, _, _, _, _, _, _, _, _, _, rfl, hI2.finUp hS⟩
            · have hb := of_decide_eq_false hb
              repeat walk1
              have : f = false := by
                cases f with
                | false => rfl
                | true => have := hf rfl; lia
              subst this
              try refine ifq_false ?_
              repeat walk1
              refine turn_next ?_
              refine ⟨_, ?_, rfl, _, _, _, _, _, _, _, _, _, _, rfl, hI2, by lia, fun _ => ⟨rfl, by lia⟩, rfl⟩
              subst hn'
              simp only [if_true, Bool.false_eq_true, if_false]; lia
        · have hb := of_decide_eq_false hb
          repeat walk1
          have : f = false := by
            cases f with
            | false => rfl
            | true => have := hf rfl; lia
          subst this
          refine turn_next ?_
          refine ⟨_, ?_, rfl, _, _, _, _, _, _, _, _, _, _, rfl, hI2, by lia, (fun q => by cases q), rfl⟩
          subst hn'
          simp only [if_true, Bool.false_eq_true, if_false]; lia
      · have hb := of_decide_eq_false hb
        obtain ⟨hI2, hD⟩ := hI.right hik hkj (hO hout) (by lia)
        repeat walk1
        refine ⟨fun hb => ?_, fun hb => ?_⟩
        · have hb := of_decide_eq_true hb
          repeat walk1
          refine ⟨fun hb => ?_, fun hb => ?_⟩
          · repeat walk1
            refine turn_brk ?_
            refine ⟨rfl, rfl, _, _, _, _, _, _, _, _, _, _, rfl, hI2.finDn (by lia) hD⟩
          · have hb := of_decide_eq_false hb
            have : k = 0 := by lia
            subst this
            repeat walk1
            refine ⟨fun hb => ?_, fun hb => ?_⟩
            · have hb := of_decide_eq_true hb
              lia
            · have hb := of_decide_eq_false hb
              repeat walk1
              cases f with
              | true =>
                try refine ifq_true ?_
                repeat walk1
                refine turn_brk ?_
                refine ⟨rfl, rfl, _, _, _, _, _, _, _, _, _, _, rfl, hI2.finDn (by lia) hD⟩
              | false =>
                try refine ifq_false ?_
                repeat walk1
                refine turn_next ?_
                refine ⟨_, ?_, rfl, _, _, _, _, _, _, _, _, _, _, rfl, hI2, by lia, fun _ => ⟨rfl, by lia⟩, rfl⟩
                subst hn'
                simp only [if_true, Bool.false_eq_true, if_false]; lia
        · have hb := of_decide_eq_false hb
          repeat walk1
          have : f = false := by
            cases f with
            | false => rfl
            | true => have := hf rfl; lia
          subst this
          refine turn_next ?_
          refine ⟨_, ?_, rfl, _, _, _, _, _, _, _, _, _, _, rfl, hI2, by lia, (fun q => by cases q), rfl⟩
          subst hn'
          simp only [if_true, Bool.false_eq_true, if_false]; lia
  · rintro f lo h' ⟨hf, hh, i', ci, j', cj, fi, o1, o2, o3, o4, o5, hlo, hF⟩
    subst hf hh hlo hP0
    repeat walk1
    refine S_while (fun n loc h' => stH hp dx ⟨cur, i, l, b, p, q⟩ = h' ∧ ∃ (pp : Nat) (o4 : Option PV), loc = [lR "self" x, lR "v" a, lI "i" pp, lO "j" j', lI "c" i, lI "l" l, lI "common_i" ci, lO "common_j" cj, lO "first_key_inspected" fi, lO "k" o1, lO "diff" o2, lO "common" o3, lO "w" o4, lO "i2" o5] ∧ Ch (R.map Am.s) t i' ci pp ∧ pp = n) i' ⟨rfl, i', _, rfl, hF.ch hS, rfl⟩ ?_
    rintro n lo h' ⟨hh, pp, o4', hlo, hC, hpn⟩
    subst hh hlo
    have hpp := hC.hp
    rw [hKl] at hpp
    obtain ⟨r, dw, e1, e2, e3⟩ := hrow pp hpp
    have hw10 : (R.getD pp am0).s.length ≤ 10 := by
      refine hs10 _ ?_
      rw [List.getD_eq_getElem?_getD, List.getElem?_eq_getElem hpp]; exact List.getElem_mem _
    have hg1 := getD_map_s Am.s R hpp
    repeat walk1
    try refine ifq_true ?_
    repeat walk1
    refine Sub_list ha (by lia) (by lia) (v := .ref r) (by rw [Int.toNat_natCast]; exact e1) ?_
    repeat walk1
    refine Cal_len_str (by lia) ?_
    repeat walk1
    refine ⟨fun hb => ?_, fun hb => ?_⟩
    · have hb := of_decide_eq_true hb
      have := h _ _ (by rw [ht]; exact hC.hit hF (by rw [hg1]; lia))
      rw [hg1] at this
      repeat walk1
      refine Cal_len_str (by lia) ?_
      repeat walk1
      refine turn_ret ?_
      exact this
    · have hb := of_decide_eq_false hb
      rcases hC.miss (R := fun p => (R.getD p am0).res) hS hF hL (by rw [hg1]; lia) with ⟨e, hfnd⟩ | ⟨pq, hq, e, hC2⟩
      · have := h _ _ (by rw [ht]; exact hfnd)
        repeat walk1
        rw [e]
        repeat walk1
        try refine ifq_true ?_
        repeat walk1
        refine turn_ret ?_
        rw [show (i : Int) + (0 : Nat) = i from by lia] at this
        exact this
      · repeat walk1
        rw [e]
        repeat walk1
        refine ⟨fun hb => ?_, fun hb => ?_⟩
        · have hb := of_decide_eq_true hb
          lia
        · repeat walk1
          refine turn_next ?_
          refine ⟨pq, by lia, rfl, pq, _, rfl, hC2, rfl⟩
end
section
local macro_rules | `(tactic| walk_at "Atr ref") => `(tactic| with_reducible first | refine Atr_am_s (st_some (by assumption) (by assumption)) (st_some (by assumption) (by assumption)) ?_ | refine Atr_am_i (st_some (by assumption) (by assumption)) (st_some (by assumption) (by assumption)) ?_ | refine Atr_am_r (st_some (by assumption) (by assumption)) (st_some (by assumption) (by assumption)) ?_)
theorem small_down {n m : Nat} (h : m ≤ n) (hn : n ≤ 900) : Builtin.Range.small ((n : Int) - 1 - (m : Nat)) (-1) (-1) = true ∧ Builtin.Range.rangeSize ((n : Int) - 1 - (m : Nat)) (-1) (-1) = (n : Int) - m := by
  have e : Builtin.Range.rangeSize ((n : Int) - 1 - (m : Nat)) (-1) (-1) = (n : Int) - m := by
    unfold Builtin.Range.rangeSize
    simp only [show ¬ (-1 : Int) > 0 from by decide, if_false, show - (-1 : Int) = 1 from rfl, Int.ediv_one]
    split <;> lia
  refine ⟨?_, e⟩
  unfold Builtin.Range.small
  rw [e]
  simp only [show ¬ (-1 : Int) > 0 from by decide, if_false, Builtin.Range.rangeFitsLong, Bool.and_eq_true, Bool.or_eq_true, decide_eq_true_eq, beq_iff_eq]
  lia
set_option maxHeartbeats 4000000 in
theorem find_b_ok {g : Gl} {x dx a : Addr} {cur : List Nat} {R : List Am} {i b : Nat} {l p q : Int} {hp : Hp} {P : PV → Hp → Prop} (hx : hp x = some (.inst 199 dx)) (hne : x ≠ dx) (hn : hp dx = Option.none)
    (hR : RowsAt hp a R) (hbi : b ≤ i) (hi : i ≤ cur.length) (h9 : cur.length ≤ 900) (h0 : 0 < R.length) (h6 : R.length ≤ 6) (hs10 : ∀ w ∈ R, w.s.length ≤ 10)
    (hS : Srt (R.map fun w => w.s.reverse)) (hL : LinksOk (R.map fun w => w.s.reverse) fun p => (R.getD p am0).link)
    (h : ∀ r k, Fnd (R.map fun w => w.s.reverse) (fun p => (R.getD p am0).res) ((cur.drop b).take (i - b)).reverse r k → P (.int r) (stH hp dx ⟨cur, (i : Int) - (k : Nat), l, b, p, q⟩)) :
    FnOk g 1 140 [.ref x, .ref a] (stH hp dx ⟨cur, i, l, b, p, q⟩) P := by
  refine' fn_intro [("self" : Str), ("v" : Str)] [("i" : Str), ("j" : Str), ("c" : Str), ("lb" : Str), ("common_i" : Str), ("common_j" : Str), ("first_key_inspected" : Str), ("k" : Str), ("diff" : Str), ("common" : Str), ("w" : Str), ("i2" : Str)] ?ho ?hcd ?hbind ?hlen ?hloc ?hnd ?_ ?c1 ?c2 ?c3 ?c4
  walk_at "m fn"
  case hbind => (repeat refine all_cons fun _ => ?_); exact all_nil rfl
  intro c hg hd hs
  subst hg
  walk_at "m loc"
  obtain ⟨refs, ha, hrl, hrow⟩ := hR.get
  replace ha := st_some (σ := ⟨cur, i, l, b, p, q⟩) hn ha
  obtain ⟨t, ht⟩ : ∃ t, ((cur.drop b).take (i - b)).reverse = t := ⟨_, rfl⟩
  have htl : t.length = i - b := by rw [← ht, List.length_reverse, List.length_take, List.length_drop]; lia
  have hKl : (R.map fun w => w.s.reverse).length = R.length := List.length_map ..
  repeat walk1
  refine Cal_len_list ha (by simp; lia) ?_
  rw [List.length_map, hrl]
  repeat walk1
  generalize hP0 : stH hp dx ⟨cur, i, l, b, p, q⟩ = h1 at ha
  refine TS.mono (P := fun f lo h' => f = .next ∧ h1 = h' ∧ ∃ (i' ci : Nat) (j' cj fi o1 o2 o3 o4 o5 : Option PV), lo = [lR "self" x, lR "v" a, lI "i" i', lO "j" j', lI "c" i, lI "lb" b, lI "common_i" ci, lO "common_j" cj, lO "first_key_inspected" fi, lO "k" o1, lO "diff" o2, lO "common" o3, lO "w" o4, lO "i2" o5] ∧ Fin' (R.map fun w => w.s.reverse) t i' ci) ?_ ?_
  · subst hP0
    refine S_while (fun n loc h' => stH hp dx ⟨cur, i, l, b, p, q⟩ = h' ∧ ∃ (i' j' ci cj : Nat) (f : Bool) (o1 o2 o3 o4 o5 : Option PV), loc = [lR "self" x, lR "v" a, lI "i" i', lI "j" j', lI "c" i, lI "lb" b, lI "common_i" ci, lI "common_j" cj, lB "first_key_inspected" f, lO "k" o1, lO "diff" o2, lO "common" o3, lO "w" o4, lO "i2" o5] ∧ Inv (R.map fun w => w.s.reverse) t i' j' ci cj ∧ i' < j' ∧ (f = true → i' = 0 ∧ j' = 1) ∧ 2 * (j' - i') + (if f = true then 0 else 1) = n) (2 * R.length + 1)
      ⟨rfl, 0, R.length, 0, 0, false, _, _, _, _, _, rfl, by rw [← hKl]; exact inv_start (by lia), h0, (fun q => by cases q), by simp⟩ ?_
    rintro n lo h' ⟨hh, i', j', ci, cj, f, o1, o2, o3, o4, o5, hlo, hI, hij, hf, hn'⟩
    subst hh hlo
    have hjR := hI.hj
    rw [hKl] at hjR
    repeat walk1
    try refine ifq_true ?_
    repeat walk1
    refine Cal_min ?_
    repeat walk1
    obtain ⟨k, hk⟩ : ∃ k, i' + (j' - i') / 2 = k := ⟨_, rfl⟩
    rw [show (i' : Int) + (((j' : Int) - i') / 2) = (k : Nat) from by lia]
    obtain ⟨m0, hm0⟩ : ∃ m, min ci cj = m := ⟨_, rfl⟩
    rw [show (min (ci : Int) (cj : Int)) = (m0 : Nat) from by lia]
    have hkj : k < j' := by lia
    have hik : i' ≤ k := by lia
    obtain ⟨r, dw, e1, e2, e3⟩ := hrow k (by lia)
    refine Sub_list ha (by lia) (by lia) (v := .ref r) (by rw [Int.toNat_natCast]; exact e1) ?_
    repeat walk1
    have hpre := hI.pre hS hik hkj
    rw [getD_map_s (fun w => w.s.reverse) _ (by lia)] at hpre
    have hw10 : (R.getD k am0).s.length ≤ 10 := by
      refine hs10 _ ?_
      rw [List.getD_eq_getElem?_getD, List.getElem?_eq_getElem (by lia)]; exact List.getElem_mem _
    have hO : ∀ {d m}, Out t (R.getD k am0).s.reverse d m → Out t ((R.map fun w => w.s.reverse).getD k []) d m := fun o => by rw [getD_map_s (fun w => w.s.reverse) _ (by lia)]; exact o
    generalize R.getD k am0 = w at e3 hpre hw10 hO
    have hm0t : m0 ≤ t.length := by have := hI.hci; lia
    rw [hm0] at hpre
    have hm0w : m0 ≤ w.s.length := by have := hpre.length_le; rw [List.length_take, List.length_reverse] at this; lia
    refine TS.mono (P := fun f' lo h' => f' = .next ∧ stH hp dx ⟨cur, i, l, b, p, q⟩ = h' ∧ ∃ (d : Int) (m : Nat) (o : Option PV), lo = [lR "self" x, lR "v" a, lI "i" i', lI "j" j', lI "c" i, lI "lb" b, lI "common_i" ci, lI "common_j" cj, lB "first_key_inspected" f, lI "k" k, lI "diff" d, lI "common" m, lR "w" r, lO "i2" o] ∧ Out t w.s.reverse d m) ?_ ?_
    · refine S_for_range ?_
      repeat walk1
      refine Cal_len_str (by lia) ?_
      repeat walk1
      refine Cal_range3 (by decide) (by first | rfl | (unfold Builtin.divisionGoesByPylong; rfl) | (simp [Builtin.divisionGoesByPylong])) fun rr hr => ?_
      obtain ⟨r1, r2⟩ := small_down (n := w.s.length) (m := m0) (by lia) (by lia)
      refine ⟨rr, (w.s.length : Int) - 1 - (m0 : Nat), -1, -1, w.s.length - m0, _, rfl, Hp.upd_self .., r1, by rw [r2]; lia, Hp.le_upd hr, ?_⟩
      refine ⟨fun n lo h' => stH hp dx ⟨cur, i, l, b, p, q⟩ = h' ∧ ∃ (o : Option PV), lo = [lR "self" x, lR "v" a, lI "i" i', lI "j" j', lI "c" i, lI "lb" b, lI "common_i" ci, lI "common_j" cj, lB "first_key_inspected" f, lI "k" k, lI "diff" 0, lI "common" (m0 + n : Nat), lR "w" r, lO "i2" o] ∧ m0 + n ≤ t.length ∧ t.take (m0 + n) <+: w.s.reverse, ⟨rfl, _, rfl, hm0t, hpre⟩, ?_, ?_⟩
      · rintro n lo h' hn ⟨hh, o, hlo, hnt, hnp⟩
        subst hh hlo
        repeat walk1
        refine ⟨fun hb => ?_, fun hb => ?_⟩
        · have hb := of_decide_eq_true hb
          repeat walk1
          refine turn_brk ?_
          refine ⟨rfl, rfl, _, _, _, rfl, ?_⟩
          have : m0 + n = t.length := by lia
          rw [this] at hnp ⊢
          rw [List.take_length] at hnp
          exact out_end hnp (by rw [List.length_reverse]; lia)
        · have hb := of_decide_eq_false hb
          have hlt : m0 + n < t.length := by lia
          have t1 : t[m0 + n]? = some (t[m0 + n]'hlt) := List.getElem?_eq_getElem hlt
          have c1 : cur[i - 1 - (m0 + n)]? = some (t[m0 + n]'hlt) := by
            rw [← t1, ← ht]
            have hl1 : ((cur.drop b).take (i - b)).length = i - b := by rw [List.length_take, List.length_drop]; lia
            rw [List.getElem?_reverse (by lia), hl1, List.getElem?_take, if_pos (by lia), List.getElem?_drop]
            congr 1; lia
          have hwl : m0 + n < w.s.reverse.length := by rw [List.length_reverse]; lia
          have w1 : w.s.reverse[m0 + n]? = some (w.s.reverse[m0 + n]'hwl) := List.getElem?_eq_getElem hwl
          generalize t[m0 + n]'hlt = ta at t1 c1
          generalize w.s.reverse[m0 + n]'_ = wa at w1
          have w2 : w.s[w.s.length - 1 - (m0 + n)]? = some wa := by
            rw [← w1, List.getElem?_reverse (by lia)]
          repeat walk1
          refine Sub_str (n := ta) (by lia) (by lia) (by rw [show ((i : Int) - 1 - (m0 + n : Nat)).toNat = i - 1 - (m0 + n) from by lia]; exact c1) ?_
          repeat walk1
          refine Cal_ord ?_
          repeat walk1
          refine Sub_str (n := wa) (by lia) (by lia) (by rw [show ((w.s.length : Int) - 1 - (m0 : Nat) + (n : Nat) * -1).toNat = w.s.length - 1 - (m0 + n) from by lia]; exact w2) ?_
          repeat walk1
          refine Cal_ord ?_
          repeat walk1
          refine ⟨fun hb => ?_, fun hb => ?_⟩
          · have hb := of_decide_eq_true hb
            repeat walk1
            refine turn_brk ?_
            refine ⟨rfl, rfl, _, _, _, rfl, ?_⟩
            exact out_diff t1 w1 hnp (by lia)
          · have hb := of_decide_eq_false hb
            repeat walk1
            refine S_aug (by walk_at "m mem") ?_
            repeat walk1
            have hab : ta = wa := by lia
            subst hab
            refine turn_next ?_
            refine ⟨rfl, some (.int ((w.s.length : Int) - 1 - (m0 : Nat) + (n : Nat) * -1)), ?_, by lia, out_step t1 w1 hnp⟩
            rw [show (((m0 + (n + 1) : Nat)) : Int) = ((m0 + n : Nat) : Int) + 1 from by lia, show (ta : Int) - (ta : Int) = 0 from by lia]
      · rintro lo h' ⟨hh, o, hlo, hnt, hnp⟩
        subst hh hlo
        refine ⟨rfl, rfl, _, _, _, rfl, ?_⟩
        rw [show m0 + (w.s.length - m0) = w.s.reverse.length from by rw [List.length_reverse]; lia] at hnt hnp ⊢
        exact out_full hnt hnp
    · rintro f' lo h' ⟨hf', hh, d, m, o, hlo, hout⟩
      subst hf' hh hlo
      repeat walk1
      refine ⟨fun hb => ?_, fun hb => ?_⟩
      · have hb := of_decide_eq_true hb
        have hI2 := hI.left hS hik hkj (hO hout) hb
        repeat walk1
        refine ⟨fun hb => ?_, fun hb => ?_⟩
        · have hb := of_decide_eq_true hb
          repeat walk1
          refine ⟨fun hb => ?_, fun hb => ?_⟩
          · have hb := of_decide_eq_true hb
            repeat walk1
            refine turn_brk ?_
            refine ⟨rfl, rfl, _, _, _, _, _, _, _, _, _, _, rfl, hI2.finDn (by lia) (hI2.dn (by lia))⟩
          · have hb := of_decide_eq_false hb
            have : i' = 0 := by lia
            subst this
            repeat walk1
            refine ⟨fun hb => ?_, fun hb => ?_⟩
            · have hb := of_decide_eq_true hb
              have : k = 0 := by lia
              subst this
              repeat walk1
              refine turn_brk ?_
              refine ⟨rfl, rfl, _, _, _, _, _, _, _, _, _, _, rfl, hI2.finUp hS⟩
            · have hb := of_decide_eq_false hb
              repeat walk1
              have : f = false := by
                cases f with
                | false => rfl
                | true => have := hf rfl; lia
              subst this
              try refine ifq_false ?_
              repeat walk1
              refine turn_next ?_
              refine ⟨_, ?_, rfl, _, _, _, _, _, _, _, _, _, _, rfl, hI2, by lia, fun _ => ⟨rfl, by lia⟩, rfl⟩
              subst hn'
              simp only [if_true, Bool.false_eq_true, if_false]; lia
        · have hb := of_decide_eq_false hb
          repeat walk1
          have : f = false := by
            cases f with
            | false => rfl
            | true => have := hf rfl; lia
          subst this
          refine turn_next ?_
          refine ⟨_, ?_, rfl, _, _, _, _, _, _, _, _, _, _, rfl, hI2, by lia, (fun q => by cases q), rfl⟩
          subst hn'
          simp only [if_true, Bool.false_eq_true, if_false]; lia
      · have hb := of_decide_eq_false hb
        obtain ⟨hI2, hD⟩ := hI.right hik hkj (hO hout) (by lia)
        repeat walk1
        refine ⟨fun hb => ?_, fun hb => ?_⟩
        · have hb := of_decide_eq_true hb
          repeat walk1
          refine ⟨fun hb => ?_, fun hb => ?_⟩
          · repeat walk1
            refine turn_brk ?_
            refine ⟨rfl, rfl, _, _, _, _, _, _, _, _, _, _, rfl, hI2.finDn (by lia) hD⟩
          · have hb := of_decide_eq_false hb
            have : k = 0 := by lia
            subst this
            repeat walk1
            refine ⟨fun hb => ?_, fun hb => ?_⟩
            · have hb := of_decide_eq_true hb
              lia
            · have hb := of_decide_eq_false hb
              repeat walk1
              cases f with
              | true =>
                try refine ifq_true ?_
                repeat walk1
                refine turn_brk ?_
                refine ⟨rfl, rfl, _, _, _, _, _, _, _, _, _, _, rfl, hI2.finDn (by lia) hD⟩
              | false =>
                try refine ifq_false ?_
                repeat walk1
                refine turn_next ?_
                refine ⟨_, ?_, rfl, _, _, _, _, _, _, _, _, _, _, rfl, hI2, by lia, fun _ => ⟨rfl, by lia⟩, rfl⟩
                subst hn'
                simp only [if_true, Bool.false_eq_true, if_false]; lia
        · have hb := of_decide_eq_false hb
          repeat walk1
          have : f = false := by
            cases f with
            | false => rfl
            | true => have := hf rfl; lia
          subst this
          refine turn_next ?_
          refine ⟨_, ?_, rfl, _, _, _, _, _, _, _, _, _, _, rfl, hI2, by lia, (fun q => by cases q), rfl⟩
          subst hn'
          simp only [if_true, Bool.false_eq_true, if_false]; lia
  · rintro f lo h' ⟨hf, hh, i', ci, j', cj, fi, o1, o2, o3, o4, o5, hlo, hF⟩
    subst hf hh hlo hP0
    repeat walk1
    refine S_while (fun n loc h' => stH hp dx ⟨cur, i, l, b, p, q⟩ = h' ∧ ∃ (pp : Nat) (o4 : Option PV), loc = [lR "self" x, lR "v" a, lI "i" pp, lO "j" j', lI "c" i, lI "lb" b, lI "common_i" ci, lO "common_j" cj, lO "first_key_inspected" fi, lO "k" o1, lO "diff" o2, lO "common" o3, lO "w" o4, lO "i2" o5] ∧ Ch (R.map fun w => w.s.reverse) t i' ci pp ∧ pp = n) i' ⟨rfl, i', _, rfl, hF.ch hS, rfl⟩ ?_
    rintro n lo h' ⟨hh, pp, o4', hlo, hC, hpn⟩
    subst hh hlo
    have hpp := hC.hp
    rw [hKl] at hpp
    obtain ⟨r, dw, e1, e2, e3⟩ := hrow pp hpp
    have hw10 : (R.getD pp am0).s.length ≤ 10 := by
      refine hs10 _ ?_
      rw [List.getD_eq_getElem?_getD, List.getElem?_eq_getElem hpp]; exact List.getElem_mem _
    have hg1 := getD_map_s (fun w => w.s.reverse) R hpp
    repeat walk1
    try refine ifq_true ?_
    repeat walk1
    refine Sub_list ha (by lia) (by lia) (v := .ref r) (by rw [Int.toNat_natCast]; exact e1) ?_
    repeat walk1
    refine Cal_len_str (by lia) ?_
    repeat walk1
    refine ⟨fun hb => ?_, fun hb => ?_⟩
    · have hb := of_decide_eq_true hb
      have := h _ _ (by rw [ht]; exact hC.hit hF (by rw [hg1, List.length_reverse]; lia))
      rw [hg1, List.length_reverse] at this
      repeat walk1
      refine Cal_len_str (by lia) ?_
      repeat walk1
      refine turn_ret ?_
      exact this
    · have hb := of_decide_eq_false hb
      rcases hC.miss (R := fun p => (R.getD p am0).res) hS hF hL (by rw [hg1, List.length_reverse]; lia) with ⟨e, hfnd⟩ | ⟨pq, hq, e, hC2⟩
      · have := h _ _ (by rw [ht]; exact hfnd)
        repeat walk1
        rw [e]
        repeat walk1
        try refine ifq_true ?_
        repeat walk1
        refine turn_ret ?_
        rw [show (i : Int) - (0 : Nat) = i from by lia] at this
        exact this
      · repeat walk1
        rw [e]
        repeat walk1
        refine ⟨fun hb => ?_, fun hb => ?_⟩
        · have hb := of_decide_eq_true hb
          lia
        · repeat walk1
          refine turn_next ?_
          refine ⟨pq, by lia, rfl, pq, _, rfl, hC2, rfl⟩
end
section
set_option autoImplicit false
set_option linter.unusedVariables false

/-! the longest piece -/
def Fits (back : Bool) (x p : LN) : Prop := if back = true then p.reverse <+: x.reverse else p <+: x
theorem fitsL_iff (back : Bool) (x p : LN) : fitsL back x p = true ↔ Fits back x p := by
  unfold fitsL Fits
  cases back
  · simp only [Bool.false_eq_true, if_false, Bool.and_eq_true, decide_eq_true_eq]
    constructor
    · rintro ⟨_, h⟩; rw [← h]; exact List.take_prefix ..
    · intro h; exact ⟨h.length_le, (List.prefix_iff_eq_take.mp h).symm⟩
  · simp only [if_true, Bool.and_eq_true, decide_eq_true_eq, List.reverse_prefix]
    constructor
    · rintro ⟨_, h⟩; rw [← h]; exact List.drop_suffix ..
    · intro h; exact ⟨h.length_le, (List.suffix_iff_eq_drop.mp h).symm⟩
theorem Fits.len {back : Bool} {x p : LN} (h : Fits back x p) : p.length ≤ x.length := by
  unfold Fits at h
  split at h
  · have := h.length_le; rwa [List.length_reverse, List.length_reverse] at this
  · exact h.length_le
theorem Fits.same {back : Bool} {x p q : LN} (h : Fits back x p) (h' : Fits back x q) (hl : p.length = q.length) : p = q := by
  unfold Fits at h h'
  split at h
  · rename_i hb
    rw [if_pos hb] at h'
    have e := List.prefix_of_prefix_length_le h h' (by rw [List.length_reverse, List.length_reverse]; lia)
    have := e.eq_of_length (by rw [List.length_reverse, List.length_reverse]; exact hl)
    exact List.reverse_inj.mp this
  · rename_i hb
    rw [if_neg hb] at h'
    exact (List.prefix_of_prefix_length_le h h' (by lia)).eq_of_length hl
/-- a table as the law makes it -/
structure TabOk (T : List Row) : Prop where
  pos : 0 < T.length
  six : T.length ≤ 6
  r0 : ∀ t ∈ T, t.r ≠ 0
  r6 : ∀ t ∈ T, t.r ≤ 6
  p10 : ∀ t ∈ T, t.p.length ≤ 10
  q2 : ∀ t ∈ T, t.q.length ≤ 2
  uniq : ∀ t ∈ T, ∀ t' ∈ T, t.p = t'.p → t = t'
theorem longest_fold (back : Bool) (x : LN) : ∀ (T : List Row) (b : Row), (∀ t ∈ T, t.r ≠ 0) → (b = row0 ∨ (b.r ≠ 0 ∧ Fits back x b.p)) →
    ((T.foldl (longStep back x) b = b ∧ (b = row0 → ∀ t ∈ T, ¬ Fits back x t.p)) ∨ (T.foldl (longStep back x) b ∈ T ∧ Fits back x (T.foldl (longStep back x) b).p)) ∧
    (T.foldl (longStep back x) b = row0 ∨ ((T.foldl (longStep back x) b).r ≠ 0 ∧ b.p.length ≤ (T.foldl (longStep back x) b).p.length ∧ ∀ t ∈ T, Fits back x t.p → t.p.length ≤ (T.foldl (longStep back x) b).p.length))
  | [], b, _, hb => ⟨.inl ⟨rfl, fun _ t h => by cases h⟩, by
      rcases hb with h | h
      · exact .inl h
      · exact .inr ⟨h.1, Nat.le_refl _, fun t h => by cases h⟩⟩
  | t :: T, b, hr, hb => by
    rw [List.foldl_cons]
    have hrt := hr t (List.mem_cons_self ..)
    have hrT := fun u hu => hr u (List.mem_cons_of_mem t hu)
    by_cases hf : Fits back x t.p
    · by_cases hc : b.r = 0 ∨ b.p.length < t.p.length
      · have e : longStep back x b t = t := by
          unfold longStep; rw [if_pos]; rw [(fitsL_iff _ _ _).mpr hf, Bool.and_true, Bool.or_eq_true, decide_eq_true_eq, decide_eq_true_eq]; exact hc
        rw [e]
        obtain ⟨h1, h2⟩ := longest_fold back x T t hrT (.inr ⟨hrt, hf⟩)
        have hbt : b.p.length ≤ t.p.length := by
          rcases hb with h | h
          · rw [h]; exact Nat.zero_le _
          · rcases hc with h' | h'
            · exact absurd h' h.1
            · lia
        refine ⟨.inr ?_, ?_⟩
        · rcases h1 with h | h
          · rw [h.1]; exact ⟨List.mem_cons_self .., hf⟩
          · exact ⟨List.mem_cons_of_mem _ h.1, h.2⟩
        · rcases h2 with h | h
          · exfalso
            rcases h1 with h' | h'
            · rw [h'.1] at h; rw [h] at hrt; exact hrt rfl
            · exact hrT _ h'.1 (by rw [h]; rfl)
          · refine .inr ⟨h.1, by lia, fun u hu hfu => ?_⟩
            rcases List.mem_cons.mp hu with rfl | hu
            · exact h.2.1
            · exact h.2.2 u hu hfu
      · have e : longStep back x b t = b := by
          unfold longStep; rw [if_neg]; rw [Bool.and_eq_true, Bool.or_eq_true, decide_eq_true_eq, decide_eq_true_eq]; exact fun q => hc q.1
        rw [e]
        obtain ⟨h1, h2⟩ := longest_fold back x T b hrT hb
        have hbr : b ≠ row0 := fun q => hc (.inl (by rw [q]; rfl))
        refine ⟨?_, ?_⟩
        · rcases h1 with h | h
          · exact .inl ⟨h.1, fun q => absurd q hbr⟩
          · exact .inr ⟨List.mem_cons_of_mem _ h.1, h.2⟩
        · rcases h2 with h | h
          · exact .inl h
          · refine .inr ⟨h.1, h.2.1, fun u hu hfu => ?_⟩
            rcases List.mem_cons.mp hu with rfl | hu
            · have : ¬ b.p.length < u.p.length := fun q => hc (.inr q)
              lia
            · exact h.2.2 u hu hfu
    · have e : longStep back x b t = b := by
        unfold longStep; rw [if_neg]; rw [Bool.and_eq_true]; exact fun q => hf ((fitsL_iff _ _ _).mp q.2)
      rw [e]
      obtain ⟨h1, h2⟩ := longest_fold back x T b hrT hb
      refine ⟨?_, ?_⟩
      · rcases h1 with h | h
        · refine .inl ⟨h.1, fun q u hu => ?_⟩
          rcases List.mem_cons.mp hu with rfl | hu
          · exact hf
          · exact h.2 q u hu
        · exact .inr ⟨List.mem_cons_of_mem _ h.1, h.2⟩
      · rcases h2 with h | h
        · exact .inl h
        · refine .inr ⟨h.1, h.2.1, fun u hu hfu => ?_⟩
          rcases List.mem_cons.mp hu with rfl | hu
          · exact absurd hfu hf
          · exact h.2.2 u hu hfu
theorem longest_spec {T : List Row} (h : ∀ t ∈ T, t.r ≠ 0) (x : LN) (back : Bool) :
    (longestL T x back = row0 ∧ ∀ t ∈ T, ¬ Fits back x t.p) ∨ (longestL T x back ∈ T ∧ Fits back x (longestL T x back).p ∧ ∀ t ∈ T, Fits back x t.p → t.p.length ≤ (longestL T x back).p.length) := by
  obtain ⟨h1, h2⟩ := longest_fold back x T row0 h (.inl rfl)
  rcases h1 with h1 | h1
  · exact .inl ⟨h1.1, h1.2 rfl⟩
  · rcases h2 with h2 | h2
    · exact absurd (by rw [h2]; rfl) (h _ h1.1)
    · exact .inr ⟨h1.1, h1.2, h2.2.2⟩
/-- the rows made of a table -/
structure RowsOk (back : Bool) (T : List Row) (R : List Am) : Prop where
  len : R.length = T.length
  srt : Srt (R.map fun w => if back = true then w.s.reverse else w.s)
  links : LinksOk (R.map fun w => if back = true then w.s.reverse else w.s) fun p => (R.getD p am0).link
  of : ∀ w ∈ R, ∃ t ∈ T, w.s = t.p ∧ w.res = t.r
  has : ∀ t ∈ T, ∃ w ∈ R, w.s = t.p
theorem fnd_longest {back : Bool} {T : List Row} {R : List Am} {x : LN} {r : Int} {k : Nat} (hT : TabOk T) (hR : RowsOk back T R)
    (F : Fnd (R.map fun w => if back = true then w.s.reverse else w.s) (fun p => (R.getD p am0).res) (if back = true then x.reverse else x) r k) :
    r = (longestL T x back).r ∧ k = (longestL T x back).p.length := by
  have fit : ∀ p : LN, (if back = true then p.reverse else p) <+: (if back = true then x.reverse else x) ↔ Fits back x p := by
    intro p; unfold Fits; cases back <;> rfl
  have at' : ∀ {i : Nat}, i < R.length → (R.map fun w => if back = true then w.s.reverse else w.s).getD i [] = if back = true then (R.getD i am0).s.reverse else (R.getD i am0).s :=
    fun h => getD_map_s (fun w => if back = true then w.s.reverse else w.s) R h
  have hlen : (R.map fun w => if back = true then w.s.reverse else w.s).length = R.length := List.length_map ..
  have mem : ∀ {i : Nat}, i < R.length → R.getD i am0 ∈ R := by
    intro i h; rw [List.getD_eq_getElem?_getD, List.getElem?_eq_getElem h]; exact List.getElem_mem _
  have idx : ∀ w ∈ R, ∃ i, i < R.length ∧ R.getD i am0 = w := by
    intro w hw
    obtain ⟨i, hi, e⟩ := List.getElem_of_mem hw
    exact ⟨i, hi, by rw [List.getD_eq_getElem?_getD, List.getElem?_eq_getElem hi, e]; rfl⟩
  rcases longest_spec hT.r0 x back with ⟨e, hno⟩ | ⟨hm, hf, hmax⟩
  · rcases F with ⟨p, hp, hpre, _⟩ | ⟨_, h1, h2⟩
    · rw [hlen] at hp
      rw [at' hp, fit] at hpre
      obtain ⟨t, ht, e1, _⟩ := hR.of _ (mem hp)
      exact absurd (e1 ▸ hpre) (hno t ht)
    · rw [e]; exact ⟨h1, h2⟩
  · obtain ⟨w', hw', ew⟩ := hR.has _ hm
    obtain ⟨m, hm', em⟩ := idx w' hw'
    have hfm : (if back = true then (R.getD m am0).s.reverse else (R.getD m am0).s) <+: (if back = true then x.reverse else x) := by rw [fit, em, ew]; exact hf
    rcases F with ⟨p, hp, hpre, hall, h1, h2⟩ | ⟨hno, _, _⟩
    · rw [hlen] at hp
      rw [at' hp] at hpre
      have hb := hall m (by rw [hlen]; exact hm') (by rw [at' hm']; exact hfm)
      rw [at' hm', at' hp] at hb
      rw [at' hp] at h2
      rw [fit] at hpre
      obtain ⟨t, ht, e1, e2⟩ := hR.of _ (mem hp)
      have l1 : (longestL T x back).p.length ≤ (R.getD p am0).s.length := by
        have := hb.length_le
        rw [em, ew] at this
        split at this <;> simpa using this
      have l2 := hmax t ht (e1 ▸ hpre)
      have e3 : t.p = (longestL T x back).p := Fits.same (e1 ▸ hpre) hf (by rw [e1] at l1; lia)
      have e4 := hT.uniq t ht _ hm e3
      refine ⟨by rw [h1]; show (R.getD p am0).res = _; rw [e2, e4], ?_⟩
      rw [h2, ← e3, ← e1]; split <;> simp
    · exact absurd (by rw [at' hm']; exact hfm) (hno m (by rw [hlen]; exact hm'))

/-! regions -/
def regS (V : List LN) (l : LN) (i n : Nat) : Nat :=
  if (l.takeWhile fun k => !isIn V k).length < l.length then
    (if ((l.drop ((l.takeWhile fun k => !isIn V k).length + 1)).takeWhile fun k => isIn V k).length < (l.drop ((l.takeWhile fun k => !isIn V k).length + 1)).length then
      i + (l.takeWhile fun k => !isIn V k).length + ((l.drop ((l.takeWhile fun k => !isIn V k).length + 1)).takeWhile fun k => isIn V k).length + 1 else n) else n
theorem region_regS (V : List LN) : ∀ (l : LN) (i n : Nat), regionGo V l i n = regS V l i n
  | [], i, n => by simp [regionGo, regS]
  | [a], i, n => by
    cases h : isIn V a <;> simp [regionGo, regS, h]
  | a :: b :: r, i, n => by
    rw [regionGo, region_regS V (b :: r) (i + 1) n]
    cases ha : isIn V a
    · simp only [Bool.false_and, Bool.false_eq_true, if_false]
      unfold regS
      have e : ((a :: b :: r).takeWhile fun k => !isIn V k) = a :: ((b :: r).takeWhile fun k => !isIn V k) := by rw [List.takeWhile_cons]; simp [ha]
      rw [e]
      simp only [List.length_cons, List.drop_succ_cons]
      obtain ⟨m, hm⟩ : ∃ m, ((b :: r).takeWhile fun k => !isIn V k).length = m := ⟨_, rfl⟩
      rw [hm]
      by_cases c1 : m < r.length + 1
      · rw [if_pos c1, if_pos (show m + 1 < r.length + 1 + 1 by lia)]
        split
        · lia
        · rfl
      · rw [if_neg c1, if_neg (show ¬ m + 1 < r.length + 1 + 1 by lia)]
    · cases hb : isIn V b
      · simp [regS, ha, hb]
      · simp only [Bool.not_true, Bool.and_false, Bool.false_eq_true, if_false]
        unfold regS
        simp only [List.takeWhile_cons, ha, hb, Bool.not_true, Bool.false_eq_true, if_false, if_true, List.length_nil, List.length_cons, Nat.zero_add, List.drop_succ_cons, List.drop_zero, Nat.zero_lt_succ]
        by_cases c1 : (r.takeWhile fun k => isIn V k).length < r.length
        · rw [if_pos c1, if_pos (by lia)]; lia
        · rw [if_neg c1, if_neg (by lia)]
theorem region_scan {V : List LN} {x : LN} {p : Nat} (hp : p ≤ x.length) :
    p + regionL (x.drop p) V = if scan (fun k => !isIn V k) x p < x.length then
      (if scan (fun k => isIn V k) x (scan (fun k => !isIn V k) x p + 1) < x.length then scan (fun k => isIn V k) x (scan (fun k => !isIn V k) x p + 1) + 1 else x.length) else x.length := by
  unfold regionL
  rw [region_regS]
  unfold regS scan
  rw [List.drop_drop, List.length_drop]
  obtain ⟨m, hm⟩ : ∃ m, ((x.drop p).takeWhile fun k => !isIn V k).length = m := ⟨_, rfl⟩
  rw [hm]
  by_cases c1 : m < x.length - p
  · rw [if_pos c1, if_pos (by lia : p + m < x.length)]
    rw [show p + (m + 1) = p + m + 1 from by lia]
    rw [List.length_drop]
    obtain ⟨k, hk⟩ : ∃ k, ((x.drop (p + m + 1)).takeWhile fun k => isIn V k).length = k := ⟨_, rfl⟩
    rw [hk]
    by_cases c2 : k < x.length - (p + m + 1)
    · rw [if_pos c2, if_pos (by lia)]; lia
    · rw [if_neg c2, if_neg (by lia)]; lia
  · rw [if_neg c1, if_neg (by lia : ¬ p + m < x.length)]; lia
theorem region_le (x : LN) (V : List LN) : regionL x V ≤ x.length := by
  have := region_scan (V := V) (x := x) (p := 0) (Nat.zero_le _)
  rw [Nat.zero_add, List.drop_zero] at this
  rw [this]
  split
  · split
    · lia
    · exact Nat.le_refl _
  · exact Nat.le_refl _
end
section
set_option autoImplicit false
set_option linter.unusedVariables false

def stripL (T : List Row) (p1 : Nat) : Nat → LN → LN
  | 0, x => x
  | n + 1, x => if (longestL T (x.drop p1) true).r = 0 then x else stripL T p1 n (x.take (x.length - (longestL T (x.drop p1) true).p.length))
def subsL (T : List Row) : Nat → LN → LN
  | 0, _ => []
  | n + 1, x => if x = [] then [] else if (longestL T x false).r = 0 then x.take 1 ++ subsL T n (x.drop 1)
      else (if (longestL T x false).r < 0 then (longestL T x false).p else (longestL T x false).q) ++ subsL T n (x.drop (longestL T x false).p.length)
def doubL (D : List LN) (p1 : Nat) (x : LN) : LN :=
  if p1 < x.length ∧ isIn D (x.getD (x.length - 1) 0) = true ∧ x.getD (x.length - 2) 0 = x.getD (x.length - 1) 0 then x.take (x.length - 1) else x
def insL (V : List LN) (A x : LN) : LN :=
  if scan (fun k => !isIn V k) x 0 < x.length then x.take (scan (fun k => !isIn V k) x 0) ++ A ++ x.drop (scan (fun k => !isIn V k) x 0) else x
def cutL (T : List Row) (y x : LN) (bad : Nat → Bool) : LN :=
  if (longestL T y true).r ≤ 0 ∨ bad (x.length - (longestL T y true).p.length) = true then x else x.take (x.length - (longestL T y true).p.length) ++ (longestL T y true).q
def plainL (kind : Int) (T : List Row) (V D : List LN) (A x : LN) : LN :=
  if kind = 0 then cutL T (x.drop (regionL x V)) x fun _ => false
  else if kind = 1 then cutL T x x fun cut => decide (cut < regionL x V + regionL (x.drop (regionL x V)) V)
  else if kind = 2 then stripL T (regionL x V) x.length x
  else if kind = 3 then (if (longestL T x false).r ≤ 0 then x else (longestL T x false).q ++ x.drop (longestL T x false).p.length)
  else if kind = 4 then subsL T x.length x
  else if kind = 5 then doubL D (regionL x V) x
  else insL V A x
theorem longest_len {T : List Row} (hT : TabOk T) (x : LN) (back : Bool) : (longestL T x back).p.length ≤ x.length ∧ (longestL T x back).q.length ≤ 2 := by
  rcases longest_spec hT.r0 x back with ⟨e, _⟩ | ⟨h1, h2, _⟩
  · rw [e]; exact ⟨Nat.zero_le _, by decide⟩
  · exact ⟨h2.len, hT.q2 _ h1⟩
theorem strip_len (T : List Row) (p1 : Nat) : ∀ (n : Nat) (x : LN), (stripL T p1 n x).length ≤ x.length
  | 0, x => Nat.le_refl _
  | n + 1, x => by
    rw [stripL]
    split
    · exact Nat.le_refl _
    · refine Nat.le_trans (strip_len T p1 n _) ?_
      rw [List.length_take]; lia
theorem pos_piece {T : List Row} (hT : TabOk T) (hp : ∀ t ∈ T, t.p ≠ []) {x : LN} {back : Bool} (h : (longestL T x back).r ≠ 0) : 0 < (longestL T x back).p.length := by
  rcases longest_spec hT.r0 x back with ⟨e, _⟩ | ⟨h1, _, _⟩
  · rw [e] at h; exact absurd rfl h
  · exact List.length_pos_iff.mpr (hp _ h1)
theorem subs_len {T : List Row} (hT : TabOk T) (hp : ∀ t ∈ T, t.p ≠ []) : ∀ (n : Nat) (x : LN), (subsL T n x).length ≤ 2 * x.length
  | 0, x => Nat.zero_le _
  | n + 1, x => by
    rw [subsL]
    split
    · exact Nat.zero_le _
    · rename_i hx
      have hx1 : 0 < x.length := List.length_pos_iff.mpr hx
      split
      · have := subs_len hT hp n (x.drop 1)
        rw [List.length_append, List.length_take]
        rw [List.length_drop] at this; lia
      · rename_i hr
        have := subs_len hT hp n (x.drop (longestL T x false).p.length)
        have h1 := longest_len hT x false
        have h2 := pos_piece hT hp hr
        rw [List.length_drop] at this
        rw [List.length_append]
        split <;> lia
theorem cut_len {T : List Row} (hT : TabOk T) (y x : LN) (bad : Nat → Bool) : (cutL T y x bad).length ≤ x.length + 2 := by
  have h1 := longest_len hT y true
  unfold cutL
  split
  · lia
  · rw [List.length_append, List.length_take]; lia
theorem plain_len {kind : Int} {T : List Row} (V D : List LN) {A : LN} (x : LN) (hT : TabOk T) (hp : kind = 4 → ∀ t ∈ T, t.p ≠ []) (hA : A.length ≤ 2) : (plainL kind T V D A x).length ≤ 2 * x.length + 2 := by
  unfold plainL
  split
  · have := cut_len hT (x.drop (regionL x V)) x fun _ => false
    lia
  split
  · have := cut_len hT x x fun cut => decide (cut < regionL x V + regionL (x.drop (regionL x V)) V)
    lia
  split
  · have := strip_len T (regionL x V) x.length x; lia
  split
  · have h1 := longest_len hT x false
    split
    · lia
    · rw [List.length_append, List.length_drop]; lia
  split
  · have := subs_len hT (hp (by assumption)) x.length x; lia
  split
  · unfold doubL; split
    · rw [List.length_take]; lia
    · lia
  · unfold insL; split
    · rw [List.length_append, List.length_append, List.length_take, List.length_drop]; lia
    · lia
theorem RowsOk.bS {T : List Row} {R : List Am} (h : RowsOk true T R) : Srt (R.map fun w => w.s.reverse) := by have := h.srt; simpa using this
theorem RowsOk.bL {T : List Row} {R : List Am} (h : RowsOk true T R) : LinksOk (R.map fun w => w.s.reverse) fun p => (R.getD p am0).link := by have := h.links; simpa using this
theorem RowsOk.fS {T : List Row} {R : List Am} (h : RowsOk false T R) : Srt (R.map Am.s) := by have := h.srt; simpa using this
theorem RowsOk.fL {T : List Row} {R : List Am} (h : RowsOk false T R) : LinksOk (R.map Am.s) fun p => (R.getD p am0).link := by have := h.links; simpa using this
theorem fnd_b {T : List Row} {R : List Am} {x : LN} {r : Int} {k : Nat} (hT : TabOk T) (hR : RowsOk true T R) (F : Fnd (R.map fun w => w.s.reverse) (fun p => (R.getD p am0).res) x.reverse r k) :
    r = (longestL T x true).r ∧ k = (longestL T x true).p.length := fnd_longest hT hR (by simpa using F)
theorem fnd_f {T : List Row} {R : List Am} {x : LN} {r : Int} {k : Nat} (hT : TabOk T) (hR : RowsOk false T R) (F : Fnd (R.map Am.s) (fun p => (R.getD p am0).res) x r k) :
    r = (longestL T x false).r ∧ k = (longestL T x false).p.length := fnd_longest hT hR (by simpa using F)
theorem RowsOk.s10 {back : Bool} {T : List Row} {R : List Am} (hT : TabOk T) (h : RowsOk back T R) : ∀ w ∈ R, w.s.length ≤ 10 := fun w hw =>
  let ⟨t, ht, e, _⟩ := h.of w hw; e ▸ hT.p10 t ht
/-- the put of the row found -/
theorem put_of {T : List Row} {U : List LN} (hT : TabOk T) (hUT : ∀ t ∈ T, 0 < t.r → U.getD t.r.toNat [] = t.q) {x : LN} {back : Bool} (h : 0 < (longestL T x back).r) : U.getD (longestL T x back).r.toNat [] = (longestL T x back).q := by
  rcases longest_spec hT.r0 x back with ⟨e, _⟩ | ⟨h1, _, _⟩
  · rw [e] at h; exact absurd h (by decide)
  · exact hUT _ h1 h
theorem r6_of {T : List Row} (hT : TabOk T) (x : LN) (back : Bool) : (longestL T x back).r ≤ 6 := by
  rcases longest_spec hT.r0 x back with ⟨e, _⟩ | ⟨h1, _, _⟩
  · rw [e]; decide
  · exact hT.r6 _ h1
theorem fits_of {T : List Row} (hT : TabOk T) (x : LN) (back : Bool) : Fits back x (longestL T x back).p := by
  rcases longest_spec hT.r0 x back with ⟨e, _⟩ | ⟨_, h1, _⟩
  · rw [e]; unfold Fits; cases back <;> simp [row0]
  · exact h1
end
section
local macro_rules | `(tactic| walk_at "m put") => `(tactic| first | exact Put.nil | exact Put.head | exact Put.tail (by decide) (by walk_at "m put"))
local macro_rules | `(tactic| walk_at "m lk") => `(tactic| first | exact Lk.head | exact Lk.tail (by decide) (by walk_at "m lk"))
theorem Atr_p {c : Cx} {loc : Loc} {hp : Hp} {C x dx : Addr} {name : Str} {fs : List (Str × PV)} {u : PV} {P : PV → Hp → Prop} (hx : hp x = some (.inst C dx)) (hne : x ≠ dx) (ok : AttrOk (hd.heap_39 c.g.w.params) C name) (l : Lk name u fs) (hu : ∀ w, u ≠ .raw w)
    (h : P u (hp.upd dx (.flds fs))) : Atr c (.ref x) name loc (hp.upd dx (.flds fs)) P := Atr_own ((Hp.upd_ne _ _ hne).trans hx) (Hp.upd_self ..) ok l hu h
theorem Sat_p {c : Cx} {loc : Loc} {hp : Hp} {C x dx : Addr} {name : Str} {fs fs' : List (Str × PV)} {v : PV} {P : Hp → Prop} (hx : hp x = some (.inst C dx)) (hne : x ≠ dx) (ok : SetOk (hd.heap_39 c.g.w.params) C name) (p : Put name v fs fs') (hl : fs.length ≤ 100)
    (h : P (hp.upd dx (.flds fs'))) : Sat c (.ref x) name v loc (hp.upd dx (.flds fs)) P := Sat_own ((Hp.upd_ne _ _ hne).trans hx) (Hp.upd_self ..) ok p hl (by rw [Hp.upd_upd]; exact h)
theorem sok_s (g : Gl) : SetOk (hd.heap_39 g.w.params) 220 "s" := ⟨by k_is, by k_is, by k_is, by k_is⟩
theorem sok_substring_i (g : Gl) : SetOk (hd.heap_39 g.w.params) 220 "substring_i" := ⟨by k_is, by k_is, by k_is, by k_is⟩
theorem sok_result (g : Gl) : SetOk (hd.heap_39 g.w.params) 220 "result" := ⟨by k_is, by k_is, by k_is, by k_is⟩
local macro_rules | `(tactic| walk_at "Sat ref") => `(tactic| k_dflt (first | refine Sat_p (by assumption) (by assumption) (sok_s _) (by walk_at "m put") (by simp) ?_ | refine Sat_p (by assumption) (by assumption) (sok_substring_i _) (by walk_at "m put") (by simp) ?_ | refine Sat_p (by assumption) (by assumption) (sok_result _) (by walk_at "m put") (by simp) ?_ | refine Sat_p (by assumption) (by assumption) (sok_current _) (by walk_at "m put") (by simp) ?_ | refine Sat_p (by assumption) (by assumption) (sok_cursor _) (by walk_at "m put") (by simp) ?_ | refine Sat_p (by assumption) (by assumption) (sok_limit _) (by walk_at "m put") (by simp) ?_ | refine Sat_p (by assumption) (by assumption) (sok_limit_backward _) (by walk_at "m put") (by simp) ?_ | refine Sat_p (by assumption) (by assumption) (sok_bra _) (by walk_at "m put") (by simp) ?_ | refine Sat_p (by assumption) (by assumption) (sok_ket _) (by walk_at "m put") (by simp) ?_))
local macro_rules | `(tactic| walk_at "Atr ref") => `(tactic| k_dflt (first | refine Atr_p (by assumption) (by assumption) (aok_current _) (by walk_at "m lk") (by intro _ e; cases e) ?_ | refine Atr_p (by assumption) (by assumption) (aok_cursor _) (by walk_at "m lk") (by intro _ e; cases e) ?_ | refine Atr_p (by assumption) (by assumption) (aok_limit _) (by walk_at "m lk") (by intro _ e; cases e) ?_))

theorem am_init_ok {g : Gl} {x dx : Addr} {y : LN} {i j : Int} {hp : Hp} {P : PV → Hp → Prop} (hx : hp x = some (.inst 220 dx)) (hne : x ≠ dx)
    (h : P .none (hp.upd dx (.flds (amF ⟨y, i, j⟩)))) : FnOk g 1 217 [.ref x, .str y, .int i, .int j] (hp.upd dx (.flds [])) P := by
  refine' fn_intro [("self" : Str), ("s" : Str), ("substring_i" : Str), ("result" : Str)] [] ?ho ?hcd ?hbind ?hlen ?hloc ?hnd ?_ ?c1 ?c2 ?c3 ?c4
  walk_at "m fn"
  case hbind => (repeat refine all_cons fun _ => ?_); exact all_nil rfl
  intro c hg hd hs
  subst hg
  walk_at "m loc"
  repeat walk1
  exact h

theorem set_current0_ok {g : Gl} {x dx : Addr} {y : LN} {hp : Hp} {P : PV → Hp → Prop} (hx : hp x = some (.inst 199 dx)) (hne : x ≠ dx) (hy : y.length ≤ 900)
    (h : P .none (stH hp dx ⟨y, 0, y.length, 0, 0, y.length⟩)) : FnOk g 1 42 [.ref x, .str y] (hp.upd dx (.flds [])) P := by
  refine' fn_intro [("self" : Str), ("value" : Str)] [] ?ho ?hcd ?hbind ?hlen ?hloc ?hnd ?_ ?c1 ?c2 ?c3 ?c4
  walk_at "m fn"
  case hbind => (repeat refine all_cons fun _ => ?_); exact all_nil rfl
  intro c hg hd hs
  subst hg
  walk_at "m loc"
  repeat walk1
  refine Cal_len_str (by lia) ?_
  repeat walk1
  exact h

theorem init_ok {g : Gl} {x dx : Addr} {hp : Hp} {P : PV → Hp → Prop} (hx : hp x = some (.inst 199 dx)) (hne : x ≠ dx)
    (h : P .none (stH hp dx ⟨[], 0, 0, 0, 0, 0⟩)) : FnOk g 2 35 [.ref x] (hp.upd dx (.flds [])) P := by
  refine' fn_intro [("self" : Str)] [] ?ho ?hcd ?hbind ?hlen ?hloc ?hnd ?_ ?c1 ?c2 ?c3 ?c4
  walk_at "m fn"
  case hbind => (repeat refine all_cons fun _ => ?_); exact all_nil rfl
  intro c hg hd hs
  subst hg
  walk_at "m loc"
  walk1
  walk1
  refine E_meth ?_
  walk1
  refine ⟨x, 199, dx, [], _, rfl, (Hp.upd_ne _ _ hne).trans hx, Hp.upd_self .., (fun p hp => by cases hp), mok_set_current _, ?_⟩
  repeat walk1
  refine Cal_fn (set_current0_ok hx hne (y := []) (by simp) ?_) (by lia)
  repeat walk1
  exact h

theorem splice_len {cur y : LN} {a e : Nat} (hae : a ≤ e) (he : e ≤ cur.length) : ((splice cur a e y).length : Int) = (cur.length : Int) + ((y.length : Int) - ((e : Int) - (a : Int))) := by
  unfold splice
  simp only [List.length_append, List.length_take, List.length_drop]
  lia

theorem act_ok {g : Gl} {x dx pa : Addr} {cur : LN} {U : List LN} {a e : Nat} {i b r : Int} {hp : Hp} {P : PV → Hp → Prop} (hx : hp x = some (.inst 199 dx)) (hne : x ≠ dx) (hn : hp dx = Option.none)
    (hU : hp pa = some (.list (U.map .str))) (hU7 : U.length = 7) (hU2 : ∀ u ∈ U, u.length ≤ 2) (hr : r ≤ 6) (hae : a ≤ e) (he : e ≤ cur.length) (h9 : cur.length ≤ 900)
    (h0 : r ≤ 0 → P .none (stH hp dx ⟨cur, i, cur.length, b, a, e⟩))
    (h1 : ∀ y, 0 < r → U.getD r.toNat [] = y → y.length ≤ 2 → P .none (stH hp dx ⟨splice cur a e y, curAt i a e y.length, (splice cur a e y).length, b, a, (a : Int) + y.length⟩)) :
    FnOk g 4 262 [.ref x, .int r, .ref pa] (stH hp dx ⟨cur, i, cur.length, b, a, e⟩) P := by
  refine' fn_intro [("st" : Str), ("result" : Str), ("puts" : Str)] [] ?ho ?hcd ?hbind ?hlen ?hloc ?hnd ?_ ?c1 ?c2 ?c3 ?c4
  walk_at "m fn"
  case hbind => (repeat refine all_cons fun _ => ?_); exact all_nil rfl
  intro c hg hd hs
  subst hg
  walk_at "m loc"
  repeat walk1
  refine ⟨fun hb => ?_, fun hb => ?_⟩
  · have hb := of_decide_eq_true hb
    have hi : r.toNat < U.length := by lia
    have e1 : U[r.toNat]? = some (U[r.toNat]'hi) := List.getElem?_eq_getElem hi
    have e2 : U.getD r.toNat [] = U[r.toNat]'hi := by rw [List.getD_eq_getElem?_getD, e1]; rfl
    have hm := hU2 _ (List.getElem_mem hi)
    replace h1 := h1 _ hb e2 hm
    have e3 : (U.map PV.str)[r.toNat]? = some (.str (U[r.toNat]'hi)) := by rw [List.getElem?_map, e1]; rfl
    generalize U[r.toNat]'hi = y at *
    rw [splice_len hae he] at h1
    have hpa : ∀ σ, stH hp dx σ pa = some (.list (U.map .str)) := fun σ => Hp.le_upd hn _ _ hU
    repeat walk1
    refine Sub_list (hpa _) (by lia) (by lia) e3 ?_
    repeat walk1
    refine ⟨fun hb => ?_, fun hb => ?_⟩
    · have hb := of_decide_eq_true hb
      subst hb
      repeat walk1
      refine Cal_fn (slice_del_ok hx hne hae he h9 ?_) (by lia)
      repeat walk1
      simp only [List.length_nil, Int.natCast_zero, Int.add_zero] at h1
      exact h1
    · repeat walk1
      refine Sub_list (hpa _) (by lia) (by lia) e3 ?_
      repeat walk1
      refine Cal_fn (slice_from_ok hx hne hae he h9 (by lia) ?_) (by lia)
      repeat walk1
      exact h1
  · have hb := of_decide_eq_false hb
    repeat walk1
    exact h0 (by lia)
end
section
theorem ifq_t {b : Bool} {p q : Prop} (e : b = true) (h : p) : IfQ b p q := ⟨fun _ => h, (fun x => by rw [e] at x; cases x)⟩
theorem ifq_f {b : Bool} {p q : Prop} (e : b = false) (h : q) : IfQ b p q := ⟨(fun x => by rw [e] at x; cases x), fun _ => h⟩
local macro_rules | `(tactic| walk_at "IfQ") => `(tactic| first | refine ifq_f (by decide) ?_ | refine ifq_t (by decide) ?_)
theorem E_and2 {c : Cx} {loc : Loc} {hp : Hp} {x y : Expr} {pos : Pos} {P : PV → Hp → Prop} (b1 : Bool) (v2 : PV) (h1 : ∀ P : PV → Hp → Prop, P (.bool b1) hp → TE c x loc hp P) (h2 : b1 = true → ∀ P : PV → Hp → Prop, P v2 hp → TE c y loc hp P)
    (h : P (if b1 = true then v2 else .bool false) hp) : TE c (.BoolOp .And [x, y] pos) loc hp P := fun K s S => by
  refine wpAny_And2 (wpAny_mono (h1 (fun v h' => v = .bool b1 ∧ hp = h') ⟨rfl, rfl⟩ K s S) (fun v s1 ⟨h', S1, ev, eh⟩ => ?_) fun _ _ x => x)
  subst eh
  obtain rfl := er_bool ev
  refine wpAny_truthy_bool ?_
  cases b1 with
  | true => exact h2 rfl P h K s1 S1
  | false => exact ⟨_, S1, h⟩
theorem scan_ge (p : Nat → Bool) (x : LN) (i : Nat) : i ≤ scan p x i := Nat.le_add_right ..
theorem region_ge {t : LN} {V : List LN} (h : regionL t V < t.length) : 2 ≤ regionL t V := by
  have R0 := region_scan (V := V) (x := t) (p := 0) (Nat.zero_le _)
  rw [Nat.zero_add, List.drop_zero] at R0
  rw [R0] at h ⊢
  split at h
  · split at h
    · rename_i h1 h2
      rw [if_pos h1, if_pos h2]
      have := scan_ge (fun k => isIn V k) t (scan (fun k => !isIn V k) t 0 + 1)
      lia
    · lia
  · lia
theorem last_one {t : LN} (h : 0 < t.length) : (t.drop (t.length - 1)).take (t.length - (t.length - 1)) = [t.getD (t.length - 1) 0] := by
  have e : t[t.length - 1]? = some (t[t.length - 1]'(by lia)) := List.getElem?_eq_getElem (by lia)
  rw [List.getD_eq_getElem?_getD, e, show t.length - (t.length - 1) = 0 + 1 from by lia, List.take_add_one, List.getElem?_drop, Nat.add_zero, e]; rfl
theorem last_two {t : LN} (h : 2 ≤ t.length) : [t.getD (t.length - 1) 0].isSuffixOf (t.take (t.length - 1)) = decide (t.getD (t.length - 2) 0 = t.getD (t.length - 1) 0) := by
  have e : t[t.length - 2]? = some (t[t.length - 2]'(by lia)) := List.getElem?_eq_getElem (by lia)
  rw [show t.length - 1 = (t.length - 2) + 1 from by lia, List.take_add_one, List.getD_eq_getElem?_getD (i := t.length - 2), e]
  rw [Bool.eq_iff_iff, List.isSuffixOf_iff_suffix, decide_eq_true_eq]
  show _ <:+ _ ++ [_] ↔ _
  constructor
  · rintro ⟨w, hw⟩
    have := (List.append_inj' hw rfl).2
    exact (List.cons.inj this).1.symm
  · intro h'
    exact ⟨_, by rw [← h']; rfl⟩
structure Kit (hp : Hp) (x dx ra pa va da : Addr) (T : List Row) (R : List Am) (U V D : List LN) (kind : Int) : Prop where
  hx : hp x = some (.inst 199 dx)
  hn : hp dx = Option.none
  hR : RowsAt hp ra R
  hU : hp pa = some (.list (U.map .str))
  hV : hp va = some (.sset V)
  hD : hp da = some (.sset D)
  U7 : U.length = 7
  U2 : ∀ u ∈ U, u.length ≤ 2
  hUT : ∀ t ∈ T, 0 < t.r → U.getD t.r.toNat [] = t.q
  hT : TabOk T
  hTp : kind = 2 ∨ kind = 4 → ∀ t ∈ T, t.p ≠ []
  hRo : RowsOk (decide (kind ≠ 3 ∧ kind ≠ 4)) T R
theorem ne_of_some {hp : Hp} {a b : Addr} {o : AO} (h : hp a = some o) (hn : hp b = Option.none) : a ≠ b := fun e => by rw [e, hn] at h; cases h
theorem curAt_end {i a e n : Int} (h : e ≤ i) : curAt i a e n = i + (n - (e - a)) := if_pos h

set_option maxHeartbeats 4000000 in
theorem drive_ok {g : Gl} {x dx ra pa va da : Addr} {T : List Row} {R : List Am} {U V D : List LN} {A t : LN} {b p q kind : Int} {hp : Hp} {P : PV → Hp → Prop} (Z : Kit hp x dx ra pa va da T R U V D kind)
    (hk0 : 0 ≤ kind) (hk6 : kind ≤ 6) (ht : t.length ≤ 300) (hA : A.length ≤ 2)
    (h : ∀ b' p' q', P .none (stH hp dx ⟨plainL kind T V D A t, 0, (plainL kind T V D A t).length, b', p', q'⟩)) :
    FnOk g 5 269 [.ref x, .int kind, .ref ra, .ref pa, .ref va, .ref da, .str A] (stH hp dx ⟨t, 0, t.length, b, p, q⟩) P := by
  refine' fn_intro [("st" : Str), ("kind" : Str), ("rows" : Str), ("puts" : Str), ("vowels" : Str), ("doubles" : Str), ("added" : Str)] [("p1" : Str), ("p2" : Str), ("result" : Str), ("more" : Str), ("c" : Str), ("found" : Str), ("sign" : Str)] ?ho ?hcd ?hbind ?hlen ?hloc ?hnd ?_ ?c1 ?c2 ?c3 ?c4
  walk_at "m fn"
  case hbind => (repeat refine all_cons fun _ => ?_); exact all_nil rfl
  intro c hg hd hs
  subst hg
  walk_at "m loc"
  have hx := Z.hx
  have hn := Z.hn
  have hne : x ≠ dx := ne_of_some hx hn
  have hV := Z.hV
  have hD := Z.hD
  have hvd : va ≠ dx := ne_of_some hV hn
  have hdd : da ≠ dx := ne_of_some hD hn
  have h9 : t.length ≤ 900 := by lia
  have hT := Z.hT
  have hU := Z.hU
  have hR := Z.hR
  have hRp : 0 < R.length := by rw [Z.hRo.len]; exact hT.pos
  have hR6 : R.length ≤ 6 := by rw [Z.hRo.len]; exact hT.six
  have hRs := Z.hRo.s10 hT
  repeat ((fail_if_success (refine S_if ?_)); walk1)
  refine TS.mono (P := fun f lo h' => f = .next ∧ (∃ cc : Int, stH hp dx ⟨t, cc, t.length, b, p, q⟩ = h') ∧ lo = [lR "st" x, lI "kind" kind, lR "rows" ra, lR "puts" pa, lR "vowels" va, lR "doubles" da, lS "added" A, lI "p1" (regionL t V : Nat), lI "p2" (regionL t V + regionL (t.drop (regionL t V)) V : Nat), lN "result", lN "more", lN "c", lN "found", lN "sign"]) ?_ ?_
  · have R0 := region_scan (V := V) (x := t) (p := 0) (Nat.zero_le _)
    rw [Nat.zero_add, List.drop_zero] at R0
    have R1 := region_scan (V := V) (x := t) (p := regionL t V) (region_le t V)
    generalize regionL (t.drop (regionL t V)) V = p2 at R1 ⊢
    generalize regionL t V = p1 at R0 R1 ⊢
    repeat walk1
    refine Cal_fn (go_out_ok (i := 0) hx hne hV hvd (Nat.zero_le _) h9 ?_) (by lia)
    repeat walk1
    generalize scan (fun k => !isIn V k) t 0 = a at R0 ⊢
    have hend : p1 = t.length → p1 + p2 = t.length := by
      intro e
      rw [e, scan_end (Nat.le_refl _), if_neg (Nat.lt_irrefl _)] at R1
      rw [e]; exact R1
    refine ⟨fun hb => ?_, fun hb => ?_⟩
    · have hb := of_decide_eq_true hb
      rw [if_pos hb] at R0
      repeat walk1
      refine Cal_fn (go_in_ok (i := a + 1) hx hne hV hvd (by lia) h9 ?_) (by lia)
      repeat walk1
      generalize scan (fun k => isIn V k) t (a + 1) = a1 at R0 ⊢
      refine ⟨fun hb1 => ?_, fun hb1 => ?_⟩
      · have hb1 := of_decide_eq_true hb1
        rw [if_pos hb1] at R0
        subst R0
        repeat walk1
        refine Cal_fn (go_out_ok (i := a1 + 1) hx hne hV hvd (by lia) h9 ?_) (by lia)
        repeat walk1
        generalize scan (fun k => !isIn V k) t (a1 + 1) = a2 at R1 ⊢
        refine ⟨fun hb2 => ?_, fun hb2 => ?_⟩
        · have hb2 := of_decide_eq_true hb2
          rw [if_pos hb2] at R1
          repeat walk1
          refine Cal_fn (go_in_ok (i := a2 + 1) hx hne hV hvd (by lia) h9 ?_) (by lia)
          repeat walk1
          generalize scan (fun k => isIn V k) t (a2 + 1) = a3 at R1 ⊢
          refine ⟨fun hb3 => ?_, fun hb3 => ?_⟩
          · have hb3 := of_decide_eq_true hb3
            rw [if_pos hb3] at R1
            repeat walk1
            rw [R1]; rfl
          · have hb3 := of_decide_eq_false hb3
            rw [if_neg hb3] at R1
            repeat walk1
            rw [R1]; rfl
        · have hb2 := of_decide_eq_false hb2
          rw [if_neg hb2] at R1
          repeat walk1
          rw [R1]; rfl
      · have hb1 := of_decide_eq_false hb1
        rw [if_neg hb1] at R0
        repeat walk1
        rw [hend R0, R0]
    · have hb := of_decide_eq_false hb
      rw [if_neg hb] at R0
      repeat walk1
      rw [hend R0, R0]
  rintro f lo h' ⟨hf, ⟨cc, hh⟩, hlo⟩
  subst hf hh hlo
  have hkk : kind = 0 ∨ kind = 1 ∨ kind = 2 ∨ kind = 3 ∨ kind = 4 ∨ kind = 5 ∨ kind = 6 := by lia
  obtain ⟨p1, hp1⟩ : ∃ n, regionL t V = n := ⟨_, rfl⟩
  have hp1l : p1 ≤ t.length := by rw [← hp1]; exact region_le t V
  rw [hp1]
  obtain ⟨p2, hp2⟩ : ∃ n, p1 + regionL (t.drop p1) V = n := ⟨_, rfl⟩
  rw [hp2]
  rcases hkk with rfl | rfl | rfl | rfl | rfl | rfl | rfl
  · -- kind 0
    have hRo : RowsOk true T R := Z.hRo
    have hpl : plainL 0 T V D A t = cutL T (t.drop p1) t fun _ => false := by unfold plainL; simp [hp1]
    rw [hpl] at h
    repeat walk1
    refine S_while (fun n lo h' => (n = 1 ∧ stH hp dx ⟨t, t.length, t.length, 0, p, q⟩ = h' ∧ ∃ o, lo = [lR "st" x, lI "kind" 0, lR "rows" ra, lR "puts" pa, lR "vowels" va, lR "doubles" da, lS "added" A, lI "p1" p1, lI "p2" p2, lO "result" o, lB "more" true, lN "c", lN "found", lN "sign"]) ∨
      (n = 0 ∧ (∃ (cc p' q' : Int), stH hp dx ⟨cutL T (t.drop p1) t (fun _ => false), cc, (cutL T (t.drop p1) t fun _ => false).length, 0, p', q'⟩ = h') ∧ ∃ o, lo = [lR "st" x, lI "kind" 0, lR "rows" ra, lR "puts" pa, lR "vowels" va, lR "doubles" da, lS "added" A, lI "p1" p1, lI "p2" p2, lO "result" o, lB "more" false, lN "c", lN "found", lN "sign"])) 1 (.inl ⟨rfl, rfl, _, rfl⟩) ?_
    rintro n lo h' (⟨hn1, hh, o, hlo⟩ | ⟨hn1, ⟨cc, p', q', hh⟩, o, hlo⟩)
    · subst hn1 hh hlo
      repeat walk1
      refine Cal_fn (find_b_ok (i := t.length) (b := p1) hx hne hn hR hp1l (Nat.le_refl _) h9 hRp hR6 hRs hRo.bS hRo.bL (fun r k F => ?_)) (by lia)
      have htk : (t.drop p1).take (t.length - p1) = t.drop p1 := List.take_of_length_le (by rw [List.length_drop]; lia)
      rw [htk] at F
      obtain ⟨e1, e2⟩ := fnd_b hT hRo (x := t.drop p1) F
      subst e1 e2
      have hk := (longest_len hT (t.drop p1) true).1
      rw [List.length_drop] at hk
      have hr6 := r6_of hT (t.drop p1) true
      have hput := fun hr => put_of (U := U) hT Z.hUT (x := t.drop p1) (back := true) hr
      unfold cutL at h ⊢
      generalize longestL T (t.drop p1) true = L at *
      rw [show (t.length : Int) - (L.p.length : Nat) = ((t.length - L.p.length : Nat) : Int) from by lia]
      repeat walk1
      refine E_and2 false (.bool false) (fun P' hP => ?_) (fun e => by cases e) ?_
      · repeat walk1
        exact hP
      repeat walk1
      refine ⟨fun hb => ?_, fun hb => ?_⟩
      · have hb := of_decide_eq_true hb
        repeat walk1
        refine Cal_fn (act_ok (a := t.length - L.p.length) (e := t.length) hx hne hn hU Z.U7 Z.U2 hr6 (by lia) (Nat.le_refl _) h9 (fun h0 => ?_) (fun y h0 h2 h3 => ?_)) (by lia)
        · repeat walk1
          refine turn_next ?_
          rw [if_pos (show L.r ≤ 0 ∨ (fun _ => false) (t.length - L.p.length) = true from .inl h0)]
          exact ⟨0, by decide, .inr ⟨rfl, ⟨_, _, _, rfl⟩, _, rfl⟩⟩
        · rw [hput h0] at h2
          subst h2
          have hs : splice t (t.length - L.p.length) t.length L.q = t.take (t.length - L.p.length) ++ L.q := by unfold splice; simp
          rw [hs]
          repeat walk1
          refine turn_next ?_
          rw [if_neg (show ¬ (L.r ≤ 0 ∨ (fun _ => false) (t.length - L.p.length) = true) from fun q => q.elim (fun q => by lia) (fun q => by cases q))]
          exact ⟨0, by decide, .inr ⟨rfl, ⟨_, _, _, rfl⟩, _, rfl⟩⟩
      · have hb := of_decide_eq_false hb
        repeat walk1
        refine turn_next ?_
        rw [if_pos (show L.r ≤ 0 ∨ (fun _ => false) (t.length - L.p.length) = true from .inl (by lia))]
        exact ⟨0, by decide, .inr ⟨rfl, ⟨_, _, _, rfl⟩, _, rfl⟩⟩
    · subst hn1 hh hlo
      repeat walk1
      exact h _ _ _
  · -- kind 1
    have hRo : RowsOk true T R := Z.hRo
    have hpl : plainL 1 T V D A t = cutL T t t fun cut => decide (cut < p2) := by unfold plainL; simp [hp1, hp2]
    rw [hpl] at h
    repeat walk1
    refine Cal_fn (find_b_ok (i := t.length) (b := 0) hx hne hn hR (Nat.zero_le _) (Nat.le_refl _) h9 hRp hR6 hRs hRo.bS hRo.bL (fun r k F => ?_)) (by lia)
    obtain ⟨e1, e2⟩ := fnd_b hT hRo (x := t) (by simpa using F)
    subst e1 e2
    have hk := (longest_len hT t true).1
    have hr6 := r6_of hT t true
    have hput := fun hr => put_of (U := U) hT Z.hUT (x := t) (back := true) hr
    unfold cutL at h
    generalize longestL T t true = L at *
    rw [show (t.length : Int) - (L.p.length : Nat) = ((t.length - L.p.length : Nat) : Int) from by lia]
    repeat walk1
    refine ⟨fun hb => ?_, fun hb => ?_⟩
    · have hb := of_decide_eq_true hb
      repeat walk1
      refine ⟨fun hb1 => ?_, fun hb1 => ?_⟩
      · have hb1 := of_decide_eq_true hb1
        repeat walk1
        refine Cal_fn (act_ok (a := t.length - L.p.length) (e := t.length) hx hne hn hU Z.U7 Z.U2 hr6 (by lia) (Nat.le_refl _) h9 (fun h0 => ?_) (fun y h0 h2 h3 => ?_)) (by lia)
        · rw [if_pos (.inl h0)] at h
          repeat walk1
          exact h _ _ _
        · rw [hput h0] at h2
          subst h2
          rw [if_neg (by rw [decide_eq_true_eq]; lia)] at h
          have hs : splice t (t.length - L.p.length) t.length L.q = t.take (t.length - L.p.length) ++ L.q := by unfold splice; simp
          rw [hs]
          repeat walk1
          exact h _ _ _
      · have hb1 := of_decide_eq_false hb1
        rw [if_pos (.inr (by rw [decide_eq_true_eq]; lia))] at h
        repeat walk1
        exact h _ _ _
    · have hb := of_decide_eq_false hb
      rw [if_pos (.inl (by lia))] at h
      repeat walk1
      exact h _ _ _
  · -- kind 2
    have hRo : RowsOk true T R := Z.hRo
    have hTp := Z.hTp (.inl rfl)
    have hpl : plainL 2 T V D A t = stripL T p1 t.length t := by unfold plainL; simp [hp1]
    rw [hpl] at h
    repeat walk1
    refine S_while (fun n lo h' => (∃ (y : LN) (m : Nat) (p' q' : Int) (o : Option PV), n = y.length + 1 ∧ stH hp dx ⟨y, y.length, y.length, 0, p', q'⟩ = h' ∧ lo = [lR "st" x, lI "kind" 2, lR "rows" ra, lR "puts" pa, lR "vowels" va, lR "doubles" da, lS "added" A, lI "p1" p1, lI "p2" p2, lO "result" o, lB "more" true, lN "c", lN "found", lN "sign"] ∧ y.length ≤ m ∧ p1 ≤ y.length ∧ y.length ≤ 300 ∧ stripL T p1 m y = stripL T p1 t.length t) ∨
      (n = 0 ∧ (∃ (cc p' q' : Int), stH hp dx ⟨stripL T p1 t.length t, cc, (stripL T p1 t.length t).length, 0, p', q'⟩ = h') ∧ ∃ o, lo = [lR "st" x, lI "kind" 2, lR "rows" ra, lR "puts" pa, lR "vowels" va, lR "doubles" da, lS "added" A, lI "p1" p1, lI "p2" p2, lO "result" o, lB "more" false, lN "c", lN "found", lN "sign"])) (t.length + 1) (.inl ⟨t, t.length, _, _, _, rfl, rfl, rfl, Nat.le_refl _, hp1l, ht, rfl⟩) ?_
    rintro n lo h' (⟨y, m, p', q', o, hn1, hh, hlo, hm, hp1y, hy3, hst⟩ | ⟨hn1, ⟨cc, p', q', hh⟩, o, hlo⟩)
    · subst hn1 hh hlo
      have hy9 : y.length ≤ 900 := by lia
      repeat walk1
      refine Cal_fn (find_b_ok (i := y.length) (b := p1) hx hne hn hR hp1y (Nat.le_refl _) hy9 hRp hR6 hRs hRo.bS hRo.bL (fun r k F => ?_)) (by lia)
      have htk : (y.drop p1).take (y.length - p1) = y.drop p1 := List.take_of_length_le (by rw [List.length_drop]; lia)
      rw [htk] at F
      obtain ⟨e1, e2⟩ := fnd_b hT hRo (x := y.drop p1) F
      subst e1 e2
      have hk := (longest_len hT (y.drop p1) true).1
      rw [List.length_drop] at hk
      have hkp := fun hr => pos_piece hT hTp (x := y.drop p1) (back := true) hr
      have hstep : ∀ m', m = m' + 1 → stripL T p1 m y = if (longestL T (y.drop p1) true).r = 0 then y else stripL T p1 m' (y.take (y.length - (longestL T (y.drop p1) true).p.length)) := by
        rintro m' rfl; rw [stripL]
      have hstep0 : m = 0 → stripL T p1 m y = y := by rintro rfl; rw [stripL]
      generalize longestL T (y.drop p1) true = L at *
      rw [show (y.length : Int) - (L.p.length : Nat) = ((y.length - L.p.length : Nat) : Int) from by lia]
      repeat walk1
      refine E_and2 true (.bool (decide (L.r ≠ 0))) (fun P' hP => ?_) (fun _ P' hP => ?_) ?_
      · repeat walk1
        exact hP
      · repeat walk1
        exact hP
      rw [if_pos rfl]
      repeat walk1
      refine ⟨fun hb => ?_, fun hb => ?_⟩
      · have hb := of_decide_eq_true hb
        have hkp := hkp hb
        rw [decide_eq_true hb]
        repeat walk1
        refine Cal_fn (slice_del_ok (a := y.length - L.p.length) (e := y.length) hx hne (by lia) (Nat.le_refl _) hy9 ?_) (by lia)
        have hs : splice y (y.length - L.p.length) y.length [] = y.take (y.length - L.p.length) := by unfold splice; simp
        have hl2 : (y.take (y.length - L.p.length)).length = y.length - L.p.length := by rw [List.length_take]; lia
        have hcu : curAt ((y.length - L.p.length : Nat) : Int) ((y.length - L.p.length : Nat) : Int) (y.length : Nat) 0 = ((y.take (y.length - L.p.length)).length : Nat) := by
          unfold curAt; rw [if_neg (by lia), if_neg (by lia), hl2]
        rw [hs, hcu, show (y.length : Int) + (0 - ((y.length : Int) - ((y.length - L.p.length : Nat) : Int))) = ((y.take (y.length - L.p.length)).length : Nat) from by rw [hl2]; lia]
        repeat walk1
        refine turn_next ?_
        refine ⟨_, ?_, .inl ⟨_, m - 1, _, _, _, rfl, rfl, rfl, by rw [hl2]; lia, by rw [hl2]; lia, by rw [hl2]; lia, ?_⟩⟩
        · rw [hl2]; lia
        · rw [← hst, hstep (m - 1) (by lia), if_neg hb]
      · have hb := of_decide_eq_false hb
        have hb' : L.r = 0 := by lia
        rw [decide_eq_false (by lia)]
        repeat walk1
        refine turn_next ?_
        have hyy : stripL T p1 t.length t = y := by
          rw [← hst]
          rcases Nat.eq_zero_or_pos m with e | e
          · exact hstep0 e
          · rw [hstep (m - 1) (by lia), if_pos hb']
        rw [hyy]
        exact ⟨0, by lia, .inr ⟨rfl, ⟨_, _, _, rfl⟩, _, rfl⟩⟩
    · subst hn1 hh hlo
      repeat walk1
      exact h _ _ _
  · -- kind 3
    have hRo : RowsOk false T R := Z.hRo
    have hpl : plainL 3 T V D A t = (if (longestL T t false).r ≤ 0 then t else (longestL T t false).q ++ t.drop (longestL T t false).p.length) := by unfold plainL; simp
    rw [hpl] at h
    repeat walk1
    refine Cal_fn (find_ok (i := 0) (l := t.length) hx hne hn hR (Nat.zero_le _) (Nat.le_refl _) h9 hRp hR6 hRs hRo.fS hRo.fL (fun r k F => ?_)) (by lia)
    obtain ⟨e1, e2⟩ := fnd_f hT hRo (x := t) (by simpa using F)
    subst e1 e2
    have hk := (longest_len hT t false).1
    have hr6 := r6_of hT t false
    have hput := fun hr => put_of (U := U) hT Z.hUT (x := t) (back := false) hr
    generalize longestL T t false = L at *
    rw [show (((0 : Nat)) : Int) + (L.p.length : Nat) = (L.p.length : Int) from by lia]
    repeat walk1
    refine ⟨fun hb => ?_, fun hb => ?_⟩
    · have hb := of_decide_eq_true hb
      repeat walk1
      refine Cal_fn (act_ok (a := 0) (e := L.p.length) hx hne hn hU Z.U7 Z.U2 hr6 (Nat.zero_le _) hk h9 (fun h0 => ?_) (fun y h0 h2 h3 => ?_)) (by lia)
      · rw [if_pos h0] at h
        repeat walk1
        exact h _ _ _
      · rw [hput h0] at h2
        subst h2
        rw [if_neg (by lia)] at h
        have hs : splice t 0 L.p.length L.q = L.q ++ t.drop L.p.length := by unfold splice; simp
        rw [hs]
        repeat walk1
        exact h _ _ _
    · have hb := of_decide_eq_false hb
      rw [if_pos (by lia)] at h
      repeat walk1
      exact h _ _ _
  · -- kind 4
    have hRo : RowsOk false T R := Z.hRo
    have hTp := Z.hTp (.inr rfl)
    have hpl : plainL 4 T V D A t = subsL T t.length t := by unfold plainL; simp
    rw [hpl] at h
    repeat walk1
    refine S_while (fun n lo h' => (∃ (out y : LN) (m : Nat) (p' q' : Int) (o : Option PV), n = y.length + 1 ∧ stH hp dx ⟨out ++ y, out.length, (out ++ y).length, b, p', q'⟩ = h' ∧ lo = [lR "st" x, lI "kind" 4, lR "rows" ra, lR "puts" pa, lR "vowels" va, lR "doubles" da, lS "added" A, lI "p1" p1, lI "p2" p2, lO "result" o, lB "more" true, lN "c", lN "found", lN "sign"] ∧ y.length ≤ m ∧ out.length + 2 * y.length ≤ 600 ∧ out ++ subsL T m y = subsL T t.length t) ∨
      (n = 0 ∧ (∃ (cc p' q' : Int), stH hp dx ⟨subsL T t.length t, cc, (subsL T t.length t).length, b, p', q'⟩ = h') ∧ ∃ o, lo = [lR "st" x, lI "kind" 4, lR "rows" ra, lR "puts" pa, lR "vowels" va, lR "doubles" da, lS "added" A, lI "p1" p1, lI "p2" p2, lO "result" o, lB "more" false, lN "c", lN "found", lN "sign"])) (t.length + 1) (.inl ⟨[], t, t.length, _, _, _, rfl, rfl, rfl, Nat.le_refl _, by simp; lia, rfl⟩) ?_
    rintro n lo h' (⟨out, y, m, p', q', o, hn1, hh, hlo, hm, hl6, hst⟩ | ⟨hn1, ⟨cc, p', q', hh⟩, o, hlo⟩)
    · subst hn1 hh hlo
      have hol : (out ++ y).length = out.length + y.length := List.length_append ..
      have hy9 : (out ++ y).length ≤ 900 := by lia
      repeat walk1
      refine Cal_fn (find_ok (i := out.length) (l := (out ++ y).length) hx hne hn hR (by lia) (Nat.le_refl _) hy9 hRp hR6 hRs hRo.fS hRo.fL (fun r k F => ?_)) (by lia)
      have htk : ((out ++ y).drop out.length).take ((out ++ y).length - out.length) = y := by
        rw [List.drop_left, hol]; exact List.take_of_length_le (by lia)
      rw [htk] at F
      obtain ⟨e1, e2⟩ := fnd_f hT hRo (x := y) F
      subst e1 e2
      have hk := (longest_len hT y false).1
      have hq2 := (longest_len hT y false).2
      have hr6 := r6_of hT y false
      have hput := fun hr => put_of (U := U) hT Z.hUT (x := y) (back := false) hr
      have hkp := fun hr => pos_piece hT hTp (x := y) (back := false) hr
      have hfit : (longestL T y false).p <+: y := fits_of hT y false
      have hr0 : (longestL T y false).r = 0 → (longestL T y false).p.length = 0 := by
        intro e
        rcases longest_spec hT.r0 y false with ⟨e', _⟩ | ⟨e', _⟩
        · rw [e']; rfl
        · exact absurd e (hT.r0 _ e')
      have hstep : ∀ m', m = m' + 1 → subsL T m y = if y = [] then [] else if (longestL T y false).r = 0 then y.take 1 ++ subsL T m' (y.drop 1)
          else (if (longestL T y false).r < 0 then (longestL T y false).p else (longestL T y false).q) ++ subsL T m' (y.drop (longestL T y false).p.length) := by
        rintro m' rfl; rw [subsL]
      generalize longestL T y false = L at *
      rw [show (out.length : Int) + (L.p.length : Nat) = ((out.length + L.p.length : Nat) : Int) from by lia]
      repeat walk1
      refine ⟨fun hb => ?_, fun hb => ?_⟩
      · have hb := of_decide_eq_true hb
        have hkp := hkp hb
        have hyne : y ≠ [] := List.length_pos_iff.mp (by lia)
        have hstep := hstep (m - 1) (by lia)
        rw [if_neg hyne, if_neg hb] at hstep
        repeat walk1
        refine Cal_fn (act_ok (a := out.length) (e := out.length + L.p.length) hx hne hn hU Z.U7 Z.U2 hr6 (by lia) (by lia) hy9 (fun h0 => ?_) (fun z h0 h2 h3 => ?_)) (by lia)
        · rw [if_pos (by lia)] at hstep
          have hpp : out ++ y = (out ++ L.p) ++ y.drop L.p.length := by
            obtain ⟨w, hw⟩ := hfit
            rw [List.append_assoc, ← hw, List.drop_left]
          have hcu : ((out.length + L.p.length : Nat) : Int) = ((out ++ L.p).length : Nat) := by rw [List.length_append]
          repeat walk1
          refine turn_next ?_
          rw [hpp, hcu]
          refine ⟨_, ?_, .inl ⟨out ++ L.p, y.drop L.p.length, m - 1, _, _, _, rfl, rfl, rfl, ?_, ?_, ?_⟩⟩
          · rw [List.length_drop]; lia
          · rw [List.length_drop]; lia
          · rw [List.length_drop, List.length_append]; lia
          · rw [← hst, hstep, List.append_assoc]
        · rw [if_neg (by lia)] at hstep
          rw [hput h0] at h2
          subst h2
          have hpp : splice (out ++ y) out.length (out.length + L.p.length) L.q = (out ++ L.q) ++ y.drop L.p.length := by
            unfold splice
            rw [List.take_left, ← List.drop_drop, List.drop_left]
          have hcu : curAt ((out.length + L.p.length : Nat) : Int) (out.length : Nat) ((out.length + L.p.length : Nat) : Int) (L.q.length : Nat) = ((out ++ L.q).length : Nat) := by
            rw [curAt_end (Int.le_refl _), List.length_append]; lia
          rw [hpp, hcu]
          repeat walk1
          refine turn_next ?_
          refine ⟨_, ?_, .inl ⟨out ++ L.q, y.drop L.p.length, m - 1, _, _, _, rfl, rfl, rfl, ?_, ?_, ?_⟩⟩
          · rw [List.length_drop]; lia
          · rw [List.length_drop]; lia
          · rw [List.length_drop, List.length_append]; lia
          · rw [← hst, hstep, List.append_assoc]
      · have hb := of_decide_eq_false hb
        have hb' : L.r = 0 := by lia
        have hk0 := hr0 hb'
        rw [hk0, Nat.add_zero]
        repeat walk1
        refine ⟨fun hb1 => ?_, fun hb1 => ?_⟩
        · have hb1 := of_decide_eq_true hb1
          have hy1 : 0 < y.length := by lia
          have hyne : y ≠ [] := List.length_pos_iff.mp hy1
          have hstep := hstep (m - 1) (by lia)
          rw [if_neg hyne, if_pos hb'] at hstep
          have hpp : out ++ y = (out ++ y.take 1) ++ y.drop 1 := by rw [List.append_assoc, List.take_append_drop]
          have hcu : (out.length : Int) + 1 = ((out ++ y.take 1).length : Nat) := by rw [List.length_append, List.length_take]; lia
          repeat walk1
          refine turn_next ?_
          rw [hcu, hpp]
          refine ⟨_, ?_, .inl ⟨out ++ y.take 1, y.drop 1, m - 1, _, _, _, rfl, rfl, rfl, ?_, ?_, ?_⟩⟩
          · rw [List.length_drop]; lia
          · rw [List.length_drop]; lia
          · rw [List.length_drop, List.length_append, List.length_take]; lia
          · rw [← hst, hstep, List.append_assoc]
        · have hb1 := of_decide_eq_false hb1
          have hy0 : y = [] := List.length_eq_zero_iff.mp (by lia)
          have hsub : subsL T m y = [] := by
            rcases Nat.eq_zero_or_pos m with e | e
            · rw [e, subsL]
            · rw [hstep (m - 1) (by lia), if_pos hy0]
          rw [hsub, List.append_nil] at hst
          subst hy0
          rw [List.append_nil, hst]
          repeat walk1
          refine turn_next ?_
          exact ⟨0, by lia, .inr ⟨rfl, ⟨_, _, _, rfl⟩, _, rfl⟩⟩
    · subst hn1 hh hlo
      repeat walk1
      exact h _ _ _
  · -- kind 5
    have hpl : plainL 5 T V D A t = doubL D p1 t := by unfold plainL; simp [hp1]
    rw [hpl] at h
    repeat walk1
    obtain ⟨r, hr⟩ : ∃ r, (decide (p1 < t.length) && isIn D (t.getD (t.length - 1) 0)) = r := ⟨_, rfl⟩
    refine Cal_fn (in_b_ok (i := t.length) (b := p1) hx hne hD hdd (Nat.le_refl _) h9 r hr.symm ?_) (by lia)
    unfold doubL at h
    cases r with
    | false =>
      rw [if_neg Bool.false_ne_true]
      rw [if_neg (by
        intro q
        rw [decide_eq_true q.1, q.2.1] at hr; cases hr)] at h
      repeat walk1
      exact h _ _ _
    | true =>
      rw [Bool.and_eq_true, decide_eq_true_eq] at hr
      have h2 : 2 ≤ p1 := by rw [← hp1]; exact region_ge (by rw [hp1]; exact hr.1)
      rw [if_pos rfl, show (t.length : Int) - 1 = ((t.length - 1 : Nat) : Int) from by lia]
      repeat walk1
      refine Cal_fn (slice_to_ok (a := t.length - 1) (e := t.length) hx hne (by lia) (Nat.le_refl _) h9 ?_) (by lia)
      have hsg : (t.drop (t.length - 1)).take (t.length - (t.length - 1)) = [t.getD (t.length - 1) 0] := last_one (by lia)
      rw [hsg]
      repeat walk1
      obtain ⟨r2, hr2⟩ : ∃ r2, [t.getD (t.length - 1) 0].isSuffixOf ((t.drop 0).take (t.length - 1 - 0)) = r2 := ⟨_, rfl⟩
      refine Cal_fn (eq_b_ok (i := t.length - 1) (b := 0) hx hne (Nat.zero_le _) (by lia) h9 (by simp) r2 hr2.symm ?_) (by lia)
      rw [List.drop_zero, Nat.sub_zero, last_two (by lia)] at hr2
      cases r2 with
      | false =>
        have hr2 := of_decide_eq_false hr2
        rw [if_neg Bool.false_ne_true]
        rw [if_neg (fun q => hr2 q.2.2)] at h
        repeat walk1
        exact h _ _ _
      | true =>
        have hr2 := of_decide_eq_true hr2
        rw [if_pos rfl]
        rw [if_pos ⟨hr.1, hr.2, hr2⟩] at h
        repeat walk1
        refine Cal_fn (slice_del_ok (a := t.length - 1) (e := t.length) hx hne (by lia) (Nat.le_refl _) h9 ?_) (by lia)
        have hs : splice t (t.length - 1) t.length [] = t.take (t.length - 1) := by unfold splice; simp
        rw [hs, show (t.length : Int) + (0 - ((t.length : Int) - ((t.length - 1 : Nat) : Int))) = ((t.take (t.length - 1)).length : Nat) from by rw [List.length_take]; lia]
        repeat walk1
        exact h _ _ _
  · -- kind 6
    have hpl : plainL 6 T V D A t = insL V A t := by unfold plainL; simp
    rw [hpl] at h
    repeat walk1
    refine Cal_fn (go_out_ok (i := 0) hx hne hV hvd (Nat.zero_le _) h9 ?_) (by lia)
    unfold insL at h
    generalize scan (fun k => !isIn V k) t 0 = a at h ⊢
    repeat walk1
    refine ⟨fun hb => ?_, fun hb => ?_⟩
    · have hb := of_decide_eq_true hb
      rw [if_pos hb] at h
      repeat walk1
      refine Cal_fn (insert_ok (a := a) (e := a) hx hne (Nat.le_refl _) (by lia) h9 (by lia) (fun p' q' => ?_)) (by lia)
      have hs : splice t a a A = t.take a ++ A ++ t.drop a := rfl
      rw [← splice_len (Nat.le_refl _) (by lia), hs]
      repeat walk1
      exact h _ _ _
    · have hb := of_decide_eq_false hb
      rw [if_neg hb] at h
      repeat walk1
      exact h _ _ _
end
section
local macro_rules | `(tactic| walk_at "IfQ") => `(tactic| first | refine ifq_f (by decide) ?_ | refine ifq_t (by decide) ?_)
theorem B_and3 {c : Cx} {loc : Loc} {hp : Hp} {x y z : Expr} {pos : Pos} {P : Bool → Hp → Prop} (b1 b2 b3 : Bool) (h1 : ∀ P : Bool → Hp → Prop, P b1 hp → TB c x loc hp P) (h2 : b1 = true → ∀ P : Bool → Hp → Prop, P b2 hp → TB c y loc hp P)
    (h3 : b1 = true → b2 = true → ∀ P : Bool → Hp → Prop, P b3 hp → TB c z loc hp P) (h : P (b1 && b2 && b3) hp) : TB c (.BoolOp .And [x, y, z] pos) loc hp P := fun K s S => by
  refine isTrue_and (wpAny_mono (h1 (fun b h' => b = b1 ∧ hp = h') ⟨rfl, rfl⟩ K s S) (fun b s1 ⟨h', S1, e1, e2⟩ => ?_) fun _ _ x => x)
  subst e1 e2
  cases b with
  | false => exact ⟨_, S1, h⟩
  | true =>
    refine isTrue_and (wpAny_mono (h2 rfl (fun b h' => b = b2 ∧ hp = h') ⟨rfl, rfl⟩ K s1 S1) (fun b s2 ⟨h', S2, e1, e2⟩ => ?_) fun _ _ x => x)
    subst e1 e2
    cases b with
    | false => exact ⟨_, S2, h⟩
    | true =>
      refine isTrue_and (wpAny_mono (h3 rfl rfl (fun b h' => b = b3 ∧ hp = h') ⟨rfl, rfl⟩ K s2 S2) (fun b s3 ⟨h', S3, e1, e2⟩ => ?_) fun _ _ x => x)
      subst e1 e2
      cases b with
      | false => exact ⟨_, S3, h⟩
      | true => exact isTrue_and_nil ⟨_, S3, h⟩
def Kpt (hp : Hp) (v₀ : PV) (v : PV) (h : Hp) : Prop := hp.le h ∧ v = v₀
theorem Hp.tr {a b c : Hp} (h1 : a.le b) (h2 : b.le c) : a.le c := fun x o e => h2 x o (h1 x o e)

set_option maxHeartbeats 4000000 in
theorem plain_ok {g : Gl} {ta va da : Addr} {T : List Row} {V D : List LN} {A t : LN} {kind : Int} {hp : Hp} {P : PV → Hp → Prop} (hTa : TableAt hp ta T) (hV : hp va = some (.sset V)) (hD : hp da = some (.sset D))
    (hT : TabOk T) (hTp : kind = 2 ∨ kind = 4 → ∀ t ∈ T, t.p ≠ []) (hk0 : 0 ≤ kind) (hk6 : kind ≤ 6) (ht : t.length ≤ 300) (hA : A.length ≤ 2)
    (h : P (.str (plainL kind T V D A t)) hp) : FnOk g 2 290 [.str t, .int kind, .ref ta, .ref va, .ref da, .str A] hp P := by
  refine FnOk.forget (v₀ := .str (plainL kind T V D A t)) (show FnOk g 2 290 [.str t, .int kind, .ref ta, .ref va, .ref da, .str A] hp (Kpt hp (.str (plainL kind T V D A t))) from ?_) h
  refine' fn_intro [("text" : Str), ("kind" : Str), ("table" : Str), ("vowels" : Str), ("doubles" : Str), ("added" : Str)] [("p1" : Str), ("p2" : Str), ("row" : Str), ("cut" : Str), ("out" : Str), ("k" : Str), ("i" : Str)] ?ho ?hcd ?hbind ?hlen ?hloc ?hnd ?_ ?c1 ?c2 ?c3 ?c4
  walk_at "m fn"
  case hbind => (repeat refine all_cons fun _ => ?_); exact all_nil rfl
  intro c hg hd hs
  subst hg
  walk_at "m loc"
  clear h P
  obtain ⟨p1, hp1⟩ : ∃ n, regionL t V = n := ⟨_, rfl⟩
  have hp1l : p1 ≤ t.length := by rw [← hp1]; exact region_le t V
  obtain ⟨p2, hp2⟩ : ∃ n, p1 + regionL (t.drop p1) V = n := ⟨_, rfl⟩
  have h6 := hT.six
  have h10 := hT.p10
  repeat walk1
  refine Cal_fn (region_ok (by lia) hV ?_) (by lia)
  rw [hp1]
  repeat walk1
  rw [Int.toNat_natCast]
  refine Cal_fn (region_ok (by rw [List.length_drop]; lia) hV ?_) (by lia)
  repeat walk1
  rw [show (p1 : Int) + (regionL (t.drop p1) V : Nat) = (p2 : Nat) from by lia]
  have hkk : kind = 0 ∨ kind = 1 ∨ kind = 2 ∨ kind = 3 ∨ kind = 4 ∨ kind = 5 ∨ kind = 6 := by lia
  rcases hkk with rfl | rfl | rfl | rfl | rfl | rfl | rfl
  · -- kind 0
    have hpl : plainL 0 T V D A t = cutL T (t.drop p1) t fun _ => false := by unfold plainL; simp [hp1]
    rw [hpl]
    repeat walk1
    refine B_or2 (decide ((0 : Int) = 0)) (decide ((0 : Int) = 1)) (fun P' hP => ?_) (fun _ P' hP => ?_) ?_
    · repeat walk1
      exact hP
    · repeat walk1
      exact hP
    repeat walk1
    refine E_ifexp2 (decide ((0 : Int) = 1)) (.str t) (.str (t.drop p1)) (fun P' hP => ?_) (fun _ P' hP => ?_) (fun _ P' hP => ?_) ?_
    · repeat walk1
      exact hP
    · repeat walk1
      exact hP
    · repeat walk1
      rw [Int.toNat_natCast]
      exact hP
    rw [if_neg (by decide)]
    repeat walk1
    refine Cal_fn (longest_ok hTa (by rw [List.length_drop]; lia) h6 h10 (fun r hp' hle hr => ?_)) (by lia)
    repeat walk1
    have hk := (longest_len hT (t.drop p1) true).1
    have hq2 := (longest_len hT (t.drop p1) true).2
    rw [List.length_drop] at hk
    unfold cutL
    generalize longestL T (t.drop p1) true = L at *
    refine Cal_len_str (by lia) ?_
    repeat walk1
    refine Sub_tuple hr (by lia) (by lia) (v := .str L.p) rfl ?_
    repeat walk1
    refine Cal_len_str (by lia) ?_
    repeat walk1
    rw [show (t.length : Int) - (L.p.length : Nat) = ((t.length - L.p.length : Nat) : Int) from by lia]
    refine B_or2 (decide (L.r ≤ 0)) (decide ((0 : Int) = 1) && decide (((t.length - L.p.length : Nat) : Int) < (p2 : Nat))) (fun P' hP => ?_) (fun _ P' hP => ?_) ?_
    · repeat walk1
      refine Sub_tuple hr (by lia) (by lia) (v := .int L.r) rfl ?_
      repeat walk1
      exact hP
    · refine B_and2 (decide ((0 : Int) = 1)) (decide (((t.length - L.p.length : Nat) : Int) < (p2 : Nat))) (fun P' hP => ?_) (fun _ P' hP => ?_) hP
      · repeat walk1
        exact hP
      · repeat walk1
        exact hP
    refine ⟨fun hb => ?_, fun hb => ?_⟩
    · have e : L.r ≤ 0 ∨ (fun _ => false) (t.length - L.p.length) = true := by
        simpa using hb
      rw [if_pos e]
      repeat walk1
      exact ⟨hle, rfl⟩
    · have e : ¬ (L.r ≤ 0 ∨ (fun _ => false) (t.length - L.p.length) = true) := by
        simpa using hb
      rw [if_neg e]
      repeat walk1
      refine Sub_tuple hr (by lia) (by lia) (v := .str L.q) rfl ?_
      repeat walk1
      exact ⟨hle, rfl⟩
  · -- kind 1
    have hpl : plainL 1 T V D A t = cutL T t t fun cut => decide (cut < p2) := by unfold plainL; simp [hp1, hp2]
    rw [hpl]
    repeat walk1
    refine B_or2 (decide ((1 : Int) = 0)) (decide ((1 : Int) = 1)) (fun P' hP => ?_) (fun _ P' hP => ?_) ?_
    · repeat walk1
      exact hP
    · repeat walk1
      exact hP
    repeat walk1
    refine E_ifexp2 (decide ((1 : Int) = 1)) (.str t) (.str (t.drop p1)) (fun P' hP => ?_) (fun _ P' hP => ?_) (fun _ P' hP => ?_) ?_
    · repeat walk1
      exact hP
    · repeat walk1
      exact hP
    · repeat walk1
      rw [Int.toNat_natCast]
      exact hP
    rw [if_pos (by decide)]
    repeat walk1
    refine Cal_fn (longest_ok hTa (by lia) h6 h10 (fun r hp' hle hr => ?_)) (by lia)
    repeat walk1
    have hk := (longest_len hT (t) true).1
    have hq2 := (longest_len hT (t) true).2
    skip
    unfold cutL
    generalize longestL T (t) true = L at *
    refine Cal_len_str (by lia) ?_
    repeat walk1
    refine Sub_tuple hr (by lia) (by lia) (v := .str L.p) rfl ?_
    repeat walk1
    refine Cal_len_str (by lia) ?_
    repeat walk1
    rw [show (t.length : Int) - (L.p.length : Nat) = ((t.length - L.p.length : Nat) : Int) from by lia]
    refine B_or2 (decide (L.r ≤ 0)) (decide ((1 : Int) = 1) && decide (((t.length - L.p.length : Nat) : Int) < (p2 : Nat))) (fun P' hP => ?_) (fun _ P' hP => ?_) ?_
    · repeat walk1
      refine Sub_tuple hr (by lia) (by lia) (v := .int L.r) rfl ?_
      repeat walk1
      exact hP
    · refine B_and2 (decide ((1 : Int) = 1)) (decide (((t.length - L.p.length : Nat) : Int) < (p2 : Nat))) (fun P' hP => ?_) (fun _ P' hP => ?_) hP
      · repeat walk1
        exact hP
      · repeat walk1
        exact hP
    refine ⟨fun hb => ?_, fun hb => ?_⟩
    · have e : L.r ≤ 0 ∨ (fun cut => decide (cut < p2)) (t.length - L.p.length) = true := by
        simp only [Bool.or_eq_true, Bool.and_eq_true, decide_eq_true_eq] at hb ⊢; lia
      rw [if_pos e]
      repeat walk1
      exact ⟨hle, rfl⟩
    · have e : ¬ (L.r ≤ 0 ∨ (fun cut => decide (cut < p2)) (t.length - L.p.length) = true) := by
        rintro (q | q)
        · rw [decide_eq_true q] at hb; cases hb
        · have q := of_decide_eq_true q
          rw [decide_eq_true (show ((t.length - L.p.length : Nat) : Int) < (p2 : Nat) by lia), decide_eq_true (show (1 : Int) = 1 from rfl), Bool.and_true, Bool.or_true] at hb
          cases hb
      rw [if_neg e]
      repeat walk1
      refine Sub_tuple hr (by lia) (by lia) (v := .str L.q) rfl ?_
      repeat walk1
      exact ⟨hle, rfl⟩
  · -- kind 2
    have hpl : plainL 2 T V D A t = stripL T p1 t.length t := by unfold plainL; simp [hp1]
    rw [hpl]
    have hTp' := hTp (.inl rfl)
    repeat walk1
    refine B_or2 (decide ((2 : Int) = 0)) (decide ((2 : Int) = 1)) (fun P' hP => ?_) (fun _ P' hP => ?_) ?_
    · repeat walk1
      exact hP
    · repeat walk1
      exact hP
    repeat walk1
    rw [Int.toNat_natCast]
    refine Cal_fn (longest_ok hTa (by rw [List.length_drop]; lia) h6 h10 (fun r hp' hle hr => ?_)) (by lia)
    repeat walk1
    refine S_while (fun n lo h' => ∃ (y : LN) (m : Nat) (r : Addr), n = y.length ∧ hp.le h' ∧ h' r = some (.tuple (rowT (longestL T (y.drop p1) true))) ∧ lo = [lS "text" y, lI "kind" 2, lR "table" ta, lR "vowels" va, lR "doubles" da, lS "added" A, lI "p1" p1, lI "p2" p2, lR "row" r, lN "cut", lN "out", lN "k", lN "i"] ∧ y.length ≤ m ∧ p1 ≤ y.length ∧ y.length ≤ 300 ∧ stripL T p1 m y = stripL T p1 t.length t) t.length ⟨t, t.length, r, rfl, hle, hr, rfl, Nat.le_refl _, hp1l, ht, rfl⟩ ?_
    clear hr hle r hp'
    rintro n lo hp' ⟨y, m, r, hn1, hle, hr, hlo, hm, hp1y, hy3, hst⟩
    subst hn1 hlo
    have hk := (longest_len hT (y.drop p1) true).1
    rw [List.length_drop] at hk
    have hkp := fun hr => pos_piece hT hTp' (x := y.drop p1) (back := true) hr
    have hstep : ∀ m', m = m' + 1 → stripL T p1 m y = if (longestL T (y.drop p1) true).r = 0 then y else stripL T p1 m' (y.take (y.length - (longestL T (y.drop p1) true).p.length)) := by
      rintro m' rfl; rw [stripL]
    have hstep0 : m = 0 → stripL T p1 m y = y := by rintro rfl; rw [stripL]
    generalize longestL T (y.drop p1) true = L at *
    repeat walk1
    refine Sub_tuple hr (by lia) (by lia) (v := .int L.r) rfl ?_
    repeat walk1
    refine ⟨fun hb => ?_, fun hb => ?_⟩
    · have hb := of_decide_eq_true hb
      have hkp := hkp hb
      repeat walk1
      refine Cal_len_str (by lia) ?_
      repeat walk1
      refine Sub_tuple hr (by lia) (by lia) (v := .str L.p) rfl ?_
      repeat walk1
      refine Cal_len_str (by lia) ?_
      repeat walk1
      have hl2 : (y.take (y.length - L.p.length)).length = y.length - L.p.length := by rw [List.length_take]; lia
      rw [show ((y.length : Int) - (L.p.length : Nat)).toNat = y.length - L.p.length from by lia]
      repeat walk1
      rw [Int.toNat_natCast]
      refine Cal_fn (longest_ok (hTa.mono hle) (by rw [List.length_drop, hl2]; lia) h6 h10 (fun r' hp'' hle' hr' => ?_)) (by lia)
      repeat walk1
      refine turn_next ?_
      refine ⟨_, ?_, y.take (y.length - L.p.length), m - 1, r', rfl, Hp.tr hle hle', hr', rfl, by rw [hl2]; lia, by rw [hl2]; lia, by rw [hl2]; lia, ?_⟩
      · rw [hl2]; lia
      · rw [← hst, hstep (m - 1) (by lia), if_neg hb]
    · have hb := of_decide_eq_false hb
      have hyy : stripL T p1 t.length t = y := by
        rw [← hst]
        rcases Nat.eq_zero_or_pos m with e | e
        · exact hstep0 e
        · rw [hstep (m - 1) (by lia), if_pos (by lia)]
      rw [hyy]
      repeat walk1
      exact ⟨hle, rfl⟩
  · -- kind 3
    have hpl : plainL 3 T V D A t = (if (longestL T t false).r ≤ 0 then t else (longestL T t false).q ++ t.drop (longestL T t false).p.length) := by unfold plainL; simp
    rw [hpl]
    repeat walk1
    refine B_or2 (decide ((3 : Int) = 0)) (decide ((3 : Int) = 1)) (fun P' hP => ?_) (fun _ P' hP => ?_) ?_
    · repeat walk1
      exact hP
    · repeat walk1
      exact hP
    repeat walk1
    refine Cal_fn (longest_ok hTa (by lia) h6 h10 (fun r hp' hle hr => ?_)) (by lia)
    have hk := (longest_len hT t false).1
    have hq2 := (longest_len hT t false).2
    generalize longestL T t false = L at *
    repeat walk1
    refine Sub_tuple hr (by lia) (by lia) (v := .int L.r) rfl ?_
    repeat walk1
    refine ⟨fun hb => ?_, fun hb => ?_⟩
    · have hb := of_decide_eq_true hb
      rw [if_pos hb]
      repeat walk1
      exact ⟨hle, rfl⟩
    · have hb := of_decide_eq_false hb
      rw [if_neg hb]
      repeat walk1
      refine Sub_tuple hr (by lia) (by lia) (v := .str L.q) rfl ?_
      repeat walk1
      refine Sub_tuple hr (by lia) (by lia) (v := .str L.p) rfl ?_
      repeat walk1
      refine Cal_len_str (by lia) ?_
      repeat walk1
      rw [Int.toNat_natCast]
      exact ⟨hle, rfl⟩
  · -- kind 4
    have hpl : plainL 4 T V D A t = subsL T t.length t := by unfold plainL; simp
    rw [hpl]
    have hTp' := hTp (.inr rfl)
    repeat walk1
    refine B_or2 (decide ((4 : Int) = 0)) (decide ((4 : Int) = 1)) (fun P' hP => ?_) (fun _ P' hP => ?_) ?_
    · repeat walk1
      exact hP
    · repeat walk1
      exact hP
    repeat walk1
    refine S_while (fun n lo h' => ∃ (out y : LN) (m : Nat) (o : Option PV), n = y.length ∧ hp.le h' ∧ lo = [lS "text" y, lI "kind" 4, lR "table" ta, lR "vowels" va, lR "doubles" da, lS "added" A, lI "p1" p1, lI "p2" p2, lO "row" o, lN "cut", lS "out" out, lN "k", lN "i"] ∧ y.length ≤ m ∧ out.length + 2 * y.length ≤ 600 ∧ out ++ subsL T m y = subsL T t.length t) t.length ⟨[], t, t.length, _, rfl, fun _ _ e => e, rfl, Nat.le_refl _, by simp; lia, rfl⟩ ?_
    rintro n lo hp' ⟨out, y, m, o, hn1, hle, hlo, hm, hl6, hst⟩
    subst hn1 hlo
    have hk := (longest_len hT y false).1
    have hq2 := (longest_len hT y false).2
    have hkp := fun hr => pos_piece hT hTp' (x := y) (back := false) hr
    have hstep : ∀ m', m = m' + 1 → subsL T m y = if y = [] then [] else if (longestL T y false).r = 0 then y.take 1 ++ subsL T m' (y.drop 1)
        else (if (longestL T y false).r < 0 then (longestL T y false).p else (longestL T y false).q) ++ subsL T m' (y.drop (longestL T y false).p.length) := by
      rintro m' rfl; rw [subsL]
    have hstep0 : m = 0 → subsL T m y = [] := by rintro rfl; rw [subsL]
    repeat walk1
    refine ⟨fun hb => ?_, fun hb => ?_⟩
    · have hb := of_decide_eq_true hb
      have hy1 : 0 < y.length := List.length_pos_iff.mpr hb
      have hstep := hstep (m - 1) (by lia)
      rw [if_neg hb] at hstep
      repeat walk1
      refine Cal_fn (longest_ok (hTa.mono hle) (by lia) h6 h10 (fun r' hp'' hle' hr' => ?_)) (by lia)
      generalize longestL T y false = L at *
      repeat walk1
      refine Sub_tuple hr' (by lia) (by lia) (v := .int L.r) rfl ?_
      repeat walk1
      refine ⟨fun hb1 => ?_, fun hb1 => ?_⟩
      · have hb1 := of_decide_eq_true hb1
        rw [if_pos hb1] at hstep
        obtain ⟨a, w, rfl⟩ : ∃ a w, y = a :: w := by
          cases y with
          | nil => exact absurd rfl hb
          | cons a w => exact ⟨a, w, rfl⟩
        repeat walk1
        refine Sub_str (n := a) (by lia) (by lia) rfl ?_
        have hlc : (a :: w).length = w.length + 1 := rfl
        repeat walk1
        refine turn_next ?_
        refine ⟨_, ?_, out ++ [a], w, m - 1, _, rfl, Hp.tr hle hle', rfl, ?_, ?_, ?_⟩
        · lia
        · lia
        · rw [List.length_append]; simp only [List.length_cons, List.length_nil]; lia
        · rw [← hst, hstep, List.append_assoc]; rfl
      · have hb1 := of_decide_eq_false hb1
        rw [if_neg hb1] at hstep
        have hkp := hkp hb1
        repeat walk1
        refine E_ifexp2 (decide (L.r < 0)) (.str L.p) (.str L.q) (fun P' hP => ?_) (fun _ P' hP => ?_) (fun _ P' hP => ?_) ?_
        · repeat walk1
          refine Sub_tuple hr' (by lia) (by lia) (v := .int L.r) rfl ?_
          repeat walk1
          exact hP
        · repeat walk1
          exact Sub_tuple hr' (by lia) (by lia) (v := .str L.p) rfl hP
        · repeat walk1
          exact Sub_tuple hr' (by lia) (by lia) (v := .str L.q) rfl hP
        have e : (if decide (L.r < 0) = true then PV.str L.p else .str L.q) = .str (if L.r < 0 then L.p else L.q) := by
          by_cases q : L.r < 0 <;> simp [q]
        rw [e]
        have hw : (if L.r < 0 then L.p else L.q).length ≤ L.p.length + 1 := by split <;> lia
        generalize (if L.r < 0 then L.p else L.q) = w at *
        repeat walk1
        refine Sub_tuple hr' (by lia) (by lia) (v := .str L.p) rfl ?_
        repeat walk1
        refine Cal_len_str (by lia) ?_
        repeat walk1
        rw [Int.toNat_natCast]
        refine turn_next ?_
        refine ⟨_, ?_, out ++ w, y.drop L.p.length, m - 1, _, rfl, Hp.tr hle hle', rfl, ?_, ?_, ?_⟩
        · rw [List.length_drop]; lia
        · rw [List.length_drop]; lia
        · rw [List.length_drop, List.length_append]; lia
        · rw [← hst, hstep, List.append_assoc]
    · have hb := of_decide_eq_false hb
      have hy0 : y = [] := Classical.not_not.mp hb
      have hsub : subsL T m y = [] := by
        rcases Nat.eq_zero_or_pos m with e | e
        · exact hstep0 e
        · rw [hstep (m - 1) (by lia), if_pos hy0]
      rw [hsub, List.append_nil] at hst
      rw [← hst]
      repeat walk1
      exact ⟨hle, rfl⟩
  · -- kind 5
    have hpl : plainL 5 T V D A t = doubL D p1 t := by unfold plainL; simp [hp1]
    rw [hpl]
    repeat walk1
    refine B_or2 (decide ((5 : Int) = 0)) (decide ((5 : Int) = 1)) (fun P' hP => ?_) (fun _ P' hP => ?_) ?_
    · repeat walk1
      exact hP
    · repeat walk1
      exact hP
    repeat walk1
    refine Cal_len_str (by lia) ?_
    repeat walk1
    have h2 : p1 < t.length → 2 ≤ p1 := fun q => by rw [← hp1]; exact region_ge (by rw [hp1]; exact q)
    refine B_and3 (decide (p1 < t.length)) (isIn D (t.getD (t.length - 1) 0)) (decide (t.getD (t.length - 2) 0 = t.getD (t.length - 1) 0)) (fun P' hP => ?_) (fun e P' hP => ?_) (fun e _ P' hP => ?_) ?_
    · repeat walk1
      rw [show decide ((p1 : Int) < (t.length : Int)) = decide (p1 < t.length) from by simp]
      exact hP
    · have e := of_decide_eq_true e
      have h2 := h2 e
      have e1 : t[t.length - 1]? = some (t[t.length - 1]'(by lia)) := List.getElem?_eq_getElem (by lia)
      rw [List.getD_eq_getElem?_getD, e1] at hP
      repeat walk1
      refine Sub_str (n := t[t.length - 1]'(by lia)) (by lia) (by lia) (by rw [show ((t.length : Int) - 1).toNat = t.length - 1 from by lia]; exact e1) ?_
      repeat walk1
      refine Cmp_in_set hD ?_
      repeat walk1
      exact hP
    · have e := of_decide_eq_true e
      have h2 := h2 e
      have e1 : t[t.length - 1]? = some (t[t.length - 1]'(by lia)) := List.getElem?_eq_getElem (by lia)
      have e2 : t[t.length - 2]? = some (t[t.length - 2]'(by lia)) := List.getElem?_eq_getElem (by lia)
      rw [List.getD_eq_getElem?_getD, List.getD_eq_getElem?_getD, e1, e2] at hP
      repeat walk1
      refine Sub_str (n := t[t.length - 2]'(by lia)) (by lia) (by lia) (by rw [show ((t.length : Int) - 2).toNat = t.length - 2 from by lia]; exact e2) ?_
      repeat walk1
      refine Sub_str (n := t[t.length - 1]'(by lia)) (by lia) (by lia) (by rw [show ((t.length : Int) - 1).toNat = t.length - 1 from by lia]; exact e1) ?_
      repeat walk1
      rw [show decide ([t[t.length - 2]'(by lia)] = [t[t.length - 1]'(by lia)]) = decide (t[t.length - 2]'(by lia) = t[t.length - 1]'(by lia)) from by simp]
      exact hP
    unfold doubL
    refine ⟨fun hb => ?_, fun hb => ?_⟩
    · simp only [Bool.and_eq_true, decide_eq_true_eq] at hb
      rw [if_pos ⟨hb.1.1, hb.1.2, hb.2⟩]
      repeat walk1
      rw [show ((t.length : Int) - 1).toNat = t.length - 1 from by lia]
      exact ⟨fun _ _ e => e, rfl⟩
    · rw [if_neg (fun q => by rw [decide_eq_true q.1, q.2.1, decide_eq_true q.2.2] at hb; cases hb)]
      repeat walk1
      exact ⟨fun _ _ e => e, rfl⟩
  · -- kind 6
    have hpl : plainL 6 T V D A t = insL V A t := by unfold plainL; simp
    rw [hpl]
    repeat walk1
    refine B_or2 (decide ((6 : Int) = 0)) (decide ((6 : Int) = 1)) (fun P' hP => ?_) (fun _ P' hP => ?_) ?_
    · repeat walk1
      exact hP
    · repeat walk1
      exact hP
    repeat walk1
    refine Cal_len_str (by lia) ?_
    repeat walk1
    refine S_for_range ?_
    repeat walk1
    refine Cal_range1 fun r hr => ?_
    obtain ⟨r1, r2⟩ := small_range (a := 0) (b := t.length) (by lia) (by lia) (by lia) (by lia)
    refine ⟨r, 0, t.length, 1, t.length, hp, rfl, Hp.upd_self .., r1, by rw [r2]; lia, Hp.le_upd hr, ?_⟩
    refine ⟨fun n lo h' => hp = h' ∧ (∃ o : Option PV, lo = [lS "text" t, lI "kind" 6, lR "table" ta, lR "vowels" va, lR "doubles" da, lS "added" A, lI "p1" p1, lI "p2" p2, lN "row", lN "cut", lN "out", lI "k" t.length, lO "i" o]) ∧ n ≤ t.length ∧ scan (fun k => !isIn V k) t n = scan (fun k => !isIn V k) t 0, ⟨rfl, ⟨_, rfl⟩, Nat.zero_le _, rfl⟩, ?_, ?_⟩
    · rintro n lo h' hn ⟨hh, ⟨o, hlo⟩, hn', hsc⟩
      subst hh hlo
      have e1 : t[n]? = some (t[n]'hn) := List.getElem?_eq_getElem hn
      repeat walk1
      refine Sub_str (n := t[n]'hn) (by lia) (by lia) (by rw [show ((0 : Int) + (n : Nat) * 1).toNat = n from by lia]; exact e1) ?_
      repeat walk1
      refine Cmp_in_set hV ?_
      repeat walk1
      refine ⟨fun hb => ?_, fun hb => ?_⟩
      · have e := scan_stop (p := fun k => !isIn V k) e1 (by show (!isIn V _) = false; unfold isIn; rw [hb]; rfl)
        rw [e] at hsc
        unfold insL
        rw [← hsc, if_pos hn]
        repeat walk1
        refine turn_ret ?_
        rw [show ((0 : Int) + (n : Nat) * 1).toNat = n from by lia]
        exact ⟨fun _ _ e => e, rfl⟩
      · have e := scan_go (p := fun k => !isIn V k) e1 (by show (!isIn V _) = true; unfold isIn; rw [hb]; rfl)
        repeat walk1
        refine turn_next ?_
        exact ⟨rfl, ⟨_, rfl⟩, hn, by rw [← e]; exact hsc⟩
    · rintro lo h' ⟨hh, ⟨o, hlo⟩, hn', hsc⟩
      subst hh hlo
      rw [scan_end (Nat.le_refl _)] at hsc
      unfold insL
      rw [← hsc, if_neg (Nat.lt_irrefl _)]
      repeat walk1
      exact ⟨fun _ _ e => e, rfl⟩
end
section
open PySem PySem.W PyProof.Rows PySem.Calls
set_option Elab.async false
set_option autoImplicit false
set_option linter.unusedVariables false

theorem ne01 (I : Nat) : I ≠ I + 1 := Nat.ne_of_lt (Nat.lt_succ_self I)
theorem ne10 (I : Nat) : I + 1 ≠ I := Nat.succ_ne_self I
theorem ne12 (I : Nat) : I + 1 ≠ I + 1 + 1 := ne01 (I + 1)
theorem ne21 (I : Nat) : I + 1 + 1 ≠ I + 1 := ne10 (I + 1)
theorem ne02 (I : Nat) : I ≠ I + 1 + 1 := Nat.ne_of_lt (Nat.lt_succ_of_lt (Nat.lt_succ_self I))
theorem ne20 (I : Nat) : I + 1 + 1 ≠ I := (ne02 I).symm
theorem ltne1 {b I : Nat} (h : b < I) : b ≠ I + 1 := Nat.ne_of_lt (Nat.lt_succ_of_lt h)
theorem ltne2 {b I : Nat} (h : b < I) : b ≠ I + 1 + 1 := Nat.ne_of_lt (Nat.lt_succ_of_lt (Nat.lt_succ_of_lt h))
theorem le02 (I : Nat) : I ≤ I + 1 + 1 := Nat.le_add_right I 2
theorem one_less {n i : Nat} (h : i < n) : n + 1 - (i + 1) < n + 1 - i := by lia
theorem not_more {n i : Nat} (h : i ≤ n) (h' : ¬ i < n) : i = n := by lia
theorem le_of_two {a I n : Nat} (h1 : a ≤ I) (h2 : I + 1 < n) : a ≤ n := by lia
theorem take_short {z i n : Nat} (h : z = min i n) (hn : n ≤ 1000) : z ≤ 1000 := by lia
section
variable {c : Cx} {loc : Loc} {hp : Hp}
theorem St.put {K : Kp} {s : Shared} {a : Addr} {ao ao' : AO} {o' : Obj} {h' : Heap} (S : St c K loc hp s) (ha : hp a = some ao) (hs : Heap.SameBut a s.heap h') (he : h'.get? a = some o') (hr : RepO c.g ao' o') (tk : Nat) :
    St c K loc (hp.upd a ao') { s with heap := h', toks := tk } := by
  obtain ⟨h1, h2, o, e, r⟩ := S.rep.obj a ao ha
  have hL : a ≠ c.env.locals := fun q => by rw [q, S.Lhp] at ha; cases ha
  have keep : ∀ b o, b ≠ a → s.heap.get? b = some o → h'.get? b = some o := fun b o hb e => (hs.2 b hb).trans e
  obtain ⟨m, ⟨oL, es, ep, ho, rr⟩, hm⟩ := S.ns
  refine ⟨⟨fun b o e => keep b o (fun q => by rw [q, h1] at e; cases e) (S.rep.base b o e), fun b o k => keep b o (fun q => h2 o (q ▸ k)) (S.rep.kept b o k), fun b bo e => ?_, ?_⟩, ⟨m, ⟨oL, es, ep, keep _ _ (Ne.symm hL) ho, rr⟩, hm⟩, S.LK, ?_, S.names, S.os, S.gens⟩
  · by_cases hb : b = a
    · subst hb; rw [Hp.upd_self] at e; cases e; exact ⟨h1, h2, _, he, hr⟩
    · rw [Hp.upd_ne _ _ hb] at e
      obtain ⟨x1, x2, o, e', r'⟩ := S.rep.obj b bo e
      exact ⟨x1, x2, o, keep _ _ hb e', r'⟩
  · exact Nat.le_trans c.above (Nat.le_of_lt (Heap.lt_size (keep _ _ (Ne.symm hL) ho)))
  · rw [Hp.upd_ne _ _ (Ne.symm hL)]; exact S.Lhp

/-- a block that builds a list of a list's items -/
theorem E_listcomp {elt iter : Expr} {x : Str} {px pos : Pos} {scope : Scope} {cl : List (Str × Addr)} {P : PV → Hp → Prop}
    (hclos : closureFor scope c.env = pure cl) (hcell : ∀ y ∈ scope.names, y.2 ≠ .cell) (hkind : scope.kind = .function) (hnames : ∀ y ∈ scope.names, y.2 = .local → scope.names.lookup y.1 = some .local)
    (hx : scope.names.lookup x = some .local) (hxd : (x == ("__debug__" : Str)) = false)
    (h : TE c iter loc hp fun v h1 => ∃ (a : Addr) (vs ws : List PV), v = .ref a ∧ h1 a = some (.list vs) ∧ vs.length ≤ 1000 ∧ ws.length = vs.length ∧
      (∀ (i : Nat) (v w : PV) (c' : Cx) (D : Addr) (ys : List PV) (P' : PV → Hp → Prop), vs[i]? = some v → ws[i]? = some w → c'.g = c.g → c'.d = c.d → c'.env.scope = relabel scope c.env → c'.env.cells = cl → h1 D = Option.none →
        P' w (h1.upd D (.list ys)) → TE c' elt [(x, some v)] (h1.upd D (.list ys)) P') ∧ ∀ r, h1 r = Option.none → P (.ref r) (h1.upd r (.list ws)))
    (hs : ∀ x, foldedSetIterable iter c.env x = pure x := by intro _; rfl) : TE c (.ListComp elt [⟨.Name x px, iter, [], 0⟩] scope pos) loc hp P := fun K s S => by
  rw [eval_ListComp]
  refine wpAny_comprehension_free (use := Option.none) rfl hs hclos hkind hnames (wpAny_mono (h K s S) (fun v s1 hh => ?_) fun _ _ x => x)
  obtain ⟨h1, S1, a, vs, ws, hv, ha, hvl, hwl, helt, hP⟩ := hh
  obtain rfl := er_ref hv
  obtain ⟨o, ho, ⟨xs, n, rfl, hxs⟩, _⟩ := S1.obj_at ha
  have hl1 : xs.length = vs.length := by rw [← hxs]; simp
  obtain ⟨oL, hoL, R1, back⟩ := frame_K S1
  have lt1 : ∀ {b : Nat} {o : Obj}, s1.heap.get? b = some o → b < s1.heap.objs.size := Heap.lt_size
  have hpn : ∀ b : Nat, s1.heap.objs.size ≤ b → h1 b = Option.none := fun b hb => by
    cases q : h1 b with
    | none => rfl
    | some ao => obtain ⟨_, _, o, e, _⟩ := S1.rep.obj b ao q; exact absurd (lt1 e) (Nat.not_lt.mpr hb)
  have hKn : ∀ (b : Nat) (o : Obj), s1.heap.objs.size ≤ b → ¬ (K b o ∨ (b = c.env.locals ∧ o = oL)) := fun b o hb k => absurd (lt1 (R1.kept b o k)) (Nat.not_lt.mpr hb)
  have hn0 : ∀ b : Nat, s1.heap.objs.size ≤ b → c.g.h₀.get? b = Option.none := fun b hb => by
    cases q : c.g.h₀.get? b with
    | none => rfl
    | some o => exact absurd (lt1 (S1.rep.base b o q)) (Nat.not_lt.mpr hb)
  refine wpAny_pyIter_list (items := xs.toArray) ⟨_, ho, rfl, _, rfl⟩ ?_
  refine wpAny_newObj_type (wpAny_newFunctionEnv hcell (by intro y hy; simp at hy) (fun h₁ hns₁ hsb₁ => ?_) hkind)
  dsimp only at hns₁ hsb₁ ⊢
  obtain ⟨I, hI⟩ : ∃ I, s1.heap.objs.size = I := ⟨_, rfl⟩
  generalize hH1 : s1.heap.push { cls := .type "list_iterator", data := .fields #[.ref a, .int 0 0] } = H1 at hns₁ hsb₁ ⊢
  have hD : H1.objs.size = I + 1 := by rw [← hH1, Heap.size_push, hI]
  generalize hH2 : H1.push { cls := .type "list", dict := Option.none, data := .seq ([] : List Value).toArray } = H2 at hns₁ hsb₁
  have hC : H2.objs.size = I + 1 + 1 := by rw [← hH2, Heap.size_push, hD]
  rw [hC] at hns₁ hsb₁ ⊢
  rw [hD]
  rw [hI] at hpn hKn hn0 ⊢
  rw [hI] at lt1
  have pin : ∀ {A B : Heap} {ob : Obj} {b : Addr} {o : Obj}, A.push ob = B → A.get? b = some o → B.get? b = some o := fun e q => e ▸ Heap.get?_push_of_some _ q
  have old : ∀ b o, s1.heap.get? b = some o → h₁.get? b = some o := fun b o e => hsb₁.extBut b o (ltne2 (lt1 e)) (Heap.get?_push_of_some _ (pin hH2 (pin hH1 e)))
  have hacc : h₁.get? (I + 1) = some { cls := .type "list", data := .seq ([] : List Value).toArray } := hsb₁.extBut _ _ (ne12 I) (Heap.get?_push_of_some _ (by rw [← hH2, ← hD]; exact Heap.get?_push_size _ rfl))
  have hit : h₁.get? I = some { cls := .type "list_iterator", data := .fields #[.ref a, .int 0 0] } := hsb₁.extBut _ _ (ne02 I) (Heap.get?_push_of_some _ (pin hH2 (by rw [← hH1, ← hI]; exact Heap.get?_push_size _ rfl)))
  let c' : Cx := Cx.mk c.g c.A c.d (compEnvC scope cl (I + 1 + 1) c.env) [x] hkind (fun y hy => by
      rw [List.mem_singleton] at hy; subst hy; exact ⟨lookup_relabel_local hx, hxd⟩) (by simp) (Nat.le_trans (hI ▸ S1.rep.size) (le02 I)) c.form c.room
  have S0 : St c' (fun b o => K b o ∨ (b = c.env.locals ∧ o = oL)) [(x, Option.none)] (h1.upd (I + 1) (.list (ws.take 0))) { s1 with heap := h₁, toks := s1.toks + ([] : List (Str × Value)).length } := by
    refine ⟨⟨fun b o e => old b o (S1.rep.base b o e), fun b o k => old b o (R1.kept b o k), fun b bo e => ?_, ?_⟩, ⟨_, hns₁, fun y v hy => by simp at hy⟩, fun o k => hKn _ _ (le02 I) k, ?_, rfl, S1.os, S1.gens⟩
    · by_cases hb : b = I + 1
      · subst hb; rw [Hp.upd_self] at e; cases e
        exact ⟨hn0 _ (Nat.le_succ _), fun o => hKn _ o (Nat.le_succ _), _, hacc, [], 0, rfl, rfl⟩
      · rw [Hp.upd_ne _ _ hb] at e
        obtain ⟨x1, x2, o, e', r'⟩ := R1.obj b bo e
        exact ⟨x1, x2, o, old _ _ e', r'⟩
    · have h1 := S1.rep.size
      have h2 : @LT.lt Nat _ (I + 1) h₁.objs.size := Heap.lt_size hacc
      rw [hI] at h1
      exact le_of_two h1 h2
    · show (h1.upd (I + 1) _) (I + 1 + 1) = _
      rw [Hp.upd_ne _ _ (ne21 I)]; exact hpn _ (le02 I)
  have loop : codeAny (model c.g.prog c.g.w) c.A (.compLoop (.ListComp elt [⟨.Name x px, iter, [], 0⟩] scope pos) 0 (.ref I) (.ref (I + 1)) (compEnvC scope cl (I + 1 + 1) c.env))
      (compPost (model c.g.prog c.g.w) c.A noE Option.none (fun v s' => ∃ hp', St c K loc hp' s' ∧ P (er v) hp') (.ref (I + 1)) (I + 1 + 1)) { s1 with heap := h₁, toks := s1.toks + ([] : List (Str × Value)).length } := by
    refine codeAny_compLoop_tests (fun k s' => ∃ (i : Nat) (ov : Option PV), k = vs.length + 1 - i ∧ i ≤ vs.length ∧ St c' (fun b o => K b o ∨ (b = c.env.locals ∧ o = oL)) [(x, ov)] (h1.upd (I + 1) (.list (ws.take i))) s' ∧ s'.heap.IsListIter I a i) ?_ (vs.length + 1)
      ⟨0, Option.none, rfl, Nat.zero_le _, S0, ⟨_, hit, rfl, rfl⟩⟩
    rintro k s' ⟨i, ov, rfl, hi, S', hst⟩
    have haD : a ≠ I + 1 := ltne1 (lt1 ho)
    have haI : a ≠ I := Nat.ne_of_lt (lt1 ho)
    have hhI : (h1.upd (I + 1) (.list (ws.take i))) I = Option.none := by rw [Hp.upd_ne _ _ (ne01 I)]; exact hpn _ (Nat.le_refl _)
    have ha' : (h1.upd (I + 1) (.list (ws.take i))) a = some (.list vs) := by rw [Hp.upd_ne _ _ haD]; exact ha
    have but : ∀ {h' : Heap} (tk : Nat), (∀ b o, b ≠ I → s'.heap.get? b = some o → h'.get? b = some o) → St c' (fun b o => K b o ∨ (b = c.env.locals ∧ o = oL)) [(x, ov)] (h1.upd (I + 1) (.list (ws.take i))) { s' with heap := h', toks := tk } := by
      intro h' tk hk
      obtain ⟨m, hn, hm⟩ := S'.ns
      have hIL : I ≠ c'.env.locals := ne02 I
      refine ⟨⟨fun b o e => hk b o (fun q => by rw [q, hn0 _ (Nat.le_refl _)] at e; cases e) (S'.rep.base b o e), fun b o k => hk b o (fun q => hKn _ o (Nat.le_of_eq (Eq.symm q)) k) (S'.rep.kept b o k), fun b bo e => ?_, ?_⟩, ⟨m, ?_, hm⟩, S'.LK, S'.Lhp, S'.names, S'.os, S'.gens⟩
      · obtain ⟨x1, x2, o, e', r⟩ := S'.rep.obj b bo e
        exact ⟨x1, x2, o, hk b o (fun q => by rw [q, hhI] at e; cases e) e', r⟩
      · obtain ⟨o, es, ep, ho, r⟩ := hn
        exact Nat.le_trans c'.above (Nat.le_of_lt (Heap.lt_size (hk _ _ (Ne.symm hIL) ho)))
      · obtain ⟨o, es, ep, ho, r⟩ := hn
        exact ⟨o, es, ep, hk _ _ (Ne.symm hIL) ho, r⟩
    obtain ⟨o', ho', ⟨ys, n', rfl, hys⟩, _⟩ := S'.obj_at ha'
    have hlen : ys.length = vs.length := by rw [← hys]; simp
    by_cases hlt : i < vs.length
    · obtain ⟨y, hy⟩ : ∃ y, ys[i]? = some y := ⟨_, List.getElem?_eq_getElem (hlen ▸ hlt : i < ys.length)⟩
      have hvi : vs[i]? = some (er y) := by rw [← hys, List.getElem?_map, hy]; rfl
      obtain ⟨w, hw⟩ : ∃ w, ws[i]? = some w := ⟨_, List.getElem?_eq_getElem (hwl ▸ hlt : i < ws.length)⟩
      refine wpAny_pyNext_list_item (items := ys.toArray) (x := y) hst ⟨_, ho', rfl, _, rfl⟩ (by simp [hy]) fun h' hit' hsb' => ?_
      have T1 := but s'.toks fun b o hb e => (hsb'.2 b hb).trans e
      refine wpAny_assign_Name (store_St T1 (.head : SetL x (er y) [(x, ov)] [(x, some (er y))]) fun s2 T2 hk2 => ?_)
      obtain ⟨oI, hoI, hri⟩ := hit'
      have hoI2 : s2.heap.get? I = some oI := hk2 I oI (ne02 I) hoI
      refine wpAny_tests_nil ?_
      simp only [if_true]
      have T3 : St c' (fun b o => (K b o ∨ (b = c.env.locals ∧ o = oL)) ∨ (b = I ∧ o = oI)) [(x, some (er y))] (h1.upd (I + 1) (.list (ws.take i))) s2 := by
        refine ⟨⟨T2.rep.base, fun b o k => ?_, fun b bo e => ?_, T2.rep.size⟩, T2.ns, fun o k => ?_, T2.Lhp, T2.names, T2.os, T2.gens⟩
        · rcases k with k | ⟨rfl, rfl⟩
          · exact T2.rep.kept b o k
          · exact hoI2
        · obtain ⟨x1, x2, x3⟩ := T2.rep.obj b bo e
          refine ⟨x1, fun o k => ?_, x3⟩
          rcases k with k | ⟨q, _⟩
          · exact x2 o k
          · rw [q, hhI] at e; cases e
        · rcases k with k | ⟨q, _⟩
          · exact T2.LK o k
          · exact absurd q (ne20 I)
      refine wpAny_mono (helt i _ w c' (I + 1) (ws.take i) (fun u h' => u = w ∧ h1.upd (I + 1) (.list (ws.take i)) = h') hvi hw rfl rfl rfl rfl (hpn _ (Nat.le_succ _)) ⟨rfl, rfl⟩ _ s2 T3) (fun u s4 hh => ?_) fun _ _ x => x.elim
      obtain ⟨h4, T4, hu, hh4⟩ := hh
      subst hh4
      obtain ⟨oD, hoD, ⟨zs, nz, rfl, hzs⟩, _⟩ := T4.obj_at (a := I + 1) (Hp.upd_self ..)
      have hzl : zs.length ≤ 1000 := by
        have := congrArg List.length hzs
        rw [List.length_map, List.length_take, hwl] at this; exact take_short this hvl
      refine append_at hoD (fun h5 hs5 hD5 => ?_) (by rw [sizeLine_eq]; simp; lia)
      have T5 := T4.put (a := I + 1) (ao' := .list (ws.take (i + 1))) (Hp.upd_self ..) hs5 hD5 ⟨zs ++ [u], nz + 1, by simp, by
        rw [List.map_append, hzs, List.take_add_one, hw, ← hu]; rfl⟩ s4.toks
      rw [Hp.upd_upd] at T5
      refine ⟨vs.length + 1 - (i + 1), one_less hlt, i + 1, _, rfl, hlt, T5.kle fun _ _ k => .inl k, ⟨oI, ?_, hri⟩⟩
      exact (hs5.2 I (ne01 I)).trans (T4.rep.kept I oI (.inr ⟨rfl, rfl⟩))
    · obtain rfl : i = vs.length := not_more hi hlt
      refine wpAny_pyNext_list_end (items := ys.toArray) c.room.handled hst ⟨_, ho', rfl, _, rfl⟩ (by simp [hlen]) fun h' he => ?_
      have T1 := but s'.toks fun b o hb e => he b o hb e
      obtain ⟨m, hn, hm⟩ := T1.ns
      refine ⟨m, hn, fun h'' hs'' => ?_⟩
      rw [← hwl, List.take_length] at T1
      have keep : ∀ b o, b ≠ I + 1 + 1 → h'.get? b = some o → h''.get? b = some o := fun b o hb e => (hs''.2 b hb).trans e
      have R2 : RepH c.g (fun b o => K b o ∨ (b = c.env.locals ∧ o = oL)) (h1.upd (I + 1) (.list ws)) h'' := by
        refine ⟨fun b o e => keep b o (fun q => by rw [q, hn0 _ (le02 I)] at e; cases e) (T1.rep.base b o e), fun b o k => keep b o (fun q => hKn _ o (by rw [q]; exact le02 I) k) (T1.rep.kept b o k), fun b bo e => ?_, ?_⟩
        · obtain ⟨x1, x2, o, e', r⟩ := T1.rep.obj b bo e
          exact ⟨x1, x2, o, keep b o (fun q => by rw [q, show (h1.upd (I + 1) (.list ws)) (I + 1 + 1) = Option.none from T1.Lhp] at e; cases e) e', r⟩
        · have h1 := S1.rep.size
          rw [hI] at h1
          have hD2 := T1.obj_at (a := I + 1) (Hp.upd_self ..)
          obtain ⟨oD, hoD, _⟩ := hD2
          have h2 : @LT.lt Nat _ (I + 1) h''.objs.size := Heap.lt_size (keep _ _ (ne12 I) hoD)
          exact le_of_two h1 h2
      exact ⟨_, back _ _ R2 T1.os T1.gens, hP _ (hpn _ (Nat.le_succ _))⟩
  refine codeAny_compStart_list loop ?_
  have W := Walks.list (prog := c.g.prog) (w := c.g.w) c.room.handled I a (Nat.ne_of_lt (lt1 ho)) xs.toArray
  exact W.self 0 _ _ _ ⟨⟨_, hit, rfl, rfl⟩, ⟨_, old _ _ ho, rfl, _, rfl⟩⟩ loop
end
end
section
theorem TableAt.push {hp : Hp} {a r : Addr} {T : List Row} {t : Row} {vs : List PV} (h : TableAt hp a T) (hv : hp a = some (.list vs)) (hr : hp r = some (.tuple (rowT t))) : TableAt (hp.upd a (.list (vs ++ [.ref r]))) a (T ++ [t]) := by
  obtain ⟨refs, h1, h2, h3⟩ := h
  rw [h1] at hv; cases hv
  have ne : ∀ {b : Addr} {ts : List PV}, hp b = some (.tuple ts) → b ≠ a := fun e q => by rw [q, h1] at e; cases e
  refine ⟨refs ++ [r], by rw [Hp.upd_self, List.map_append]; rfl, by simp [h2], fun i b u e1 e2 => ?_⟩
  rcases Nat.lt_or_ge i refs.length with l | l
  · rw [List.getElem?_append_left l] at e1
    rw [List.getElem?_append_left (by lia)] at e2
    have := h3 i b u e1 e2
    rw [Hp.upd_ne _ _ (ne this)]; exact this
  · have hi : i = refs.length := by
      have := (List.getElem?_eq_some_iff.mp e1).1
      simp at this; lia
    subst hi
    rw [List.getElem?_append_right (Nat.le_refl _), Nat.sub_self] at e1
    rw [h2, List.getElem?_append_right (Nat.le_refl _), Nat.sub_self] at e2
    cases e1; cases e2
    rw [Hp.upd_ne _ _ (ne hr)]; exact hr
theorem wordL_len : ∀ (m k B : Nat), k ≤ B → (B = 4 ∧ m = 1 ∨ B = 20 ∧ m = 2 ∨ B = 84 ∧ m = 3 ∨ B = 340 ∧ m = 4) → (wordL k).length ≤ m := by
  have h0 : ∀ k, k = 0 → (wordL k).length ≤ 0 := by rintro _ rfl; rw [wordL_zero]; exact Nat.le_refl _
  have st : ∀ (B m : Nat), (∀ k, k ≤ B → (wordL k).length ≤ m) → ∀ k, k ≤ 4 * B + 4 → (wordL k).length ≤ m + 1 := by
    intro B m h k hk
    rcases Nat.eq_zero_or_pos k with e | e
    · have := h0 k e; lia
    · rw [wordL_succ e, List.length_cons]
      have := h ((k - 1) / 4) (by lia)
      lia
  have h1 := st 0 0 (fun k hk => h0 k (by lia))
  have h2 := st 4 1 h1
  have h3 := st 20 2 h2
  have h4 := st 84 3 h3
  rintro m k B hk (⟨rfl, rfl⟩ | ⟨rfl, rfl⟩ | ⟨rfl, rfl⟩ | ⟨rfl, rfl⟩)
  · exact h1 k hk
  · exact h2 k hk
  · exact h3 k hk
  · exact h4 k hk

structure Good (kind : Int) (T : List Row) (n : Nat) : Prop where
  len : T.length ≤ n
  r0 : ∀ t ∈ T, t.r ≠ 0
  rn : ∀ t ∈ T, t.r ≤ n
  p10 : ∀ t ∈ T, t.p.length ≤ 10
  q2 : ∀ t ∈ T, t.q.length ≤ 2
  uniq : ∀ t ∈ T, ∀ t' ∈ T, t.p = t'.p → t = t'
  runiq : ∀ t ∈ T, ∀ t' ∈ T, 0 < t.r → t.r = t'.r → t = t'
  ne : kind = 2 ∨ kind = 4 → ∀ t ∈ T, t.p ≠ []
  nd : (T.map Row.p).Nodup
theorem Good.nil (kind : Int) : Good kind [] 0 := ⟨Nat.le_refl _, (by simp), (by simp), (by simp), (by simp), (by simp), (by simp), (by simp), List.nodup_nil⟩
theorem Good.skip {kind : Int} {T : List Row} {n : Nat} (h : Good kind T n) : Good kind T (n + 1) :=
  ⟨by have := h.len; lia, h.r0, fun t ht => by have := h.rn t ht; lia, h.p10, h.q2, h.uniq, h.runiq, h.ne, h.nd⟩
theorem Good.add {kind : Int} {T : List Row} {n : Nat} {t : Row} (h : Good kind T n) (hr : t.r = -1 ∨ t.r = ((n + 1 : Nat) : Int)) (hp : t.p.length ≤ 10) (hq : t.q.length ≤ 2) (hu : ∀ u ∈ T, u.p ≠ t.p) (hne : kind = 2 ∨ kind = 4 → t.p ≠ []) : Good kind (T ++ [t]) (n + 1) := by
  have mem : ∀ {u}, u ∈ T ++ [t] → u ∈ T ∨ u = t := fun hu => by simpa using hu
  refine ⟨by rw [List.length_append]; have := h.len; simp; lia, fun u hu' => ?_, fun u hu' => ?_, fun u hu' => ?_, fun u hu' => ?_, fun u hu' v hv e => ?_, fun u hu' v hv h0 e => ?_, fun k u hu' => ?_, ?_⟩
  · rcases mem hu' with q | rfl
    · exact h.r0 u q
    · lia
  · rcases mem hu' with q | rfl
    · have := h.rn u q; lia
    · lia
  · rcases mem hu' with q | rfl
    · exact h.p10 u q
    · exact hp
  · rcases mem hu' with q | rfl
    · exact h.q2 u q
    · exact hq
  · rcases mem hu' with q | rfl
    · rcases mem hv with q' | rfl
      · exact h.uniq u q v q' e
      · exact absurd e (hu u q)
    · rcases mem hv with q' | rfl
      · exact absurd e.symm (hu v q')
      · rfl
  · rcases mem hu' with q | rfl
    · rcases mem hv with q' | rfl
      · exact h.runiq u q v q' h0 e
      · have := h.rn u q; lia
    · rcases mem hv with q' | rfl
      · have := h.rn v q'; lia
      · rfl
  · rcases mem hu' with q | rfl
    · exact h.ne k u q
    · exact hne k
  · rw [List.map_append, List.nodup_append]
    refine ⟨h.nd, by simp, fun a ha b hb' => ?_⟩
    obtain ⟨u, hu', rfl⟩ := List.mem_map.mp ha
    simp at hb'
    subst hb'
    exact hu u hu'
theorem Hp.le_new {hp h : Hp} {a : Addr} (hle : hp.le h) (hn : hp a = Option.none) (o : AO) : hp.le (h.upd a o) := fun b x e => by
  by_cases hb : b = a
  · subst hb; rw [hn] at e; cases e
  · rw [Hp.upd_ne _ _ hb]; exact hle b x e

set_option maxHeartbeats 4000000 in
theorem table_ok {g : Gl} {sa : Addr} {ns : List Int} {base : Nat} {kind : Int} {hp : Hp} {P : PV → Hp → Prop} (hS : hp sa = some (.list (ns.map .int))) (hn0 : 0 < ns.length) (hn1 : ns.length ≤ 100) (hb : base ≤ 24)
    (h : ∀ (ta : Addr) (hp' : Hp) (T : List Row), hp ta = Option.none → hp.le hp' → TableAt hp' ta T → TabOk T → (kind = 2 ∨ kind = 4 → ∀ t ∈ T, t.p ≠ []) → (∀ t ∈ T, ∀ t' ∈ T, 0 < t.r → t.r = t'.r → t = t') → (T.map Row.p).Nodup → P (.ref ta) hp') :
    FnOk g 2 250 [.ref sa, .int base, .int kind] hp P := by
  refine' fn_intro [("script" : Str), ("base" : Str), ("kind" : Str)] [("n" : Str), ("one" : Str), ("two" : Str), ("table" : Str), ("j" : Str), ("piece" : Str), ("mode" : Str)] ?ho ?hcd ?hbind ?hlen ?hloc ?hnd ?_ ?c1 ?c2 ?c3 ?c4
  walk_at "m fn"
  case hbind => (repeat refine all_cons fun _ => ?_); exact all_nil rfl
  intro c hg hd hs
  subst hg
  walk_at "m loc"
  repeat walk1
  rw [show (base : Int) + 7 = ((base + 7 : Nat) : Int) from rfl]
  refine Cal_fn (at_ok hS hn0 hn1 (by lia) ?_) (by lia)
  repeat walk1
  generalize atI ns (base + 7) = n0
  refine Cal_fn (word_ok (by lia) (by lia) ?_) (by lia)
  have l1 := wordL_len 1 (n0 % 4 + 1).toNat 4 (by lia) (by lia)
  generalize wordL (n0 % 4 + 1).toNat = one at l1 ⊢
  repeat walk1
  refine Cal_fn (word_ok (by lia) (by lia) ?_) (by lia)
  have l2 := wordL_len 2 (n0 / 4 % 16 + 5).toNat 20 (by lia) (by lia)
  generalize wordL (n0 / 4 % 16 + 5).toNat = two at l2 ⊢
  repeat walk1
  refine ⟨by simp, fun ta hta => ?_⟩
  repeat walk1
  refine S_for_range ?_
  repeat walk1
  refine Cal_range2 fun rr hrr => ?_
  obtain ⟨r1, r2⟩ := small_range (a := 1) (b := 7) (by lia) (by lia) (by lia) (by lia)
  refine ⟨rr, 1, 7, 1, 6, _, rfl, Hp.upd_self .., r1, by rw [r2]; rfl, Hp.le_upd hrr, ?_⟩
  refine ⟨fun n lo h' => ∃ (T : List Row) (o1 o2 o3 o4 : Option PV), lo = [lR "script" sa, lI "base" base, lI "kind" kind, lO "n" o1, lS "one" one, lS "two" two, lR "table" ta, lO "j" o2, lO "piece" o3, lO "mode" o4] ∧ hp.le h' ∧ TableAt h' ta T ∧ Good kind T n,
    ⟨[], _, _, _, _, rfl, Hp.le_upd hta, ⟨[], Hp.upd_self .., rfl, fun i r t e => by simp at e⟩, Good.nil kind⟩, ?_, ?_⟩
  · rintro n lo h' hn ⟨T, o1, o2, o3, o4, hlo, hle, hT, hG⟩
    subst hlo
    repeat walk1
    rw [show (base : Int) + (1 + (n : Nat) * 1) = ((base + (1 + n) : Nat) : Int) from by lia]
    refine Cal_fn (at_ok (hle _ _ hS) hn0 hn1 (by lia) ?_) (by lia)
    repeat walk1
    generalize atI ns (base + (1 + n)) = m
    refine Cal_fn (word_ok (by lia) (by lia) ?_) (by lia)
    have lp := wordL_len 3 (m % 85).toNat 84 (by lia) (by lia)
    generalize wordL (m % 85).toNat = piece at lp ⊢
    repeat walk1
    refine B_and2 (decide (piece = [])) (decide (kind = 2) || decide (kind = 4)) (fun P' hP => ?_) (fun _ P' hP => ?_) ?_
    · repeat walk1
      exact hP
    · refine B_or2 (decide (kind = 2)) (decide (kind = 4)) (fun P' hP => ?_) (fun _ P' hP => ?_) hP
      · repeat walk1
        exact hP
      · repeat walk1
        exact hP
    refine ⟨fun hb1 => ?_, fun hb1 => ?_⟩
    · repeat walk1
      refine turn_cont ?_
      exact ⟨T, _, _, _, _, rfl, hle, hT, hG.skip⟩
    · have hne : kind = 2 ∨ kind = 4 → piece ≠ [] := by
        intro k e
        rw [decide_eq_true e, Bool.true_and, Bool.or_eq_false_iff, decide_eq_false_iff_not, decide_eq_false_iff_not] at hb1
        rcases k with k | k
        · exact hb1.1 k
        · exact hb1.2 k
      repeat walk1
      refine E_listcomp (cl := []) (by rfl) (by decide) (by rfl) (by decide) (by rfl) (by decide) ?_
      walk1
      obtain ⟨refs, hta', hrl, hrt⟩ := hT
      have hT : TableAt h' ta T := ⟨refs, hta', hrl, hrt⟩
      have hTl := hG.len
      refine ⟨ta, refs.map .ref, T.map fun t => .str t.p, rfl, hta', by simp; lia, by simp [hrl], fun i v w c' D ys P' hv hw e1 e2 e3 e4 hD hP => ?_, fun r hr => ?_⟩
      · rw [List.getElem?_map, Option.map_eq_some_iff] at hv hw
        obtain ⟨r, hr, rfl⟩ := hv
        obtain ⟨t, ht, rfl⟩ := hw
        have htu := hrt i r t hr ht
        have htu' : (h'.upd D (.list ys)) r = some (.tuple (rowT t)) := (Hp.upd_ne _ _ (ne_of_some htu hD)).trans htu
        repeat walk1
        exact Sub_tuple htu' (by lia) (by lia) (v := .str t.p) rfl hP
      rw [show (T.map fun t => PV.str t.p) = (T.map Row.p).map PV.str from by rw [List.map_map]; rfl]
      refine Cmp_in_list (xs := T.map Row.p) (Hp.upd_self ..) ?_
      have hT2 := hT.mono (Hp.le_upd (o := .list ((T.map Row.p).map PV.str)) hr)
      have hle2 := Hp.tr hle (Hp.le_upd (o := .list ((T.map Row.p).map PV.str)) hr)
      have hta2 : (h'.upd r (.list ((T.map Row.p).map PV.str))) ta = some (.list (refs.map .ref)) := Hp.le_upd hr _ _ hta'
      clear hT hrt
      generalize h'.upd r (.list ((T.map Row.p).map PV.str)) = h2 at hT2 hle2 hta2 ⊢
      repeat walk1
      refine ⟨fun hb2 => ?_, fun hb2 => ?_⟩
      · repeat walk1
        refine turn_cont ?_
        exact ⟨T, _, _, _, _, rfl, hle2, hT2, hG.skip⟩
      · have hnew : ∀ u ∈ T, u.p ≠ piece := fun u hu e => of_decide_eq_false hb2 (e ▸ List.mem_map_of_mem hu)
        repeat walk1
        refine ⟨fun hb3 => ?_, fun hb3 => ?_⟩
        · repeat walk1
          refine E_append ?_
          walk1
          refine ⟨ta, refs.map .ref, rfl, hta2, ?_⟩
          repeat walk1
          refine ⟨by simp, fun r' hr' => ?_⟩
          have hne' : ta ≠ r' := ne_of_some hta2 hr'
          refine ⟨refs.map .ref, (Hp.upd_ne _ _ hne').trans hta2, by simp; lia, ?_⟩
          repeat walk1
          refine turn_next ?_
          exact ⟨T ++ [Row.mk piece (-1) ([])], _, _, _, _, rfl, Hp.le_new (Hp.tr hle2 (Hp.le_upd hr')) hta _, TableAt.push (t := Row.mk piece (-1) ([])) (hT2.mono (Hp.le_upd hr')) ((Hp.upd_ne _ _ hne').trans hta2) (Hp.upd_self ..), hG.add (t := Row.mk piece (-1) ([])) (by dsimp only; lia) (by dsimp only; lia) (by dsimp only; first | lia | simp) hnew hne⟩
        · repeat walk1
          refine ⟨fun hb4 => ?_, fun hb4 => ?_⟩
          · repeat walk1
            refine E_append ?_
            walk1
            refine ⟨ta, refs.map .ref, rfl, hta2, ?_⟩
            repeat walk1
            refine ⟨by simp, fun r' hr' => ?_⟩
            have hne' : ta ≠ r' := ne_of_some hta2 hr'
            refine ⟨refs.map .ref, (Hp.upd_ne _ _ hne').trans hta2, by simp; lia, ?_⟩
            repeat walk1
            refine turn_next ?_
            exact ⟨T ++ [Row.mk piece ((1 + (n : Nat) * 1)) ([])], _, _, _, _, rfl, Hp.le_new (Hp.tr hle2 (Hp.le_upd hr')) hta _, TableAt.push (t := Row.mk piece ((1 + (n : Nat) * 1)) ([])) (hT2.mono (Hp.le_upd hr')) ((Hp.upd_ne _ _ hne').trans hta2) (Hp.upd_self ..), hG.add (t := Row.mk piece ((1 + (n : Nat) * 1)) ([])) (by dsimp only; lia) (by dsimp only; lia) (by dsimp only; first | lia | simp) hnew hne⟩
          · repeat walk1
            refine ⟨fun hb5 => ?_, fun hb5 => ?_⟩
            · repeat walk1
              refine E_append ?_
              walk1
              refine ⟨ta, refs.map .ref, rfl, hta2, ?_⟩
              repeat walk1
              refine ⟨by simp, fun r' hr' => ?_⟩
              have hne' : ta ≠ r' := ne_of_some hta2 hr'
              refine ⟨refs.map .ref, (Hp.upd_ne _ _ hne').trans hta2, by simp; lia, ?_⟩
              repeat walk1
              refine turn_next ?_
              exact ⟨T ++ [Row.mk piece ((1 + (n : Nat) * 1)) (one)], _, _, _, _, rfl, Hp.le_new (Hp.tr hle2 (Hp.le_upd hr')) hta _, TableAt.push (t := Row.mk piece ((1 + (n : Nat) * 1)) (one)) (hT2.mono (Hp.le_upd hr')) ((Hp.upd_ne _ _ hne').trans hta2) (Hp.upd_self ..), hG.add (t := Row.mk piece ((1 + (n : Nat) * 1)) (one)) (by dsimp only; lia) (by dsimp only; lia) (by dsimp only; first | lia | simp) hnew hne⟩
            · repeat walk1
              refine E_append ?_
              walk1
              refine ⟨ta, refs.map .ref, rfl, hta2, ?_⟩
              repeat walk1
              refine Cal_len_str (by lia) ?_
              repeat walk1
              refine Cal_max ?_
              repeat walk1
              refine ⟨by simp, fun r' hr' => ?_⟩
              have hne' : ta ≠ r' := ne_of_some hta2 hr'
              refine ⟨refs.map .ref, (Hp.upd_ne _ _ hne').trans hta2, by simp; lia, ?_⟩
              repeat walk1
              refine turn_next ?_
              exact ⟨T ++ [Row.mk piece ((1 + (n : Nat) * 1)) (two.take (max 1 (piece.length : Int)).toNat)], _, _, _, _, rfl, Hp.le_new (Hp.tr hle2 (Hp.le_upd hr')) hta _, TableAt.push (t := Row.mk piece ((1 + (n : Nat) * 1)) (two.take (max 1 (piece.length : Int)).toNat)) (hT2.mono (Hp.le_upd hr')) ((Hp.upd_ne _ _ hne').trans hta2) (Hp.upd_self ..), hG.add (t := Row.mk piece ((1 + (n : Nat) * 1)) (two.take (max 1 (piece.length : Int)).toNat)) (by dsimp only; lia) (by dsimp only; lia) (by dsimp only; rw [List.length_take]; lia) hnew hne⟩
  · rintro lo h' ⟨T, o1, o2, o3, o4, hlo, hle, hT, hG⟩
    subst hlo
    obtain ⟨refs, hta', hrl, hrt⟩ := hT
    have hT : TableAt h' ta T := ⟨refs, hta', hrl, hrt⟩
    have hTl := hG.len
    repeat walk1
    refine Tru_list hta' (by simp; lia) ?_
    repeat walk1
    refine ⟨fun hb1 => ?_, fun hb1 => ?_⟩
    · have hT0 : refs = [] := by
        cases refs with
        | nil => rfl
        | cons a b => simp at hb1
      subst hT0
      have hT0 : T = [] := List.length_eq_zero_iff.mp hrl.symm
      subst hT0
      repeat walk1
      refine E_append ?_
      walk1
      refine ⟨ta, [], rfl, hta', ?_⟩
      repeat walk1
      refine ⟨by simp, fun r hr => ?_⟩
      have hne : ta ≠ r := ne_of_some hta' hr
      refine ⟨[], (Hp.upd_ne _ _ hne).trans hta', by simp, ?_⟩
      repeat walk1
      refine h ta _ [⟨[97], 1, []⟩] hta (Hp.le_new (Hp.tr hle (Hp.le_upd hr)) hta _) (TableAt.push (t := ⟨[97], 1, []⟩) (hT.mono (Hp.le_upd hr)) ((Hp.upd_ne _ _ hne).trans hta') (Hp.upd_self ..)) ?_ ?_ ?_ ?_
      · refine ⟨by simp, by simp, ?_, ?_, ?_, ?_, ?_⟩ <;> simp
      · simp
      · simp
      · simp
    · repeat walk1
      have hpos : 0 < T.length := by
        rw [← hrl]
        cases refs with
        | nil => simp at hb1
        | cons a b => simp
      exact h ta _ T hta hle hT ⟨hpos, hG.len, hG.r0, fun t ht => hG.rn t ht, hG.p10, hG.q2, hG.uniq⟩ hG.ne hG.runiq hG.nd
end
section
open PySem PySem.W PyProof.Rows PySem.Calls
set_option Elab.async false
set_option autoImplicit false
set_option linter.unusedVariables false

theorem strs_er : ∀ {vs : List Value} {ss : List Str}, StrsAre vs ss → vs.map er = (ss.map fun x => x.cps.toList).map .str
  | _, _, .nil => rfl
  | _, _, .cons x t r => by rw [List.map_cons, strs_er r]; rfl
theorem rising_pw : ∀ (l : List Str) (p : Str), risingS p l = true → (p :: l).Pairwise fun a b => ¬ b.cps.toList < a.cps.toList
  | [], p, _ => by simp
  | x :: r, p, h => by
    rw [risingS, Bool.and_eq_true, Bool.not_eq_true', ltCps_eq, decide_eq_false_iff_not] at h
    have ih := rising_pw r x h.2
    rw [List.pairwise_cons]
    refine ⟨fun y hy => ?_, ih⟩
    rcases List.mem_cons.mp hy with rfl | hy
    · exact h.1
    · have h2 := (List.pairwise_cons.mp ih).1 y hy
      intro q
      rcases lt_tri p.cps.toList x.cps.toList with e | e | e
      · exact h2 (lt_tr q e)
      · rw [e] at q; exact h2 q
      · exact h.1 e
theorem sortedS_pw : ∀ (l : List Str), sortedS l = true → l.Pairwise fun a b => ¬ b.cps.toList < a.cps.toList
  | [], _ => List.Pairwise.nil
  | x :: r, h => rising_pw r x h
section
variable {c : Cx} {loc : Loc} {hp : Hp}
theorem Cal_sorted {a : Addr} {xs : List LN} {P : PV → Hp → Prop} (ha : hp a = some (.list (xs.map .str))) (hl : xs.length < 64)
    (h : ∀ (r : Addr) (ys : List LN), hp r = Option.none → ys.Perm xs → ys.Pairwise (fun u v => ¬ v < u) → P (.ref r) (hp.upd r (.list (ys.map .str)))) : Cal c (.builtin "sorted") [.ref a] loc hp P := by
  intro vs hv K s S
  obtain ⟨v, rfl, h1⟩ := one_arg hv
  obtain rfl := er_ref h1
  obtain ⟨o, ho, ⟨zs, n, rfl, hzs⟩, _⟩ := S.obj_at ha
  have hzl : zs.length = xs.length := by have := congrArg List.length hzs; simpa using this
  refine sorted_strs (vs := zs) ⟨_, ho, rfl, _, rfl⟩ (strsAre_of hzs) (by lia) fun out ss' hS hp' hs => ?_
  obtain ⟨e, he⟩ := sortedAll_at s.heap zs out
  have S2 := S.ext (h' := sortedAll s.heap zs out) (fun _ _ => sortedAll_old) s.toks
  have hn : ∀ o, s.heap.get? (s.heap.objs.size + 1) = some o → False := fun o q => by have : @LT.lt Nat _ _ _ := Heap.lt_size q; lia
  have hnh : hp (s.heap.objs.size + 1) = Option.none := by
    cases q : hp (s.heap.objs.size + 1) with
    | none => rfl
    | some ao => obtain ⟨_, _, o, e, _⟩ := S.rep.obj _ _ q; exact (hn o e).elim
  refine ⟨hp.upd (s.heap.objs.size + 1) (.list ((ss'.map fun x : Str => x.cps.toList).map .str)), S2.know (ao := .list ((ss'.map fun x : Str => x.cps.toList).map .str)) he ⟨out.toList, e, rfl, strs_er hS⟩ ?_ ?_ ?_, h (s.heap.objs.size + 1) (ss'.map fun x : Str => x.cps.toList) hnh ?_ ?_⟩
  · cases q : c.g.h₀.get? (s.heap.objs.size + 1) with
    | none => rfl
    | some o => exact (hn o (S.rep.base _ _ q)).elim
  · intro q
    obtain ⟨m, ⟨o, _, _, ho, _⟩, _⟩ := S.ns
    exact hn o (q ▸ ho)
  · intro o k; exact hn o (S.rep.kept _ _ k)
  · have := hp'.map fun x : Str => x.cps.toList
    rw [List.map_map] at this
    have e : (xs.map ((fun x : Str => x.cps.toList) ∘ fun x => ⟨x.toArray⟩)) = xs := by
      rw [show ((fun x : Str => x.cps.toList) ∘ fun x : LN => (⟨x.toArray⟩ : Str)) = id from by funext x; simp, List.map_id]
    rwa [e] at this
  · rw [List.pairwise_map]; exact sortedS_pw _ hs

/-- a def of two parameters, the second kept in a cell -/
theorem fn_intro_cell {g : Gl} {d : Nat} {fa : Addr} {a1 a2 : PV} {P : PV → Hp → Prop} {name qual : Str} {params : Arguments} {body : List Stmt} {scope : Scope} {dV kV doc pm cdv ct oc : Value} {an od : Option Addr} {osl : Array (Option Value)}
    (n1 n2 : Str) (lns : List Str)
    (ho : (hd.heap_39 g.w.params).lookup fa = some ⟨oc, od, .func (fnOf name qual params body scope dV kV doc pm an cdv ct), osl⟩) (hcd : codeIn (hd.heap_39 g.w.params) cdv qual = true)
    (hbind : ∀ v1 v2 : Value, bindArgs (fnOf name qual params body scope dV kV doc pm an cdv ct) ⟨[v1, v2], []⟩ = pure [(n1, v1), (n2, v2)])
    (h2 : scope.names.lookup n2 = some .cell) (hcl : ∀ n, cellsFrom n scope.names [] = [(n2, n)])
    (hloc : ((n1 :: lns).all fun x => decide (scope.names.lookup x = some .local) && !(x == ("__debug__" : Str))) = true) (hnd : (n1 :: lns).Nodup)
    (h : ∀ (c : Cx) (cb : Addr), c.g = g → c.d = d → c.env.scope = scope → c.env.cells = [(n2, cb)] → hp cb = Option.none →
      TSs c body ((n1, some a1) :: lns.map (fun x => (x, Option.none))) (hp.upd cb (.cell a2)) (Rt P))
    (hco : scope.isCoroutine = false := by rfl) (hgen : scope.isGenerator = false := by rfl) (hk : scope.kind = .function := by rfl) : FnOk g (d + 1) fa [a1, a2] hp P := by
  intro A K s vs R hA hr hos hgens hv hR
  obtain ⟨v1, v2, rfl, e1, e2⟩ := two_args hv
  have ok := List.all_eq_true.mp hloc
  have loc1 : ∀ x ∈ n1 :: lns, scope.names.lookup x = some .local := fun x hx => by
    have := ok x hx; simp only [Bool.and_eq_true, decide_eq_true_eq] at this; exact this.1
  have loc2 : ∀ x ∈ n1 :: lns, (x == ("__debug__" : Str)) = false := fun x hx => by
    have := ok x hx; simp only [Bool.and_eq_true, Bool.not_eq_true'] at this; exact this.2
  have X := g.kin.keeps hr.base
  have k1 := loc1 n1 (List.mem_cons_self ..)
  refine codeAny_call_cells (fd := fnOf name qual params body scope dV kV doc pm an cdv ct) (body := body) (binds := [(n1, v1), (n2, v2)]) (by have := hA.depth; show A.depth < 1000; lia) (X _ _ ho) rfl (g.top.nolimit.keeps hr.base) (codeRec_of X hcd) rfl
    (hbind v1 v2) rfl (fun x hx => ?_) (fun s₁ I => ?_) hco hgen hk
  · rcases List.mem_cons.mp hx with rfl | hx
    · exact .inl k1
    · rw [List.mem_singleton] at hx; subst hx
      refine .inr ⟨h2, ?_⟩
      show ((cellsFrom _ scope.names []).lookup n2).isSome = true
      rw [hcl]; simp
  obtain ⟨h₁, tk, rfl, hk₁⟩ := I.done
  have hL0 : ∀ o, s.heap.get? s.heap.objs.size = some o → False := fun o q => Nat.lt_irrefl _ (Heap.lt_size q)
  have hC0 : ∀ o, s.heap.get? (s.heap.objs.size + 1) = some o → False := fun o q => by have : @LT.lt Nat _ _ _ := Heap.lt_size q; lia
  let env : Env := callEnvC (fnOf name qual params body scope dV kV doc pm an cdv ct) s.heap.objs.size fa
  have hcells : env.cells = [(n2, s.heap.objs.size + 1)] := hcl _
  have hns : h₁.Ns s.heap.objs.size _ := I.toInCall.ns
  have hc2 : h₁.IsCell (s.heap.objs.size + 1) (some v2) := by
    have q1 := I.cell n2 (s.heap.objs.size + 1) (by show env.cells.lookup n2 = _; rw [hcells]; simp)
    have q2 : bindC (callEnvC (fnOf name qual params body scope dV kV doc pm an cdv ct) s.heap.objs.size fa).kindOf [(n1, v1), (n2, v2)] (fun _ => Option.none) n2 = some v2 := by
      show bindC (fun x => scope.names.lookup x) _ _ n2 = _
      simp only [bindC, k1, h2, if_true]
      simp
    rw [q2] at q1; exact q1
  let c : Cx := Cx.mk g (A.deeper env) d env (n1 :: lns) hk (fun x hx => ⟨loc1 x hx, loc2 x hx⟩) hnd hr.size ⟨rfl, rfl⟩
    ⟨hA.handled, by have := hA.depth; show A.depth + 1 + 2 * d ≤ 900; lia, by have := hA.units; show A.units + 3 + 20 * d ≤ 9000; lia⟩
  have hpn : ∀ b : Addr, (∀ o, s.heap.get? b = some o → False) → hp b = Option.none := fun b hb => by
    cases q : hp b with
    | none => rfl
    | some ao => obtain ⟨_, _, o, e, _⟩ := hr.obj b ao q; exact (hb o e).elim
  have hLC : s.heap.objs.size ≠ s.heap.objs.size + 1 := by lia
  have S : St c K ((n1, some a1) :: lns.map (fun x => (x, Option.none))) (hp.upd (s.heap.objs.size + 1) (.cell a2)) { s with heap := h₁, toks := tk } := by
    refine ⟨⟨fun a o e => hk₁ _ _ (hr.base a o e), fun a o k => hk₁ _ _ (hr.kept a o k), fun a ao e => ?_, Nat.le_trans hr.size (Nat.le_of_lt hns.lt)⟩, ⟨_, hns, fun x v hx => ?_⟩, fun o k => hL0 o (hr.kept _ _ k), ?_, ?_, hos, hgens⟩
    · by_cases hb : a = s.heap.objs.size + 1
      · subst hb
        rw [Hp.upd_self] at e; cases e
        obtain ⟨oc, hoc, hd⟩ := hc2
        refine ⟨?_, fun o k => hC0 o (hr.kept _ _ k), oc, hoc, v2, hd, e2⟩
        cases q : g.h₀.get? (s.heap.objs.size + 1) with
        | none => rfl
        | some o => exact (hC0 o (hr.base _ _ q)).elim
      · rw [Hp.upd_ne _ _ hb] at e
        obtain ⟨h1, h2, o, e', r⟩ := hr.obj a ao e
        exact ⟨h1, h2, o, hk₁ _ _ e', r⟩
    · rcases List.mem_cons.mp hx with q | q
      · cases q
        refine ⟨v1, ?_, e1⟩
        show bindL (fun x => scope.names.lookup x) [(n1, v1), (n2, v2)] _ n1 = _
        simp only [bindL, k1, h2, if_true]
        simp
      · obtain ⟨p, hp', e⟩ := List.mem_map.mp q
        cases e
    · show (hp.upd _ _) s.heap.objs.size = _
      rw [Hp.upd_ne _ _ hLC]; exact hpn _ hL0
    · show List.map _ _ = n1 :: lns
      rw [List.map_cons, List.map_map]
      congr 1
      exact List.map_id _
  refine wpAny_mono (h c (s.heap.objs.size + 1) rfl rfl rfl hcells (hpn _ hC0) K _ S) (fun f s' hh => ?_) fun _ _ x => x.elim
  obtain ⟨l, h', S', p⟩ := hh
  cases f with
  | next => exact hR .none s' h' S'.rep S'.os S'.gens p
  | brk => exact p.elim
  | cont => exact p.elim
  | ret v => exact hR v s' h' S'.rep S'.os S'.gens p
end
end
section
theorem RowsAt.push {hp : Hp} {a r dw : Addr} {R : List Am} {w : Am} {vs : List PV} (h : RowsAt hp a R) (hv : hp a = some (.list vs)) (hr : hp r = some (.inst 220 dw)) (hd : hp dw = some (.flds (amF w))) : RowsAt (hp.upd a (.list (vs ++ [.ref r]))) a (R ++ [w]) := by
  obtain ⟨refs, h1, h2, h3⟩ := h
  have hv' := hv
  rw [h1] at hv; cases hv
  have ne1 : ∀ {b : Addr} {C d : Addr}, hp b = some (.inst C d) → b ≠ a := fun e q => by rw [q, h1] at e; cases e
  have ne2 : ∀ {b : Addr} {fs}, hp b = some (.flds fs) → b ≠ a := fun e q => by rw [q, h1] at e; cases e
  refine ⟨refs ++ [r], by rw [Hp.upd_self, List.map_append]; rfl, by simp [h2], fun i b u e1 e2 => ?_⟩
  rcases Nat.lt_or_ge i refs.length with l | l
  · rw [List.getElem?_append_left l] at e1
    rw [List.getElem?_append_left (by lia)] at e2
    obtain ⟨dw', x1, x2⟩ := h3 i b u e1 e2
    exact ⟨dw', by rw [Hp.upd_ne _ _ (ne1 x1)]; exact x1, by rw [Hp.upd_ne _ _ (ne2 x2)]; exact x2⟩
  · have hi : i = refs.length := by
      have := (List.getElem?_eq_some_iff.mp e1).1
      simp at this; lia
    subst hi
    rw [List.getElem?_append_right (Nat.le_refl _), Nat.sub_self] at e1
    rw [h2, List.getElem?_append_right (Nat.le_refl _), Nat.sub_self] at e2
    cases e1; cases e2
    exact ⟨dw, by rw [Hp.upd_ne _ _ (ne1 hr)]; exact hr, by rw [Hp.upd_ne _ _ (ne2 hd)]; exact hd⟩
theorem none_of_le {a b : Hp} {x : Addr} (h : a.le b) (hn : b x = Option.none) : a x = Option.none := by
  cases q : a x with
  | none => rfl
  | some o => rw [h _ _ q] at hn; cases hn
/-- the key of a piece -/
def keyL (back : Bool) (p : LN) : LN := if back = true then p.reverse else p
theorem keyL_inj {back : Bool} {p q : LN} (h : keyL back p = keyL back q) : p = q := by
  unfold keyL at h; cases back
  · exact h
  · exact List.reverse_inj.mp h
theorem keyL_key (back : Bool) (p : LN) : keyL back (keyL back p) = p := by unfold keyL; cases back <;> simp
theorem keyL_len (back : Bool) (p : LN) : (keyL back p).length = p.length := by unfold keyL; cases back <;> simp
/-- a link in the making -/
def LinkP (ys : List LN) (i j : Nat) (L : Int) : Prop :=
  (L = -1 ∧ ∀ m, m < j → ¬ ys.getD m [] <+: ys.getD i []) ∨ ∃ q, q < j ∧ L = (q : Nat) ∧ ys.getD q [] <+: ys.getD i [] ∧ ∀ m, m < j → ys.getD m [] <+: ys.getD i [] → m ≤ q
theorem LinkP.hit {ys : List LN} {i j : Nat} (h : ys.getD j [] <+: ys.getD i []) : LinkP ys i (j + 1) (j : Nat) :=
  .inr ⟨j, Nat.lt_succ_self _, rfl, h, fun m hm _ => by lia⟩
theorem LinkP.miss {ys : List LN} {i j : Nat} {L : Int} (h : ¬ ys.getD j [] <+: ys.getD i []) (hL : LinkP ys i j L) : LinkP ys i (j + 1) L := by
  rcases hL with ⟨e, hm⟩ | ⟨q, hq, e, hp, hm⟩
  · refine .inl ⟨e, fun m hj => ?_⟩
    rcases Nat.lt_or_ge m j with l | l
    · exact hm m l
    · rw [show m = j from by lia]; exact h
  · refine .inr ⟨q, by lia, e, hp, fun m hj hx => ?_⟩
    rcases Nat.lt_or_ge m j with l | l
    · exact hm m l hx
    · rw [show m = j from by lia] at hx; exact absurd hx h
theorem take_eq_pre {a b : LN} : a.take b.length = b ↔ b <+: a := ⟨fun h => h ▸ List.take_prefix .., fun h => (List.prefix_iff_eq_take.mp h).symm⟩
/-- rows made so far -/
structure RowsTo (back : Bool) (T : List Row) (ys : List LN) (R : List Am) (i : Nat) : Prop where
  keys : (R.map fun w => keyL back w.s) = ys.take i
  links : ∀ k, k < i → LinkP ys k k (R.getD k am0).link
  of : ∀ w ∈ R, ∃ t ∈ T, w.s = t.p ∧ w.res = t.r
theorem RowsTo.len {back : Bool} {T : List Row} {ys : List LN} {R : List Am} {i : Nat} (h : RowsTo back T ys R i) (hi : i ≤ ys.length) : R.length = i := by
  have := congrArg List.length h.keys
  rw [List.length_map, List.length_take] at this; lia
theorem RowsTo.add {back : Bool} {T : List Row} {ys : List LN} {R : List Am} {i : Nat} {w : Am} {t : Row} (h : RowsTo back T ys R i) (hi : i < ys.length) (hk : keyL back w.s = ys.getD i []) (hl : LinkP ys i i w.link) (ht : t ∈ T) (hs : w.s = t.p) (hr : w.res = t.r) :
    RowsTo back T ys (R ++ [w]) (i + 1) := by
  have hlen := h.len (Nat.le_of_lt hi)
  have hy : ys[i]? = some (ys.getD i []) := by rw [List.getD_eq_getElem?_getD, List.getElem?_eq_getElem hi]; rfl
  refine ⟨by rw [List.map_append, h.keys, List.take_add_one, hy, ← hk]; rfl, fun k hk' => ?_, fun u hu => ?_⟩
  · rcases Nat.lt_or_ge k i with l | l
    · rw [List.getD_eq_getElem?_getD, List.getElem?_append_left (by lia), ← List.getD_eq_getElem?_getD]; exact h.links k l
    · rw [show k = R.length from by lia, List.getD_eq_getElem?_getD, List.getElem?_append_right (Nat.le_refl _), Nat.sub_self]
      rw [hlen]; exact hl
  · rcases List.mem_append.mp hu with q | q
    · exact h.of u q
    · rw [List.mem_singleton] at q; subst q; exact ⟨t, ht, hs, hr⟩
theorem pw_srt {ys : List LN} (h : ys.Pairwise fun u v => ¬ v < u) (hn : ys.Nodup) : Srt ys := by
  intro a b hab hb
  have ha : a < ys.length := by lia
  rw [List.getD_eq_getElem?_getD, List.getD_eq_getElem?_getD, List.getElem?_eq_getElem ha, List.getElem?_eq_getElem hb]
  have h1 := List.pairwise_iff_getElem.mp h a b ha hb hab
  have h2 := List.pairwise_iff_getElem.mp hn a b ha hb hab
  rcases lt_tri ys[a] ys[b] with e | e | e
  · exact e
  · exact absurd e h2
  · exact absurd e h1
theorem RowsTo.done {back : Bool} {T : List Row} {ys : List LN} {R : List Am} (h : RowsTo back T ys R ys.length) (hp : ys.Perm (T.map fun t => keyL back t.p)) (hpw : ys.Pairwise fun u v => ¬ v < u) (hnd : (T.map Row.p).Nodup) : RowsOk back T R := by
  have hk : (R.map fun w => keyL back w.s) = ys := by rw [h.keys, List.take_length]
  have hnd2 : (T.map fun t => keyL back t.p).Nodup := by
    rw [show (T.map fun t => keyL back t.p) = (T.map Row.p).map (keyL back) from by rw [List.map_map]; rfl]
    exact List.Pairwise.map _ (fun a b hab e => hab (keyL_inj e)) hnd
  have hS := pw_srt hpw (hp.nodup_iff.mpr hnd2)
  have hk' : (R.map fun w => if back = true then w.s.reverse else w.s) = ys := hk
  refine ⟨?_, by rw [hk']; exact hS, by rw [hk']; exact fun p hp' => h.links p hp', h.of, fun t ht => ?_⟩
  · rw [h.len (Nat.le_refl _), hp.length_eq, List.length_map]
  · have hm : keyL back t.p ∈ ys := hp.mem_iff.mpr (List.mem_map_of_mem (f := fun t => keyL back t.p) ht)
    rw [← hk] at hm
    obtain ⟨w, hw, e⟩ := List.mem_map.mp hm
    exact ⟨w, hw, keyL_inj e⟩

set_option maxHeartbeats 4000000 in
theorem rows_ok {g : Gl} {ta : Addr} {T : List Row} {back : Bool} {hp : Hp} {P : PV → Hp → Prop} (hTa : TableAt hp ta T) (hT : TabOk T) (hnd : (T.map Row.p).Nodup)
    (h : ∀ (ra : Addr) (hp' : Hp) (R : List Am), hp ra = Option.none → hp.le hp' → RowsAt hp' ra R → RowsOk back T R → P (.ref ra) hp') : FnOk g 3 255 [.ref ta, .bool back] hp P := by
  refine' fn_intro_cell ("table" : Str) ("back" : Str) [("keys" : Str), ("rows" : Str), ("i" : Str), ("link" : Str), ("j" : Str), ("piece" : Str), ("row" : Str)] ?ho ?hcd ?hbind ?h2 ?hcl ?hloc ?hnd ?_ ?c1 ?c2 ?c3
  case ho => k_is
  case hcd => k_is
  case hbind => intro v1 v2; rfl
  case h2 => rfl
  case hcl => intro n; rfl
  case hloc => decide +kernel
  case hnd => decide +kernel
  case c1 => rfl
  case c2 => rfl
  case c3 => rfl
  intro c cb hg hd hs hcells hcb
  subst hg
  walk_at "m loc"
  have h6 := hT.six
  have h10 := hT.p10
  obtain ⟨refs, hta, hrl, hrt⟩ := hTa.mono (Hp.le_upd (o := .cell (.bool back)) hcb)
  have hbk : (hp.upd cb (.cell (.bool back))) cb = some (.cell (.bool back)) := Hp.upd_self ..
  have hle0 : hp.le (hp.upd cb (.cell (.bool back))) := Hp.le_upd hcb
  generalize hp.upd cb (.cell (.bool back)) = h1 at hta hrt hbk hle0 ⊢
  repeat walk1
  refine E_listcomp (cl := [("back", cb)]) ?clos (by decide) (by rfl) (by decide) (by rfl) (by decide) ?_
  case clos =>
    unfold closureFor cellOf
    rw [hcells]
    rfl
  walk1
  refine ⟨ta, refs.map .ref, T.map fun t => .str (keyL back t.p), rfl, hta, by simp; lia, by simp [hrl], fun i v w c' D zs P' hv hw e1 e2 e3 e4 hD hP => ?_, fun r hr => ?_⟩
  · rw [List.getElem?_map, Option.map_eq_some_iff] at hv hw
    obtain ⟨r, hr, rfl⟩ := hv
    obtain ⟨t, ht, rfl⟩ := hw
    have htu := hrt i r t hr ht
    have htu' : (h1.upd D (.list zs)) r = some (.tuple (rowT t)) := (Hp.upd_ne _ _ (ne_of_some htu hD)).trans htu
    have hbk' : (h1.upd D (.list zs)) cb = some (.cell (.bool back)) := (Hp.upd_ne _ _ (ne_of_some hbk hD)).trans hbk
    have htp := h10 t (List.mem_of_getElem? ht)
    unfold relabel Env.kindOf at e3
    rw [hs] at e3
    refine E_ifexp2 back (.str t.p.reverse) (.str t.p) (fun P' hP => ?_) (fun _ P' hP => ?_) (fun _ P' hP => ?_) ?_
    · refine B_of (E_cell (kind_of e3 (by rfl)) (by rw [e4]; rfl) hbk' ?_)
      repeat walk1
      exact hP
    · repeat walk1
      refine Sub_tuple htu' (by lia) (by lia) (v := .str t.p) rfl ?_
      repeat walk1
      refine Cal_fn (back_ok (by lia) hP) (by lia)
    · repeat walk1
      exact Sub_tuple htu' (by lia) (by lia) (v := .str t.p) rfl hP
    · rw [show (if back = true then PV.str t.p.reverse else .str t.p) = .str (keyL back t.p) from by cases back <;> rfl]
      exact hP
  repeat walk1
  rw [show (T.map fun t => PV.str (keyL back t.p)) = (T.map fun t => keyL back t.p).map PV.str from by rw [List.map_map]; rfl]
  refine Cal_sorted (Hp.upd_self ..) (by simp; lia) (fun kr ys hkr hperm hpw => ?_)
  have hyl : ys.length = T.length := by rw [hperm.length_eq, List.length_map]
  have hle1 : h1.le ((h1.upd r (.list ((T.map fun t => keyL back t.p).map PV.str))).upd kr (.list (ys.map .str))) := Hp.tr (Hp.le_upd hr) (Hp.le_upd hkr)
  have hkeys : ((h1.upd r (.list ((T.map fun t => keyL back t.p).map PV.str))).upd kr (.list (ys.map .str))) kr = some (.list (ys.map .str)) := Hp.upd_self ..
  generalize (h1.upd r (.list ((T.map fun t => keyL back t.p).map PV.str))).upd kr (.list (ys.map .str)) = h2 at hle1 hkeys ⊢
  replace hta := hle1 _ _ hta
  replace hbk := hle1 _ _ hbk
  replace hrt := fun i r t a b => hle1 _ _ (hrt i r t a b)
  replace hle0 := Hp.tr hle0 hle1
  clear hle1 hkr hr
  have hyp : ∀ y ∈ ys, y.length ≤ 10 := by
    intro y hy
    obtain ⟨t, ht, rfl⟩ := List.mem_map.mp (hperm.mem_iff.mp hy)
    rw [keyL_len]; exact h10 t ht
  have hy : ∀ {i : Nat}, i < ys.length → (ys.map PV.str)[i]? = some (.str (ys.getD i [])) ∧ (ys.getD i []).length ≤ 10 ∧ ys.getD i [] ∈ ys := by
    intro i hi
    rw [List.getD_eq_getElem?_getD, List.getElem?_map, List.getElem?_eq_getElem hi]
    exact ⟨rfl, hyp _ (List.getElem_mem _), List.getElem_mem _⟩
  repeat walk1
  refine ⟨by simp, fun ra hra => ?_⟩
  repeat walk1
  refine S_for_range ?_
  repeat walk1
  refine Cal_len_list ((Hp.upd_ne _ _ (ne_of_some hkeys hra)).trans hkeys) (by simp; lia) ?_
  rw [List.length_map]
  repeat walk1
  refine Cal_range1 fun rr hrr => ?_
  obtain ⟨r1, r2⟩ := small_range (a := 0) (b := ys.length) (by lia) (by lia) (by lia) (by lia)
  refine ⟨rr, 0, ys.length, 1, ys.length, _, rfl, Hp.upd_self .., r1, by rw [r2]; lia, Hp.le_upd hrr, ?_⟩
  refine ⟨fun n lo h' => ∃ (R : List Am) (o1 o2 o3 o4 o5 : Option PV), lo = [lR "table" ta, lR "keys" kr, lR "rows" ra, lO "i" o1, lO "link" o2, lO "j" o3, lO "piece" o4, lO "row" o5] ∧ h2.le h' ∧ RowsAt h' ra R ∧ RowsTo back T ys R n,
    ⟨[], _, _, _, _, _, rfl, Hp.le_upd hra, ⟨[], Hp.upd_self .., rfl, fun i r t e => by simp at e⟩, ⟨by simp, fun k hk => by lia, by simp⟩⟩, ?_, ?_⟩
  · rintro n lo h' hn ⟨R, o1, o2, o3, o4, o5, hlo, hle, hRa, hRt⟩
    subst hlo
    rw [show (0 : Int) + (n : Nat) * 1 = (n : Nat) from by lia]
    obtain ⟨hyn, hyn10, hynm⟩ := hy hn
    have hkeys' := hle _ _ hkeys
    have hbk' := hle _ _ hbk
    repeat walk1
    refine TS.mono (P := fun f lo h'' => f = .next ∧ h' = h'' ∧ ∃ (L : Int) (oj : Option PV), lo = [lR "table" ta, lR "keys" kr, lR "rows" ra, lI "i" n, lI "link" L, lO "j" oj, lO "piece" o4, lO "row" o5] ∧ LinkP ys n n L) ?_ ?_
    · refine S_for_range ?_
      repeat walk1
      refine Cal_range1 fun rr hrr => ?_
      obtain ⟨r1, r2⟩ := small_range (a := 0) (b := n) (by lia) (by lia) (by lia) (by lia)
      refine ⟨rr, 0, n, 1, n, _, rfl, Hp.upd_self .., r1, by rw [r2]; lia, Hp.le_upd hrr, ?_⟩
      refine ⟨fun m lo h'' => h' = h'' ∧ ∃ (L : Int) (oj : Option PV), lo = [lR "table" ta, lR "keys" kr, lR "rows" ra, lI "i" n, lI "link" L, lO "j" oj, lO "piece" o4, lO "row" o5] ∧ LinkP ys n m L, ⟨rfl, -1, _, rfl, .inl ⟨rfl, fun m hm => by lia⟩⟩, ?_, ?_⟩
      · rintro m lo h'' hm ⟨hh, L, oj, hlo, hL⟩
        subst hh hlo
        rw [show (0 : Int) + (m : Nat) * 1 = (m : Nat) from by lia]
        obtain ⟨hym, hym10, _⟩ := hy (show m < ys.length by lia)
        repeat walk1
        refine Sub_list hkeys' (by lia) (by lia) (by rw [Int.toNat_natCast]; exact hyn) ?_
        repeat walk1
        refine Sub_list hkeys' (by lia) (by lia) (by rw [Int.toNat_natCast]; exact hym) ?_
        repeat walk1
        refine Cal_len_str (by lia) ?_
        repeat walk1
        refine Sub_list hkeys' (by lia) (by lia) (by rw [Int.toNat_natCast]; exact hym) ?_
        repeat walk1
        rw [Int.toNat_natCast]
        refine ⟨fun hb => ?_, fun hb => ?_⟩
        · have hb := take_eq_pre.mp (of_decide_eq_true hb)
          repeat walk1
          refine turn_next ?_
          exact ⟨rfl, _, _, rfl, LinkP.hit hb⟩
        · have hb := fun q => of_decide_eq_false hb (take_eq_pre.mpr q)
          repeat walk1
          refine turn_next ?_
          exact ⟨rfl, _, _, rfl, LinkP.miss hb hL⟩
      · rintro lo h'' ⟨hh, L, oj, hlo, hL⟩
        exact ⟨rfl, hh, L, oj, hlo, hL⟩
    · rintro f lo h'' ⟨hf, hh, L, oj, hlo, hL⟩
      subst hf hh hlo
      repeat walk1
      refine E_ifexp2 back (.str (ys.getD n []).reverse) (.str (ys.getD n [])) (fun P' hP => ?_) (fun _ P' hP => ?_) (fun _ P' hP => ?_) ?_
      · refine B_of (E_cell (kind_of hs (by rfl)) (by rw [hcells]; rfl) hbk' ?_)
        repeat walk1
        exact hP
      · repeat walk1
        refine Sub_list hkeys' (by lia) (by lia) (by rw [Int.toNat_natCast]; exact hyn) ?_
        repeat walk1
        refine Cal_fn (back_ok (by lia) hP) (by lia)
      · repeat walk1
        exact Sub_list hkeys' (by lia) (by lia) (by rw [Int.toNat_natCast]; exact hyn) hP
      rw [show (if back = true then PV.str (ys.getD n []).reverse else .str (ys.getD n [])) = .str (keyL back (ys.getD n [])) from by cases back <;> rfl]
      obtain ⟨piece, hpc⟩ : ∃ p, keyL back (ys.getD n []) = p := ⟨_, rfl⟩
      rw [hpc]
      have hpk : keyL back piece = ys.getD n [] := by rw [← hpc, keyL_key]
      repeat walk1
      refine S_for_list ?_
      walk1
      refine ⟨ta, refs.map .ref, rfl, ?_⟩
      refine ⟨fun k lo h'' => ∃ (R' : List Am) (orow : Option PV), lo = [lR "table" ta, lR "keys" kr, lR "rows" ra, lI "i" n, lI "link" L, lO "j" oj, lS "piece" piece, lO "row" orow] ∧ h2.le h'' ∧ RowsAt h'' ra R' ∧
        ((R' = R ∧ ∀ t ∈ T.take k, t.p ≠ piece) ∨ ∃ t, t ∈ T.take k ∧ t.p = piece ∧ R' = R ++ [⟨piece, L, t.r⟩]), ⟨R, _, rfl, hle, hRa, .inl ⟨rfl, by simp⟩⟩, ?_, ?_, ?_⟩
      · rintro i l hq ⟨_, _, _, hl, _⟩; exact hl _ _ hta
      · rintro k lo h'' v hv ⟨R', orow, hlo, hle', hRa', hor⟩
        subst hlo
        rw [List.getElem?_map, Option.map_eq_some_iff] at hv
        obtain ⟨r, hr, rfl⟩ := hv
        have hk : k < T.length := by rw [← hrl]; exact (List.getElem?_eq_some_iff.mp hr).1
        have htk : T[k]? = some T[k] := List.getElem?_eq_getElem hk
        have htu := hle' _ _ (hrt k r _ hr htk)
        have hmem : T[k] ∈ T := List.getElem_mem hk
        have htake : T.take (k + 1) = T.take k ++ [T[k]] := by rw [List.take_add_one, htk]; rfl
        have hnot : T[k] ∉ T.take k := by
          intro q
          obtain ⟨j, hj, e⟩ := List.getElem_of_mem q
          rw [List.length_take] at hj
          rw [List.getElem_take] at e
          have := (List.pairwise_iff_getElem.mp hnd) j k (by rw [List.length_map]; lia) (by rw [List.length_map]; exact hk) (by lia)
          rw [List.getElem_map, List.getElem_map, e] at this
          exact this rfl
        generalize T[k] = t at *
        repeat walk1
        refine Sub_tuple htu (by lia) (by lia) (v := .str t.p) rfl ?_
        repeat walk1
        refine ⟨fun hb => ?_, fun hb => ?_⟩
        · have hb := of_decide_eq_true hb
          have hRR : R' = R := by
            rcases hor with ⟨e, _⟩ | ⟨t', ht', e, _⟩
            · exact e
            · exact absurd ht' (by rw [hT.uniq t' (List.mem_of_mem_take ht') t hmem (e.trans hb.symm)]; exact hnot)
          subst hRR
          obtain ⟨rs, hrs, hrsl, hrsr⟩ := hRa'
          have hRa' : RowsAt h'' ra R' := ⟨rs, hrs, hrsl, hrsr⟩
          have hRl := hRt.len (Nat.le_of_lt hn)
          repeat walk1
          refine E_append ?_
          walk1
          refine ⟨ra, rs.map .ref, rfl, hrs, ?_⟩
          repeat walk1
          refine Sub_tuple htu (by lia) (by lia) (v := .int t.r) rfl ?_
          repeat walk1
          refine Cal_cls (d := 1) (fI := 217) (by k_is) (by k_is) (by k_is) (fun x dx hx hdx hxd => ?_) (by lia)
          have hcomm : ((h''.upd dx (.flds [])).upd x (.inst 220 dx)) = ((h''.upd x (.inst 220 dx)).upd dx (.flds [])) := by
            funext b; unfold Hp.upd
            by_cases q1 : b = x
            · subst q1; simp [hxd]
            · simp [q1]
          rw [hcomm]
          refine am_init_ok (Hp.upd_self ..) hxd ?_
          refine ⟨rfl, ?_⟩
          have hne1 : ra ≠ x := ne_of_some hrs hx
          have hne2 : ra ≠ dx := ne_of_some hrs hdx
          have hra3 : ((h''.upd x (.inst 220 dx)).upd dx (.flds (amF ⟨piece, L, t.r⟩))) ra = some (.list (rs.map .ref)) := by
            rw [Hp.upd_ne _ _ hne2, Hp.upd_ne _ _ hne1]; exact hrs
          have hle3 : h''.le ((h''.upd x (.inst 220 dx)).upd dx (.flds (amF ⟨piece, L, t.r⟩))) := Hp.tr (Hp.le_upd hx) (Hp.le_upd (by rw [Hp.upd_ne _ _ (Ne.symm hxd)]; exact hdx))
          have hx3 : ((h''.upd x (.inst 220 dx)).upd dx (.flds (amF ⟨piece, L, t.r⟩))) x = some (.inst 220 dx) := by
            rw [Hp.upd_ne _ _ hxd]; exact Hp.upd_self ..
          have hd3 : ((h''.upd x (.inst 220 dx)).upd dx (.flds (amF ⟨piece, L, t.r⟩))) dx = some (.flds (amF ⟨piece, L, t.r⟩)) := Hp.upd_self ..
          generalize (h''.upd x (.inst 220 dx)).upd dx (.flds (amF ⟨piece, L, t.r⟩)) = h3 at hra3 hle3 hx3 hd3 ⊢
          refine ⟨rs.map .ref, hra3, by simp; lia, ?_⟩
          repeat walk1
          refine turn_next ?_
          exact ⟨R' ++ [Am.mk piece L t.r], _, rfl, Hp.le_new (Hp.tr hle' hle3) hra _, RowsAt.push (hRa'.mono hle3) hra3 hx3 hd3, .inr ⟨t, by rw [htake]; simp, hb, rfl⟩⟩
        · have hb := of_decide_eq_false hb
          repeat walk1
          refine turn_next ?_
          refine ⟨R', _, rfl, hle', hRa', ?_⟩
          rcases hor with ⟨e, hx⟩ | ⟨t', ht', e, e'⟩
          · refine .inl ⟨e, fun u hu => ?_⟩
            rw [htake] at hu
            rcases List.mem_append.mp hu with q | q
            · exact hx u q
            · rw [List.mem_singleton] at q; subst q; exact hb
          · exact .inr ⟨t', by rw [htake]; exact List.mem_append_left _ ht', e, e'⟩
      · rintro lo h'' ⟨R', orow, hlo, hle', hRa', hor⟩
        subst hlo
        rw [List.length_map, hrl, List.take_length] at hor
        repeat walk1
        refine turn_next ?_
        obtain ⟨t0, ht0, et0⟩ : ∃ t ∈ T, t.p = piece := by
          obtain ⟨t, ht, e⟩ := List.mem_map.mp (hperm.mem_iff.mp hynm)
          exact ⟨t, ht, keyL_inj (back := back) (by rw [hpk]; exact e)⟩
        rcases hor with ⟨_, hx⟩ | ⟨t, ht, e, rfl⟩
        · exact absurd et0 (hx t0 ht0)
        · exact ⟨_, _, _, _, _, _, rfl, hle', hRa', hRt.add (w := ⟨piece, L, t.r⟩) hn hpk hL ht e.symm rfl⟩
  · rintro lo h' ⟨R, o1, o2, o3, o4, o5, hlo, hle, hRa, hRt⟩
    subst hlo
    repeat walk1
    exact h ra h' R (none_of_le hle0 hra) (Hp.tr hle0 hle) hRa (hRt.done hperm hpw hnd)
end
section
open PySem PySem.W PyProof.Rows PySem.Calls
set_option Elab.async false
set_option autoImplicit false
set_option linter.unusedVariables false

section
variable {c : Cx} {loc : Loc} {hp : Hp}
/-- the frame's code object stands in the heap -/
def CodeOk (c : Cx) : Prop := ∃ (d : Addr) (o : Obj) (vs : Array Value), c.env.code = .ref d ∧ c.g.h₀.get? d = some o ∧ o.data = .fields vs
theorem main_any {s : Shared} {K : Kp} {Q : Bool → Shared → Prop} {E : Value → Shared → Prop} (hc : CodeOk c) (S : St c K loc hp s) (h : ∀ b, Q b s) : wpAny (model c.g.prog c.g.w) c.A (inMainModule c.env) Q E s := by
  obtain ⟨d, o, vs, e, ho, hd⟩ := hc
  unfold inMainModule
  try dsimp only
  rw [e]
  split
  · exact wpAny_pure (h _)
  · refine wpAny_bind (wpAny_fieldsOf (S.rep.base _ _ ho) hd ?_)
    split
    · exact wpAny_bind (wpAny_askSetting (wpAny_pure (h _)))
    · exact wpAny_pure (h _)
theorem add_str_any {s : Shared} {sa : Addr} {so : Obj} {S : Str → Bool} {n : Nat} {x : Str} {t : Tok} {Q : Bool → Shared → Prop} {E : Value → Shared → Prop} {prog : Program} {w : World} {A : Around} (ho : s.heap.get? sa = some so) (hso : so.SetObjOf (PySem.strKind prog w) S n) (hb : n + 1 < 10)
    (h : ∀ h' so', Heap.SameBut sa s.heap h' → h'.get? sa = some so' → so'.SetObjOf (PySem.strKind prog w) (fun k' => S k' || decide (k' = x)) (if S x then n else n + 1) → Q (!S x) { s with heap := h', toks := s.toks + 1 }) :
    wpAny (model prog w) A (setAdd sa (.str x t)) Q E s := by
  unfold setAdd
  refine wpAny_holding (wpAny_bind ((PySem.strKind prog w).pyHash (k := x) (strKind_is _ _ _ _) ?_))
  refine wpAny_setAddHashed_of (s := { s with toks := s.toks + 1 }) (strKind_is _ _ _ _) rfl (hso.setOf ho (Nat.lt_of_lt_of_le (show n < 10 by lia) (by decide))) (Nat.lt_of_lt_of_le hb (by decide)) fun h' hsb hS' => ?_
  obtain ⟨so', ho', hso'⟩ := hS'.objOf
  exact h h' so' hsb ho' hso'
theorem str_of_list (k : Str) (x : Str) : decide (k.cps.toList = x.cps.toList) = decide (k = x) := by
  by_cases h : k = x
  · subst h; simp
  · have : k.cps.toList ≠ x.cps.toList := fun e => h (by
      cases k; cases x; simp at e; rw [e])
    simp [h, this]
theorem E_set2 {x y : Str} {k1 k2 : Nat} {p1 p2 pos : Pos} {P : PV → Hp → Prop} (hc : CodeOk c) (h : ∀ r, hp r = Option.none → P (.ref r) (hp.upd r (.sset [x.cps.toList, y.cps.toList]))) :
    TE c (.Set [.Constant (.str x) k1 p1, .Constant (.str y) k2 p2] 0 pos) loc hp P := fun K s S => by
  rw [arm_eval_Set]
  refine wpAny_bind (wpAny_standAt ?_)
  refine wpAny_bind (main_any hc S fun b => ?_)
  rw [kds_star _ rfl, List.map_map]
  refine kds_core (ts := (evalEach [.Constant (.str x) k1 p1, .Constant (.str y) k2 p2] c.env).map fun t => do let v ← t; standAt pos; pure v) (by rfl) ?_ ?_ ?_ fun led => ?_
  · refine List.findIdx?_eq_none_iff.mpr fun x hx => ?_
    obtain ⟨t, _, rfl⟩ := List.mem_map.mp hx
    rfl
  · rw [List.length_map, kds_len]; exact Nat.le_of_ble_eq_true rfl
  · rw [List.map_map]; rfl
  refine kds_all pos _ _ _ ?_
  refine Constant_str ?_
  refine Constant_str ?_
  obtain ⟨S2, f1, f2, f3, f4⟩ := new_facts S (o := { cls := .type "set", dict := Option.none, data := .set #[] 0 (.fresh 0 0 led) }) rfl
  have hD := Heap.get?_push_size s.heap (o := { cls := .type "set", dict := Option.none, data := .set #[] 0 (.fresh 0 0 led) }) rfl
  refine kds_fill_cons (add_str_any (n := 0) hD (setObjOf_fresh led) (by decide) fun h1 so1 b1 g1 o1 => ?_)
  refine kds_fill_cons (add_str_any (n := 1) g1 (by simpa using o1) (by decide) fun h2 so2 b2 g2 o2 => ?_)
  refine kds_fill_nil (by rfl) ?_
  have S3 := S.ext (h' := h2) (fun b o e => by
    have hb : b ≠ s.heap.objs.size := fun q => Nat.lt_irrefl _ (q ▸ Heap.lt_size e)
    exact (b2.2 b hb).trans ((b1.2 b hb).trans (Heap.get?_push_of_some _ e))) (s.toks + 1 + 1 + 1 + 1)
  have e : (fun k' => decide (k' = x) || decide (k' = y)) = fun k : Str => decide (k.cps.toList ∈ [x.cps.toList, y.cps.toList]) := by
    funext k
    have : decide (k.cps.toList ∈ [x.cps.toList, y.cps.toList]) = (decide (k.cps.toList = x.cps.toList) || decide (k.cps.toList = y.cps.toList)) := by simp
    rw [this, str_of_list, str_of_list]
  have o2' : so2.SetObjOf (PySem.strKind c.g.prog c.g.w) (fun k : Str => decide (k.cps.toList ∈ [x.cps.toList, y.cps.toList])) (if decide (y = x) = true then 1 else 1 + 1) := e ▸ by simpa using o2
  exact ⟨_, S3.know (ao := .sset [x.cps.toList, y.cps.toList]) g2 ⟨_, by split <;> decide, o2'⟩ f2 f3 f1, h _ f4⟩
theorem E_set1 {x : Str} {k1 : Nat} {p1 pos : Pos} {P : PV → Hp → Prop} (hc : CodeOk c) (h : ∀ r, hp r = Option.none → P (.ref r) (hp.upd r (.sset [x.cps.toList]))) :
    TE c (.Set [.Constant (.str x) k1 p1] 0 pos) loc hp P := fun K s S => by
  rw [arm_eval_Set]
  refine wpAny_bind (wpAny_standAt ?_)
  refine wpAny_bind (main_any hc S fun b => ?_)
  rw [kds_star _ rfl, List.map_map]
  refine kds_core (ts := (evalEach [.Constant (.str x) k1 p1] c.env).map fun t => do let v ← t; standAt pos; pure v) (by rfl) ?_ ?_ ?_ fun led => ?_
  · refine List.findIdx?_eq_none_iff.mpr fun x hx => ?_
    obtain ⟨t, _, rfl⟩ := List.mem_map.mp hx
    rfl
  · rw [List.length_map, kds_len]; exact Nat.le_of_ble_eq_true rfl
  · rw [List.map_map]; rfl
  refine kds_all pos _ _ _ ?_
  refine Constant_str ?_
  obtain ⟨S2, f1, f2, f3, f4⟩ := new_facts S (o := { cls := .type "set", dict := Option.none, data := .set #[] 0 (.fresh 0 0 led) }) rfl
  have hD := Heap.get?_push_size s.heap (o := { cls := .type "set", dict := Option.none, data := .set #[] 0 (.fresh 0 0 led) }) rfl
  refine kds_fill_cons (add_str_any (n := 0) hD (setObjOf_fresh led) (by decide) fun h1 so1 b1 g1 o1 => ?_)
  refine kds_fill_nil (by rfl) ?_
  have S3 := S.ext (h' := h1) (fun b o e => by
    have hb : b ≠ s.heap.objs.size := fun q => Nat.lt_irrefl _ (q ▸ Heap.lt_size e)
    exact (b1.2 b hb).trans (Heap.get?_push_of_some _ e)) (s.toks + 1 + 1)
  have e : (fun k' => decide (k' = x)) = fun k : Str => decide (k.cps.toList ∈ [x.cps.toList]) := by
    funext k
    have : decide (k.cps.toList ∈ [x.cps.toList]) = decide (k.cps.toList = x.cps.toList) := by simp
    rw [this, str_of_list]
  have o2' : so1.SetObjOf (PySem.strKind c.g.prog c.g.w) (fun k : Str => decide (k.cps.toList ∈ [x.cps.toList])) 1 := e ▸ by simpa using o1
  exact ⟨_, S3.know (ao := .sset [x.cps.toList]) g1 ⟨_, by decide, o2'⟩ f2 f3 f1, h _ f4⟩
/-- xs[:j] of a list -/
theorem E_lslice {value upper : Expr} {p pos : Pos} {P : PV → Hp → Prop}
    (h : TE c value loc hp fun v h1 => ∃ (a : Addr) (vs : List PV), v = .ref a ∧ h1 a = some (.list vs) ∧ vs.length ≤ 1000 ∧ TE c upper loc h1 fun u h2 => h1 = h2 ∧ ∃ j : Nat, u = .int (j : Int) ∧ ∀ r, h2 r = Option.none → P (.ref r) (h2.upd r (.list (vs.take j))))
    (ht : ∀ a r, letTemporaryGo value (.ref a) r = pure () := by intro _ _; with_unfolding_all rfl) : TE c (.Subscript value (.Slice Option.none (some upper) Option.none p) pos) loc hp P := fun K s S => by
  refine Subscript_ (wpAny_mono (h K s S) (fun v s1 hh => ?_) fun _ _ x => x)
  obtain ⟨h1, S1, a, vs, hv, ha, hl, q⟩ := hh
  obtain rfl := er_ref hv
  refine wpAny_Slice (evalPart_none_step (evalPart_some_step (wpAny_mono (q K s1 S1) (fun u s2 ⟨h2, S2, hh, j, hu, p⟩ => evalPart_none_step ?_) fun _ _ x => x)))
  subst hh
  obtain ⟨tu, rfl⟩ := er_int hu
  obtain ⟨o, ho, ⟨xs, n, rfl, hxs⟩, _⟩ := S2.obj_at ha
  obtain ⟨m, F, hm⟩ := S2.frm
  have hxl : xs.length = vs.length := by rw [← hxs]; simp
  refine slice_list3 (items := xs.toArray) F news_allN ⟨_, ho, rfl, _, rfl⟩ .none (.int _ _) .none (by decide) (fun h' F' N' => ?_) (by with_unfolding_all rfl) (ht _) (by rw [sizeLine_eq]; simp; lia)
  have hrep : RepO c.g (.list (vs.take j)) { cls := .type "list", data := .seq (slicePick xs.toArray Option.none (some (j : Int)) Option.none) } := ⟨xs.take j, 0, by rw [slicePick_upto'], by rw [← hxs, List.map_take]⟩
  obtain ⟨S3, hn⟩ := S2.alloc hm F' N' (fun p hp => Nat.lt_succ_of_lt (lt_allN p hp)) hrep s2.toks
  exact ⟨_, S3, p _ hn⟩
end
end
section
open PySem PySem.W PyProof.Rows PySem.Calls
set_option Elab.async false
set_option autoImplicit false
set_option linter.unusedVariables false

theorem ints_er : ∀ {vs : List Value} {ns : List Int}, IntsAre vs ns → vs.map er = ns.map .int
  | _, _, .nil => rfl
  | _, _, .cons x t r => by rw [List.map_cons, ints_er r]; rfl
section
variable {c : Cx} {loc : Loc} {hp : Hp}
/-- xs[:j] of a list that stood there before -/
theorem E_lslice_old {value upper : Expr} {p pos : Pos} {P : PV → Hp → Prop}
    (h : TE c value loc hp fun v h1 => ∃ (a : Addr) (xs : List Value), v = .ref a ∧ c.g.h₀.IsList a xs.toArray ∧ xs.length ≤ 1000 ∧ TE c upper loc h1 fun u h2 => ∃ j : Nat, u = .int (j : Int) ∧ ∀ r, h2 r = Option.none → P (.ref r) (h2.upd r (.list ((xs.map er).take j))))
    (ht : ∀ a r, letTemporaryGo value (.ref a) r = pure () := by intro _ _; with_unfolding_all rfl) : TE c (.Subscript value (.Slice Option.none (some upper) Option.none p) pos) loc hp P := fun K s S => by
  refine Subscript_ (wpAny_mono (h K s S) (fun v s1 hh => ?_) fun _ _ x => x)
  obtain ⟨h1, S1, a, xs, hv, ha, hl, q⟩ := hh
  obtain rfl := er_ref hv
  refine wpAny_Slice (evalPart_none_step (evalPart_some_step (wpAny_mono (q K s1 S1) (fun u s2 ⟨h2, S2, j, hu, p⟩ => evalPart_none_step ?_) fun _ _ x => x)))
  obtain ⟨tu, rfl⟩ := er_int hu
  obtain ⟨m, F, hm⟩ := S2.frm
  have ha2 : s2.heap.IsList a xs.toArray := let ⟨o, e, r⟩ := ha; ⟨o, S2.rep.base _ _ e, r⟩
  refine slice_list3 (items := xs.toArray) F news_allN ha2 .none (.int _ _) .none (by decide) (fun h' F' N' => ?_) (by with_unfolding_all rfl) (ht _) (by rw [sizeLine_eq]; simp; lia)
  have hrep : RepO c.g (.list ((xs.map er).take j)) { cls := .type "list", data := .seq (slicePick xs.toArray Option.none (some (j : Int)) Option.none) } := ⟨xs.take j, 0, by rw [slicePick_upto'], by rw [List.map_take]⟩
  obtain ⟨S3, hn⟩ := S2.alloc hm F' N' (fun p hp => Nat.lt_succ_of_lt (lt_allN p hp)) hrep s2.toks
  exact ⟨_, S3, p _ hn⟩
end
theorem law_end {w : World} {s₁ : Shared} {h₁ : Heap} {mg mb : Str → Option Value} {prog : Program} {sa fa : Addr} {cd : Value} {vs : List Value} {scope : Scope} {qual nm x : Str} {body : List Stmt} {m : Str → Option Value} {tk : Nat} {Q : Flow → Shared → Prop} {E : Value → Shared → Prop}
    (lns : List Str) (KX : (hd.heap_39 w.params).In s₁.heap) (T : TopRead hd.view_39 (looseW hd.view_39 []) mg mb s₁.heap) (hcd : s₁.heap.CodeRec cd nm) (hL : s₁.heap.IsList sa vs.toArray)
    (F : Fr s₁.heap s₁.heap.objs.size h₁ m) (hm : m x = some (.ref sa))
    (hloc : ((x :: lns).all fun y => decide (scope.names.lookup y = some .local) && !(y == ("__debug__" : Str))) = true) (hnd : (x :: lns).Nodup) (hk : scope.kind = .function)
    (hQ : ∀ s' L m', Fr s₁.heap L s'.heap m' → s'.gens = s₁.gens → s'.os = s₁.os → Q (.ret (.bool true)) s')
    (h : ∀ c : Cx, c.g.h₀.IsList sa vs.toArray → c.d = 8 → c.env.scope = scope → CodeOk c → TSs c body ((x, some (.ref sa)) :: lns.map (fun y => (y, Option.none))) (fun _ => Option.none) (fun f _ _ => f = .ret (.bool true))) :
    wpAny (model prog w) (callerA.deeper (envOf qual scope s₁.heap.objs.size fa cd)) (execs body (envOf qual scope s₁.heap.objs.size fa cd)) Q E { s₁ with heap := h₁, toks := tk } := by
  have ok := List.all_eq_true.mp hloc
  let g : Gl := ⟨prog, w, s₁.heap, mg, mb, s₁.os, s₁.gens, KX, T⟩
  let c : Cx := Cx.mk g (callerA.deeper (envOf qual scope s₁.heap.objs.size fa cd)) 8 (envOf qual scope s₁.heap.objs.size fa cd) (x :: lns) hk
    (fun y hy => by have := ok y hy; simp only [Bool.and_eq_true, decide_eq_true_eq, Bool.not_eq_true'] at this; exact this) hnd (Nat.le_refl _) ⟨rfl, rfl⟩ ⟨rfl, by show 1 + claimMargin + 1 + 2 * 8 ≤ 900; decide, by show 4 + _ + 20 * 8 ≤ 9000; decide⟩
  have S : St c (fun _ _ => False) ((x, some (.ref sa)) :: lns.map (fun y => (y, Option.none))) (fun _ => Option.none) { s₁ with heap := h₁, toks := tk } := by
    refine ⟨⟨F.keep, fun a o k => k.elim, (fun a ao e => by cases e), Nat.le_of_lt F.ns.lt⟩, ⟨m, F.ns, fun y v hy => ?_⟩, fun o k => k, rfl, ?_, rfl, rfl⟩
    · rcases List.mem_cons.mp hy with e | e
      · cases e; exact ⟨_, hm, rfl⟩
      · obtain ⟨z, hz, e⟩ := List.mem_map.mp e; cases e
    · show List.map _ _ = x :: lns
      rw [List.map_cons, List.map_map]
      congr 1
      exact List.map_id _
  have hco : CodeOk c := by
    obtain ⟨d, o, vs, t, e, ho, hd, _⟩ := hcd
    exact ⟨d, o, vs, e, ho, hd⟩
  refine wpAny_mono (h c hL rfl rfl hco _ _ S) (fun f s' hh => ?_) fun _ _ x => x.elim
  obtain ⟨l, hp', S', p⟩ := hh
  cases f with
  | ret v =>
    have e : er v = .bool true := Fl.ret.inj p
    obtain rfl := er_bool e
    obtain ⟨m', F', _⟩ := S'.frm
    exact hQ s' _ m' F' S'.gens S'.os
  | next => cases p
  | brk => cases p
  | cont => cases p
end
section
/-! the law's lists -/
structure Lane where
  K : Int
  ta : Addr
  ra : Addr
  pa : Addr
  T : List Row
  R : List Am
  U : List LN
  A : LN
structure LaneAt (h : Hp) (l : Lane) : Prop where
  t : TableAt h l.ta l.T
  r : RowsAt h l.ra l.R
  p : h l.pa = some (.list (l.U.map .str))
structure LaneOk (l : Lane) : Prop where
  k0 : 0 ≤ l.K
  k6 : l.K ≤ 6
  T : TabOk l.T
  Tp : l.K = 2 ∨ l.K = 4 → ∀ t ∈ l.T, t.p ≠ []
  UT : ∀ t ∈ l.T, 0 < t.r → l.U.getD t.r.toNat [] = t.q
  U7 : l.U.length = 7
  U2 : ∀ u ∈ l.U, u.length ≤ 2
  R : RowsOk (decide (l.K ≠ 3 ∧ l.K ≠ 4)) l.T l.R
  A2 : l.A.length ≤ 2
theorem LaneAt.mono {h h' : Hp} {l : Lane} (a : LaneAt h l) (hle : h.le h') : LaneAt h' l := ⟨a.t.mono hle, a.r.mono hle, hle _ _ a.p⟩
theorem TableAt.off {h : Hp} {a X : Addr} {T : List Row} {vs ws : List PV} (t : TableAt h a T) (hX : h X = some (.list vs)) (hne : a ≠ X) : TableAt (h.upd X (.list ws)) a T := by
  obtain ⟨refs, h1, h2, h3⟩ := t
  refine ⟨refs, (Hp.upd_ne _ _ hne).trans h1, h2, fun i r u e1 e2 => ?_⟩
  have := h3 i r u e1 e2
  rw [Hp.upd_ne _ _ (fun q => by rw [q, hX] at this; cases this)]; exact this
theorem RowsAt.off {h : Hp} {a X : Addr} {R : List Am} {vs ws : List PV} (t : RowsAt h a R) (hX : h X = some (.list vs)) (hne : a ≠ X) : RowsAt (h.upd X (.list ws)) a R := by
  obtain ⟨refs, h1, h2, h3⟩ := t
  refine ⟨refs, (Hp.upd_ne _ _ hne).trans h1, h2, fun i r u e1 e2 => ?_⟩
  obtain ⟨dw, x1, x2⟩ := h3 i r u e1 e2
  exact ⟨dw, by rw [Hp.upd_ne _ _ (fun q => by rw [q, hX] at x1; cases x1)]; exact x1, by rw [Hp.upd_ne _ _ (fun q => by rw [q, hX] at x2; cases x2)]; exact x2⟩
/-- the addresses of the law's own lists -/
structure Ad where
  sc : Addr
  va : Addr
  da : Addr
  ka : Addr
  tA : Addr
  rA : Addr
  pA : Addr
  aA : Addr
def Ad.five (d : Ad) : List Addr := [d.ka, d.tA, d.rA, d.pA, d.aA]
structure Main (h : Hp) (d : Ad) (ns : List Int) (V D : List LN) (l1 : List Int) (l2 l3 l4 : List Addr) (l5 : List LN) : Prop where
  mS : h d.sc = some (.list (ns.map .int))
  mV : h d.va = some (.sset V)
  mD : h d.da = some (.sset D)
  mK : h d.ka = some (.list (l1.map .int))
  mT : h d.tA = some (.list (l2.map .ref))
  mR : h d.rA = some (.list (l3.map .ref))
  mP : h d.pA = some (.list (l4.map .ref))
  mA : h d.aA = some (.list (l5.map .str))
  nd : d.five.Nodup
  sne : d.sc ∉ d.five
section
variable {h h' : Hp} {d : Ad} {ns : List Int} {V D : List LN} {l1 : List Int} {l2 l3 l4 : List Addr} {l5 : List LN}
theorem Main.mono (m : Main h d ns V D l1 l2 l3 l4 l5) (hle : h.le h') : Main h' d ns V D l1 l2 l3 l4 l5 :=
  ⟨hle _ _ m.mS, hle _ _ m.mV, hle _ _ m.mD, hle _ _ m.mK, hle _ _ m.mT, hle _ _ m.mR, hle _ _ m.mP, hle _ _ m.mA, m.nd, m.sne⟩
theorem Main.ne (m : Main h d ns V D l1 l2 l3 l4 l5) : d.ka ≠ d.tA ∧ d.ka ≠ d.rA ∧ d.ka ≠ d.pA ∧ d.ka ≠ d.aA ∧ d.tA ≠ d.rA ∧ d.tA ≠ d.pA ∧ d.tA ≠ d.aA ∧ d.rA ≠ d.pA ∧ d.rA ≠ d.aA ∧ d.pA ≠ d.aA ∧
    d.sc ≠ d.ka ∧ d.sc ≠ d.tA ∧ d.sc ≠ d.rA ∧ d.sc ≠ d.pA ∧ d.sc ≠ d.aA := by
  have h1 := m.nd
  have h2 := m.sne
  unfold Ad.five at h1 h2
  simp only [List.nodup_cons, List.mem_cons, List.not_mem_nil, or_false, not_or] at h1 h2
  obtain ⟨⟨a1, a2, a3, a4⟩, ⟨b1, b2, b3⟩, ⟨c1, c2⟩, e1, _⟩ := h1
  obtain ⟨f1, f2, f3, f4, f5⟩ := h2
  exact ⟨a1, a2, a3, a4, b1, b2, b3, c1, c2, e1, f1, f2, f3, f4, f5⟩
theorem Main.sets (m : Main h d ns V D l1 l2 l3 l4 l5) {X : Addr} {vs ws : List PV} (hX : h X = some (.list vs)) : (h.upd X (.list ws)) d.va = some (.sset V) ∧ (h.upd X (.list ws)) d.da = some (.sset D) :=
  ⟨by rw [Hp.upd_ne _ _ (fun q => by have := m.mV; rw [q, hX] at this; cases this)]; exact m.mV, by rw [Hp.upd_ne _ _ (fun q => by have := m.mD; rw [q, hX] at this; cases this)]; exact m.mD⟩
theorem Main.pk (m : Main h d ns V D l1 l2 l3 l4 l5) (x : Int) : Main (h.upd d.ka (.list (l1.map .int ++ [.int x]))) d ns V D (l1 ++ [x]) l2 l3 l4 l5 := by
  obtain ⟨a1, a2, a3, a4, b1, b2, b3, c1, c2, e1, f1, f2, f3, f4, f5⟩ := m.ne
  exact ⟨by rw [Hp.upd_ne _ _ f1]; exact m.mS, (m.sets m.mK).1, (m.sets m.mK).2, by rw [Hp.upd_self, List.map_append]; rfl, by rw [Hp.upd_ne _ _ (Ne.symm a1)]; exact m.mT, by rw [Hp.upd_ne _ _ (Ne.symm a2)]; exact m.mR, by rw [Hp.upd_ne _ _ (Ne.symm a3)]; exact m.mP, by rw [Hp.upd_ne _ _ (Ne.symm a4)]; exact m.mA, m.nd, m.sne⟩
theorem Main.pt (m : Main h d ns V D l1 l2 l3 l4 l5) (x : Addr) : Main (h.upd d.tA (.list (l2.map .ref ++ [.ref x]))) d ns V D l1 (l2 ++ [x]) l3 l4 l5 := by
  obtain ⟨a1, a2, a3, a4, b1, b2, b3, c1, c2, e1, f1, f2, f3, f4, f5⟩ := m.ne
  exact ⟨by rw [Hp.upd_ne _ _ f2]; exact m.mS, (m.sets m.mT).1, (m.sets m.mT).2, by rw [Hp.upd_ne _ _ a1]; exact m.mK, by rw [Hp.upd_self, List.map_append]; rfl, by rw [Hp.upd_ne _ _ (Ne.symm b1)]; exact m.mR, by rw [Hp.upd_ne _ _ (Ne.symm b2)]; exact m.mP, by rw [Hp.upd_ne _ _ (Ne.symm b3)]; exact m.mA, m.nd, m.sne⟩
theorem Main.pr (m : Main h d ns V D l1 l2 l3 l4 l5) (x : Addr) : Main (h.upd d.rA (.list (l3.map .ref ++ [.ref x]))) d ns V D l1 l2 (l3 ++ [x]) l4 l5 := by
  obtain ⟨a1, a2, a3, a4, b1, b2, b3, c1, c2, e1, f1, f2, f3, f4, f5⟩ := m.ne
  exact ⟨by rw [Hp.upd_ne _ _ f3]; exact m.mS, (m.sets m.mR).1, (m.sets m.mR).2, by rw [Hp.upd_ne _ _ a2]; exact m.mK, by rw [Hp.upd_ne _ _ b1]; exact m.mT, by rw [Hp.upd_self, List.map_append]; rfl, by rw [Hp.upd_ne _ _ (Ne.symm c1)]; exact m.mP, by rw [Hp.upd_ne _ _ (Ne.symm c2)]; exact m.mA, m.nd, m.sne⟩
theorem Main.pp (m : Main h d ns V D l1 l2 l3 l4 l5) (x : Addr) : Main (h.upd d.pA (.list (l4.map .ref ++ [.ref x]))) d ns V D l1 l2 l3 (l4 ++ [x]) l5 := by
  obtain ⟨a1, a2, a3, a4, b1, b2, b3, c1, c2, e1, f1, f2, f3, f4, f5⟩ := m.ne
  exact ⟨by rw [Hp.upd_ne _ _ f4]; exact m.mS, (m.sets m.mP).1, (m.sets m.mP).2, by rw [Hp.upd_ne _ _ a3]; exact m.mK, by rw [Hp.upd_ne _ _ b2]; exact m.mT, by rw [Hp.upd_ne _ _ c1]; exact m.mR, by rw [Hp.upd_self, List.map_append]; rfl, by rw [Hp.upd_ne _ _ (Ne.symm e1)]; exact m.mA, m.nd, m.sne⟩
theorem Main.pa (m : Main h d ns V D l1 l2 l3 l4 l5) (x : LN) : Main (h.upd d.aA (.list (l5.map .str ++ [.str x]))) d ns V D l1 l2 l3 l4 (l5 ++ [x]) := by
  obtain ⟨a1, a2, a3, a4, b1, b2, b3, c1, c2, e1, f1, f2, f3, f4, f5⟩ := m.ne
  exact ⟨by rw [Hp.upd_ne _ _ f5]; exact m.mS, (m.sets m.mA).1, (m.sets m.mA).2, by rw [Hp.upd_ne _ _ a4]; exact m.mK, by rw [Hp.upd_ne _ _ b3]; exact m.mT, by rw [Hp.upd_ne _ _ c2]; exact m.mR, by rw [Hp.upd_ne _ _ e1]; exact m.mP, by rw [Hp.upd_self, List.map_append]; rfl, m.nd, m.sne⟩
end
def Off (d : Ad) (l : Lane) : Prop := l.ta ∉ d.five ∧ l.ra ∉ d.five ∧ l.pa ∉ d.five
theorem LaneAt.off {h : Hp} {d : Ad} {l : Lane} {X : Addr} {vs ws : List PV} (a : LaneAt h l) (o : Off d l) (hX : h X = some (.list vs)) (hm : X ∈ d.five) : LaneAt (h.upd X (.list ws)) l :=
  ⟨a.t.off hX fun q => o.1 (q ▸ hm), a.r.off hX fun q => o.2.1 (q ▸ hm), (Hp.upd_ne (b := l.pa) (a := X) _ _ (fun q : l.pa = X => o.2.2 (by rw [q]; exact hm))).trans a.p⟩
theorem pieceL_len {Ts : List (List Row)} {m : Int} (h : ∀ T ∈ Ts, ∀ t ∈ T, t.p.length ≤ 10) : (pieceL Ts m).length ≤ 10 := by
  unfold pieceL
  split
  · exact Nat.zero_le _
  · have key : ∀ (T : List Row) (i : Nat), (∀ t ∈ T, t.p.length ≤ 10) → (T.getD i row0).p.length ≤ 10 := by
      intro T i hT
      rw [List.getD_eq_getElem?_getD]
      cases q : T[i]? with
      | none => exact Nat.zero_le _
      | some t => exact hT t (List.mem_of_getElem? q)
    refine key _ _ ?_
    rw [List.getD_eq_getElem?_getD]
    cases q : Ts[(m % 5).toNat]? with
    | none => intro t ht; cases ht
    | some T => exact h T (List.mem_of_getElem? q)
/-- every put that a table asks for -/
structure PutsTo (T : List Row) (U : List LN) (k : Nat) : Prop where
  u7 : U.length = 7
  u2 : ∀ u ∈ U, u.length ≤ 2
  ut : ∀ t ∈ T.take k, 0 < t.r → U.getD t.r.toNat [] = t.q
theorem PutsTo.start (T : List Row) : PutsTo T [[], [], [], [], [], [], []] 0 := ⟨rfl, by simp, by simp⟩
theorem PutsTo.skip {T : List Row} {U : List LN} {k : Nat} {t : Row} (h : PutsTo T U k) (ht : T[k]? = some t) (hr : ¬ 0 < t.r) : PutsTo T U (k + 1) := by
  refine ⟨h.u7, h.u2, fun u hu h0 => ?_⟩
  rw [List.take_add_one, ht] at hu
  rcases List.mem_append.mp hu with q | q
  · exact h.ut u q h0
  · simp at q; subst q; exact absurd h0 hr
theorem PutsTo.put {T : List Row} {U : List LN} {k : Nat} {t : Row} (h : PutsTo T U k) (ht : T[k]? = some t) (hr : 0 < t.r) (h6 : t.r ≤ 6) (hq : t.q.length ≤ 2) (hu : ∀ t ∈ T, ∀ t' ∈ T, 0 < t.r → t.r = t'.r → t = t') : PutsTo T (U.set t.r.toNat t.q) (k + 1) := by
  have u7 := h.u7
  refine ⟨by rw [List.length_set]; exact u7, fun u hu' => ?_, fun u hu' h0 => ?_⟩
  · rcases List.mem_or_eq_of_mem_set hu' with q | q
    · exact h.u2 u q
    · rw [q]; exact hq
  · have hmt : t ∈ T := List.mem_of_getElem? ht
    have self : (U.set t.r.toNat t.q).getD t.r.toNat [] = t.q := by
      rw [List.getD_eq_getElem?_getD, List.getElem?_set_self (by lia)]; rfl
    rw [List.take_add_one, ht] at hu'
    rcases List.mem_append.mp hu' with q | q
    · by_cases e : u.r = t.r
      · rw [hu u (List.mem_of_mem_take q) t hmt h0 e]; exact self
      · rw [List.getD_eq_getElem?_getD, List.getElem?_set_ne (by lia), ← List.getD_eq_getElem?_getD]; exact h.ut u q h0
    · simp at q; subst q; exact self
end
section
def Cut (p : Prop) : Prop := p
theorem cut {p : Prop} (h : p) : Cut p := h
theorem Main.five_some {h : Hp} {d : Ad} {ns : List Int} {V D : List LN} {l1 : List Int} {l2 l3 l4 : List Addr} {l5 : List LN} (m : Main h d ns V D l1 l2 l3 l4 l5) {X : Addr} (hX : X ∈ d.five) : ∃ vs, h X = some (.list vs) := by
  unfold Ad.five at hX
  simp only [List.mem_cons, List.not_mem_nil, or_false] at hX
  rcases hX with rfl | rfl | rfl | rfl | rfl
  · exact ⟨_, m.mK⟩
  · exact ⟨_, m.mT⟩
  · exact ⟨_, m.mR⟩
  · exact ⟨_, m.mP⟩
  · exact ⟨_, m.mA⟩
theorem Main.fresh {h : Hp} {d : Ad} {ns : List Int} {V D : List LN} {l1 : List Int} {l2 l3 l4 : List Addr} {l5 : List LN} (m : Main h d ns V D l1 l2 l3 l4 l5) {a : Addr} (hn : h a = Option.none) : a ∉ d.five := fun q => by
  obtain ⟨vs, e⟩ := m.five_some q
  rw [hn] at e; cases e
def bases : List PV := [.int 0, .int 8, .int 16, .int 24]
structure Old (h : Hp) (bl : Addr) (Ls : List Lane) : Prop where
  l : ∀ l ∈ Ls, LaneAt h l
  b : h bl = some (.list bases)
theorem Old.mono {h h' : Hp} {bl : Addr} {Ls : List Lane} (o : Old h bl Ls) (hle : h.le h') : Old h' bl Ls := ⟨fun l hl => (o.l l hl).mono hle, hle _ _ o.b⟩
theorem Old.off {h : Hp} {d : Ad} {bl : Addr} {Ls : List Lane} {X : Addr} {vs ws : List PV} (o : Old h bl Ls) (hb : bl ∉ d.five) (ho : ∀ l ∈ Ls, Off d l) (hX : h X = some (.list vs)) (hm : X ∈ d.five) : Old (h.upd X (.list ws)) bl Ls :=
  ⟨fun l hl => (o.l l hl).off (ho l hl) hX hm, (Hp.upd_ne (b := bl) (a := X) _ _ (fun q : bl = X => hb (by rw [q]; exact hm))).trans o.b⟩
theorem ne_five {d : Ad} {a X : Addr} (ha : a ∉ d.five) (hX : X ∈ d.five) : a ≠ X := fun q => ha (q ▸ hX)
theorem five_ka (d : Ad) : d.ka ∈ d.five := List.mem_cons_self
theorem five_tA (d : Ad) : d.tA ∈ d.five := List.mem_cons_of_mem _ List.mem_cons_self
theorem five_rA (d : Ad) : d.rA ∈ d.five := List.mem_cons_of_mem _ (List.mem_cons_of_mem _ List.mem_cons_self)
theorem five_pA (d : Ad) : d.pA ∈ d.five := List.mem_cons_of_mem _ (List.mem_cons_of_mem _ (List.mem_cons_of_mem _ List.mem_cons_self))
theorem five_aA (d : Ad) : d.aA ∈ d.five := List.mem_cons_of_mem _ (List.mem_cons_of_mem _ (List.mem_cons_of_mem _ (List.mem_cons_of_mem _ List.mem_cons_self)))
theorem mul2_ok {n : Nat} (h : n < 2) : IntMulOk 2 (n : Int) := by
  match n, h with
  | 0, _ => first | rfl | decide | (unfold IntMulOk; decide)
  | 1, _ => first | rfl | decide | (unfold IntMulOk; decide)
def bd : Nat → Nat
  | 0 => 24
  | n + 1 => 2 * bd n + 2
theorem bd_le {k : Nat} (h : k < 4) : bd k ≤ 206 := by
  rcases k with _ | _ | _ | _ | k
  · decide
  · decide
  · decide
  · decide
  · lia
set_option maxRecDepth 100000 in
set_option maxHeartbeats 16000000 in
theorem fin : PySem.Challenge.rw_af0029_01.Holds := by
  refine holds_law hd.said fun said => ?_
  refine holds_open (q := hd.view_39) (loose := []) (Xt := hd.Xt) (XP := XL hd.view_39 []) (Yf := Hook.obs hd.H) (Ya := Hook.val hd.H) (YP := Hook.says hd.H) (N := 3486) hd.left (Hook.of hd.H) (Hook.keeps hd.H) (fun s e => xl_of s (Bool.and_eq_true_iff.mp e).1) XL.keeps (by rfl) (by rfl) (by rfl) (fun s e => recFacts_of (Bool.and_eq_true_iff.mp e).2) (by rfl) said (by decide +kernel) ⟨rfl, rfl, rfl, rfl, rfl, by decide +kernel⟩ ?hw ?hc
  case hw => w_witness2
  k_go0
  refine law_end (x := ("script" : Str)) [("choice" : Str), ("vowels" : Str), ("doubles" : Str), ("kinds" : Str), ("tables" : Str), ("rows" : Str), ("puts" : Str), ("added" : Str), ("base" : Str), ("kind" : Str), ("table" : Str), ("put" : Str), ("row" : Str), ("st" : Str), ("i" : Str), ("m" : Str), ("text" : Str), ("k" : Str), ("told" : Str)]
    (by assumption) (topRead_of (by assumption)) (by assumption) (by assumption) (by assumption) (by rfl) (by decide +kernel) (by decide +kernel) rfl (fun s' L m' F' hg hos => goodW_bool F' (hg.trans (by assumption)) (fun _ => rfl) (by first | kc_post | wrow_post) hos) ?_
  intro c hL hd hs hco
  rename IntsAre _ _ => hI
  rename ¬ (63 : Int) < _ => h63
  rename List Int => ns0
  rename List Value => vs0
  have hvl := hI.length
  have hve := ints_er hI
  dsimp only at hs ⊢
  clear hI
  walk_at "m loc"
  refine Ss_cons ?_
  refine TS.mono (P := fun f lo h' => Cut (f = .next ∧ ∃ (sc : Addr), lo = [lR "script" sc, lN "choice", lN "vowels", lN "doubles", lN "kinds", lN "tables", lN "rows", lN "puts", lN "added", lN "base", lN "kind", lN "table", lN "put", lN "row", lN "st", lN "i", lN "m", lN "text", lN "k", lN "told"] ∧ h' sc = some (.list ((ns0.take 40).map .int)))) ?_ ?_
  · refine S_assign ?_
    refine E_lslice_old ?_
    walk1
    refine ⟨_, vs0, rfl, hL, by lia, ?_⟩
    refine E_int ?_
    refine ⟨40, rfl, fun r hr => ?_⟩
    rw [hve, ← List.map_take]
    repeat walk1
    exact cut ⟨rfl, _, rfl, Hp.upd_self ..⟩
  rintro f lo h0 ⟨hf, sc0, hlo, hsc0⟩
  subst hf hlo
  have hl40 : (ns0.take 40).length ≤ 40 := by rw [List.length_take]; lia
  generalize ns0.take 40 = ns1 at hsc0 hl40 ⊢
  show TSs _ _ _ _ _
  refine Ss_cons ?_
  refine TS.mono (P := fun f lo h' => Cut (f = .next ∧ ∃ (sc : Addr) (ns : List Int), lo = [lR "script" sc, lN "choice", lN "vowels", lN "doubles", lN "kinds", lN "tables", lN "rows", lN "puts", lN "added", lN "base", lN "kind", lN "table", lN "put", lN "row", lN "st", lN "i", lN "m", lN "text", lN "k", lN "told"] ∧ h' sc = some (.list (ns.map .int)) ∧ 0 < ns.length ∧ ns.length ≤ 40)) ?_ ?_
  · repeat walk1
    refine Tru_list hsc0 (by simp; lia) ?_
    repeat walk1
    refine ⟨fun hb => ?_, fun hb => ?_⟩
    · repeat walk1
      refine ⟨by simp, fun r hr => ?_⟩
      repeat walk1
      exact cut ⟨rfl, _, [3, 1, 4, 1, 5, 9, 2, 6], rfl, Hp.upd_self .., by decide, by decide⟩
    · repeat walk1
      refine cut ⟨rfl, sc0, ns1, rfl, hsc0, ?_, hl40⟩
      cases ns1 with
      | nil => simp at hb
      | cons a b => simp
  rintro f lo h1 ⟨hf, sc, ns, hlo, hsc, hn0, hn1⟩
  subst hf hlo
  show TSs _ _ _ _ _
  repeat ((fail_if_success (refine S_if ?_)); walk1)
  refine Cal_fn (at_ok (i := 36) hsc hn0 (by lia) (by lia) ?_) (by lia)
  generalize atI ns 36 = choice
  repeat ((fail_if_success (refine S_if ?_)); walk1)
  refine TS.mono (P := fun f lo h' => Cut (f = .next ∧ ∃ (va : Addr) (V : List LN), lo = [lR "script" sc, lI "choice" choice, lR "vowels" va, lN "doubles", lN "kinds", lN "tables", lN "rows", lN "puts", lN "added", lN "base", lN "kind", lN "table", lN "put", lN "row", lN "st", lN "i", lN "m", lN "text", lN "k", lN "told"] ∧ h1.le h' ∧ h' va = some (.sset V))) ?_ ?_
  · repeat walk1
    refine ⟨fun hb => ?_, fun hb => ?_⟩
    · repeat walk1
      refine E_set2 hco fun r hr => ?_
      repeat walk1
      exact cut ⟨rfl, _, _, rfl, Hp.le_upd hr, Hp.upd_self ..⟩
    · repeat walk1
      refine ⟨fun hb => ?_, fun hb => ?_⟩
      · repeat walk1
        refine E_set1 hco fun r hr => ?_
        repeat walk1
        exact cut ⟨rfl, _, _, rfl, Hp.le_upd hr, Hp.upd_self ..⟩
      · repeat walk1
        refine E_set2 hco fun r hr => ?_
        repeat walk1
        exact cut ⟨rfl, _, _, rfl, Hp.le_upd hr, Hp.upd_self ..⟩
  rintro f lo h2 ⟨hf, va, V, hlo, hle2, hva⟩
  subst hf hlo
  have hsc := hle2 _ _ hsc
  clear hle2 hsc0
  show TSs _ _ _ _ _
  refine Ss_cons ?_
  refine TS.mono (P := fun f lo h' => Cut (f = .next ∧ ∃ (da : Addr) (D : List LN), lo = [lR "script" sc, lI "choice" choice, lR "vowels" va, lR "doubles" da, lN "kinds", lN "tables", lN "rows", lN "puts", lN "added", lN "base", lN "kind", lN "table", lN "put", lN "row", lN "st", lN "i", lN "m", lN "text", lN "k", lN "told"] ∧ h2.le h' ∧ h' da = some (.sset D))) ?_ ?_
  · repeat walk1
    refine ⟨fun hb => ?_, fun hb => ?_⟩
    · repeat walk1
      refine E_set2 hco fun r hr => ?_
      repeat walk1
      exact cut ⟨rfl, _, _, rfl, Hp.le_upd hr, Hp.upd_self ..⟩
    · repeat walk1
      refine E_set2 hco fun r hr => ?_
      repeat walk1
      exact cut ⟨rfl, _, _, rfl, Hp.le_upd hr, Hp.upd_self ..⟩
  rintro f lo h3 ⟨hf, da, D, hlo, hle3, hda⟩
  subst hf hlo
  have hsc := hle3 _ _ hsc
  have hva := hle3 _ _ hva
  clear hle3
  show TSs _ _ _ _ _
  repeat walk1
  refine ⟨by simp, fun ka hka => ?_⟩
  repeat walk1
  refine ⟨by simp, fun tA htA => ?_⟩
  repeat walk1
  refine ⟨by simp, fun rA hrA => ?_⟩
  repeat walk1
  refine ⟨by simp, fun pA hpA => ?_⟩
  repeat walk1
  refine ⟨by simp, fun aA haA => ?_⟩
  repeat walk1
  have hM0 : Main (((((h3.upd ka (.list [])).upd tA (.list [])).upd rA (.list [])).upd pA (.list [])).upd aA (.list [])) ⟨sc, va, da, ka, tA, rA, pA, aA⟩ ns V D [] [] [] [] [] := by
    have l1 := Hp.le_upd (o := .list []) hka
    have l2 := Hp.le_upd (o := .list []) htA
    have l3 := Hp.le_upd (o := .list []) hrA
    have l4 := Hp.le_upd (o := .list []) hpA
    have l5 := Hp.le_upd (o := .list []) haA
    have k1 : (h3.upd ka (.list [])) ka = some (.list []) := Hp.upd_self ..
    have t2 : ((h3.upd ka (.list [])).upd tA (.list [])) tA = some (.list []) := Hp.upd_self ..
    have r3 : (((h3.upd ka (.list [])).upd tA (.list [])).upd rA (.list [])) rA = some (.list []) := Hp.upd_self ..
    have p4 : ((((h3.upd ka (.list [])).upd tA (.list [])).upd rA (.list [])).upd pA (.list [])) pA = some (.list []) := Hp.upd_self ..
    have s1 := l1 _ _ hsc
    have s2 := l2 _ _ s1
    have s3 := l3 _ _ s2
    have s4 := l4 _ _ s3
    have k2 := l2 _ _ k1
    have k3 := l3 _ _ k2
    have k4 := l4 _ _ k3
    have t3 := l3 _ _ t2
    have t4 := l4 _ _ t3
    have r4 := l4 _ _ r3
    refine ⟨l5 _ _ s4, l5 _ _ (l4 _ _ (l3 _ _ (l2 _ _ (l1 _ _ hva)))), l5 _ _ (l4 _ _ (l3 _ _ (l2 _ _ (l1 _ _ hda)))), l5 _ _ k4, l5 _ _ t4, l5 _ _ r4, l5 _ _ p4, Hp.upd_self .., ?_, ?_⟩
    · unfold Ad.five
      simp only [List.nodup_cons, List.mem_cons, List.not_mem_nil, or_false, not_or, not_false_eq_true, List.nodup_nil, and_true]
      exact ⟨⟨ne_of_some k1 htA, ne_of_some k2 hrA, ne_of_some k3 hpA, ne_of_some k4 haA⟩, ⟨ne_of_some t2 hrA, ne_of_some t3 hpA, ne_of_some t4 haA⟩, ⟨ne_of_some r3 hpA, ne_of_some r4 haA⟩, ne_of_some p4 haA⟩
    · unfold Ad.five
      simp only [List.mem_cons, List.not_mem_nil, or_false, not_or]
      exact ⟨ne_of_some hsc hka, ne_of_some s1 htA, ne_of_some s2 hrA, ne_of_some s3 hpA, ne_of_some s4 haA⟩
  generalize ((((h3.upd ka (.list [])).upd tA (.list [])).upd rA (.list [])).upd pA (.list [])).upd aA (.list []) = h4 at hM0 ⊢
  clear hka htA hrA hpA haA hsc hva hda
  obtain ⟨d, hd0⟩ : ∃ d : Ad, d = ⟨sc, va, da, ka, tA, rA, pA, aA⟩ := ⟨_, rfl⟩
  rw [← hd0] at hM0
  have q1 : sc = d.sc := by rw [hd0]
  have q2 : va = d.va := by rw [hd0]
  have q3 : da = d.da := by rw [hd0]
  have q4 : ka = d.ka := by rw [hd0]
  have q5 : tA = d.tA := by rw [hd0]
  have q6 : rA = d.rA := by rw [hd0]
  have q7 : pA = d.pA := by rw [hd0]
  have q8 : aA = d.aA := by rw [hd0]
  clear hd0
  subst q1 q2 q3 q4 q5 q6 q7 q8
  refine TS.mono (P := fun f lo h' => Cut (f = .next ∧ ∃ (Ls : List Lane) (o1 o2 o3 o4 o5 : Option PV), lo = [lR "script" d.sc, lI "choice" choice, lR "vowels" d.va, lR "doubles" d.da, lR "kinds" d.ka, lR "tables" d.tA, lR "rows" d.rA, lR "puts" d.pA, lR "added" d.aA, lO "base" o1, lO "kind" o2, lO "table" o3, lO "put" o4, lO "row" o5, lN "st", lN "i", lN "m", lN "text", lN "k", lN "told"] ∧ Ls.length = 4 ∧ Main h' d ns V D (Ls.map Lane.K) (Ls.map Lane.ta) (Ls.map Lane.ra) (Ls.map Lane.pa) (Ls.map Lane.A) ∧ (∀ l ∈ Ls, LaneAt h' l ∧ LaneOk l))) ?_ ?_
  · refine S_for_list ?_
    repeat walk1
    refine ⟨by simp, fun bl hbl => ?_⟩
    refine ⟨bl, bases, rfl, ?_⟩
    have hM1 := hM0.mono (Hp.le_upd (o := .list bases) hbl)
    have hbf : bl ∉ d.five := hM0.fresh hbl
    refine ⟨fun n lo h' => ∃ (Ls : List Lane) (o1 o2 o3 o4 o5 : Option PV), lo = [lR "script" d.sc, lI "choice" choice, lR "vowels" d.va, lR "doubles" d.da, lR "kinds" d.ka, lR "tables" d.tA, lR "rows" d.rA, lR "puts" d.pA, lR "added" d.aA, lO "base" o1, lO "kind" o2, lO "table" o3, lO "put" o4, lO "row" o5, lN "st", lN "i", lN "m", lN "text", lN "k", lN "told"] ∧ Ls.length = n ∧ Main h' d ns V D (Ls.map Lane.K) (Ls.map Lane.ta) (Ls.map Lane.ra) (Ls.map Lane.pa) (Ls.map Lane.A) ∧ Old h' bl Ls ∧ (∀ l ∈ Ls, Off d l ∧ LaneOk l), ⟨[], _, _, _, _, _, rfl, rfl, hM1, ⟨by simp, Hp.upd_self ..⟩, by simp⟩, ?_, ?_, ?_⟩
    · rintro i l h' ⟨Ls, _, _, _, _, _, _, _, _, o, _⟩; exact o.b
    · rintro n lo h' v hv ⟨Ls, o1, o2, o3, o4, o5, hlo, hLn, hM, hO, hOk⟩
      subst hlo
      obtain ⟨b, hb24, hn4, rfl⟩ : ∃ b : Nat, b ≤ 24 ∧ n < 4 ∧ v = .int (b : Int) := by
        unfold bases at hv
        match n, hv with
        | 0, e => exact ⟨0, by lia, by lia, by cases e; rfl⟩
        | 1, e => exact ⟨8, by lia, by lia, by cases e; rfl⟩
        | 2, e => exact ⟨16, by lia, by lia, by cases e; rfl⟩
        | 3, e => exact ⟨24, by lia, by lia, by cases e; rfl⟩
      have hOf : ∀ l ∈ Ls, Off d l := fun l hl => (hOk l hl).1
      repeat walk1
      refine Cal_fn (at_ok hM.mS hn0 (by lia) (by lia) ?_) (by lia)
      repeat walk1
      obtain ⟨kd, hkd⟩ : ∃ kd, atI ns b % 7 = kd := ⟨_, rfl⟩
      rw [hkd]
      have hk0 : 0 ≤ kd := by lia
      have hk6 : kd ≤ 6 := by lia
      clear hkd
      refine Cal_fn (table_ok hM.mS hn0 (by lia) hb24 (fun ta h5 T hta hle5 hTa hTok hTne hTru hTnd => ?_)) (by lia)
      have htaf := hM.fresh hta
      replace hM := hM.mono hle5
      replace hO := hO.mono hle5
      repeat walk1
      refine ⟨by simp, fun pu hpu => ?_⟩
      have hpuf := hM.fresh hpu
      repeat walk1
      refine TS.mono (P := fun f lo h' => Cut (f = .next ∧ ∃ (U : List LN) (o5 : Option PV), lo = [lR "script" d.sc, lI "choice" choice, lR "vowels" d.va, lR "doubles" d.da, lR "kinds" d.ka, lR "tables" d.tA, lR "rows" d.rA, lR "puts" d.pA, lR "added" d.aA, lI "base" b, lI "kind" kd, lR "table" ta, lR "put" pu, lO "row" o5, lN "st", lN "i", lN "m", lN "text", lN "k", lN "told"] ∧ h5.upd pu (.list (U.map .str)) = h' ∧ PutsTo T U T.length)) ?_ ?_
      · obtain ⟨refs, hta5, hrl, hrt⟩ := hTa
        refine S_for_list ?_
        walk1
        refine ⟨ta, refs.map .ref, rfl, ?_⟩
        refine ⟨fun k lo h' => ∃ (U : List LN) (o5 : Option PV), lo = [lR "script" d.sc, lI "choice" choice, lR "vowels" d.va, lR "doubles" d.da, lR "kinds" d.ka, lR "tables" d.tA, lR "rows" d.rA, lR "puts" d.pA, lR "added" d.aA, lI "base" b, lI "kind" kd, lR "table" ta, lR "put" pu, lO "row" o5, lN "st", lN "i", lN "m", lN "text", lN "k", lN "told"] ∧ h5.upd pu (.list (U.map .str)) = h' ∧ PutsTo T U k, ⟨_, _, rfl, rfl, PutsTo.start T⟩, ?_, ?_, ?_⟩
        · rintro i l h' ⟨U, _, _, hh, _⟩
          subst hh
          exact Hp.le_upd hpu _ _ hta5
        · rintro k lo h' v hv ⟨U, o5, hlo, hh, hPU⟩
          subst hlo hh
          rw [List.getElem?_map, Option.map_eq_some_iff] at hv
          obtain ⟨r, hr, rfl⟩ := hv
          have hk : k < T.length := by rw [← hrl]; exact (List.getElem?_eq_some_iff.mp hr).1
          have htk : T[k]? = some T[k] := List.getElem?_eq_getElem hk
          have htu := Hp.le_upd (o := .list (U.map .str)) hpu _ _ (hrt k r _ hr htk)
          have hmem : T[k] ∈ T := List.getElem_mem hk
          have ht6 := hTok.r6 _ hmem
          have htq := hTok.q2 _ hmem
          have hU7 := hPU.u7
          generalize T[k] = t at *
          repeat walk1
          refine Sub_tuple htu (by lia) (by lia) (v := .int t.r) rfl ?_
          repeat walk1
          refine ⟨fun hb => ?_, fun hb => ?_⟩
          · have hb := of_decide_eq_true hb
            refine Ss_cons ?_
            refine S_setitem ?_
            repeat walk1
            refine Sub_tuple htu (by lia) (by lia) (v := .str t.q) rfl ?_
            repeat walk1
            refine Sub_tuple htu (by lia) (by lia) (v := .int t.r) rfl ?_
            refine ⟨pu, U.map .str, t.r, rfl, rfl, Hp.upd_self .., by lia, by simp; lia, by lia, ?_⟩
            rw [Hp.upd_upd, show (U.map PV.str).set t.r.toNat (.str t.q) = (U.set t.r.toNat t.q).map PV.str from by rw [List.map_set]]
            repeat walk1
            refine turn_next ?_
            exact ⟨_, _, rfl, rfl, hPU.put htk hb ht6 htq hTru⟩
          · have hb := of_decide_eq_false hb
            repeat walk1
            refine turn_next ?_
            exact ⟨_, _, rfl, rfl, hPU.skip htk (by lia)⟩
        · rintro lo h' ⟨U, o5, hlo, hh, hPU⟩
          rw [List.length_map, hrl] at hPU
          exact cut ⟨rfl, U, o5, hlo, hh, hPU⟩
      rintro f lo h6 ⟨hf, U, o5', hlo, hh, hPU⟩
      subst hf hlo
      have hle6 : h5.le h6 := by rw [← hh]; exact Hp.le_upd hpu
      have hpu6 : h6 pu = some (.list (U.map .str)) := by rw [← hh]; exact Hp.upd_self ..
      clear hh
      replace hM := hM.mono hle6
      replace hO := hO.mono hle6
      have hT6 := hTa.mono hle6
      clear hTa hle6 hpu
      repeat walk1
      refine E_append ?_
      walk1
      refine ⟨d.ka, _, rfl, hM.mK, ?_⟩
      walk1
      refine ⟨_, hM.mK, by simp; lia, ?_⟩
      have hM7 := hM.pk kd
      have hO7 := hO.off (ws := (Ls.map Lane.K).map .int ++ [.int kd]) hbf hOf hM.mK (five_ka d)
      have hT7 := hT6.off (ws := (Ls.map Lane.K).map .int ++ [.int kd]) hM.mK (ne_five htaf (five_ka d))
      have hpu7 := (Hp.upd_ne h6 (.list ((Ls.map Lane.K).map .int ++ [.int kd])) (ne_five hpuf (five_ka d))).trans hpu6
      clear hM hO hT6 hpu6
      generalize h6.upd d.ka (.list ((Ls.map Lane.K).map .int ++ [.int kd])) = h7 at hM7 hO7 hT7 hpu7 ⊢
      repeat walk1
      refine E_append ?_
      walk1
      refine ⟨d.tA, _, rfl, hM7.mT, ?_⟩
      walk1
      refine ⟨_, hM7.mT, by simp; lia, ?_⟩
      have hM8 := hM7.pt ta
      have hO8 := hO7.off (ws := (Ls.map Lane.ta).map .ref ++ [.ref ta]) hbf hOf hM7.mT (five_tA d)
      have hT8 := hT7.off (ws := (Ls.map Lane.ta).map .ref ++ [.ref ta]) hM7.mT (ne_five htaf (five_tA d))
      have hpu8 := (Hp.upd_ne h7 (.list ((Ls.map Lane.ta).map .ref ++ [.ref ta])) (ne_five hpuf (five_tA d))).trans hpu7
      clear hM7 hO7 hT7 hpu7
      generalize h7.upd d.tA (.list ((Ls.map Lane.ta).map .ref ++ [.ref ta])) = h8 at hM8 hO8 hT8 hpu8 ⊢
      repeat walk1
      refine E_append ?_
      walk1
      refine ⟨d.rA, _, rfl, hM8.mR, ?_⟩
      repeat walk1
      refine E_and2 (decide (kd ≠ 3)) (.bool (decide (kd ≠ 4))) (fun P' hP => ?_) (fun _ P' hP => ?_) ?_
      · repeat walk1
        exact hP
      · repeat walk1
        exact hP
      rw [show (if decide (kd ≠ 3) = true then PV.bool (decide (kd ≠ 4)) else .bool false) = .bool (decide (kd ≠ 3 ∧ kd ≠ 4)) from by
        by_cases q1 : kd = 3 <;> by_cases q2 : kd = 4 <;> simp [q1, q2]]
      repeat walk1
      refine Cal_fn (rows_ok hT8 hTok hTnd (fun ra h9 R hra hle9 hRa hRok => ?_)) (by lia)
      have hraf := hM8.fresh hra
      replace hM8 := hM8.mono hle9
      replace hO8 := hO8.mono hle9
      replace hT8 := hT8.mono hle9
      replace hpu8 := hle9 _ _ hpu8
      clear hle9
      refine ⟨_, hM8.mR, by simp; lia, ?_⟩
      have hM9 := hM8.pr ra
      have hO9 := hO8.off (ws := (Ls.map Lane.ra).map .ref ++ [.ref ra]) hbf hOf hM8.mR (five_rA d)
      have hT9 := hT8.off (ws := (Ls.map Lane.ra).map .ref ++ [.ref ra]) hM8.mR (ne_five htaf (five_rA d))
      have hR9 := hRa.off (ws := (Ls.map Lane.ra).map .ref ++ [.ref ra]) hM8.mR (ne_five hraf (five_rA d))
      have hpu9 := (Hp.upd_ne h9 (.list ((Ls.map Lane.ra).map .ref ++ [.ref ra])) (ne_five hpuf (five_rA d))).trans hpu8
      clear hM8 hO8 hT8 hpu8 hRa
      generalize h9.upd d.rA (.list ((Ls.map Lane.ra).map .ref ++ [.ref ra])) = h10 at hM9 hO9 hT9 hpu9 hR9 ⊢
      repeat walk1
      refine E_append ?_
      walk1
      refine ⟨d.pA, _, rfl, hM9.mP, ?_⟩
      walk1
      refine ⟨_, hM9.mP, by simp; lia, ?_⟩
      have hM10 := hM9.pp pu
      have hO10 := hO9.off (ws := (Ls.map Lane.pa).map .ref ++ [.ref pu]) hbf hOf hM9.mP (five_pA d)
      have hT10 := hT9.off (ws := (Ls.map Lane.pa).map .ref ++ [.ref pu]) hM9.mP (ne_five htaf (five_pA d))
      have hR10 := hR9.off (ws := (Ls.map Lane.pa).map .ref ++ [.ref pu]) hM9.mP (ne_five hraf (five_pA d))
      have hpu10 := (Hp.upd_ne h10 (.list ((Ls.map Lane.pa).map .ref ++ [.ref pu])) (ne_five hpuf (five_pA d))).trans hpu9
      clear hM9 hO9 hT9 hpu9 hR9
      generalize h10.upd d.pA (.list ((Ls.map Lane.pa).map .ref ++ [.ref pu])) = h11 at hM10 hO10 hT10 hpu10 hR10 ⊢
      repeat walk1
      refine E_append ?_
      walk1
      refine ⟨d.aA, _, rfl, hM10.mA, ?_⟩
      repeat walk1
      rw [show (b : Int) + 7 = ((b + 7 : Nat) : Int) from rfl]
      refine Cal_fn (at_ok hM10.mS hn0 (by lia) (by lia) ?_) (by lia)
      repeat walk1
      generalize atI ns (b + 7) = m7
      refine Cal_fn (word_ok (by lia) (by lia) ?_) (by lia)
      have lA := wordL_len 2 (m7 / 4 % 16 + 5).toNat 20 (by lia) (by lia)
      generalize wordL (m7 / 4 % 16 + 5).toNat = A at lA ⊢
      refine ⟨_, hM10.mA, by simp; lia, ?_⟩
      have hM11 := hM10.pa A
      have hO11 := hO10.off (ws := (Ls.map Lane.A).map .str ++ [.str A]) hbf hOf hM10.mA (five_aA d)
      have hT11 := hT10.off (ws := (Ls.map Lane.A).map .str ++ [.str A]) hM10.mA (ne_five htaf (five_aA d))
      have hR11 := hR10.off (ws := (Ls.map Lane.A).map .str ++ [.str A]) hM10.mA (ne_five hraf (five_aA d))
      have hpu11 := (Hp.upd_ne h11 (.list ((Ls.map Lane.A).map .str ++ [.str A])) (ne_five hpuf (five_aA d))).trans hpu10
      clear hM10 hO10 hT10 hpu10 hR10
      generalize h11.upd d.aA (.list ((Ls.map Lane.A).map .str ++ [.str A])) = h12 at hM11 hO11 hT11 hpu11 hR11 ⊢
      repeat walk1
      refine turn_next ?_
      have hnew : LaneAt h12 ⟨kd, ta, ra, pu, T, R, U, A⟩ := ⟨hT11, hR11, hpu11⟩
      refine ⟨Ls ++ [⟨kd, ta, ra, pu, T, R, U, A⟩], _, _, _, _, _, rfl, by simp [hLn], by simpa using hM11, ⟨fun l hl => ?_, hO11.b⟩, fun l hl => ?_⟩
      · rcases List.mem_append.mp hl with q | q
        · exact hO11.l l q
        · rw [List.mem_singleton] at q; subst q; exact hnew
      · rcases List.mem_append.mp hl with q | q
        · exact hOk l q
        · rw [List.mem_singleton] at q; subst q
          exact ⟨⟨htaf, hraf, hpuf⟩, ⟨hk0, hk6, hTok, hTne, fun t ht h0 => hPU.ut t (by rw [List.take_length]; exact ht) h0, hPU.u7, hPU.u2, hRok, lA⟩⟩
    · rintro lo h' ⟨Ls, o1, o2, o3, o4, o5, hlo, hLn, hM, hO, hOk⟩
      exact cut ⟨rfl, Ls, o1, o2, o3, o4, o5, hlo, hLn, hM, fun l hl => ⟨hO.l l hl, (hOk l hl).2⟩⟩
  rintro f lo h5 ⟨hf, Ls, o1, o2, o3, o4, o5, hlo, hL4, hM, hLs⟩
  subst hf hlo
  clear hM0
  repeat walk1
  refine Cal_cls (d := 2) (fI := 35) (by k_is) (by k_is) (by k_is) (fun x dx hx hdx hxd => ?_) (by lia)
  have hcomm : ((h5.upd dx (.flds [])).upd x (.inst 199 dx)) = ((h5.upd x (.inst 199 dx)).upd dx (.flds [])) := by
    funext b; unfold Hp.upd
    by_cases q1 : b = x
    · subst q1; simp [hxd]
    · simp [q1]
  rw [hcomm]
  clear hcomm
  have hqn : (h5.upd x (.inst 199 dx)) dx = Option.none := by rw [Hp.upd_ne _ _ (Ne.symm hxd)]; exact hdx
  have hqx : (h5.upd x (.inst 199 dx)) x = some (.inst 199 dx) := Hp.upd_self ..
  replace hM := hM.mono (Hp.le_upd (o := .inst 199 dx) hx)
  replace hLs : ∀ l ∈ Ls, LaneAt (h5.upd x (.inst 199 dx)) l ∧ LaneOk l := fun l hl => ⟨(hLs l hl).1.mono (Hp.le_upd hx), (hLs l hl).2⟩
  clear hx hdx
  generalize h5.upd x (.inst 199 dx) = hq at hqn hqx hM hLs ⊢
  refine init_ok hqx hxd ?_
  refine ⟨rfl, ?_⟩
  have hle : ∀ σ, hq.le (stH hq dx σ) := fun σ => Hp.le_upd hqn
  have hTs : ∀ σ, TablesAt (stH hq dx σ) d.tA (Ls.map Lane.T) := by
    intro σ
    refine ⟨Ls.map Lane.ta, hle σ _ _ hM.mT, by simp, fun i r T e1 e2 => ?_⟩
    rw [List.getElem?_map, Option.map_eq_some_iff] at e1 e2
    obtain ⟨l, hl, rfl⟩ := e1
    obtain ⟨l', hl', rfl⟩ := e2
    rw [hl] at hl'; cases hl'
    exact (hLs l (List.mem_of_getElem? hl)).1.t.mono (hle σ)
  have hTl : ∀ T ∈ Ls.map Lane.T, 0 < T.length ∧ T.length ≤ 6 := by
    intro T hT
    obtain ⟨l, hl, rfl⟩ := List.mem_map.mp hT
    exact ⟨(hLs l hl).2.T.pos, (hLs l hl).2.T.six⟩
  have hTp : ∀ T ∈ Ls.map Lane.T, ∀ t ∈ T, t.p.length ≤ 10 := by
    intro T hT
    obtain ⟨l, hl, rfl⟩ := List.mem_map.mp hT
    exact (hLs l hl).2.T.p10
  have hL4' : (Ls.map Lane.T).length = 4 := by rw [List.length_map]; exact hL4
  generalize ([] : LN) = nil0
  repeat walk1
  refine S_for_range ?_
  repeat walk1
  refine Cal_range1 fun rr hrr => ?_
  obtain ⟨r1, r2⟩ := small_range (a := 0) (b := 2) (by lia) (by lia) (by lia) (by lia)
  refine ⟨rr, 0, 2, 1, 2, _, rfl, Hp.upd_self .., r1, by rw [r2]; rfl, Hp.le_upd hrr, ?_⟩
  refine ⟨fun n lo h' => ∃ (σ : Stm) (p1 p2 p3 p4 p5 : Option PV), lo = [lR "script" d.sc, lI "choice" choice, lR "vowels" d.va, lR "doubles" d.da, lR "kinds" d.ka, lR "tables" d.tA, lR "rows" d.rA, lR "puts" d.pA, lR "added" d.aA, lO "base" o1, lO "kind" o2, lO "table" o3, lO "put" o4, lO "row" o5, lR "st" x, lO "i" p1, lO "m" p2, lO "text" p3, lO "k" p4, lO "told" p5] ∧ stH hq dx σ = h', ⟨_, _, _, _, _, _, rfl, rfl⟩, ?_, ?_⟩
  · rintro n lo h' hn ⟨⟨cur, ci, cl, cb, cp, cq⟩, p1, p2, p3, p4, p5, hlo, hh⟩
    subst hlo hh
    rw [show (0 : Int) + (n : Nat) * 1 = (n : Nat) from by lia]
    have hmul : IntMulOk 2 (n : Int) := mul2_ok hn
    repeat walk1
    refine Bin_mul hmul ?_
    repeat walk1
    rw [show (33 : Int) + 2 * (n : Nat) = ((33 + 2 * n : Nat) : Int) from by lia]
    refine Cal_fn (at_ok (hle _ _ _ hM.mS) hn0 (by lia) (by lia) ?_) (by lia)
    generalize atI ns (33 + 2 * n) = m
    repeat walk1
    refine Cal_fn (piece_ok (hTs _) hL4' hTl ?_) (by lia)
    have lp1 := pieceL_len (m := m) hTp
    generalize pieceL (Ls.map Lane.T) m = t1 at lp1 ⊢
    repeat walk1
    refine Bin_mul hmul ?_
    repeat walk1
    rw [show (32 : Int) + 2 * (n : Nat) = ((32 + 2 * n : Nat) : Int) from by lia]
    refine Cal_fn (at_ok (hle _ _ _ hM.mS) hn0 (by lia) (by lia) ?_) (by lia)
    generalize atI ns (32 + 2 * n) = m2
    repeat walk1
    refine Cal_fn (word_ok (by lia) (by lia) ?_) (by lia)
    have lp2 := wordL_len 4 (m2 % 341).toNat 340 (by lia) (by lia)
    generalize wordL (m2 % 341).toNat = t2 at lp2 ⊢
    repeat walk1
    refine Cal_fn (piece_ok (hTs _) hL4' hTl ?_) (by lia)
    have lp3 := pieceL_len (m := m / 30) hTp
    generalize pieceL (Ls.map Lane.T) (m / 30) = t3 at lp3 ⊢
    repeat walk1
    have ltx : (t1 ++ t2 ++ t3).length ≤ 24 := by rw [List.length_append, List.length_append]; lia
    generalize t1 ++ t2 ++ t3 = text at ltx ⊢
    refine Cal_fn (set_current_ok hqx hxd (by lia) ?_) (by lia)
    repeat walk1
    refine Cal_fn (get_current_ok hqx hxd ?_) (by lia)
    repeat walk1
    refine ifq_f (by simp) ?_
    repeat walk1
    refine S_for_range ?_
    repeat walk1
    refine Cal_range1 fun rr hrr => ?_
    obtain ⟨r1, r2⟩ := small_range (a := 0) (b := 4) (by lia) (by lia) (by lia) (by lia)
    refine ⟨rr, 0, 4, 1, 4, _, rfl, Hp.upd_self .., r1, by rw [r2]; rfl, Hp.le_upd hrr, ?_⟩
    refine ⟨fun k lo h' => ∃ (y : LN) (cb cp cq : Int) (p4 p5 : Option PV), lo = [lR "script" d.sc, lI "choice" choice, lR "vowels" d.va, lR "doubles" d.da, lR "kinds" d.ka, lR "tables" d.tA, lR "rows" d.rA, lR "puts" d.pA, lR "added" d.aA, lO "base" o1, lO "kind" o2, lO "table" o3, lO "put" o4, lO "row" o5, lR "st" x, lI "i" n, lI "m" m, lS "text" y, lO "k" p4, lO "told" p5] ∧ stH hq dx ⟨y, 0, y.length, cb, cp, cq⟩ = h' ∧ y.length ≤ bd k, ⟨text, _, _, _, _, _, rfl, rfl, ltx⟩, ?_, ?_⟩
    · rintro k lo h' hk ⟨y, cb, cp, cq, p4, p5, hlo, hh, hy⟩
      subst hlo hh
      rw [show (0 : Int) + (k : Nat) * 1 = (k : Nat) from by lia]
      have hb : bd k ≤ 206 := bd_le hk
      have hkl : k < Ls.length := by lia
      have hlk : Ls[k]? = some Ls[k] := List.getElem?_eq_getElem hkl
      obtain ⟨hlA, hlO⟩ := hLs _ (List.getElem_mem hkl)
      generalize Ls[k] = l at hlk hlA hlO
      have g1 : ((Ls.map Lane.K).map PV.int)[((k : Nat) : Int).toNat]? = some (.int l.K) := by rw [Int.toNat_natCast]; simp [hlk]
      have g2 : ((Ls.map Lane.ta).map PV.ref)[((k : Nat) : Int).toNat]? = some (.ref l.ta) := by rw [Int.toNat_natCast]; simp [hlk]
      have g3 : ((Ls.map Lane.ra).map PV.ref)[((k : Nat) : Int).toNat]? = some (.ref l.ra) := by rw [Int.toNat_natCast]; simp [hlk]
      have g4 : ((Ls.map Lane.pa).map PV.ref)[((k : Nat) : Int).toNat]? = some (.ref l.pa) := by rw [Int.toNat_natCast]; simp [hlk]
      have g5 : ((Ls.map Lane.A).map PV.str)[((k : Nat) : Int).toNat]? = some (.str l.A) := by rw [Int.toNat_natCast]; simp [hlk]
      repeat walk1
      refine Sub_list (hle _ _ _ hM.mK) (by lia) (by lia) g1 ?_
      repeat walk1
      refine Sub_list (hle _ _ _ hM.mT) (by lia) (by lia) g2 ?_
      repeat walk1
      refine Sub_list (hle _ _ _ hM.mA) (by lia) (by lia) g5 ?_
      repeat walk1
      refine Cal_fn (plain_ok (hlA.t.mono (hle _)) (hle _ _ _ hM.mV) (hle _ _ _ hM.mD) hlO.T hlO.Tp hlO.k0 hlO.k6 (by lia) hlO.A2 ?_) (by lia)
      have hz := plain_len V D y hlO.T (fun e => hlO.Tp (.inr e)) hlO.A2
      repeat walk1
      refine Sub_list (hle _ _ _ hM.mK) (by lia) (by lia) g1 ?_
      repeat walk1
      refine Sub_list (hle _ _ _ hM.mR) (by lia) (by lia) g3 ?_
      repeat walk1
      refine Sub_list (hle _ _ _ hM.mP) (by lia) (by lia) g4 ?_
      repeat walk1
      refine Sub_list (hle _ _ _ hM.mA) (by lia) (by lia) g5 ?_
      repeat walk1
      refine Cal_fn (drive_ok (Kit.mk hqx hqn hlA.r hlA.p hM.mV hM.mD hlO.U7 hlO.U2 hlO.UT hlO.T hlO.Tp hlO.R) hlO.k0 hlO.k6 (by lia) hlO.A2 (fun b' p' q' => ?_)) (by lia)
      generalize plainL l.K l.T V D l.A y = z at hz ⊢
      repeat walk1
      refine Cal_fn (get_current_ok hqx hxd ?_) (by lia)
      repeat walk1
      refine B_or ?_
      repeat walk1
      refine Cal_isstr ?_
      repeat walk1
      refine ifq_f (by rfl) ?_
      refine B_or ?_
      repeat walk1
      refine ifq_f (by simp) ?_
      refine B_or_last ?_
      repeat walk1
      refine Cal_fn (assign_to_ok hqx hxd (by lia) ?_) (by lia)
      repeat walk1
      refine ifq_f (by simp) ?_
      repeat walk1
      refine turn_next ?_
      exact ⟨z, _, _, _, _, _, rfl, rfl, by show z.length ≤ 2 * bd k + 2; lia⟩
    · rintro lo h' ⟨y, cb, cp, cq, p4, p5, hlo, hh, hy⟩
      subst hlo hh
      repeat walk1
      refine turn_next ?_
      exact ⟨_, _, _, _, _, _, rfl, rfl⟩
  · rintro lo h' ⟨σ, p1, p2, p3, p4, p5, hlo, hh⟩
    subst hlo hh
    repeat walk1
    all_goals rfl
end
end Mine
set_option Elab.async false
theorem PySem.Challenge.cw_af0029_01_holds : PySem.Challenge.rw_af0029_01.Holds := by
  exact Mine.fin
