import PyProof.Rows.All
import Wide.All
import OpenK.AllK
import Wide.FinOn
import PySem.Challenge.RW_il0004_01
section
open PySem PySem.W PyProof.Rows
set_option Elab.async false
set_option maxRecDepth 100000
namespace Mine
/-- the program's top statements, and a def's parts -/
noncomputable def stAt (i : Nat) : Stmt := (PySem.Challenge.pw_il0004_01.main.body[i]?).getD (.Pass default)
noncomputable def bodyOf : Stmt → List Stmt
  | .FunctionDef _ _ b _ _ _ _ _ _ _ => b
  | _ => []
noncomputable def scopeOf : Stmt → Scope
  | .FunctionDef _ _ _ _ _ _ s _ _ _ => s
  | _ => default
noncomputable def parsOf : Stmt → Arguments
  | .FunctionDef _ p _ _ _ _ _ _ _ _ => p
  | _ => { posonlyargs := [], args := [], vararg := none, kwonlyargs := [], kw_defaults := [], kwarg := none, defaults := [] }
noncomputable def nameOf : Stmt → Str
  | .FunctionDef n _ _ _ _ _ _ _ _ _ => n
  | _ => Str.ofString ""
/-- the objects that the top leaves, as the law's functions reach them -/
noncomputable def fnO (st : Stmt) (mod : Value) (code : Addr) : Obj := { cls := Value.type "function", data := Data.func { name := nameOf st, qualname := nameOf st, params := parsOf st, body := FuncBody.stmts (bodyOf st), scope := scopeOf st, globals := 3, closure := [], defaults := Value.none, kwdefaults := Value.none, pyModule := mod, code := Value.ref code } }
noncomputable def tuO (l : List Value) : Obj := { cls := Value.type "tuple", data := Data.seq l.toArray }
noncomputable def coO (l : List Value) : Obj := { cls := Value.type "code", data := Data.fields l.toArray }
noncomputable def frag : Params → Frag := fun P => [
  (2, { cls := Value.none, data := Data.dict #[] }),
  (3, { cls := Value.type "dict", data := Data.dict #[{ hash := PyData.keyHash P (Str.ofString "__name__"), key := Value.str (Str.ofString "__name__") 165, val := Value.str (Str.ofString "law_il0004_01") 258 }, { hash := PyData.keyHash P (Str.ofString "__doc__"), key := Value.str (Str.ofString "__doc__") 166, val := Value.none }, { hash := PyData.keyHash P (Str.ofString "__package__"), key := Value.str (Str.ofString "__package__") 167, val := Value.none }, { hash := PyData.keyHash P (Str.ofString "__loader__"), key := Value.str (Str.ofString "__loader__") 168, val := Value.builtin "__main__.__loader__#opaque" }, { hash := PyData.keyHash P (Str.ofString "__spec__"), key := Value.str (Str.ofString "__spec__") 169, val := Value.none }, { hash := PyData.keyHash P (Str.ofString "__annotations__"), key := Value.str (Str.ofString "__annotations__") 170, val := Value.ref 6 }, { hash := PyData.keyHash P (Str.ofString "__builtins__"), key := Value.str (Str.ofString "__builtins__") 171, val := Value.ref 4 }, { hash := PyData.keyHash P (Str.ofString "__file__"), key := Value.str (Str.ofString "__file__") 173, val := Value.str (Str.ofString "/claim/cut.py") 172 }, { hash := PyData.keyHash P (Str.ofString "__cached__"), key := Value.str (Str.ofString "__cached__") 174, val := Value.none }, { hash := PyData.keyHash P (Str.ofString "_wall"), key := Value.str (Str.ofString "_wall") 193, val := Value.ref 21 }, { hash := PyData.keyHash P (Str.ofString "parse_keqv_list"), key := Value.str (Str.ofString "parse_keqv_list") 206, val := Value.ref 28 }, { hash := PyData.keyHash P (Str.ofString "parse_http_list"), key := Value.str (Str.ofString "parse_http_list") 212, val := Value.ref 33 }, { hash := PyData.keyHash P (Str.ofString "sep"), key := Value.str (Str.ofString "sep") 216, val := Value.str (Str.ofString "/") 215 }, { hash := PyData.keyHash P (Str.ofString "_kind"), key := Value.str (Str.ofString "_kind") 225, val := Value.ref 40 }, { hash := PyData.keyHash P (Str.ofString "_fspath"), key := Value.str (Str.ofString "_fspath") 234, val := Value.ref 47 }, { hash := PyData.keyHash P (Str.ofString "split"), key := Value.str (Str.ofString "split") 245, val := Value.ref 54 }, { hash := PyData.keyHash P (Str.ofString "_ancestry"), key := Value.str (Str.ofString "_ancestry") 255, val := Value.ref 61 }, { hash := PyData.keyHash P (Str.ofString "_dedupe"), key := Value.str (Str.ofString "_dedupe") 257, val := Value.ref 62 }, { hash := PyData.keyHash P (Str.ofString "_law_below"), key := Value.str (Str.ofString "_law_below") 265, val := Value.ref 67 }, { hash := PyData.keyHash P (Str.ofString "_law_grown"), key := Value.str (Str.ofString "_law_grown") 271, val := Value.ref 72 }, { hash := PyData.keyHash P (Str.ofString "_law_leaves"), key := Value.str (Str.ofString "_law_leaves") 282, val := Value.ref 79 }, { hash := PyData.keyHash P (Str.ofString "_law_up"), key := Value.str (Str.ofString "_law_up") 291, val := Value.ref 86 }, { hash := PyData.keyHash P (Str.ofString "_law_folders"), key := Value.str (Str.ofString "_law_folders") 302, val := Value.ref 93 }, { hash := PyData.keyHash P (Str.ofString "_law_item"), key := Value.str (Str.ofString "_law_item") 310, val := Value.ref 100 }, { hash := PyData.keyHash P (Str.ofString "_law_written"), key := Value.str (Str.ofString "_law_written") 322, val := Value.ref 107 }, { hash := PyData.keyHash P (Str.ofString "_law_packed"), key := Value.str (Str.ofString "_law_packed") 328, val := Value.ref 112 }, { hash := PyData.keyHash P (Str.ofString "_law_read"), key := Value.str (Str.ofString "_law_read") 339, val := Value.ref 119 }, { hash := PyData.keyHash P (Str.ofString "_law_due"), key := Value.str (Str.ofString "_law_due") 345, val := Value.ref 124 }, { hash := PyData.keyHash P (Str.ofString "law"), key := Value.str (Str.ofString "law") 351, val := Value.ref 129 }] 29 }),
  (6, { cls := Value.type "dict", data := Data.dict #[] }),
  (15, tuO []),
  (17, tuO [Value.str (Str.ofString "k") 190]),
  (18, tuO []),
  (20, coO [Value.str (Str.ofString "_wall") 187, Value.str (Str.ofString "_wall") 188, Value.str (Str.ofString "/claim/cut.py") 189, Value.int 1 0, Value.int 1 0, Value.int 0 0, Value.int 0 0, Value.int 3 0, Value.ref 15, Value.bool true, Value.int 181 0, Value.ref 16, Value.none, Value.ref 17, Value.ref 18, Value.ref 19, Value.int 191 0, Value.int 1 0, Value.str (Str.ofString "/claim/cut.py") 192]),
  (21, fnO (stAt 0) (Value.str (Str.ofString "__main__") 164) 20),
  (22, tuO []),
  (24, tuO [Value.str (Str.ofString "l") 199, Value.str (Str.ofString "parsed") 200, Value.str (Str.ofString "elt") 201, Value.str (Str.ofString "k") 202, Value.str (Str.ofString "v") 203]),
  (25, tuO []),
  (27, coO [Value.str (Str.ofString "parse_keqv_list") 196, Value.str (Str.ofString "parse_keqv_list") 197, Value.str (Str.ofString "/claim/cut.py") 198, Value.int 5 0, Value.int 1 0, Value.int 0 0, Value.int 0 0, Value.int 3 0, Value.ref 22, Value.bool true, Value.int 181 0, Value.ref 23, Value.none, Value.ref 24, Value.ref 25, Value.ref 26, Value.int 204 0, Value.int 5 0, Value.str (Str.ofString "/claim/cut.py") 205]),
  (28, fnO (stAt 2) (Value.str (Str.ofString "cpy313.urllib.request") 194) 27),
  (29, tuO []),
  (32, coO [Value.str (Str.ofString "parse_http_list") 207, Value.str (Str.ofString "parse_http_list") 208, Value.str (Str.ofString "/claim/cut.py") 209, Value.int 13 0, Value.int 1 0, Value.int 0 0, Value.int 0 0, Value.int 3 0, Value.ref 29, Value.bool true, Value.int 181 0, Value.ref 30, Value.none, Value.none, Value.none, Value.ref 31, Value.int 210 0, Value.int 13 0, Value.str (Str.ofString "/claim/cut.py") 211]),
  (33, fnO (stAt 3) (Value.str (Str.ofString "cpy313.urllib.request") 194) 32),
  (34, tuO []),
  (36, tuO [Value.str (Str.ofString "name") 220, Value.str (Str.ofString "x") 221, Value.str (Str.ofString "t") 222]),
  (37, tuO []),
  (39, coO [Value.str (Str.ofString "_kind") 217, Value.str (Str.ofString "_kind") 218, Value.str (Str.ofString "/claim/cut.py") 219, Value.int 42 0, Value.int 2 0, Value.int 0 0, Value.int 0 0, Value.int 3 0, Value.ref 34, Value.bool true, Value.int 181 0, Value.ref 35, Value.none, Value.ref 36, Value.ref 37, Value.ref 38, Value.int 223 0, Value.int 42 0, Value.str (Str.ofString "/claim/cut.py") 224]),
  (40, fnO (stAt 6) (Value.str (Str.ofString "posixpath") 213) 39),
  (41, tuO []),
  (43, tuO [Value.str (Str.ofString "name") 229, Value.str (Str.ofString "x") 230, Value.str (Str.ofString "k") 231]),
  (44, tuO []),
  (46, coO [Value.str (Str.ofString "_fspath") 226, Value.str (Str.ofString "_fspath") 227, Value.str (Str.ofString "/claim/cut.py") 228, Value.int 63 0, Value.int 2 0, Value.int 0 0, Value.int 0 0, Value.int 3 0, Value.ref 41, Value.bool true, Value.int 181 0, Value.ref 42, Value.none, Value.ref 43, Value.ref 44, Value.ref 45, Value.int 232 0, Value.int 63 0, Value.str (Str.ofString "/claim/cut.py") 233]),
  (47, fnO (stAt 7) (Value.str (Str.ofString "posixpath") 213) 46),
  (48, tuO []),
  (50, tuO [Value.str (Str.ofString "p") 238, Value.str (Str.ofString "sep") 239, Value.str (Str.ofString "i") 240, Value.str (Str.ofString "head") 241, Value.str (Str.ofString "tail") 242]),
  (51, tuO []),
  (53, coO [Value.str (Str.ofString "split") 235, Value.str (Str.ofString "split") 236, Value.str (Str.ofString "/claim/cut.py") 237, Value.int 68 0, Value.int 1 0, Value.int 0 0, Value.int 0 0, Value.int 3 0, Value.ref 48, Value.bool true, Value.int 181 0, Value.ref 49, Value.none, Value.ref 50, Value.ref 51, Value.ref 52, Value.int 243 0, Value.int 68 0, Value.str (Str.ofString "/claim/cut.py") 244]),
  (54, fnO (stAt 8) (Value.str (Str.ofString "posixpath") 213) 53),
  (55, tuO []),
  (57, tuO [Value.str (Str.ofString "path") 251, Value.str (Str.ofString "tail") 252]),
  (58, tuO []),
  (60, coO [Value.str (Str.ofString "_ancestry") 248, Value.str (Str.ofString "_ancestry") 249, Value.str (Str.ofString "/claim/cut.py") 250, Value.int 77 0, Value.int 1 0, Value.int 0 0, Value.int 0 0, Value.int 35 0, Value.ref 55, Value.bool true, Value.int 181 0, Value.ref 56, Value.none, Value.ref 57, Value.ref 58, Value.ref 59, Value.int 253 0, Value.int 77 0, Value.str (Str.ofString "/claim/cut.py") 254]),
  (61, fnO (stAt 10) (Value.str (Str.ofString "cpy313.zipfile._path") 246) 60),
  (62, { cls := Value.type "builtin_function_or_method", data := Data.fields #[Value.builtin "dict.fromkeys", Value.type "dict"] }),
  (63, tuO []),
  (66, coO [Value.str (Str.ofString "_law_below") 260, Value.str (Str.ofString "_law_below") 261, Value.str (Str.ofString "/claim/cut.py") 262, Value.int 84 0, Value.int 2 0, Value.int 0 0, Value.int 0 0, Value.int 3 0, Value.ref 63, Value.bool true, Value.int 181 0, Value.ref 64, Value.none, Value.none, Value.none, Value.ref 65, Value.int 263 0, Value.int 84 0, Value.str (Str.ofString "/claim/cut.py") 264]),
  (67, fnO (stAt 13) (Value.str (Str.ofString "law_il0004_01") 258) 66),
  (68, tuO []),
  (71, coO [Value.str (Str.ofString "_law_grown") 266, Value.str (Str.ofString "_law_grown") 267, Value.str (Str.ofString "/claim/cut.py") 268, Value.int 86 0, Value.int 1 0, Value.int 0 0, Value.int 0 0, Value.int 3 0, Value.ref 68, Value.bool true, Value.int 181 0, Value.ref 69, Value.none, Value.none, Value.none, Value.ref 70, Value.int 269 0, Value.int 86 0, Value.str (Str.ofString "/claim/cut.py") 270]),
  (72, fnO (stAt 14) (Value.str (Str.ofString "law_il0004_01") 258) 71),
  (73, tuO []),
  (75, tuO [Value.str (Str.ofString "above") 275, Value.str (Str.ofString "node") 276, Value.str (Str.ofString "below") 277, Value.str (Str.ofString "leaves") 278, Value.str (Str.ofString "k") 279]),
  (76, tuO []),
  (78, coO [Value.str (Str.ofString "_law_leaves") 272, Value.str (Str.ofString "_law_leaves") 273, Value.str (Str.ofString "/claim/cut.py") 274, Value.int 102 0, Value.int 2 0, Value.int 0 0, Value.int 0 0, Value.int 3 0, Value.ref 73, Value.bool true, Value.int 181 0, Value.ref 74, Value.none, Value.ref 75, Value.ref 76, Value.ref 77, Value.int 280 0, Value.int 102 0, Value.str (Str.ofString "/claim/cut.py") 281]),
  (79, fnO (stAt 15) (Value.str (Str.ofString "law_il0004_01") 258) 78),
  (80, tuO []),
  (82, tuO [Value.str (Str.ofString "above") 286, Value.str (Str.ofString "node") 287, Value.str (Str.ofString "way") 288]),
  (83, tuO []),
  (85, coO [Value.str (Str.ofString "_law_up") 283, Value.str (Str.ofString "_law_up") 284, Value.str (Str.ofString "/claim/cut.py") 285, Value.int 108 0, Value.int 2 0, Value.int 0 0, Value.int 0 0, Value.int 3 0, Value.ref 80, Value.bool true, Value.int 181 0, Value.ref 81, Value.none, Value.ref 82, Value.ref 83, Value.ref 84, Value.int 289 0, Value.int 108 0, Value.str (Str.ofString "/claim/cut.py") 290]),
  (86, fnO (stAt 16) (Value.str (Str.ofString "law_il0004_01") 258) 85),
  (87, tuO []),
  (89, tuO [Value.str (Str.ofString "above") 295, Value.str (Str.ofString "leaves") 296, Value.str (Str.ofString "folders") 297, Value.str (Str.ofString "leaf") 298, Value.str (Str.ofString "k") 299]),
  (90, tuO []),
  (92, coO [Value.str (Str.ofString "_law_folders") 292, Value.str (Str.ofString "_law_folders") 293, Value.str (Str.ofString "/claim/cut.py") 294, Value.int 114 0, Value.int 2 0, Value.int 0 0, Value.int 0 0, Value.int 3 0, Value.ref 87, Value.bool true, Value.int 181 0, Value.ref 88, Value.none, Value.ref 89, Value.ref 90, Value.ref 91, Value.int 300 0, Value.int 114 0, Value.str (Str.ofString "/claim/cut.py") 301]),
  (93, fnO (stAt 17) (Value.str (Str.ofString "law_il0004_01") 258) 92),
  (94, tuO []),
  (96, tuO [Value.str (Str.ofString "word") 306, Value.str (Str.ofString "held") 307]),
  (97, tuO []),
  (99, coO [Value.str (Str.ofString "_law_item") 303, Value.str (Str.ofString "_law_item") 304, Value.str (Str.ofString "/claim/cut.py") 305, Value.int 121 0, Value.int 2 0, Value.int 0 0, Value.int 0 0, Value.int 3 0, Value.ref 94, Value.bool true, Value.int 181 0, Value.ref 95, Value.none, Value.ref 96, Value.ref 97, Value.ref 98, Value.int 308 0, Value.int 121 0, Value.str (Str.ofString "/claim/cut.py") 309]),
  (100, fnO (stAt 18) (Value.str (Str.ofString "law_il0004_01") 258) 99),
  (101, tuO []),
  (103, tuO [Value.str (Str.ofString "above") 314, Value.str (Str.ofString "words") 315, Value.str (Str.ofString "texts") 316, Value.str (Str.ofString "node") 317, Value.str (Str.ofString "items") 318, Value.str (Str.ofString "k") 319]),
  (104, tuO []),
  (106, coO [Value.str (Str.ofString "_law_written") 311, Value.str (Str.ofString "_law_written") 312, Value.str (Str.ofString "/claim/cut.py") 313, Value.int 123 0, Value.int 4 0, Value.int 0 0, Value.int 0 0, Value.int 3 0, Value.ref 101, Value.bool true, Value.int 181 0, Value.ref 102, Value.none, Value.ref 103, Value.ref 104, Value.ref 105, Value.int 320 0, Value.int 123 0, Value.str (Str.ofString "/claim/cut.py") 321]),
  (107, fnO (stAt 19) (Value.str (Str.ofString "law_il0004_01") 258) 106),
  (108, tuO []),
  (111, coO [Value.str (Str.ofString "_law_packed") 323, Value.str (Str.ofString "_law_packed") 324, Value.str (Str.ofString "/claim/cut.py") 325, Value.int 131 0, Value.int 1 0, Value.int 0 0, Value.int 0 0, Value.int 3 0, Value.ref 108, Value.bool true, Value.int 181 0, Value.ref 109, Value.none, Value.none, Value.none, Value.ref 110, Value.int 326 0, Value.int 131 0, Value.str (Str.ofString "/claim/cut.py") 327]),
  (112, fnO (stAt 20) (Value.str (Str.ofString "law_il0004_01") 258) 111),
  (113, tuO []),
  (115, tuO [Value.str (Str.ofString "header") 332, Value.str (Str.ofString "front") 333, Value.str (Str.ofString "table") 334, Value.str (Str.ofString "rows") 335, Value.str (Str.ofString "key") 336]),
  (116, tuO []),
  (118, coO [Value.str (Str.ofString "_law_read") 329, Value.str (Str.ofString "_law_read") 330, Value.str (Str.ofString "/claim/cut.py") 331, Value.int 141 0, Value.int 2 0, Value.int 0 0, Value.int 0 0, Value.int 3 0, Value.ref 113, Value.bool true, Value.int 181 0, Value.ref 114, Value.none, Value.ref 115, Value.ref 116, Value.ref 117, Value.int 337 0, Value.int 141 0, Value.str (Str.ofString "/claim/cut.py") 338]),
  (119, fnO (stAt 21) (Value.str (Str.ofString "law_il0004_01") 258) 118),
  (120, tuO []),
  (123, coO [Value.str (Str.ofString "_law_due") 340, Value.str (Str.ofString "_law_due") 341, Value.str (Str.ofString "/claim/cut.py") 342, Value.int 150 0, Value.int 4 0, Value.int 0 0, Value.int 0 0, Value.int 3 0, Value.ref 120, Value.bool true, Value.int 181 0, Value.ref 121, Value.none, Value.none, Value.none, Value.ref 122, Value.int 343 0, Value.int 150 0, Value.str (Str.ofString "/claim/cut.py") 344]),
  (124, fnO (stAt 22) (Value.str (Str.ofString "law_il0004_01") 258) 123),
  (125, tuO []),
  (128, coO [Value.str (Str.ofString "law") 346, Value.str (Str.ofString "law") 347, Value.str (Str.ofString "/claim/cut.py") 348, Value.int 153 0, Value.int 1 0, Value.int 0 0, Value.int 0 0, Value.int 3 0, Value.ref 125, Value.bool true, Value.int 181 0, Value.ref 126, Value.none, Value.none, Value.none, Value.ref 127, Value.int 349 0, Value.int 153 0, Value.str (Str.ofString "/claim/cut.py") 350]),
  (129, fnO (stAt 23) (Value.str (Str.ofString "law_il0004_01") 258) 128)]
noncomputable abbrev fragAs : List Addr := [2, 3, 6, 15, 17, 18, 20, 21, 22, 24, 25, 27, 28, 29, 32, 33, 34, 36, 37, 39, 40, 41, 43, 44, 46, 47, 48, 50, 51, 53, 54, 55, 57, 58, 60, 61, 62, 63, 66, 67, 68, 71, 72, 73, 75, 76, 78, 79, 80, 82, 83, 85, 86, 87, 89, 90, 92, 93, 94, 96, 97, 99, 100, 101, 103, 104, 106, 107, 108, 111, 112, 113, 115, 116, 118, 119, 120, 123, 124, 125, 128, 129]
/-- the program's text as the law sees it: without the names that no function asks -/
noncomputable def view : Program := { PySem.Challenge.pw_il0004_01 with main := { PySem.Challenge.pw_il0004_01.main with body := [stAt 0, stAt 2, stAt 3, stAt 5, stAt 6, stAt 7, stAt 8, stAt 10, stAt 11, stAt 13, stAt 14, stAt 15, stAt 16, stAt 17, stAt 18, stAt 19, stAt 20, stAt 21, stAt 22, stAt 23] } }
end Mine
end
section
set_option Elab.async false
namespace Mine
/-! the small sums, each once -/
theorem om1 : ∀ {a0 a1 a2 : Nat}, a0 + (a1 + (1 : Nat)) < a2 → a0 < a2 := by lia
theorem om2 : ∀ {a0 a1 a2 a3 : Nat}, a0 ≤ a1 → a2 + (16 : Nat) * a1 < a3 → a2 + (16 : Nat) * a0 < a3 := by lia
theorem om3 : ∀ {a0 a1 a2 a3 : Nat}, a0 ≤ a1 → a2 + a1 < a3 → a2 + a0 < a3 := by lia
theorem om4 : ∀ {a0 a1 a2 : Nat}, a0 + (16 : Nat) * (a1 + (1 : Nat)) < a2 → a0 + (1 : Nat) + (16 : Nat) * a1 < a2 := by lia
theorem om5 : ∀ {a0 a1 a2 : Nat}, a0 + (a1 + (1 : Nat)) < a2 → a0 + a1 < a2 := by lia
theorem om6 : ∀ {a0 a1 a2 : Nat}, a0 + (16 : Nat) * (a1 + (1 : Nat)) < a2 → a0 + (3 : Nat) + (16 : Nat) * a1 < a2 := by lia
theorem om7 : ∀ {a0 a1 a2 : Nat}, a0 + (a1 + (1 : Nat)) < a2 → a0 + (1 : Nat) + a1 < a2 := by lia
theorem om8 : ∀ {a0 a1 : Nat}, a1 ≤ a0 → ¬a1 < a0 → a1 = a0 := by lia
theorem om9 : ∀ {a0 a1 : Nat}, a1 < a0 → a1 + (1 : Nat) ≤ a0 := by lia
theorem om10 : ∀ {a0 a1 a2 : Nat}, a1 + a2 = a0 + (1 : Nat) → a1 < a0 → a1 + (1 : Nat) + (a2 - (1 : Nat)) = a0 + (1 : Nat) := by lia
theorem om11 : ∀ {a0 a1 a2 : Nat}, a1 + a2 = a0 + (1 : Nat) → a1 < a0 → a2 - (1 : Nat) < a2 := by lia
theorem om12 : ∀ {a0 a1 a2 a3 a4 a5 : Nat}, a0 ≤ a1 → a3 = a2 → a2 < a0 → a4 ≤ a3 → a4 = a5 → a5 ≤ a1 := by lia
theorem om13 : ∀ {a0 a1 a2 : Nat}, a1 + a2 = a0 + (1 : Nat) → a1 ≤ a0 → a1 + (1 : Nat) + (a2 - (1 : Nat)) = a0 + (1 : Nat) := by lia
theorem om14 : ∀ {a0 a1 a2 : Nat}, a1 + a2 = a0 + (1 : Nat) → a1 ≤ a0 → a2 - (1 : Nat) < a2 := by lia
theorem om15 : ∀ {a0 a1 a2 : Nat}, a1 = a0 → a0 < a2 → a1 + (1 : Nat) ≤ a2 := by lia
theorem om16 : ∀ {a0 a1 a2 : Nat}, a1 = a0 → a2 < a0 → a2 < a1 := by lia
theorem om17 : ∀ {a0 : Nat}, (0 : Nat) + (a0 + (1 : Nat)) = a0 + (1 : Nat) := by lia
theorem om18 : ∀ {a0 a1 : Nat}, a0 ≤ a1 → ¬a0 < a1 → a0 = a1 := by lia
theorem om19 : ∀ {a0 a1 : Nat}, a0 < a1 → a0 + (1 : Nat) ≤ a1 := by lia
theorem om20 : ∀ {a0 a1 a2 : Nat}, a0 + a1 = a2 + (1 : Nat) → a0 < a2 → a0 + (1 : Nat) + (a1 - (1 : Nat)) = a2 + (1 : Nat) := by lia
theorem om21 : ∀ {a0 a1 a2 : Nat}, a0 + a1 = a2 + (1 : Nat) → a0 < a2 → a1 - (1 : Nat) < a1 := by lia
theorem om22 : ∀ {a0 : Nat}, (1 : Int) < (↑a0 : Int) → (↑a0 : Int) - (1 : Int) = (↑(a0 - (1 : Nat)) : Int) := by lia
theorem om23 : ∀ {a0 : Nat}, ¬(1 : Int) < (↑a0 : Int) → (0 : Int) = (↑(a0 - (1 : Nat)) : Int) := by lia
theorem om24 : ∀ {a0 a1 : Nat}, a0 ≤ (2 : Nat) ^ (62 : Nat) → a1 = a0 → (↑a1 : Int) < (2 : Int) ^ (63 : Nat) := by lia
theorem om25 : ∀ {a0 a1 : Nat}, a0 + (1 : Nat) + a1 = a0 + (a1 + (1 : Nat)) := by lia
theorem om26 : ∀ {a0 a1 : Nat}, a0 ≤ (2 : Nat) ^ (62 : Nat) → a1 < a0 → (↑a1 : Int) < (2 : Int) ^ (63 : Nat) := by lia
theorem om27 : ∀ {a0 : Nat}, (0 : Int) ≤ (↑a0 : Int) := by lia
theorem om28 : ∀ {a0 a1 a2 : Nat}, a0 ≤ a1 * ((2 : Nat) + (1 : Nat)) → a1 ≤ a2 * (3 : Nat) → a0 ≤ a2 * (9 : Nat) := by lia
theorem om29 : ∀ {a0 a1 a2 : Nat}, a0 ≤ a1 * (a2 + (1 : Nat)) → (0 : Nat) + (1 : Nat) + a0 ≤ a1 * (a2 + (1 : Nat)) + (a2 + (1 : Nat)) := by lia
theorem om30 : ∀ {a0 a1 a2 : Nat}, a0 ≤ a1 * (a2 + (1 : Nat)) → a2 + a0 ≤ a1 * (a2 + (1 : Nat)) + (a2 + (1 : Nat)) := by lia
theorem om31 : ∀ {a0 : Nat}, ¬(↑a0 : Int) + (1 : Int) = (0 : Int) := by lia
theorem om32 : ∀ {a0 : Nat}, a0 ≤ (16777216 : Nat) → ¬(↑a0 : Int) ≥ (2 : Int) ^ (63 : Nat) := by lia
theorem om33 : ∀ {a0 a1 : Nat}, (↑a0 : Int) = (↑a1 : Int) ↔ a0 = a1 := by lia
theorem om34 : ∀ {a0 a1 : Nat}, a0 + (2 : Nat) ≤ a1 → a0 ≤ a1 := by lia
theorem om35 : ∀ {a0 a1 a2 : Nat}, a0 + (2 : Nat) ≤ a1 → a2 ≤ a0 + (1 : Nat) - (0 : Nat) → a2 + (1 : Nat) ≤ a1 := by lia
theorem om36 : ∀ {a0 a1 : Nat}, (↑a0 : Int) = (↑a1 : Int) ↔ a1 = a0 := by lia
theorem om37 : ∀ {a0 a1 : Nat}, a0 + (16 : Nat) * (5 : Nat) < a1 → a0 + (64 : Nat) < a1 := by lia
theorem om38 : ∀ {a0 a1 : Nat}, a0 ≤ (64 : Nat) → a1 ≤ a0 → a1 ≤ (64 : Nat) := by lia
theorem om39 : ∀ {a0 a1 a2 a3 : Nat}, a0 ≤ a1 → a2 ≤ a3 → Max.max a0 (Max.max a2 (0 : Nat)) + (1 : Nat) ≤ Max.max a1 a3 + (1 : Nat) := by lia
theorem om40 : ∀ {a0 a1 : Nat}, a0 ≤ a1 → a0 + (1 : Nat) ≤ a1 + (1 : Nat) := by lia
theorem om41 : ∀ {a0 a1 a2 : Nat}, a0 ≤ a1 → a2 ≤ a1 → Max.max a0 a2 ≤ a1 := by lia
theorem om42 : ∀ {a0 : Nat}, a0 ≠ (0 : Nat) → (↑a0 : Int) ≠ (0 : Int) := by lia
theorem om43 : ∀ {a0 a1 : Nat}, a1 + (1 : Nat) + a0 = a1 + (a0 + (1 : Nat)) := by lia
theorem om44 : ∀ {a0 a1 : Nat}, a0 < a1 → a0 < a1 := by lia
theorem om45 : ∀ {a0 : Nat}, (0 : Nat) + a0 ≤ a0 := by lia
theorem om46 : ∀ {a0 a1 : Nat}, a0 + (a1 + (1 : Nat)) = a0 + (1 : Nat) + a1 := by lia
theorem om47 : ∀ {a0 a1 a2 : Nat}, a0 + (a1 + (1 : Nat)) ≤ a2 → a0 + (1 : Nat) + a1 ≤ a2 := by lia
theorem om48 : ∀ {a0 a1 a2 : Nat}, a0 + (a1 + (1 : Nat)) ≤ a2 → a0 < a2 := by lia
theorem om49 : ∀ {a0 a1 : Nat}, a1 < a0 - (1 : Nat) → a1 + (1 : Nat) < a0 := by lia
theorem om50 : ∀ {a0 : Nat}, (1 : Int) + (↑a0 : Int) = (↑(a0 + (1 : Nat)) : Int) := by lia
theorem om51 : ∀ {a0 : Nat}, a0 ≤ (100 : Nat) → a0 ≤ (2 : Nat) ^ (62 : Nat) := by lia
theorem om52 : ∀ {a0 : Nat}, a0 ≤ (100 : Nat) → a0 - (1 : Nat) ≤ (16777216 : Nat) := by lia
theorem om53 : ∀ {a0 : Nat}, a0 ≤ (100 : Nat) → -(2 : Int) ^ (62 : Nat) ≤ (↑a0 : Int) ∧ (↑a0 : Int) < (2 : Int) ^ (62 : Nat) := by lia
theorem om54 : -(2 : Int) ^ (62 : Nat) ≤ (1 : Int) ∧ (1 : Int) < (2 : Int) ^ (62 : Nat) := by lia
theorem om55 : ∀ {a0 a1 a2 : Nat}, a0 ≤ (1000 : Nat) → a1 ≤ (1000000 : Nat) → a2 ≤ a1 * (9 : Nat) → a0 + (1 : Nat) + ((1 : Nat) + a2 + (1 : Nat)) ≤ (16777216 : Nat) := by lia
theorem om56 : ∀ {a0 a1 : Nat}, a0 ≤ (1000000 : Nat) → a1 ≤ a0 * (9 : Nat) → (1 : Nat) + a1 + (1 : Nat) ≤ (16777216 : Nat) := by lia
theorem om57 : ∀ {a0 a1 : Nat}, a0 ≤ (1000000 : Nat) → a1 ≤ a0 * (9 : Nat) → (1 : Nat) + a1 ≤ (16777216 : Nat) := by lia
theorem om58 : ∀ {a0 a1 : Nat}, a0 ≤ (1000000 : Nat) → a1 ≤ a0 * (3 : Nat) → a1 + (a1 + (1 : Nat)) * (2 : Nat) ≤ (16777216 : Nat) := by lia
theorem om59 : ∀ {a0 a1 : Nat}, a1 = a0 + (1 : Nat) → a0 < a1 := by lia
theorem om60 : ∀ {a0 a1 : Nat}, a1 = a0 + (1 : Nat) → (0 : Nat) < a1 := by lia
theorem om61 : ∀ {a0 a1 a2 : Nat}, a1 = a0 + (1 : Nat) → a1 ≤ a2 → (0 : Nat) < a2 := by lia
theorem om62 : ∀ {a0 : Nat}, a0 ≤ (1000000 : Nat) → a0 + (a0 + (1 : Nat)) * (2 : Nat) ≤ (16777216 : Nat) := by lia
theorem om63 : ∀ {a0 a1 : Nat}, a0 ≤ (1000 : Nat) → a1 ≤ (1000000 : Nat) → a0 + (1 : Nat) + a1 ≤ (16777216 : Nat) := by lia
theorem om64 : ∀ {a0 : Nat}, a0 ≤ (1000 : Nat) → a0 + (1 : Nat) ≤ (16777216 : Nat) := by lia
theorem om65 : ∀ {a0 a1 : Nat}, a0 = a1 + (1 : Nat) → (1 : Nat) ≤ a0 := by lia
theorem om66 : ∀ {a0 a1 a2 : Nat}, a1 < a0 → a2 < a1 → a2 < a0 := by lia
theorem om67 : ∀ {a0 a1 a2 a3 a4 : Nat}, a0 ≤ (100 : Nat) → a1 < a0 → a2 = a3 → a3 + a4 ≤ a1 → a2 ≤ (16777216 : Nat) := by lia
theorem om68 : ∀ {a0 a1 : Nat}, a1 < a0 + (1 : Nat) → a1 ≤ a0 := by lia
theorem om69 : ∀ {a0 a1 a2 : Nat}, a1 + (1 : Nat) < a0 → a2 < a1 + (1 : Nat) → a2 < a0 := by lia
theorem om70 : ∀ {a0 a1 : Nat}, a1 < a0 → a0 = a0 - (1 : Nat) + (1 : Nat) := by lia
theorem om71 : ∀ {a0 : Nat}, a0 ≠ (0 : Nat) → (0 : Nat) < a0 := by lia
theorem om72 : ∀ {a0 a1 a2 : Nat}, a0 ≤ a1 + (1 : Nat) → a2 < a0 → a2 ≤ a1 := by lia
theorem om73 : ∀ {a0 a1 a2 : Nat}, a0 < a1 → a2 < a0 → a2 < a1 := by lia
theorem om74 : ∀ {a0 : Nat}, ¬a0 = (0 : Nat) → (0 : Nat) < a0 := by lia
theorem om75 : ∀ {a0 : Nat}, a0 ≤ (0 : Nat) → a0 = (0 : Nat) := by lia
theorem om76 : ∀ {a0 : Nat}, a0 + (1 : Nat) ≤ (3 : Nat) → a0 ≤ (3 : Nat) := by lia
theorem om77 : ∀ {a0 a1 : Nat}, a0 ≤ a1 → a1 ≤ (100 : Nat) ^ (2 : Nat) → a0 ≤ (10000 : Nat) := by lia
theorem om78 : ∀ {a0 : Nat}, a0 + (1 : Nat) ≤ (3 : Nat) → a0 ≤ (2 : Nat) := by lia
theorem om79 : ∀ {a0 : Nat}, (6 : Nat) ≤ a0 + (7 : Nat) := by lia
theorem om80 : (6 : Nat) ≤ (6 : Nat) := by lia
theorem om81 : ∀ {a0 : Nat}, (6 : Nat) ≤ a0 → (5 : Nat) ≤ a0 := by lia
theorem om82 : ∀ {a0 a1 a2 a3 a4 a5 a6 : Nat}, a1 ≤ (1 : Nat) → a3 = a1 + a4 → a5 = a6 → a4 ≤ Min.min a2 a0 * (10000 : Nat) → a6 ≤ (10000 : Nat) → Min.min a2 a0 * (10000 : Nat) ≤ (100 : Nat) * (10000 : Nat) → a3 + a5 ≤ (16777216 : Nat) := by lia
theorem om83 : ∀ {a0 a1 a2 : Nat}, a0 ≤ (100 : Nat) → a1 ≤ a0 → Min.min a2 a1 ≤ (100 : Nat) := by lia
theorem om84 : ∀ {a0 : Nat}, (6 : Nat) ≤ a0 → (3 : Nat) ≤ a0 := by lia
theorem om85 : ∀ {a0 a1 : Nat} {p2 : Prop}, ((1 : Nat) ≤ a0 ∧ a0 < (1 : Nat) + (a1 - (1 : Nat))) ∧ p2 → (0 : Nat) < a0 := by lia
theorem om86 : ∀ {a0 a1 a2 : Nat}, a0 ≤ a1 * a2 → a1 * a2 ≤ (100 : Nat) * a2 → a0 ≤ a2 * (100 : Nat) := by lia
theorem om87 : ∀ {a0 a1 : Nat}, a0 ≤ (100 : Nat) → a1 ≤ a0 → a1 ≤ (100 : Nat) := by lia
theorem om88 : ∀ {a0 : Nat}, (0 : Nat) < a0 → (0 : Nat) + (1 : Nat) ≤ a0 := by lia
theorem om89 : ∀ {a0 a1 a2 a3 : Nat}, a0 ≤ a1 → a2 ≤ a3 * a1 → a0 + a2 ≤ a3 * a1 + a1 := by lia
theorem om90 : ∀ {a0 : Nat}, a0 - (1 : Nat) ≤ a0 := by lia
theorem om91 : ∀ {a0 a1 a2 a3 a4 a5 a6 a7 a8 : Nat}, a0 ≤ (100 : Nat) → a1 ≤ (10000 : Nat) → a3 < a0 → a4 ≤ (0 : Nat) + Min.min a2 a1 * (100 : Nat) → a6 = a7 → a7 ≤ a4 + Min.min a5 a8 → a8 ≤ a3 → a6 ≤ (16777216 : Nat) := by intro a0 a1 a2 a3 a4 a5 a6 a7 a8 h1 h2 h3 h4 h5 h6 h7; have e1 := Nat.min_le_right a2 a1; have e2 := Nat.min_le_right a5 a8; generalize Min.min a2 a1 = u at h4 e1; generalize Min.min a5 a8 = v at h6 e2; lia
theorem om92 : (3 : Nat) ≤ (4 : Nat) := by lia
theorem om93 : ∀ {a0 a1 : Nat}, a0 ≤ (10000 : Nat) → Min.min a1 a0 ≤ (10000 : Nat) := by lia
theorem om94 : ∀ {a0 a1 : Nat}, a0 ≤ (100 : Nat) → a1 < a0 → a1 ≤ (100 : Nat) := by lia
theorem om95 : ∀ {a0 a1 a2 a3 a4 a5 a6 : Nat}, a0 ≤ a1 + a2 * a3 → a1 ≤ a4 + a5 → a5 ≤ a6 → a6 ≤ a3 → a0 ≤ a4 + (a2 * a3 + a3) := by lia
theorem om96 : ∀ {a0 a1 a2 a3 : Nat}, a0 ≤ a1 + a2 → a1 ≤ a3 + (1 : Nat) → a0 ≤ a3 + (a2 + (1 : Nat)) := by lia
theorem om97 : ∀ {a0 : Nat}, a0 ≤ a0 + (1 : Nat) := by lia
theorem om98 : ∀ {a0 : Nat}, a0 ≤ (100 : Nat) → a0 ≤ (16777215 : Nat) := by lia
theorem om99 : ∀ {a0 a1 : Nat}, a0 ≤ (100 : Nat) → a1 = a0 → a1 ≤ (2 : Nat) ^ (62 : Nat) := by lia
theorem om100 : ∀ {a0 : Nat}, a0 ≤ (100 : Nat) → a0 ≤ (16777216 : Nat) := by lia
theorem om101 : ∀ {a0 a1 a2 a3 a4 : Nat}, a0 ≤ (100 : Nat) → a1 < a0 → a3 = a4 → a4 ≤ a2 → a2 ≤ a1 → a3 ≤ (100 : Nat) := by lia
theorem om102 : ∀ {a0 a1 a2 a3 : Nat}, a0 ≤ (100 : Nat) → a1 < a0 → a2 = a3 → a3 ≤ a1 → a2 ≤ (16777216 : Nat) := by lia
theorem om103 : ∀ {a0 : Nat}, a0 + (1 : Nat) ≤ (3 : Nat) → a0 = (0 : Nat) ∨ a0 = (1 : Nat) ∨ a0 = (2 : Nat) := by lia
theorem om104 : (3 : Nat) ≤ (3 : Nat) := by lia
theorem om105 : (3 : Nat) ≤ (61852 : Nat) := by lia
theorem om106 : ∀ {a0 a1 : Nat}, a0 ≤ (14 : Nat) * ((6 : Nat) + a1 * (9 : Nat) + (2 : Nat)) → a0 ≤ (14 : Nat) * ((8 : Nat) + (9 : Nat) * a1) := by lia
theorem om107 : ∀ {a0 a1 : Nat}, a0 ≤ (15 : Nat) → a1 ≤ a0 - (1 : Nat) → a1 ≤ (14 : Nat) := by lia
theorem om108 : ∀ {a0 : Nat}, a0 = (0 : Nat) → a0 ≤ (3 : Nat) := by lia
theorem om109 : ∀ {a0 : Nat}, (3 : Nat) ≤ (14 : Nat) * ((8 : Nat) + (9 : Nat) * a0) := by lia
theorem om110 : ∀ {a0 : Nat}, a0 - (1 : Nat) ≤ a0 - (1 : Nat) := by lia
theorem om111 : ∀ {a0 a1 a2 : Nat}, a0 ≤ (15 : Nat) → a2 ≤ a0 → a2 * ((6 : Nat) + a1 * (9 : Nat)) ≤ (15 : Nat) * ((6 : Nat) + (61852 : Nat) * (9 : Nat)) → a2 * ((6 : Nat) + a1 * (9 : Nat)) + a2 * (2 : Nat) ≤ (16777216 : Nat) := by lia
theorem om112 : ∀ {a0 : Nat}, a0 ≤ (61852 : Nat) → (6 : Nat) + a0 * (9 : Nat) ≤ (6 : Nat) + (61852 : Nat) * (9 : Nat) := by lia
theorem om113 : ∀ {a0 a1 : Nat}, a0 ≤ (15 : Nat) → a1 ≤ a0 → a1 ≤ (15 : Nat) := by lia
theorem om114 : ∀ {a0 : Nat}, a0 ≤ (3 : Nat) → a0 ≤ (1000000 : Nat) := by lia
theorem om115 : ∀ {a0 : Nat}, a0 ≤ (2 : Nat) → a0 ≤ (1000 : Nat) := by lia
theorem om116 : ∀ {a0 a1 : Nat}, a0 ≤ (15 : Nat) → a1 = a0 → a1 ≤ (2 : Nat) ^ (62 : Nat) := by lia
theorem om117 : ∀ {a0 : Nat}, a0 ≤ (15 : Nat) → a0 ≤ (100 : Nat) := by lia
theorem om118 : ∀ {a0 a1 : Nat}, a0 ≤ (61852 : Nat) → a1 ≤ a0 → a1 ≤ (1000000 : Nat) := by lia
theorem om119 : ∀ {a0 : Nat}, a0 ≤ (2 : Nat) → a0 + (1 : Nat) ≤ (1000 : Nat) := by lia
theorem om120 : ∀ {a0 : Nat}, a0 ≤ (2 : Nat) → a0 + (1 : Nat) ≤ (16777216 : Nat) := by lia
theorem om121 : ∀ {a0 a1 a2 a3 : Nat}, a0 ≤ (15 : Nat) → a1 ≤ a0 → a3 = Min.min a2 a1 → a3 ≤ (100 : Nat) := by lia
theorem om122 : ∀ {a0 a1 a2 a3 : Nat}, a0 ≤ a1 → a2 ≤ (2 : Nat) → a3 ≤ a2 + (1 : Nat) + (1 : Nat) + (a0 * (9 : Nat) + (2 : Nat)) → a3 ≤ (6 : Nat) + a1 * (9 : Nat) := by lia
theorem om123 : ∀ {a0 a1 a2 a3 : Nat}, (3 : Nat) ≤ a0 → a1 ≤ (2 : Nat) → a2 ≤ (3 : Nat) → a3 ≤ a1 + (1 : Nat) + (a2 * (9 : Nat) + (2 : Nat)) → a3 ≤ (6 : Nat) + a0 * (9 : Nat) := by lia
theorem om124 : ∀ {a0 a1 : Nat}, a0 = (0 : Nat) → a0 ≤ a1 := by lia
theorem om125 : ∀ {a0 a1 a2 : Nat}, a0 * a1 + a0 * (2 : Nat) ≤ (16777216 : Nat) → a2 ≤ a0 * a1 → a2 + a0 * (2 : Nat) ≤ (16777216 : Nat) := by lia
theorem om126 : ∀ {a0 a1 a2 a3 a4 : Nat}, a2 ≤ a3 + a0 * (2 : Nat) → a3 ≤ a0 * a4 → a0 * a4 + a0 * (2 : Nat) ≤ a1 * (a4 + (2 : Nat)) → a2 ≤ a1 * (a4 + (2 : Nat)) := by lia
theorem om127 : ∀ {a0 a1 a2 : Nat}, a0 ≤ a1 * (9 : Nat) → a2 + (1 : Nat) + ((1 : Nat) + a0 + (1 : Nat)) ≤ a2 + (1 : Nat) + (a1 * (9 : Nat) + (2 : Nat)) := by lia
theorem om128 : ∀ {a0 a1 : Nat}, a1 + (1 : Nat) + a0 ≤ a1 + (1 : Nat) + (a0 * (9 : Nat) + (2 : Nat)) := by lia
theorem om129 : ∀ {a0 a1 a2 : Nat}, a0 ≤ a1 → a2 ≤ a0 → a2 ≤ a1 := by lia
theorem om130 : ∀ {a0 a1 : Nat}, a0 ≤ (16777216 : Nat) → a1 ≤ a0 → a1 ≤ (16777216 : Nat) := by lia
theorem om131 : ∀ {a0 a1 : Nat}, a0 ≤ (16777216 : Nat) → a1 = (16777216 : Nat) → ¬(1 : Nat) * a0 > a1 := by lia
theorem om132 : ∀ {a0 : Nat}, (1 : Int) ≤ ((2 : Int) ^ (63 : Nat) - (1 : Int)) / (↑a0 : Int) → ¬(↑(1 : Nat) : Int) > ((2 : Int) ^ (63 : Nat) - (1 : Int)) / (↑a0 : Int) := by lia
theorem om133 : ∀ {a0 : Nat}, a0 ≤ (16777216 : Nat) → (1 : Int) * (↑a0 : Int) ≤ (2 : Int) ^ (63 : Nat) - (1 : Int) := by lia
theorem om134 : ∀ {a0 : Nat}, ¬(↑a0 : Int) < (1 : Int) → (0 : Int) < (↑a0 : Int) := by lia
theorem om135 : ∀ {a0 : Nat}, ¬(↑a0 : Int) < -(2 : Int) ^ (63 : Nat) := by lia
theorem om136 : ∀ {a0 a1 : Nat}, a0 ≤ a0 + a1 := by lia
theorem om137 : ∀ {a0 a1 a2 a3 : Nat}, a0 ≤ a1 → ¬a2 < a0 → ¬a2 - (Min.min a0 a1 - (0 : Nat)) < Min.min a3 a3 - a0 → a3 ≤ a2 := by lia
theorem om138 : ∀ {a0 a1 a2 : Nat}, a0 ≤ a1 → ¬a2 < a0 → a2 = a0 + (a2 - (Min.min a0 a1 - (0 : Nat))) := by lia
theorem om139 : ∀ {a0 a1 a2 : Nat}, ¬a2 < a0 → Min.min a0 a1 ≤ a2 := by lia
theorem om140 : ∀ {a0 a1 a2 : Nat}, a2 < a0 → Min.min a0 a1 ≤ a2 → a1 ≤ a2 := by lia
theorem om141 : ∀ {a0 a1 a2 : Nat}, a0 ≤ a1 → a2 < a0 → a2 < a1 := by lia
theorem om142 : ∀ {a0 a1 a2 : Nat}, a0 ≤ a1 → a2 < a0 → a2 ≠ a1 := by lia
theorem om143 : ∀ {a0 a1 a2 : Nat}, a0 ≤ a1 → a2 < a0 → a2 < Min.min a0 a1 := by lia
theorem om144 : ∀ {a0 a1 : Nat}, ¬a0 < a1 → a1 ≤ a0 := by lia
theorem om145 : ∀ {a0 a1 : Nat}, a0 + (1 : Nat) ≤ a1 → a1 - a0 = a1 - (a0 + (1 : Nat)) + (1 : Nat) := by lia
theorem om146 : ∀ {a0 a1 : Nat}, a0 + (1 : Nat) ≤ a1 → a0 ≤ a1 := by lia
theorem om147 : ∀ {a0 a1 : Nat}, a1 - (1 : Nat) - a0 = a1 - (a0 + (1 : Nat)) + (0 : Nat) := by lia
theorem om148 : ∀ {a0 a1 : Nat}, a0 + (16 : Nat) * (6 : Nat) < a1 → a0 + (3 : Nat) + (0 : Nat) + (16 : Nat) * (4 : Nat) < a1 := by lia
theorem om149 : ∀ {a0 a1 : Nat}, a0 + (6 : Nat) < a1 → a0 + (1 : Nat) + (0 : Nat) + (4 : Nat) < a1 := by lia
theorem om150 : ∀ {a0 a1 : Nat}, a0 + (0 : Nat) < a1 → a0 < a1 := by lia
theorem om151 : ∀ {a0 a1 a2 : Nat}, a1 - a0 = a2 + (1 : Nat) → a1 - (a0 + (1 : Nat)) = a2 := by intro a0 a1 a2 h; rw [Nat.sub_add_eq, h]; rfl
theorem om152 : ∀ {a0 a1 a2 : Nat}, a1 - a0 = a2 + (1 : Nat) → a1 - (1 : Nat) - (a2 + (1 : Nat) - (1 : Nat)) = a0 := by lia
theorem om153 : ∀ {a0 a1 : Nat}, a0 < a1 → a1 - a0 = a1 - a0 - (1 : Nat) + (1 : Nat) := by lia
theorem om154 : ∀ {a0 a1 : Nat}, a0 < a1 → ¬a0 = a1 := by lia
theorem om155 : ∀ {a0 a1 : Nat}, a0 ≤ a1 → a1 < a0 → False := by lia
theorem om156 : (7 : Nat) ≤ (8 : Nat) := by lia
theorem om157 : (0 : Nat) ≤ (8 : Nat) := by lia
theorem om158 : (10 : Nat) ≤ (12 : Nat) := by lia
theorem om159 : ∀ {a0 a1 : Nat}, a0 + (12 : Nat) < a1 → a0 < a1 := by lia
theorem om160 : ∀ {a0 a1 a2 : Nat}, a1 ≤ a2 → a2 + (2 : Nat) ≤ a0 → a1 ≤ a0 := by lia
theorem om161 : ∀ {a0 a1 a2 a3 a4 : Nat}, a0 ≤ a1 → a3 = a4 → a4 ≤ (0 : Nat) + Min.min a2 a0 → a3 ≤ a1 := by lia
theorem om162 : ∀ {a0 : Nat}, ((-1 : Int) + (↑a0 : Int)).toNat = a0 - (1 : Nat) := by lia
theorem om163 : ∀ {a0 : Nat}, (-1 : Int) + (↑a0 : Int) < (↑a0 : Int) := by lia
theorem om164 : ∀ {a0 : Nat}, (0 : Nat) < a0 → (0 : Int) ≤ (-1 : Int) + (↑a0 : Int) := by lia
theorem om165 : ∀ {a0 a1 a2 : Nat}, a1 ≤ a0 ∧ a2 ≤ a0 → a1 ≤ a0 + (1 : Nat) := by lia
theorem om166 : ∀ {a0 a1 a2 : Nat}, a1 ≤ a0 ∧ a2 ≤ a0 → a1 ≤ a0 := by lia
theorem om167 : ∀ {a0 a1 a2 a3 : Nat}, a0 + (2 : Nat) ≤ a1 → a2 ≤ a0 ∧ a3 ≤ a0 → a3 ≤ a1 := by lia
theorem om168 : ∀ {a0 a1 a2 : Nat}, a0 + (2 : Nat) ≤ a1 → a2 ≤ a0 → a2 ≤ a1 := by lia
theorem om169 : ∀ {a0 a1 a2 a3 : Nat}, a0 + (2 : Nat) ≤ a1 → a2 ≤ a0 + (1 : Nat) → a3 = a2 → a3 ≤ a1 := by lia
theorem om170 : ∀ {a0 a1 a2 a3 a4 : Nat}, a0 + (2 : Nat) ≤ a1 → a2 ≤ a0 ∧ a3 ≤ a0 → a4 = a2 → a4 ≤ a1 := by lia
theorem om171 : ∀ {a0 a1 : Nat}, a1 ≤ (0 : Nat) + a0 → a1 ≤ a0 := by lia
theorem om172 : ∀ {a0 a1 a2 : Nat}, a1 ≤ (0 : Nat) + a0 ∧ a2 ≤ (0 : Nat) + a0 → a1 ≤ a0 ∧ a2 ≤ a0 := by lia
theorem om173 : ∀ {a0 a1 a2 a3 a4 a5 : Nat}, a0 + (2 : Nat) ≤ a1 → a3 ≤ a2 ∧ a4 ≤ a2 → a2 < a0 → a5 = a3 → a5 ≤ a1 := by lia
theorem om174 : ∀ {a0 a1 a2 a3 a4 : Nat}, a0 + (2 : Nat) ≤ a1 → a3 ≤ a2 ∧ a4 ≤ a2 → a2 < a0 → a4 + (1 : Nat) ≤ a1 := by lia
theorem om175 : ∀ {a0 a1 a2 a3 : Nat}, a1 ≤ (0 : Nat) + Min.min a0 a2 ∧ a3 ≤ (0 : Nat) + Min.min a0 a2 → a1 ≤ a0 ∧ a3 ≤ a0 := by lia
theorem om176 : ∀ {a0 a1 a2 a3 : Nat}, a0 ≤ a1 + (1 : Nat) → a2 ≤ a0 + a3 → a2 ≤ a1 + (a3 + (1 : Nat)) := by lia
theorem om177 : ∀ {a0 a1 a2 a3 a4 a5 a6 : Nat}, a0 ≤ a1 + a2 ∧ a3 ≤ a4 + a2 → a1 ≤ a5 + (1 : Nat) ∧ a4 ≤ a6 + (1 : Nat) → a0 ≤ a5 + (a2 + (1 : Nat)) ∧ a3 ≤ a6 + (a2 + (1 : Nat)) := by lia
theorem om178 : ∀ {a0 : Nat}, a0 + (1 : Nat) ≤ (60 : Nat) → a0 ≤ (60 : Nat) := by lia
theorem om179 : ∀ {a0 : Nat}, a0 + (1 : Nat) ≤ (60 : Nat) → a0 + (6 : Nat) + (1 : Nat) ≤ (90 : Nat) := by lia
theorem om180 : ∀ {a0 : Nat}, (6 : Nat) ≤ a0 + (6 : Nat) := by lia
theorem om181 : ∀ {a0 : Nat}, (6 : Nat) ≤ a0 → (1 : Nat) ≤ a0 := by lia
theorem om182 : ∀ {a0 a1 a2 : Nat}, a1 = a2 → a2 + (1 : Nat) ≤ a0 → a1 ≤ a0 := by lia
theorem om183 : ∀ {a0 a1 a2 a3 a4 : Nat}, a1 + a2 ≤ a0 → a3 = a1 → a4 = a2 → a3 + a4 ≤ a0 := by lia
theorem om184 : ∀ {a0 a1 a2 : Nat}, a1 + a2 ≤ a0 → a2 ≤ a0 := by lia
theorem om185 : ∀ {a0 a1 a2 a3 : Nat}, a0 + (2 : Nat) ≤ a1 → a2 ≤ a0 ∧ a3 ≤ a0 → a3 + (2 : Nat) ≤ a1 := by lia
theorem om186 : ∀ {a0 a1 : Nat}, a0 + (1 : Nat) ≤ (90 : Nat) → a1 ≤ (100 : Nat) - (a0 + (1 : Nat)) → a1 + (1 : Nat) ≤ (100 : Nat) - a0 := by lia
theorem om187 : ∀ {a0 a1 a2 a3 : Nat}, a0 + (2 : Nat) ≤ a1 → a2 ≤ a0 ∧ a3 ≤ a0 → a2 ≤ a1 := by lia
theorem om188 : ∀ {a0 a1 a2 a3 : Nat}, a1 + (a2 + a3) ≤ a0 → a1 + a2 ≤ a0 := by lia
theorem om189 : ∀ {a0 a1 a2 : Nat}, a0 + (2 : Nat) ≤ a1 → a2 ≤ a0 → a2 + (2 : Nat) ≤ a1 := by lia
theorem om190 : ∀ {a0 a1 a2 : Nat}, a0 + (2 : Nat) ≤ a1 → a2 ≤ a0 + (1 : Nat) → a2 ≤ a1 := by lia
theorem om191 : ∀ {a0 a1 a2 : Nat}, a1 ≤ (100 : Nat) - (a0 + (1 : Nat)) → a2 = a1 → a2 ≤ (100 : Nat) := by lia
theorem om192 : ∀ {a0 a1 a2 a3 : Nat}, a1 ≤ (0 : Nat) + a0 ∧ a2 ≤ a3 + a0 → a1 ≤ a0 + (1 : Nat) := by lia
theorem om193 : ∀ {a0 a1 a2 a3 : Nat}, a1 ≤ (0 : Nat) + a0 ∧ a2 ≤ a3 + a0 → a1 + (1 : Nat) ≤ a0 + (1 : Nat) := by lia
theorem om194 : ∀ {a0 a1 a2 a3 : Nat}, a1 ≤ a2 + a0 ∧ a3 ≤ (0 : Nat) + a0 → a3 ≤ a0 := by lia
theorem om195 : ∀ {a0 a1 : Nat}, a0 + (16 : Nat) * (1 : Nat) < a1 → a0 < a1 := by lia
theorem om196 : ∀ {a0 a1 : Nat}, a1 = a0 → a1 - (0 : Nat) = a0 := by lia
theorem om197 : ∀ {a0 a1 a2 : Nat}, a0 ≤ a1 → a2 = a0 → a2 ≤ a1 := by lia
theorem om198 : ∀ {a0 a1 a2 : Nat}, a0 - a1 = a2 + (1 : Nat) → a0 - (a1 + (1 : Nat)) = a2 := by intro a0 a1 a2 h; rw [Nat.sub_add_eq, h]; rfl
theorem om199 : ∀ {a0 a1 a2 a3 a4 : Nat}, a1 ≤ a2 → a3 < a1 → a4 ≤ Min.min a3 a0 → a4 ≤ a2 := by lia
theorem om200 : ∀ {a0 a1 a2 : Nat}, a0 - a1 = a2 + (1 : Nat) → a1 < a0 := by lia
theorem om201 : ∀ {a0 a1 : Nat}, a0 - a1 = (0 : Nat) → a1 ≤ a0 → a1 = a0 := by lia
theorem om202 : ∀ {a0 a1 : Nat}, a1 < a0 → a1 < a0 := by lia
theorem om203 : ∀ {x0 : Int}, -(2 : Int) ^ (62 : Nat) ≤ x0 ∧ x0 < (2 : Int) ^ (62 : Nat) → x0 < (2 : Int) ^ (63 : Nat) := by lia
theorem om204 : ∀ {x0 : Int}, -(2 : Int) ^ (62 : Nat) ≤ x0 ∧ x0 < (2 : Int) ^ (62 : Nat) → -(2 : Int) ^ (63 : Nat) ≤ x0 := by lia
theorem om205 : ∀ {a0 : Nat}, (1 : Nat) ≤ a0 → -(↑a0 : Int) ≤ (-1 : Int) := by lia
theorem om206 : ∀ {a0 : Nat}, a0 < (2 : Nat) ^ (62 : Nat) → (↑a0 : Int) < (2 : Int) ^ (63 : Nat) := by lia
theorem om207 : ∀ {a0 a1 : Nat}, a0 ≤ a1 → a0 ≤ a1 := by lia
theorem om208 : ∀ {a0 : Nat}, (12 : Nat) ≤ a0 + (12 : Nat) := by lia
theorem om209 : ∀ {a0 : Nat}, a0 ≤ (10000 : Nat) → a0 ≤ (16777216 : Nat) := by lia
theorem om210 : ∀ {a0 : Nat}, a0 ≤ (900 : Nat) → a0 + (1 : Nat) ≤ (1000 : Nat) := by lia
theorem om211 : ∀ {a0 : Nat}, (12 : Nat) ≤ a0 → (3 : Nat) ≤ a0 := by lia
theorem om212 : ∀ {a0 : Nat}, a0 ≤ (900 : Nat) → a0 + (1 : Nat) ≤ (16777216 : Nat) := by lia
theorem om213 : ∀ {a0 : Nat}, a0 ≤ (900 : Nat) → a0 ≤ (16777216 : Nat) := by lia
theorem om214 : ∀ {a0 : Nat}, a0 ≤ (900 : Nat) → a0 ≤ (1000 : Nat) := by lia
theorem om215 : ∀ {a0 : Nat} {p1 : Prop}, a0 ≤ (900 : Nat) ∧ p1 → a0 ≤ (16777216 : Nat) := by lia
theorem om216 : ∀ {a0 : Nat}, (12 : Nat) ≤ a0 → (5 : Nat) ≤ a0 := by lia
theorem om217 : ∀ {a0 a1 : Nat}, a0 = a1 → a1 ≤ (60 : Nat) → a0 ≤ (16777216 : Nat) := by lia
theorem om218 : ∀ {a0 a1 a2 : Nat}, a0 ≤ (10000 : Nat) → a1 = a0 → Min.min a1 a2 ≤ (16777216 : Nat) := by lia
theorem om219 : ∀ {a0 a1 a2 : Nat}, a0 ≤ (10000 : Nat) → a2 = Min.min a1 a0 → a2 ≤ (10000 : Nat) := by lia
theorem om220 : ∀ {a0 a1 : Nat}, a0 ≤ (10000 : Nat) → a1 ≤ a0 → a1 ≤ (10000 : Nat) := by lia
theorem om221 : ∀ {a0 : Nat}, (12 : Nat) ≤ a0 → (2 : Nat) ≤ a0 := by lia
theorem om222 : ∀ {a0 a1 : Nat}, a0 ≤ (10000 : Nat) → a1 = a0 → a1 ≤ (10000 : Nat) := by lia
theorem om223 : ∀ {a0 a1 a2 : Nat}, a0 ≤ (10000 : Nat) → a1 = a0 → a2 = a1 → a2 ≤ (16777216 : Nat) := by lia
theorem om224 : ∀ {a0 : Nat}, a0 ≤ (60 : Nat) → a0 ≤ (16777216 : Nat) := by lia
theorem om225 : ∀ {a0 : Nat}, (12 : Nat) ≤ a0 → (12 : Nat) ≤ a0 := by lia
theorem om226 : ∀ {a0 a1 : Nat}, a0 ≤ (10000 : Nat) → a1 = a0 → a1 ≤ (16777216 : Nat) := by lia
theorem om227 : ∀ {a0 a1 a2 a3 : Nat}, a0 ≤ (6 : Nat) * a1 → a2 ≤ (2 : Nat) → a3 ≤ (3 : Nat) → a0 + a3 + a2 ≤ (6 : Nat) * (a1 + (1 : Nat)) := by lia
theorem om228 : ∀ {a0 : Nat}, (1 : Nat) + a0 % (3 : Nat) ≤ (3 : Nat) := by lia
theorem om229 : ∀ {a0 a1 : Nat}, a0 ≤ (6 : Nat) * a1 → a0 ≤ (6 : Nat) * (a1 + (1 : Nat)) := by lia
theorem om230 : ∀ {a0 : Nat}, a0 ≤ (3 : Nat) → a0 = (0 : Nat) ∨ a0 = (1 : Nat) ∨ a0 = (2 : Nat) ∨ a0 = (3 : Nat) := by lia
theorem om231 : ∀ {a0 : Nat}, a0 = (2 : Nat) → a0 + (1 : Nat) ≤ (3 : Nat) := by lia
theorem om232 : ∀ {a0 : Nat}, a0 = (1 : Nat) → a0 + (1 : Nat) ≤ (2 : Nat) := by lia
theorem om233 : ∀ {a0 : Nat}, a0 < (4 : Nat) → a0 = (0 : Nat) ∨ a0 = (1 : Nat) ∨ a0 = (2 : Nat) ∨ a0 = (3 : Nat) := by lia
theorem om234 : ∀ {a0 : Nat} {x1 : Int}, (0 : Int) ≤ x1 → x1 < (↑a0 : Int) → x1 = (↑x1.toNat : Int) ∧ x1.toNat < a0 := by lia
theorem om235 : ∀ {a0 : Nat}, (0 : Nat) < a0 → (0 : Int) < (↑a0 : Int) := by lia
theorem om236 : ∀ {x0 : Int}, x0 ≤ (1114111 : Int) → ¬x0 > (1114111 : Int) := by lia
theorem om237 : ∀ {x0 : Int}, (0 : Int) ≤ x0 → ¬x0 < (0 : Int) := by lia
theorem om238 : ∀ {x0 : Int}, (0 : Int) < x0 → x0 ≠ (0 : Int) := by lia
theorem om239 : ∀ {a0 : Nat}, a0 ≤ (2 : Nat) ^ (62 : Nat) → (↑a0 : Int) < (2 : Int) ^ (63 : Nat) := by lia
theorem om240 : ∀ {a0 a1 : Nat} {x2 : Int}, a1 ≤ a0 + (1 : Nat) → a0 < (14 : Nat) → x2.toNat < a1 → x2.toNat < (2 : Nat) ^ (62 : Nat) := by lia
theorem om241 : ∀ {a0 a1 : Nat} {x2 : Int}, a1 = a0 → x2.toNat < a0 → x2.toNat < a1 := by lia
theorem om242 : ∀ {a0 a1 : Nat}, a1 ≤ a0 + (1 : Nat) → a1 ≤ a0 + (1 : Nat) + (1 : Nat) := by lia
theorem om243 : ∀ {a0 a1 a2 : Nat}, a1 ≤ a0 + (1 : Nat) → a2 ≤ a1 + (1 : Nat) → a2 ≤ a0 + (1 : Nat) + (1 : Nat) := by lia
theorem om244 : ∀ {a0 a1 a2 : Nat}, a1 ≤ a0 + (1 : Nat) → a0 < (14 : Nat) → a2 = a1 → a2 ≤ (16777216 : Nat) := by lia
theorem om245 : ∀ {a0 a1 a2 : Nat}, a1 ≤ a0 + (1 : Nat) → a0 < (14 : Nat) → a2 < a1 → a2 < (2 : Nat) ^ (62 : Nat) := by lia
theorem om246 : ∀ {x0 : Int}, x0.toNat < (4 : Nat) → x0.toNat < (2 : Nat) ^ (62 : Nat) := by lia
theorem om247 : ∀ {a0 a1 a2 a3 a4 : Nat}, a1 ≤ a0 + (1 : Nat) → a0 < (14 : Nat) → a2 ≤ (2 : Nat) → a3 ≤ (6 : Nat) * a1 → a4 ≤ (3 : Nat) → a3 + a4 + a2 ≤ (16777216 : Nat) := by lia
theorem om248 : ∀ {a0 a1 a2 a3 : Nat}, a1 ≤ a0 + (1 : Nat) → a0 < (14 : Nat) → a2 ≤ (6 : Nat) * a1 → a3 ≤ (3 : Nat) → a2 + a3 ≤ (16777216 : Nat) := by lia
theorem om249 : ∀ {a0 : Nat}, (1 : Nat) + a0 % (3 : Nat) ≤ (16777216 : Nat) := by lia
theorem om250 : ∀ {a0 : Nat}, (1 : Int) + (↑(a0 % (3 : Nat)) : Int) = (↑((1 : Nat) + a0 % (3 : Nat)) : Int) := by lia
theorem om251 : ∀ {a0 a1 a2 : Nat}, a1 ≤ a0 + (1 : Nat) → a0 < (14 : Nat) → a2 = a1 → a2 ≤ (2 : Nat) ^ (62 : Nat) := by lia
theorem om252 : ∀ {a0 a1 : Nat}, a1 ≤ a0 + (1 : Nat) → a0 < (14 : Nat) → a1 ≤ (2 : Nat) ^ (62 : Nat) := by lia
theorem om253 : ∀ {a0 a1 a2 a3 : Nat}, a1 ≤ a0 + (1 : Nat) → a0 < (14 : Nat) → a2 ≤ a1 → a3 = a2 → a3 ≤ (16777216 : Nat) := by lia
theorem om254 : ∀ {a0 a1 : Nat}, a1 ≤ a0 + (1 : Nat) → a0 < (14 : Nat) → a1 ≤ (100 : Nat) := by lia
theorem om255 : (3 : Nat) ≤ (5 : Nat) := by lia
theorem om256 : ∀ {x0 : Int}, x0 = (↑x0.toNat : Int) ∧ x0.toNat < (55296 : Nat) → x0 ≤ (1114111 : Int) := by lia
theorem om257 : ∀ {x0 : Int}, x0 = (↑x0.toNat : Int) ∧ x0.toNat < (55296 : Nat) → (0 : Int) ≤ x0 := by lia
theorem om258 : ∀ {a0 a1 a2 : Nat}, a1 ≤ a0 + (1 : Nat) → a0 < (14 : Nat) → a2 = a1 → (↑a2 : Int) < (100 : Int) := by lia
theorem om259 : ∀ {a0 a1 : Nat}, a1 = a0 → (0 : Nat) < a0 → (0 : Int) < (↑a1 : Int) := by lia
theorem om260 : ∀ {a0 a1 : Nat}, a1 = a0 → (0 : Nat) < a0 → (↑a1 : Int) ≠ (0 : Int) := by lia
theorem om261 : ∀ {a0 a1 a2 : Nat}, a0 ≤ (14 : Nat) → a1 = a0 → a2 < a1 → a2 < (14 : Nat) := by lia
theorem om262 : ∀ {a0 a1 a2 a3 a4 : Nat}, a1 + a2 ≤ a0 → a4 < a1 → a2 + Min.min a4 a3 ≤ a0 := by lia
theorem om263 : Max.max ((0 : Nat) + (1 : Nat)) (0 : Nat) + (1 : Nat) + (1 : Nat) ≤ (64 : Nat) := by lia
theorem om264 : (5 : Nat) ≤ (39 : Nat) := by lia
theorem om265 : ∀ {a0 a1 : Nat}, a0 ≤ (2744 : Nat) → a1 = a0 → a1 ≤ (16777216 : Nat) := by lia
theorem om266 : ∀ {a0 : Nat}, a0 ≤ (2744 : Nat) → a0 ≤ (16777216 : Nat) := by lia
theorem om267 : ∀ {a0 a1 : Nat}, a0 ≤ a1 → a1 + (2 : Nat) ≤ (16777216 : Nat) → a0 + (2 : Nat) ≤ (16777216 : Nat) := by lia
theorem om268 : (8 : Nat) + (6 : Nat) ≤ (39 : Nat) := by lia
theorem om269 : (8 : Nat) ≤ (60 : Nat) := by lia
theorem om270 : (8 : Nat) + (12 : Nat) ≤ (39 : Nat) := by lia
theorem om271 : (3 : Nat) + (7 : Nat) ≤ (39 : Nat) := by lia
theorem om272 : (0 : Nat) + (1 : Nat) ≤ (64 : Nat) := by lia
theorem om273 : ∀ {a0 : Nat}, a0 ≤ (15 : Nat) → a0 ≤ (2 : Nat) ^ (62 : Nat) := by lia
theorem om274 : ∀ {a0 a1 a2 : Nat}, a0 ≤ (2744 : Nat) → a1 ≤ a0 * (15 : Nat) → a2 = a1 → a2 ≤ (16777216 : Nat) := by lia
theorem om275 : ∀ {a0 : Nat}, a0 ≤ (2744 : Nat) → a0 ≤ (10000 : Nat) := by lia
theorem om276 : ∀ {a0 a1 a2 a3 a4 : Nat}, a0 ≤ (2744 : Nat) → a1 = a2 → a2 = a0 → a3 ≤ a1 * (60 : Nat) → a4 ≤ a3 → a4 ≤ (16777216 : Nat) := by lia
theorem om277 : ∀ {a0 a1 a2 a3 : Nat}, a0 ≤ (2744 : Nat) → a1 = a2 → a2 = a0 → a3 ≤ a1 * (60 : Nat) → a3 ≤ (16777216 : Nat) := by lia
theorem om278 : (2 : Nat) ≤ (39 : Nat) := by lia
theorem om279 : ∀ {a0 a1 a2 : Nat}, a0 = a1 → a2 = a1 → a0 ≤ a2 := by lia
theorem om280 : ∀ {a0 a1 a2 a3 a4 : Nat}, a0 ≤ (2744 : Nat) → a1 = a2 → a2 = a0 → a3 ≤ a1 * (60 : Nat) → a4 ≤ (60 : Nat) → a4 + a3 ≤ (16777216 : Nat) := by lia
theorem om281 : ∀ {a0 a1 : Nat}, a0 ≤ (60 : Nat) → a1 = a0 → a1 ≤ (61 : Nat) := by lia
theorem om282 : ∀ {a0 a1 : Nat}, a0 ≤ (60 : Nat) → a1 = a0 → a1 ≤ (16777216 : Nat) := by lia
theorem om283 : (12 : Nat) ≤ (39 : Nat) := by lia
theorem om284 : ∀ {a0 a1 : Nat}, Min.min a1 a0 ≤ a0 := by lia
theorem om285 : ∀ {a0 a1 a2 : Nat}, a0 ≤ (2744 : Nat) → a1 = a0 → a2 = a1 → a2 ≤ (16777216 : Nat) := by lia
theorem om286 : ∀ {a0 a1 a2 : Nat}, a0 = a1 → a2 < a0 → a2 < a1 := by lia
theorem om287 : ∀ {a0 a1 a2 : Nat}, a0 ≤ (15 : Nat) → a1 ≤ (6 : Nat) * a0 → a2 ≤ (3 : Nat) → a1 + a2 ≤ (16777216 : Nat) := by lia
theorem om288 : ∀ {a0 : Nat}, a0 % (2 : Nat) ≤ (16777216 : Nat) := by lia
theorem om289 : ∀ {a0 : Nat}, a0 % (2 : Nat) ≤ (3 : Nat) := by lia
theorem om290 : ∀ {a0 : Nat}, Min.min (8 : Nat) a0 ≤ (8 : Nat) := by lia
theorem om291 : (6 : Nat) ≤ (39 : Nat) := by lia
theorem om292 : ∀ {a0 : Nat}, (6 : Nat) + Min.min (8 : Nat) a0 ≤ (16777216 : Nat) := by lia
theorem om293 : ∀ {a0 : Nat}, a0 ≤ (63 : Nat) → a0 ≤ (16777216 : Nat) := by lia
theorem om294 : ∀ {a0 a1 a2 a3 : Nat}, a3 ≤ a2 → a0 ≤ a1 * a2 → a3 - (1 : Nat) + a0 ≤ a1 * a2 + a2 := by lia
theorem om295 : ∀ {a0 : Nat}, (↑a0 : Int) = (1 : Int) → a0 = (1 : Nat) := by lia
theorem om296 : ∀ {a0 : Nat}, (↑a0 : Int) < (1 : Int) → a0 = (0 : Nat) := by lia
theorem om297 : ∀ {a0 a1 a2 a3 : Nat}, a0 + a1 = a2 → a2 - a3 - a0 = a1 - a3 := by intro a0 a1 a2 a3 h; rw [← h, Nat.sub_right_comm, Nat.add_sub_cancel_left]
theorem om298 : ∀ {a0 a1 : Nat}, a0 < a1 → a0 ≤ a1 := by lia
theorem om299 : ∀ {a0 a1 a2 : Nat}, a0 = a1 → a1 = a2 + (2 : Nat) → (1 : Nat) ≤ a0 := by lia
theorem om300 : ∀ {a0 a1 a2 : Nat}, a0 = a1 → a1 = a2 + (2 : Nat) → (1 : Nat) ≤ a0 - (1 : Nat) := by lia
theorem om301 : ∀ {a0 a1 a2 : Nat}, a0 = a1 → a1 = a2 + (1 : Nat) → (1 : Nat) ≤ a0 := by lia
theorem om302 : ∀ {a0 : Nat}, (0 : Nat) ≤ a0 - (1 : Nat) := by lia
theorem om303 : ∀ {a0 a1 : Nat}, ¬a1 ≤ a0 → a0 ≤ a1 := by lia
theorem om304 : ∀ {a0 a1 : Nat}, (0 : Nat) ≤ Min.min a1 a0 := by lia
theorem om305 : ∀ {a0 a1 a2 : Nat}, a2 < a1 - a0 → a0 + a2 < a1 := by lia
theorem om306 : ∀ {a0 a1 a2 a3 : Nat}, a1 ≤ a2 → a2 = a3 → Min.min a1 a3 - a0 = a1 - a0 := by lia
theorem om307 : ∀ {a0 a1 a2 : Nat}, a1 = a2 → a0 - (0 : Nat) = a1 → a0 = a2 := by lia
theorem om308 : ∀ {a0 a1 a2 : Nat}, a0 ≤ a1 → a1 ≤ a2 → a1 - a0 = a2 → a0 = (0 : Nat) := by lia
theorem om309 : ∀ {a0 : Nat}, Max.max (0 : Int) (Min.min ((-1 : Int) + (↑a0 : Int)) (↑a0 : Int)) = (↑(a0 - (1 : Nat)) : Int) := by lia
theorem om310 : ∀ {a0 a1 : Nat}, Min.min (↑a0 : Int) (↑a1 : Int) = (↑(Min.min a0 a1) : Int) := by lia
theorem om311 : ∀ {a0 a1 a2 a3 a4 : Nat}, a0 = a1 → a1 = a2 + a3 + (1 : Nat) → (1 : Nat) ≤ a4 → ¬a0 < (1 : Nat) ∧ ¬a4 < (1 : Nat) := by lia
theorem om312 : ∀ {a0 a1 : Nat}, a0 + (a1 + (1 : Nat)) = a0 + a1 + (1 : Nat) := by lia
theorem om313 : ∀ {a0 a1 : Nat}, a1 = a0 → (0 : Nat) < a0 → (0 : Nat) < a1 := by lia
theorem om314 : ∀ {a0 a1 a2 : Nat}, a0 = a1 → a2 = a1 → a2 = a0 := by lia
theorem om315 : ∀ {a0 a1 a2 : Nat}, a1 = a0 → a2 = a0 → a2 = a1 := by lia
theorem om316 : ∀ {a0 a1 a2 : Nat}, a0 = a1 → a2 < a1 → a2 < a0 := by lia
theorem om317 : ∀ {a0 a1 a2 a3 : Nat}, a1 = a0 → a2 < a0 → a3 < a2 → a3 < a1 := by lia
theorem om318 : ∀ {a0 a1 a2 : Nat}, a1 = a0 → a2 = a0 → a1 = a2 := by lia
theorem om319 : ∀ {a0 a1 a2 : Nat}, a0 = a1 → a2 < a1 + (1 : Nat) → ¬a2 < a1 → a2 = a0 := by lia
theorem om320 : ∀ {a0 : Nat}, a0 < (3 : Nat) → a0 + (1 : Nat) ≤ (3 : Nat) := by lia
theorem om321 : ∀ {a0 a1 a2 : Nat}, a1 = a0 → a2 < a0 → (0 : Nat) < a1 := by lia
theorem om322 : ∀ {a0 a1 : Nat}, a1 < a0 + (1 : Nat) → ¬a1 < a0 → a1 = a0 := by lia
theorem om323 : ∀ {a0 : Nat}, ¬a0 = (3 : Nat) → a0 ≤ (3 : Nat) → a0 < (3 : Nat) := by lia
theorem om324 : ∀ {a0 : Nat}, (0 : Nat) < a0 → a0 < (1 : Nat) → False := by lia
theorem om325 : ∀ {a0 a1 : Nat}, (0 : Nat) < a0 → a0 < (1 : Nat) → a0 = a1 := by lia
theorem om326 : ∀ {a0 a1 : Nat}, a0 < a1 → a0 < (1 : Nat) + (a1 - (1 : Nat)) := by lia
theorem om327 : ∀ {x0 : Int} {a1 : Nat}, x0.toNat < (55296 : Nat) → a1 = (44 : Nat) ∨ a1 = (32 : Nat) ∨ a1 = x0.toNat → a1 < (1114112 : Nat) := by lia
theorem om328 : ∀ {a0 : Nat}, a0 < (55296 : Nat) → a0 < (1114112 : Nat) := by lia
theorem om329 : ∀ {a0 : Nat}, a0 ≠ (34 : Nat) → ¬(34 : Nat) = a0 := by lia
theorem om330 : ∀ {a0 : Nat}, a0 ≠ (44 : Nat) → ¬(44 : Nat) = a0 := by lia
theorem om331 : ∀ {a0 : Nat}, a0 ≠ (61 : Nat) → ¬(61 : Nat) = a0 := by lia
theorem om332 : ∀ {a0 : Nat}, a0 ≠ (47 : Nat) → ¬(47 : Nat) = a0 := by lia
theorem om333 : ∀ {a0 a1 : Nat}, a0 + (1 : Nat) + (1 : Nat) ≤ a1 + (1 : Nat) → a0 + (1 : Nat) ≤ a1 := by lia
theorem om334 : ∀ {a0 a1 : Nat}, a0 + (1 : Nat) + (1 : Nat) ≤ a1 → a1 = a1 - (1 : Nat) + (1 : Nat) := by lia
theorem om335 : ∀ {a0 a1 : Nat}, a0 + (1 : Nat) + (1 : Nat) ≤ a1 → (1 : Nat) ≤ a1 := by lia
theorem om336 : ∀ {a0 : Nat}, (1 : Nat) ≤ a0 → a0 = a0 - (1 : Nat) + (1 : Nat) := by lia
theorem om337 : ∀ {a0 a1 a2 : Nat}, a0 + (1 : Nat) < a1 → a2 < a0 + (1 : Nat) → a2 < a1 := by lia
theorem om338 : ∀ {a0 : Nat}, ¬a0 + (1 : Nat) = (0 : Nat) := by lia
theorem om339 : ∀ {a0 : Nat}, a0 = (97 : Nat) ∨ a0 = (98 : Nat) → a0 = (47 : Nat) → False := by lia
theorem om340 : ∀ {a0 a1 : Nat}, a0 + ((1 : Nat) + a1 % (3 : Nat)) ≠ (0 : Nat) := by lia
theorem om341 : ∀ {a0 : Nat}, (1 : Nat) + a0 % (3 : Nat) = a0 % (3 : Nat) + (1 : Nat) := by lia
theorem om342 : ∀ {a0 a1 a2 : Nat}, a0 ≤ a1 * a2 → a1 * a2 ≤ (14 : Nat) * a2 → a0 ≤ (14 : Nat) * a2 := by lia
theorem om343 : ∀ {a0 : Nat}, a0 ≤ (15 : Nat) → a0 - (1 : Nat) ≤ (14 : Nat) := by lia
theorem om344 : ∀ {a0 : Nat}, a0 ≤ (61852 : Nat) → a0 ≤ (1000000 : Nat) := by lia
theorem om345 : ∀ {a0 a1 : Nat}, a0 ≠ (0 : Nat) → a0 + a1 ≠ (0 : Nat) := by lia
theorem om346 : ∀ {a0 : Nat}, a0 ≤ (14 : Nat) → a0 * (560000 : Nat) + a0 * (2 : Nat) ≤ (16777216 : Nat) := by lia
theorem om347 : ∀ {a0 a1 a2 : Nat}, a0 ≤ (2 : Nat) → a1 ≤ (61852 : Nat) → a2 ≤ a0 + (1 : Nat) + (1 : Nat) + (a1 * (9 : Nat) + (2 : Nat)) → a2 ≤ (560000 : Nat) := by lia
theorem om348 : ∀ {a0 a1 a2 : Nat}, a0 ≤ (2 : Nat) → a1 ≤ (3 : Nat) → a2 ≤ a0 + (1 : Nat) + (a1 * (9 : Nat) + (2 : Nat)) → a2 ≤ (560000 : Nat) := by lia
theorem om349 : ∀ {a0 : Nat}, (0 : Nat) + (1 : Nat) ≤ a0 → (1 : Nat) ≤ a0 := by lia
theorem om350 : (0 : Nat) ≤ (3 : Nat) := by lia
theorem om351 : ∀ {a0 a1 : Nat}, a0 ≤ a1 → a1 ≤ (14 : Nat) ^ (3 : Nat) → a0 ≤ (10000 : Nat) := by lia
theorem om352 : ∀ {a0 a1 : Nat}, a0 ≤ (3 : Nat) → a1 ≤ a0 → a1 ≤ (60 : Nat) := by lia
theorem om353 : ∀ {a0 a1 a2 : Nat}, a0 ≤ (3 : Nat) → a1 ≤ (5 : Nat) * a0 → a2 ≤ (3 : Nat) → a1 + a2 ≤ (900 : Nat) := by lia
theorem om354 : ∀ {a0 a1 a2 a3 : Nat}, a0 ≤ (5 : Nat) * a1 → a2 ≤ (2 : Nat) → a0 + ((1 : Nat) + a3 % (3 : Nat) + a2) ≤ (5 : Nat) * (a1 + (1 : Nat)) := by lia
theorem om355 : (3 : Nat) + (1 : Nat) ≤ (8 : Nat) := by lia
theorem om356 : ∀ {a0 : Nat}, a0 ≤ (3 : Nat) → a0 ≤ (60 : Nat) := by lia
theorem om357 : (3 : Nat) ≤ (0 : Nat) + (3 : Nat) := by lia
theorem om358 : ∀ {a0 : Nat}, a0 ≤ (14 : Nat) → (1 : Nat) + a0 ≤ (15 : Nat) := by lia
theorem om359 : ∀ {a0 a1 : Nat}, a1 < a0 → (0 : Nat) < a0 := by lia
theorem om360 : ∀ {a0 a1 : Nat}, (↑a0 : Int) = (↑a1 : Int) → a0 = a1 := by lia
theorem om361 : ∀ {a0 a1 : Nat}, (3 : Nat) ≤ a0 + (a1 + (1 : Nat)) → (3 : Nat) ≤ a0 + (1 : Nat) + a1 := by lia
theorem om362 : ∀ {a0 : Nat}, (3 : Nat) ≤ a0 + (0 : Nat) → a0 + (1 : Nat) ≤ (3 : Nat) → False := by lia
theorem om363 : ∀ {a0 : Nat}, ¬(↑(63 : Nat) : Int) < (↑a0 : Int) → a0 ≤ (63 : Nat) := by lia
end Mine
end
section
open PySem PySem.W PySem.Calls PyProof.Rows PySem.Spec
set_option Elab.async false
set_option maxRecDepth 100000
namespace Mine

noncomputable abbrev PM := Addr → Option Obj
noncomputable def Le (z z' : PM) : Prop := ∀ a o, z a = some o → z' a = some o
theorem Le.refl (z : PM) : Le z z := fun _ _ e => e
theorem Le.trans {a b c : PM} (x : Le a b) (y : Le b c) : Le a c := fun _ _ e => y _ _ (x _ _ e)

/-- one object more -/
noncomputable def PM.put (z : PM) (a : Addr) (o : Obj) : PM := fun b => if b = a then some o else z b
theorem PM.put_self (z : PM) (a : Addr) (o : Obj) : z.put a o a = some o := by simp [PM.put]
theorem PM.put_le {z : PM} {a : Addr} {o : Obj} (h : z a = none) : Le z (z.put a o) := fun b o' e => by
  unfold PM.put
  by_cases hb : b = a
  · subst hb; rw [h] at e; cases e
  · rw [if_neg hb]; exact e
theorem PM.put_none {z : PM} {a b : Addr} {o : Obj} (h : z b = none) (hb : b ≠ a) : z.put a o b = none := by
  unfold PM.put; rw [if_neg hb]; exact h
theorem PM.put_some {z : PM} {a b : Addr} {o o' : Obj} (h : z.put a o b = some o') : (b = a ∧ o' = o) ∨ (b ≠ a ∧ z b = some o') := by
  unfold PM.put at h
  by_cases hb : b = a
  · rw [if_pos hb] at h; cases h; exact .inl ⟨hb, rfl⟩
  · rw [if_neg hb] at h; exact .inr ⟨hb, h⟩

/-- what the world gave -/
noncomputable abbrev osd (s : Shared) : OsState × Drawn := (s.os, s.drawn)
/-- from state s (frozen part z) to s' (frozen part z'): nothing old is changed -/
structure Nx (z : PM) (s : Shared) (z' : PM) (s' : Shared) : Prop where
  keep : ∀ a o, s.heap.get? a = some o → s'.heap.get? a = some o
  zz : Le z z'
  zin : ∀ a o, z' a = some o → s'.heap.get? a = some o
  new : ∀ a, z' a ≠ none → z a = none → s.heap.get? a = none
  os : osd s' = osd s
  gens : ∃ ext, s'.gens = s.gens ++ ext ∧ AllBare ext

theorem AllBare.app {a b : Array GenState} (x : AllBare a) (y : AllBare b) : AllBare (a ++ b) := fun g hg => by
  rcases Array.mem_append.mp hg with h | h
  · exact x g h
  · exact y g h

theorem Nx.refl {z : PM} {s : Shared} (h : ∀ a o, z a = some o → s.heap.get? a = some o) : Nx z s z s :=
  ⟨fun _ _ e => e, Le.refl z, h, fun _ a b => absurd b a, rfl, #[], by simp, AllBare.empty⟩
theorem Nx.trans {z z' z'' : PM} {s s' s'' : Shared} (x : Nx z s z' s') (y : Nx z' s' z'' s'') : Nx z s z'' s'' := by
  refine ⟨fun a o e => y.keep a o (x.keep a o e), x.zz.trans y.zz, y.zin, fun a h1 h2 => ?_, y.os.trans x.os, ?_⟩
  · cases h : z' a with
    | none =>
      have h3 := y.new a h1 h
      cases h4 : s.heap.get? a with
      | none => rfl
      | some o => rw [x.keep a o h4] at h3; cases h3
    | some o => exact x.new a (by rw [h]; nofun) h2
  · obtain ⟨e1, g1, b1⟩ := x.gens
    obtain ⟨e2, g2, b2⟩ := y.gens
    exact ⟨e1 ++ e2, by rw [g2, g1, Array.append_assoc], AllBare.app b1 b2⟩

/-- a state that differs in the tokens (and the draws) alone -/
theorem Nx.same {z : PM} {s s' : Shared} (h : ∀ a o, z a = some o → s.heap.get? a = some o) (hh : s'.heap = s.heap) (ho : osd s' = osd s) (hg : s'.gens = s.gens) : Nx z s z s' :=
  ⟨fun _ _ e => by rw [hh]; exact e, Le.refl z, fun a o e => by rw [hh]; exact h a o e, fun _ a b => absurd b a, ho, #[], by simp [hg], AllBare.empty⟩

/-- a fresh object, frozen -/
theorem Nx.push {z : PM} {s s' : Shared} {o : Obj} (h : ∀ a o, z a = some o → s.heap.get? a = some o) (hf : o.isFreed = false)
    (hh : s'.heap = s.heap.push o) (ho : osd s' = osd s) (hg : s'.gens = s.gens) : Nx z s (z.put s.heap.objs.size o) s' := by
  have hn : s.heap.get? s.heap.objs.size = none := by
    cases q : s.heap.get? s.heap.objs.size with
    | none => rfl
    | some o => exact absurd (Heap.lt_size q) (Nat.lt_irrefl _)
  have hz : z s.heap.objs.size = none := by
    cases q : z s.heap.objs.size with
    | none => rfl
    | some o => rw [h _ _ q] at hn; cases hn
  refine ⟨fun a o e => by rw [hh]; exact Heap.get?_push_of_some _ e, PM.put_le hz, fun a o' e => ?_, fun a h1 h2 => ?_, ho, #[], by simp [hg], AllBare.empty⟩
  · rw [hh]
    rcases PM.put_some e with ⟨rfl, rfl⟩ | ⟨_, e⟩
    · exact Heap.get?_push_size _ hf
    · exact Heap.get?_push_of_some _ (h _ _ e)
  · by_cases ha : a = s.heap.objs.size
    · rw [ha]; exact hn
    · exact absurd (PM.put_none h2 ha) h1

theorem Nx.stays {z z' : PM} {s s' : Shared} {a : Addr} (N : Nx z s z' s') (h : z a = none) (ha : ∃ o, s.heap.get? a = some o) : z' a = none := by
  cases q : z' a with
  | none => rfl
  | some o =>
    have h2 := N.new a (by rw [q]; nofun) h
    obtain ⟨o', e⟩ := ha
    rw [e] at h2; cases h2

noncomputable abbrev prg : Program := PySem.Challenge.rw_il0004_01.row.prog
noncomputable abbrev vw : Program := view
noncomputable abbrev KK (w : World) : Frag := frag w.params

/-- the ground: what the top left -/
structure Gd (w : World) (h : Heap) : Prop where
  K : (KK w).In h
  T : ∃ mean mg mb, Top vw (looseW vw [Str.ofString "_dedupe"]) mean mg mb h
theorem Gd.keeps {w : World} {h h' : Heap} (G : Gd w h) (k : ∀ a o, h.get? a = some o → h'.get? a = some o) : Gd w h' :=
  ⟨G.K.keeps k, let ⟨a, b, c, T⟩ := G.T; ⟨a, b, c, T.keeps k⟩⟩

/-- what a mutable object holds -/
inductive MO where
  | lst (vs : Array Value)
  | obj (o : Obj)
  | dct (kvs : List (Str × Value))
noncomputable def MO.At (w : World) (h : Heap) (a : Addr) : MO → Prop
  | .lst vs => h.PlainList a vs
  | .obj o => h.get? a = some o
  | .dct kvs => (a == sysModules) = false ∧ h.DictOf (strKind prg w) a kvs
theorem MO.At.keep {w : World} {h h' : Heap} {a : Addr} {x : MO} (H : x.At w h a) (k : ∀ o, h.get? a = some o → h'.get? a = some o) : x.At w h' a := by
  cases x with
  | lst vs => exact Heap.PlainList.at H k
  | obj o => exact k _ H
  | dct kvs => obtain ⟨h0, o, es, ep, e, r⟩ := H; exact ⟨h0, o, es, ep, k _ e, r⟩
theorem MO.At.some {w : World} {h : Heap} {a : Addr} {x : MO} (H : x.At w h a) : ∃ o, h.get? a = .some o := by
  cases x with
  | lst vs => obtain ⟨n, e⟩ := H; exact ⟨_, e⟩
  | obj o => exact ⟨o, H⟩
  | dct kvs => obtain ⟨_, o, _, _, e, _⟩ := H; exact ⟨o, e⟩

structure Bs where
  h₀ : Heap
  p : PM
  os : OsState × Drawn
  gens : Array GenState

structure W (w : World) (B : Bs) (z : PM) (env : Env) (own : List Addr) (m : Str → Option Value) (mu : List (Addr × MO)) (s : Shared) : Prop where
  gd : Gd w B.h₀
  cov : ∀ a o, B.h₀.get? a = some o → B.p a = some o ∨ z a = some o
  pin : ∀ a o, B.p a = some o → s.heap.get? a = some o
  zin : ∀ a o, z a = some o → s.heap.get? a = some o
  pz : ∀ a, B.p a ≠ none → z a = none
  ns : ∃ ml, s.heap.Ns env.locals ml ∧ ∀ x, env.kindOf x = some .local → ml x = m x
  cel : ∀ x c, env.cells.lookup x = some c → s.heap.IsCell c (m x)
  lown : env.locals ∈ own
  cown : ∀ x c, env.cells.lookup x = some c → env.kindOf x ≠ some .local ∧ c ≠ env.locals ∧ (c ∈ own ∨ B.p c ≠ none)
  cinj : ∀ x y c, env.cells.lookup x = some c → env.cells.lookup y = some c → x = y
  ownp : ∀ a ∈ own, B.p a = none ∧ z a = none ∧ ∃ o, s.heap.get? a = some o
  muo : ∀ q ∈ mu, q.2.At w s.heap q.1 ∧ B.p q.1 = none ∧ z q.1 = none ∧ q.1 ∉ own
  nd : (mu.map (·.1)).Nodup
  os : osd s = B.os
  gens : ∃ ext, s.gens = B.gens ++ ext ∧ AllBare ext
  fn : env.scope.kind = .function
  gl : env.globals = mainGlobals
  bu : env.builtins = builtinsNs

noncomputable def upd (m : Str → Option Value) (x : Str) (v : Value) : Str → Option Value := fun y => if y = x then some v else m y
theorem upd_self (m : Str → Option Value) (x : Str) (v : Value) : upd m x v x = some v := by simp [upd]
theorem upd_ne {m : Str → Option Value} {x y : Str} {v : Value} (h : y ≠ x) : upd m x v y = m y := by simp [upd, h]
theorem upd_get {m : Str → Option Value} {x y : Str} {v : Value} {u : Option Value} (h : y ≠ x) (e : m y = u) : upd m x v y = u := (upd_ne h).trans e

section
variable {w : World} {B : Bs} {z z' : PM} {env : Env} {own : List Addr} {m : Str → Option Value} {mu : List (Addr × MO)} {s s' : Shared}

theorem W.keep0 (H : W w B z env own m mu s) : ∀ a o, B.h₀.get? a = some o → s.heap.get? a = some o := fun a o e =>
  (H.cov a o e).elim (H.pin a o) (H.zin a o)
theorem W.gd' (H : W w B z env own m mu s) : Gd w s.heap := H.gd.keeps H.keep0

/-- a pure step -/
theorem W.nx (H : W w B z env own m mu s) (N : Nx z s z' s') : W w B z' env own m mu s' where
  gd := H.gd
  cov := fun a o e => (H.cov a o e).imp id (N.zz a o)
  pin := fun a o e => N.keep a o (H.pin a o e)
  zin := N.zin
  pz := fun a h => N.stays (H.pz a h) (by
    cases h3 : B.p a with
    | none => exact absurd h3 h
    | some o => exact ⟨o, H.pin a o h3⟩)
  ns := let ⟨ml, a, b⟩ := H.ns; ⟨ml, a.keeps N.keep, b⟩
  cel := fun x c e => (H.cel x c e).keeps N.keep
  lown := H.lown
  cown := H.cown
  cinj := H.cinj
  ownp := fun a ha => ⟨(H.ownp a ha).1, N.stays (H.ownp a ha).2.1 (H.ownp a ha).2.2, (H.ownp a ha).2.2.imp fun o e => N.keep a o e⟩
  muo := fun q hq => ⟨(H.muo q hq).1.keep fun o e => N.keep _ o e, (H.muo q hq).2.1, N.stays (H.muo q hq).2.2.1 (H.muo q hq).1.some, (H.muo q hq).2.2.2⟩
  nd := H.nd
  os := N.os.trans H.os
  gens := by
    obtain ⟨e1, g1, b1⟩ := H.gens
    obtain ⟨e2, g2, b2⟩ := N.gens
    exact ⟨e1 ++ e2, by rw [g2, g1, Array.append_assoc], AllBare.app b1 b2⟩
  fn := H.fn
  gl := H.gl
  bu := H.bu

theorem W.same (H : W w B z env own m mu s) (hh : s'.heap = s.heap) (ho : osd s' = osd s) (hg : s'.gens = s.gens) : W w B z env own m mu s' :=
  H.nx (Nx.same H.zin hh ho hg)
theorem W.fr (H : W w B z env own m mu s) : Nx z s z s := Nx.refl H.zin

/-- a local is stored -/
theorem W.store (H : W w B z env own m mu s) {x : Str} {v : Value} (hk : env.kindOf x = some .local) (hh : ∀ ml, s.heap.Ns env.locals ml → s'.heap.Ns env.locals (fun y => if y = x then some v else ml y))
    (hs : Heap.SameBut env.locals s.heap s'.heap) (ho : osd s' = osd s) (hg : s'.gens = s.gens) : W w B z env own (upd m x v) mu s' := by
  have hp := (H.ownp _ H.lown).1
  have hz := (H.ownp _ H.lown).2.1
  refine ⟨H.gd, H.cov, fun a o e => (hs.2 a (fun q => ?_)).trans (H.pin a o e), fun a o e => (hs.2 a (fun q => ?_)).trans (H.zin a o e), H.pz, ?_, fun y c e => ?_, H.lown, H.cown, H.cinj, fun a ha => ?_, fun q hq => ?_, H.nd, ho.trans H.os, ?_, H.fn, H.gl, H.bu⟩
  · rw [q, hp] at e; cases e
  · rw [q, hz] at e; cases e
  · obtain ⟨ml, a, b⟩ := H.ns
    refine ⟨_, hh ml a, fun y hy => ?_⟩
    by_cases hx : y = x
    · subst hx; simp [upd]
    · simp [upd, hx, b y hy]
  · have hc := H.cown y c e
    have hyx : y ≠ x := fun q => hc.1 (q ▸ hk)
    rw [upd_ne hyx]
    exact (H.cel y c e).sameBut hs hc.2.1
  · refine ⟨(H.ownp a ha).1, (H.ownp a ha).2.1, ?_⟩
    by_cases hal : a = env.locals
    · obtain ⟨ml, n, _⟩ := H.ns
      obtain ⟨o, _, _, e, _⟩ := hh ml n
      exact ⟨o, hal ▸ e⟩
    · obtain ⟨o, e⟩ := (H.ownp a ha).2.2
      exact ⟨o, (hs.2 a hal).trans e⟩
  · have hq' := H.muo q hq
    have : q.1 ≠ env.locals := fun e => hq'.2.2.2 (e ▸ H.lown)
    exact ⟨hq'.1.keep fun o e => (hs.2 _ this).trans e, hq'.2⟩
  · rw [hg]; exact H.gens

/-- a cell is stored -/
theorem W.storeC (H : W w B z env own m mu s) {x : Str} {c : Addr} {v : Value} (hc : env.cells.lookup x = some c) (hco : c ∈ own) (hv : s'.heap.IsCell c (some v))
    (hs : Heap.SameBut c s.heap s'.heap) (ho : osd s' = osd s) (hg : s'.gens = s.gens) : W w B z env own (upd m x v) mu s' := by
  have hp := (H.ownp _ hco).1
  have hz := (H.ownp _ hco).2.1
  refine ⟨H.gd, H.cov, fun a o e => (hs.2 a (fun q => ?_)).trans (H.pin a o e), fun a o e => (hs.2 a (fun q => ?_)).trans (H.zin a o e), H.pz, ?_, fun y c' e => ?_, H.lown, H.cown, H.cinj, fun a ha => ?_, fun q hq => ?_, H.nd, ho.trans H.os, ?_, H.fn, H.gl, H.bu⟩
  · rw [q, hp] at e; cases e
  · rw [q, hz] at e; cases e
  · obtain ⟨ml, a, b⟩ := H.ns
    refine ⟨_, a.sameBut hs (Ne.symm (H.cown x c hc).2.1), fun y hy => ?_⟩
    have hx : y ≠ x := fun q => (H.cown x c hc).1 (q ▸ hy)
    rw [upd_ne hx]; exact b y hy
  · by_cases hyx : y = x
    · subst hyx
      rw [hc] at e; cases e
      rw [upd_self]; exact hv
    · rw [upd_ne hyx]
      exact (H.cel y c' e).sameBut hs fun q => hyx (H.cinj _ _ _ (q ▸ e) hc)
  · refine ⟨(H.ownp a ha).1, (H.ownp a ha).2.1, ?_⟩
    by_cases hal : a = c
    · obtain ⟨o, e, _⟩ := hv
      exact ⟨o, hal ▸ e⟩
    · obtain ⟨o, e⟩ := (H.ownp a ha).2.2
      exact ⟨o, (hs.2 a hal).trans e⟩
  · have hq' := H.muo q hq
    have : q.1 ≠ c := fun e => hq'.2.2.2 (e ▸ hco)
    exact ⟨hq'.1.keep fun o e => (hs.2 _ this).trans e, hq'.2⟩
  · rw [hg]; exact H.gens

/-- a mutable object is changed -/
theorem W.chg (H : W w B z env own m mu s) (i : Nat) {a : Addr} {x y : MO} (hi : mu[i]? = some (a, x)) (hy : y.At w s'.heap a)
    (hs : Heap.SameBut a s.heap s'.heap) (ho : osd s' = osd s) (hg : s'.gens = s.gens) : W w B z env own m (mu.set i (a, y)) s' := by
  obtain ⟨hA, hp, hz, hn⟩ := H.muo (a, x) (List.mem_of_getElem? hi)
  have hnd : ((mu.set i (a, y)).map (·.1)) = mu.map (·.1) := by
    obtain ⟨hl, he⟩ := List.getElem?_eq_some_iff.mp hi
    apply List.ext_getElem?
    intro j
    simp only [List.getElem?_map, List.getElem?_set]
    by_cases hij : i = j
    · subst hij; simp [hl, he]
    · simp [hij]
  refine ⟨H.gd, H.cov, fun b o e => (hs.2 b (fun q => ?_)).trans (H.pin b o e), fun b o e => (hs.2 b (fun q => ?_)).trans (H.zin b o e), H.pz, ?_, fun y c e => ?_, H.lown, H.cown, H.cinj, fun b hb => ?_, fun q hq => ?_, by rw [hnd]; exact H.nd, ho.trans H.os, ?_, H.fn, H.gl, H.bu⟩
  · rw [q, hp] at e; cases e
  · rw [q, hz] at e; cases e
  · obtain ⟨ml, n, b⟩ := H.ns
    exact ⟨ml, n.sameBut hs fun q => hn (q ▸ H.lown), b⟩
  · refine (H.cel y c e).sameBut hs fun q => ?_
    rcases (H.cown y c e).2.2 with h | h
    · exact hn (q ▸ h)
    · exact h (q ▸ hp)
  · have hb' : b ≠ a := fun q => hn (q ▸ hb)
    exact ⟨(H.ownp b hb).1, (H.ownp b hb).2.1, (H.ownp b hb).2.2.imp fun o e => (hs.2 b hb').trans e⟩
  · obtain ⟨hl, he⟩ := List.getElem?_eq_some_iff.mp hi
    obtain ⟨j, hj⟩ := List.mem_iff_getElem?.mp hq
    rw [List.getElem?_set] at hj
    by_cases hij : i = j
    · subst hij
      simp [hl] at hj
      subst hj
      exact ⟨hy, hp, hz, hn⟩
    · simp [hij] at hj
      have hq' := H.muo q (List.mem_of_getElem? hj)
      refine ⟨hq'.1.keep fun o e => (hs.2 _ fun q' => ?_).trans e, hq'.2⟩
      have nd := H.nd
      have e1 : (mu.map (·.1))[i]? = some a := by simp [hi]
      have e2 : (mu.map (·.1))[j]? = some a := by simp [hj, q']
      obtain ⟨l1, g1⟩ := List.getElem?_eq_some_iff.mp e1
      obtain ⟨l2, g2⟩ := List.getElem?_eq_some_iff.mp e2
      have pw := List.pairwise_iff_getElem.mp nd
      rcases Nat.lt_trichotomy i j with h | h | h
      · exact pw i j l1 l2 h (g1.trans g2.symm)
      · exact hij h
      · exact pw j i l2 l1 h (g2.trans g1.symm)
  · rw [hg]; exact H.gens

theorem W.none_size (H : W w B z env own m mu s) : z s.heap.objs.size = none ∧ B.p s.heap.objs.size = none ∧ s.heap.objs.size ∉ own ∧ s.heap.objs.size ∉ mu.map (·.1) := by
  have hn : s.heap.get? s.heap.objs.size = none := by
    cases q : s.heap.get? s.heap.objs.size with
    | none => rfl
    | some o => exact absurd (Heap.lt_size q) (Nat.lt_irrefl _)
  refine ⟨?_, ?_, fun h => ?_, fun h => ?_⟩
  · cases q : z s.heap.objs.size with
    | none => rfl
    | some o => rw [H.zin _ _ q] at hn; cases hn
  · cases q : B.p s.heap.objs.size with
    | none => rfl
    | some o => rw [H.pin _ _ q] at hn; cases hn
  · obtain ⟨o, e⟩ := (H.ownp _ h).2.2
    rw [hn] at e; cases e
  · obtain ⟨q, hq, e⟩ := List.mem_map.mp h
    obtain ⟨o, e'⟩ := (H.muo q hq).1.some
    rw [e, hn] at e'; cases e'

/-- a fresh object, mutable -/
theorem W.pushM (H : W w B z env own m mu s) {o : Obj} {x : MO} (hh : s'.heap = s.heap.push o) (ho : osd s' = osd s) (hg : s'.gens = s.gens) (hx : x.At w s'.heap s.heap.objs.size) :
    W w B z env own m ((s.heap.objs.size, x) :: mu) s' := by
  have K : ∀ a o', s.heap.get? a = some o' → s'.heap.get? a = some o' := fun a o' e => by rw [hh]; exact Heap.get?_push_of_some _ e
  obtain ⟨n1, n2, n3, n4⟩ := H.none_size
  have N : Nx z s z s' := ⟨K, Le.refl z, fun a o' e => K a o' (H.zin a o' e), fun _ a b => absurd b a, ho, #[], by simp [hg], AllBare.empty⟩
  have H' := H.nx N
  exact { H' with
    muo := fun q hq => by
      rcases List.mem_cons.mp hq with rfl | hq
      · exact ⟨hx, n2, n1, n3⟩
      · exact H'.muo q hq
    nd := List.nodup_cons.mpr ⟨n4, H.nd⟩ }

/-- a fresh object, frozen -/
theorem W.pushZ (H : W w B z env own m mu s) {o : Obj} (hf : o.isFreed = false) (hh : s'.heap = s.heap.push o) (ho : osd s' = osd s) (hg : s'.gens = s.gens) :
    W w B (z.put s.heap.objs.size o) env own m mu s' := H.nx (Nx.push H.zin hf hh ho hg)

/-- the first mutable object is frozen -/
theorem W.freeze {a : Addr} {x : MO} (H : W w B z env own m ((a, x) :: mu) s) : ∃ o, s.heap.get? a = some o ∧ x.At w s.heap a ∧ Le z (z.put a o) ∧ W w B (z.put a o) env own m mu s := by
  have h := H.muo (a, x) (.head _)
  obtain ⟨o, e⟩ := h.1.some
  have nd := List.nodup_cons.mp H.nd
  refine ⟨o, e, h.1, PM.put_le h.2.2.1, ?_⟩
  exact { H with
    cov := fun b o' e' => (H.cov b o' e').imp id (PM.put_le h.2.2.1 b o')
    zin := fun b o' e' => by
      rcases PM.put_some e' with ⟨rfl, rfl⟩ | ⟨_, e'⟩
      · exact e
      · exact H.zin _ _ e'
    pz := fun b hb => PM.put_none (H.pz b hb) fun q => hb (q ▸ h.2.1)
    ownp := fun b hb => ⟨(H.ownp b hb).1, PM.put_none (H.ownp b hb).2.1 fun q => h.2.2.2 (q ▸ hb), (H.ownp b hb).2.2⟩
    muo := fun q hq => have hq' := H.muo q (.tail _ hq); ⟨hq'.1, hq'.2.1, PM.put_none hq'.2.2.1 fun q' => nd.1 (List.mem_map.mpr ⟨q, hq, q'⟩), hq'.2.2.2⟩
    nd := nd.2 }

/-- the first mutable object is let go -/
theorem W.drop {q : Addr × MO} (H : W w B z env own m (q :: mu) s) : W w B z env own m mu s :=
  { H with muo := fun q' hq => H.muo q' (.tail _ hq), nd := (List.nodup_cons.mp H.nd).2 }

/-- the base a call stands on -/
noncomputable def Bs.of (z : PM) (s : Shared) : Bs := ⟨s.heap, fun a => if z a = none then s.heap.get? a else none, osd s, s.gens⟩
/-- out of a call: a pure step -/
theorem W.out {z₀ : PM} {s₀ : Shared} (hz : ∀ a o, z₀ a = some o → s₀.heap.get? a = some o) (H : W w (Bs.of z₀ s₀) z env own m mu s) : Nx z₀ s₀ z s := by
  refine ⟨H.keep0, fun a o e => ?_, H.zin, fun a h1 h2 => ?_, H.os, H.gens⟩
  · rcases H.cov a o (hz a o e) with h | h
    · simp [Bs.of, e] at h
    · exact h
  · cases q : s₀.heap.get? a with
    | none => rfl
    | some o =>
      exact absurd (H.pz a (by simp [Bs.of, h2, q])) h1
end
end Mine
end
section
open PySem PySem.W PySem.Calls PyProof.Rows PySem.Spec
set_option Elab.async false
set_option maxRecDepth 100000
namespace Mine

/-- room for k frames more -/
structure Rm (A : Around) (k : Nat) : Prop where
  hh : A.handled = none
  d : A.depth + k < recursionLimit
  u : A.units + 16 * k < cLine
theorem Rm.deep {A : Around} {k : Nat} {env : Env} (R : Rm A (k + 1)) : Rm (A.deeper env) k :=
  ⟨R.hh, by have := R.d; show A.depth + 1 + k < _; exact Mine.om7 this, by have := R.u; show A.units + 3 + 16 * k < _; exact Mine.om6 this⟩
theorem Rm.in1 {A : Around} {k : Nat} (R : Rm A (k + 1)) : Rm A.in1 k :=
  ⟨R.hh, by have := R.d; show A.depth + k < _; exact Mine.om5 this, by have := R.u; show A.units + 1 + 16 * k < _; exact Mine.om4 this⟩
theorem Rm.le {A : Around} {k j : Nat} (R : Rm A k) (h : j ≤ k) : Rm A j := ⟨R.hh, by have := R.d; exact Mine.om3 h this, by have := R.u; exact Mine.om2 h this⟩

noncomputable def Var (env : Env) (x : Str) : Prop := env.kindOf x = some .local ∨ ((env.kindOf x = some .cell ∨ env.kindOf x = some .free) ∧ ∃ c, env.cells.lookup x = some c)
noncomputable def SVar (env : Env) (own : List Addr) (x : Str) : Prop := env.kindOf x = some .local ∨ (env.kindOf x = some .cell ∧ ∃ c, env.cells.lookup x = some c ∧ c ∈ own)
theorem SVar.var {env : Env} {own : List Addr} {x : Str} (h : SVar env own x) : Var env x := h.imp id fun ⟨a, c, b, _⟩ => ⟨.inl a, c, b⟩

theorem cells_some : ∀ (names : List (Str × NameKind)) (n : Nat) (acc : List (Str × Addr)) (x : Str), ((x, NameKind.cell) ∈ names ∨ (acc.lookup x).isSome = true) → ((cellsFrom n names acc).lookup x).isSome = true
  | [], _, _, _, h => by
    rcases h with h | h
    · cases h
    · exact h
  | (name, kind) :: r, n, acc, x, h => by
    unfold cellsFrom
    split
    · refine cells_some r _ _ x ?_
      rcases h with h | h
      · rcases List.mem_cons.mp h with e | h
        · cases e; right; simp
        · exact .inl h
      · right
        rw [List.lookup_cons]
        cases x == name <;> simp [h]
    · rename_i hk
      refine cells_some r _ _ x ?_
      rcases h with h | h
      · rcases List.mem_cons.mp h with e | h
        · cases e; exact absurd rfl hk
        · exact .inl h
      · exact .inr h
theorem lookup_mem_kind {names : List (Str × NameKind)} {x : Str} {k : NameKind} (h : names.lookup x = some k) : (x, k) ∈ names := mem_of_lookup h

/-- what a def's object must be -/
structure FnAt (w : World) (f : Addr) (name : Str) (args : List Str) (body : List Stmt) (scope : Scope) : Prop where
  fd : ∃ o fd, (KK w).lookup f = some o ∧ o.data = .func fd ∧ fd.body = .stmts body ∧ fd.scope = scope ∧ fd.closure = [] ∧ fd.globals = mainGlobals ∧ fd.builtins = builtinsNs ∧
    codeIn (KK w) fd.code fd.qualname = true ∧ ∀ vs : List Value, vs.length = args.length → bindArgs fd ⟨vs, []⟩ = pure (args.zip vs)
  par : ∀ x ∈ args, scope.names.lookup x = some .local ∨ scope.names.lookup x = some .cell
  nd : args.Nodup
  nnd : (scope.names.map (·.1)).Nodup
  cnd : ((cellsFrom 0 scope.names []).map (·.1)).Nodup
  co : scope.isCoroutine = false
  gen : scope.isGenerator = false
  fn : scope.kind = .function

theorem mem_cells_kind : ∀ (names : List (Str × NameKind)) (n : Nat) (acc : List (Str × Addr)) (x : Str) (c : Addr), (x, c) ∈ cellsFrom n names acc → (x, NameKind.cell) ∈ names ∨ (x, c) ∈ acc
  | [], _, _, _, _, h => .inr h
  | (name, kind) :: r, n, acc, x, c, h => by
    unfold cellsFrom at h
    split at h
    · rename_i hk
      rcases mem_cells_kind r _ _ x c h with h | h
      · exact .inl (.tail _ h)
      · rcases List.mem_cons.mp h with e | h
        · cases e; left; rw [beq_iff_eq.mp hk]; exact .head _
        · exact .inr h
    · rcases mem_cells_kind r _ _ x c h with h | h
      · exact .inl (.tail _ h)
      · exact .inr h

theorem bindL_find (k : Str → Option NameKind) : ∀ (binds : List (Str × Value)) (m : Str → Option Value) (x : Str), k x = some .local → (binds.map (·.1)).Nodup →
    (∀ v, (x, v) ∈ binds → bindL k binds m x = some v) ∧ ((∀ v, (x, v) ∉ binds) → bindL k binds m x = m x)
  | [], m, x, _, _ => ⟨(fun _ h => nomatch h), fun _ => rfl⟩
  | (n, u) :: r, m, x, hx, nd => by
    have nd' := List.nodup_cons.mp nd
    have ih := bindL_find k r (if k n = some .local then fun y => if y = n then some u else m y else m) x hx nd'.2
    unfold bindL
    refine ⟨fun v h => ?_, fun h => ?_⟩
    · rcases List.mem_cons.mp h with e | h
      · cases e
        rw [ih.2 (fun v' h' => nd'.1 (List.mem_map.mpr ⟨_, h', rfl⟩)), if_pos hx]; simp
      · exact ih.1 v h
    · rw [ih.2 fun v' h' => h v' (.tail _ h')]
      split
      · have : x ≠ n := fun e => h u (e ▸ .head _)
        simp [this]
      · rfl
theorem bindC_find (k : Str → Option NameKind) : ∀ (binds : List (Str × Value)) (m : Str → Option Value) (x : Str), k x ≠ some .local → (binds.map (·.1)).Nodup →
    (∀ v, (x, v) ∈ binds → bindC k binds m x = some v) ∧ ((∀ v, (x, v) ∉ binds) → bindC k binds m x = m x)
  | [], m, x, _, _ => ⟨(fun _ h => nomatch h), fun _ => rfl⟩
  | (n, u) :: r, m, x, hx, nd => by
    have nd' := List.nodup_cons.mp nd
    have ih := bindC_find k r (if k n = some .local then m else fun y => if y = n then some u else m y) x hx nd'.2
    unfold bindC
    refine ⟨fun v h => ?_, fun h => ?_⟩
    · rcases List.mem_cons.mp h with e | h
      · cases e
        rw [ih.2 (fun v' h' => nd'.1 (List.mem_map.mpr ⟨_, h', rfl⟩)), if_neg hx]; simp
      · exact ih.1 v h
    · rw [ih.2 fun v' h' => h v' (.tail _ h')]
      split
      · rfl
      · have : x ≠ n := fun e => h u (e ▸ .head _)
        simp [this]

theorem lookup_of_mem {α : Type} : ∀ {l : List (Str × α)} {x : Str} {k : α}, (l.map (·.1)).Nodup → (x, k) ∈ l → l.lookup x = some k
  | (n, j) :: r, x, k, nd, h => by
    have nd' := List.nodup_cons.mp nd
    rw [List.lookup_cons]
    rcases List.mem_cons.mp h with e | h
    · cases e; simp
    · have : (x == n) = false := by
        apply beq_eq_false_iff_ne.mpr
        intro e
        exact nd'.1 (List.mem_map.mpr ⟨_, h, e⟩)
      rw [this]
      exact lookup_of_mem nd'.2 h

theorem enterC {w : World} {A : Around} {z : PM} {s : Shared} {f : Addr} {name : Str} {args : List Str} {body : List Stmt} {scope : Scope} {vs : List Value} {k : Nat} {QR : Result → Shared → Prop}
    (FA : FnAt w f name args body scope) (G : Gd w s.heap) (hz : ∀ a o, z a = some o → s.heap.get? a = some o) (R : Rm A (k + 1)) (hn : vs.length = args.length)
    (h : ∀ A' env own m s', Rm A' k → W w (Bs.of z s) z env own m [] s' → (∀ x, scope.names.lookup x = some .local ∨ scope.names.lookup x = some .cell → SVar env own x) →
      (∀ x, scope.names.lookup x = some .globalImplicit → env.kindOf x = some .globalImplicit) → (∀ q ∈ args.zip vs, m q.1 = some q.2) → env.scope = scope →
      wpAny (model prg w) A' (execs body env) (fun fl s'' => QR (.ok (.ret (match fl with | .ret v => v | _ => .none))) s'') (fun _ _ => False) s') :
    codeAny (model prg w) A (.call (.ref f) ⟨vs, []⟩) QR s := by
  obtain ⟨o, fd, hK, hdata, hbody, hsc, hcl, hgl, hbu, hcode, hbind⟩ := FA.fd
  subst hsc
  obtain ⟨mean, mg, mb, T⟩ := G.T
  have ndn : ((args.zip vs).map (·.1)).Nodup := by
    rw [List.map_fst_zip (Nat.le_of_eq hn.symm)]; exact FA.nd
  refine codeAny_call_cells (by have := R.d; exact Mine.om1 this) (G.K _ _ hK) hdata T.nolimit (codeRec_of G.K hcode) hbody (hbind vs hn) hcl (fun x hx => ?_) (fun s₁ X => ?_) FA.co FA.gen FA.fn
  · obtain ⟨y, v⟩ := x
    rcases FA.par y (List.of_mem_zip hx).1 with h | h
    · exact .inl h
    · exact .inr ⟨h, cells_some _ _ _ _ (.inl (lookup_mem_kind h))⟩
  · generalize henv : callEnvC fd s.heap.objs.size f = env at X ⊢
    have hes : env.scope = fd.scope := by rw [← henv]; rfl
    have hloc : env.locals = s.heap.objs.size := by rw [← henv]; rfl
    have hcells : env.cells = cellsFrom (s.heap.objs.size + 1) fd.scope.names [] := by rw [← henv]; rfl
    have hkind : ∀ x, env.kindOf x = fd.scope.names.lookup x := fun x => by rw [Env.kindOf, hes]
    obtain ⟨h₁, tk, rfl, keep⟩ := X.done
    have hnone : ∀ a, s.heap.objs.size ≤ a → s.heap.get? a = none := fun a ha => by
      cases e : s.heap.get? a with
      | none => rfl
      | some o' => exact absurd (Heap.lt_size e) (Nat.not_lt.mpr ha)
    have hznone : ∀ a, s.heap.objs.size ≤ a → z a = none := fun a ha => by
      cases e : z a with
      | none => rfl
      | some o' => have := hz _ _ e; rw [hnone a ha] at this; cases this
    have cnd' : ((cellsFrom (s.heap.objs.size + 1) fd.scope.names []).map (·.1)).Nodup := cellsFrom_names fd.scope.names 0 (s.heap.objs.size + 1) [] [] rfl ▸ FA.cnd
    let own := s.heap.objs.size :: (env.cells.map (·.2))
    let m : Str → Option Value := fun x => if env.kindOf x = some .local then bindL env.kindOf (args.zip vs) (fun _ => none) x else bindC env.kindOf (args.zip vs) (fun _ => none) x
    have hnl : ∀ x c, env.cells.lookup x = some c → env.kindOf x ≠ some .local := fun x c e => by
      have hxc : (x, NameKind.cell) ∈ fd.scope.names := (mem_cells_kind _ _ _ _ _ (hcells ▸ mem_of_lookup e)).resolve_right List.not_mem_nil
      rw [hkind, lookup_of_mem FA.nnd hxc]
      decide
    have hW : W w (Bs.of z s) z env own m [] { s with heap := h₁, toks := tk } := by
      refine ⟨G, fun a o e => ?_, fun a o e => ?_, fun a o e => keep _ _ (hz a o e), fun a e => ?_, ⟨_, X.toInCall.ns, fun x hx => by simp only [m, if_pos hx]⟩, fun x c e => ?_, by rw [hloc]; exact .head _, fun x c e => ?_, fun x y c e e' => ?_, fun a ha => ?_, (fun _ h => absurd h List.not_mem_nil), List.nodup_nil, rfl, ⟨#[], by simp [Bs.of], AllBare.empty⟩, hes ▸ FA.fn, by rw [← henv]; exact hgl, by rw [← henv]; exact hbu⟩
      · by_cases hza : z a = none
        · left; simp only [Bs.of, if_pos hza]; exact e
        · right
          cases q : z a with
          | none => exact absurd q hza
          | some o' => have := hz a o' q; rw [show (Bs.of z s).h₀ = s.heap from rfl] at e; rw [e] at this; rw [this]
      · simp only [Bs.of] at e
        split at e
        · exact keep _ _ e
        · cases e
      · simp only [Bs.of] at e
        split at e
        · assumption
        · exact absurd rfl e
      · have hc := X.cell x c e
        simp only [m, if_neg (hnl x c e)]
        exact hc
      · exact ⟨hnl x c e, by rw [hloc]; exact Nat.ne_of_gt (hloc ▸ X.above x c (mem_of_lookup e)), .inl (.tail _ (List.mem_map.mpr ⟨_, mem_of_lookup e, rfl⟩))⟩
      · exact name_of_addr X.apart (mem_of_lookup e) (mem_of_lookup e')
      · have hge : s.heap.objs.size ≤ a := by
          rcases List.mem_cons.mp ha with rfl | ha
          · exact Nat.le_refl _
          · obtain ⟨q, hq, rfl⟩ := List.mem_map.mp ha
            exact Nat.le_of_lt (hloc ▸ X.above q.1 q.2 hq)
        refine ⟨?_, hznone a hge, ?_⟩
        · simp only [Bs.of]; split
          · exact hnone a hge
          · rfl
        · rcases List.mem_cons.mp ha with rfl | ha
          · obtain ⟨o', _, _, e, _⟩ := X.toInCall.ns
            rw [hloc] at e
            exact ⟨o', e⟩
          · obtain ⟨q, hq, rfl⟩ := List.mem_map.mp ha
            have ce : env.cells.lookup q.1 = some q.2 := lookup_of_mem (hcells ▸ cnd') hq
            obtain ⟨o', e, _⟩ := X.cell q.1 q.2 ce
            exact ⟨o', e⟩
    have sv : ∀ x, fd.scope.names.lookup x = some .local ∨ fd.scope.names.lookup x = some .cell → SVar env own x := fun x hx => by
      rcases hx with hx | hx
      · exact .inl ((hkind x).trans hx)
      · have h1 := cells_some fd.scope.names (s.heap.objs.size + 1) [] x (.inl (lookup_mem_kind hx))
        rw [← hcells] at h1
        obtain ⟨c, hc⟩ := Option.isSome_iff_exists.mp h1
        exact .inr ⟨(hkind x).trans hx, c, hc, .tail _ (List.mem_map.mpr ⟨_, mem_of_lookup hc, rfl⟩)⟩
    have hm : ∀ q ∈ args.zip vs, m q.1 = some q.2 := fun q hq => by
      simp only [m]
      split
      · rename_i hl
        exact (bindL_find env.kindOf _ _ q.1 hl ndn).1 q.2 hq
      · rename_i hl
        exact (bindC_find env.kindOf _ _ q.1 hl ndn).1 q.2 hq
    exact wpAny_mono (h (A.deeper env) env own m _ R.deep hW sv (fun x hx => (hkind x).trans hx) hm hes) (fun fl s'' hq => hq) fun _ _ e => e.elim
theorem enter {w : World} {A : Around} {z : PM} {s : Shared} {f : Addr} {name : Str} {args : List Str} {body : List Stmt} {scope : Scope} {vs : List Value} {k : Nat} {Q : Value → Shared → Prop} {E : Value → Shared → Prop}
    (FA : FnAt w f name args body scope) (G : Gd w s.heap) (hz : ∀ a o, z a = some o → s.heap.get? a = some o) (R : Rm A (k + 1)) (hn : vs.length = args.length)
    (h : ∀ A' env own m s', Rm A' k → W w (Bs.of z s) z env own m [] s' → (∀ x, scope.names.lookup x = some .local ∨ scope.names.lookup x = some .cell → SVar env own x) →
      (∀ x, scope.names.lookup x = some .globalImplicit → env.kindOf x = some .globalImplicit) → (∀ q ∈ args.zip vs, m q.1 = some q.2) → env.scope = scope →
      wpAny (model prg w) A' (execs body env) (fun fl s'' => Q (match fl with | .ret v => v | _ => .none) s'') (fun _ _ => False) s') :
    wpAny (model prg w) A (call (.ref f) vs) Q E s := wpAny_call (enterC FA G hz R hn h)
end Mine
end
section
open PySem PySem.W PySem.Calls PyProof.Rows PySem.Spec
set_option Elab.async false
set_option maxRecDepth 100000
namespace Mine

/-! lists of one to four -/
theorem ofLen1 {P : List Value → Prop} (h : ∀ a, P [a]) (l : List Value) (e : l.length = 1) : P l := by
  obtain ⟨a, rfl⟩ := List.length_eq_one_iff.mp e; exact h a
theorem ofLenS {P : List Value → Prop} {n : Nat} (h : ∀ a l, l.length = n → P (a :: l)) : ∀ l : List Value, l.length = n + 1 → P l
  | [], e => nomatch e
  | a :: l, e => h a l (Nat.succ.inj e)
theorem ofLen2 {P : List Value → Prop} (h : ∀ a b, P [a, b]) : ∀ l : List Value, l.length = 2 → P l := ofLenS fun a => ofLen1 (P := fun l => P (a :: l)) (h a)
theorem ofLen3 {P : List Value → Prop} (h : ∀ a b c, P [a, b, c]) : ∀ l : List Value, l.length = 3 → P l := ofLenS fun a => ofLen2 (P := fun l => P (a :: l)) (h a)
theorem ofLen4 {P : List Value → Prop} (h : ∀ a b c d, P [a, b, c, d]) : ∀ l : List Value, l.length = 4 → P l := ofLenS fun a => ofLen3 (P := fun l => P (a :: l)) (h a)
theorem at_below (w : World) : FnAt w 67 (Str.ofString "_law_below") [Str.ofString "above", Str.ofString "node"] (bodyOf (stAt 13)) (scopeOf (stAt 13)) where
  fd := ⟨_, _, rfl, rfl, rfl, rfl, rfl, rfl, rfl, by kernel_rfl, ofLen2 (fun _ _ => rfl)⟩
  par := by decide +kernel
  nd := by decide +kernel
  nnd := by decide +kernel
  cnd := by decide +kernel
  co := by kernel_rfl
  gen := by kernel_rfl
  fn := by kernel_rfl
end Mine
end
section
open PySem PySem.W PySem.Calls PyProof.Rows PySem.Spec
set_option Elab.async false
set_option maxRecDepth 100000
namespace Mine

section
variable {w : World} {B : Bs} {z z' : PM} {env : Env} {own : List Addr} {m : Str → Option Value} {mu : List (Addr × MO)} {s s' : Shared} {A : Around} {E : Value → Shared → Prop} {k : Nat}

theorem r_load {x : Str} {v : Value} {Q : Value → Shared → Prop} (H : W w B z env own m mu s) (hv : Var env x) (hm : m x = some v) (h : Q v s) (hn : (x == ("__classdict__" : Str)) = false := by kernel_rfl) :
    wpAny (model prg w) A (loadName env x) Q E s := by
  rcases hv with hl | ⟨hc, c, hl⟩
  · obtain ⟨ml, n, e⟩ := H.ns
    exact wpAny_loadName_local H.fn hl n ((e x hl).trans hm) h
  · have hx := H.cel x c hl
    rw [hm] at hx
    rcases hc with hc | hc
    · exact wpAny_loadName_cell H.fn hc hl hx h
    · exact wpAny_loadName_free H.fn hc hl hx h hn

theorem r_var {x : Str} {pos : Pos} {v : Value} {Q : Value → Shared → Prop} (H : W w B z env own m mu s) (hv : Var env x) (hm : m x = some v) (h : Q v s) (hd : (x == ("__debug__" : Str)) = false := by kernel_rfl)
    (hn : (x == ("__classdict__" : Str)) = false := by kernel_rfl) : wpAny (model prg w) A (eval (.Name x pos) env) Q E s := wpAny_Name (r_load H hv hm h hn) hd

theorem r_store {x : Str} {v : Value} {Q : Unit → Shared → Prop} (H : W w B z env own m mu s) (hv : SVar env own x) (h : ∀ s', W w B z env own (upd m x v) mu s' → Q () s') :
    wpAny (model prg w) A (storeName env x v) Q E s := by
  rcases hv with hl | ⟨hc, c, hl, ho⟩
  · obtain ⟨ml, n, e⟩ := H.ns
    refine wpAny_storeName_local hl n (fun h' hn hs => h _ ?_) (by rw [H.fn]; rfl)
    exact H.store hl (fun ml' n' => by
      have : ml' = ml := by
        obtain ⟨o, es, ep, h1, h2, _, h4⟩ := n
        obtain ⟨o', es', ep', h1', h2', _, h4'⟩ := n'
        rw [h1] at h1'; cases h1'
        rw [h2] at h2'; cases h2'
        funext y; rw [← h4 y, ← h4' y]
      subst this; exact hn) hs rfl rfl
  · exact wpAny_storeName_cell H.fn hc hl (H.cel x c hl) fun h' hv' hs => h _ (H.storeC hl ho hv' hs rfl rfl)

/-- a global that the top left -/
theorem r_glob {x : Str} {pos : Pos} {v : Value} {Q : Value → Shared → Prop} (H : W w B z env own m mu s) (hx : env.kindOf x = some .globalImplicit) (e : nsIn (KK w) mainGlobals x = some (some v)) (h : Q v s)
    (hd : (x == ("__debug__" : Str)) = false := by kernel_rfl) : wpAny (model prg w) A (eval (.Name x pos) env) Q E s := by
  obtain ⟨mean, mg, mb, T⟩ := H.gd'.T
  exact Name_function_global H.fn hx (loadGlobal_global (H.gl ▸ T.g) (mg_of H.gd'.K T.g e) h) hd
/-- a built-in name -/
theorem r_bi {x : Str} {pos : Pos} {v : Value} {Q : Value → Shared → Prop} (H : W w B z env own m mu s) (hx : env.kindOf x = some .globalImplicit) (e : nsIn (KK w) mainGlobals x = some none) (hv : bootBuiltins x = some v) (h : Q v s)
    (hn : x ≠ "__name__" := by decide +kernel) (hd : (x == ("__debug__" : Str)) = false := by kernel_rfl) : wpAny (model prg w) A (eval (.Name x pos) env) Q E s := by
  obtain ⟨mean, mg, mb, T⟩ := H.gd'.T
  exact Name_function_global H.fn hx (loadGlobal_builtin (H.gl ▸ T.g) (mg_none_of H.gd'.K T.g e) (H.bu ▸ T.b) ((T.builtins x hn).trans hv) h) hd

/-- a call of a global def -/
theorem r_callK {f : Value} {e : Expr} {rest : List Expr} {pos : Pos} {Q : Value → Shared → Prop} (hk : keepIn (KK w) f = true)
    (h : wpAny (model prg w) A (spliced (backTo pos (starEach (e :: rest) env))) (fun vs s₁ => Gd w s₁.heap ∧ wpAny (model prg w) A (call f vs) Q E s₁) E s)
    (he : starEach (e :: rest) env = (false, eval e env) :: starEach rest env := by rfl) (hplain : (backTo pos (starEach rest env)).any (·.1) = false := by rfl) :
    wpAny (model prg w) A (callWith pos f [] (backTo pos (starEach (e :: rest) env)) []) Q E s := by
  rw [he] at h ⊢
  exact callWith_of (P := fun h => Gd w h) (by show ((false || (backTo pos (starEach rest env)).any (·.1)) || false) = false; rw [hplain]; rfl) (fun h G => keeps_K hk h G.K) (evalArgs_plain h)
theorem eval_Call (x : Str) (px : Pos) (args : List Expr) (pos : Pos) (env : Env) :
    eval (.Call (.Name x px) args [] pos) env = (do callWith pos (← eval (.Name x px) env) [] (backTo pos (starEach args env)) (backToKw pos (keywordEach [] env))) := rfl
/-- f(e, ..) where f is a name -/
theorem r_call {x : Str} {px pos : Pos} {e : Expr} {rest : List Expr} {f : Value} {Q : Value → Shared → Prop}
    (hf : wpAny (model prg w) A (eval (.Name x px) env) (fun v s₁ => v = f ∧ wpAny (model prg w) A (spliced (backTo pos (starEach (e :: rest) env))) (fun vs s₂ => Gd w s₂.heap ∧ wpAny (model prg w) A (call f vs) Q E s₂) E s₁) E s)
    (hk : keepIn (KK w) f = true) (he : starEach (e :: rest) env = (false, eval e env) :: starEach rest env := by rfl) (hplain : (backTo pos (starEach rest env)).any (·.1) = false := by rfl) :
    wpAny (model prg w) A (eval (.Call (.Name x px) (e :: rest) [] pos) env) Q E s := by
  rw [eval_Call]
  refine wpAny_bind (wpAny_mono hf (fun v s₁ h₁ => ?_) fun _ _ e => e)
  obtain ⟨rfl, h₁⟩ := h₁
  exact r_callK hk h₁ he hplain
theorem keeps_M0 {M : Model} {h : Heap} {f : Value} (hf : ∀ a, f ≠ .ref a) : Looks M h (keeperOf f) Keeper.machine := by
  refine .of_pure ?_
  unfold keeperOf
  cases f <;> first | rfl | exact absurd rfl (hf _)
theorem r_callB {x : Str} {px pos : Pos} {e : Expr} {rest : List Expr} {f : Value} {Q : Value → Shared → Prop}
    (hf : wpAny (model prg w) A (eval (.Name x px) env) (fun v s₁ => v = f ∧ wpAny (model prg w) A (spliced (backTo pos (starEach (e :: rest) env))) (fun vs s₂ => wpAny (model prg w) A (call f vs) Q E s₂) E s₁) E s)
    (hk : ∀ a, f ≠ .ref a := by intro _ h; cases h) (he : starEach (e :: rest) env = (false, eval e env) :: starEach rest env := by rfl) (hplain : (backTo pos (starEach rest env)).any (·.1) = false := by rfl) :
    wpAny (model prg w) A (eval (.Call (.Name x px) (e :: rest) [] pos) env) Q E s := by
  rw [eval_Call]
  refine wpAny_bind (wpAny_mono hf (fun v s₁ h₁ => ?_) fun _ _ e => e)
  obtain ⟨rfl, h₁⟩ := h₁
  rw [he] at h₁ ⊢
  exact callWith_of (P := fun _ => True) (by show ((false || (backTo pos (starEach rest env)).any (·.1)) || false) = false; rw [hplain]; rfl) (fun h _ => ⟨.machine, .inr (.inl rfl), keeps_M0 hk⟩)
    (evalArgs_plain (wpAny_mono h₁ (fun _ _ q => ⟨trivial, q⟩) fun _ _ e => e))
end
end Mine
end
section
open PySem PySem.W PySem.Calls PyProof.Rows PySem.Spec
set_option Elab.async false
set_option maxRecDepth 100000
namespace Mine

/-- the base, with more objects that must stay -/
noncomputable def Bs.plus (B : Bs) (s : Shared) (xs : List Addr) : Bs := { B with p := fun a => if a ∈ xs then s.heap.get? a else B.p a }

section
variable {w : World} {B : Bs} {z z' : PM} {env : Env} {own : List Addr} {m m' : Str → Option Value} {mu mu' : List (Addr × MO)} {s s' s₀ : Shared} {A : Around} {E : Value → Shared → Prop} {k : Nat} {xs : List Addr}

theorem plus_in (H : W w B z env own m mu s) {a : Addr} {o : Obj} (h : B.p a = some o) : (B.plus s xs).p a = some o := by
  simp only [Bs.plus]; split
  · exact H.pin a o h
  · exact h
theorem plus_xs {a : Addr} (h : a ∈ xs) : (B.plus s xs).p a = s.heap.get? a := by simp only [Bs.plus, if_pos h]
theorem plus_out {a : Addr} (h : a ∉ xs) : (B.plus s xs).p a = B.p a := by simp only [Bs.plus, if_neg h]

theorem W.protect (H : W w B z env own m mu s) (hz : ∀ a ∈ xs, z a = none) (ho : ∀ a ∈ xs, a ∉ own) (hm : ∀ a ∈ xs, a ∉ mu.map (·.1)) : W w (B.plus s xs) z env own m mu s :=
  { H with
    cov := fun a o e => (H.cov a o e).imp (fun h => plus_in H h) id
    pin := fun a o e => by
      by_cases h : a ∈ xs
      · rw [plus_xs h] at e; exact e
      · rw [plus_out h] at e; exact H.pin a o e
    pz := fun a e => by
      by_cases h : a ∈ xs
      · exact hz a h
      · rw [plus_out h] at e; exact H.pz a e
    cown := fun x c e => ⟨(H.cown x c e).1, (H.cown x c e).2.1, (H.cown x c e).2.2.imp id fun h => by
      cases q : B.p c with
      | none => exact absurd q h
      | some o => rw [plus_in H q]; nofun⟩
    ownp := fun a ha => ⟨by rw [plus_out (fun h => ho a h ha)]; exact (H.ownp a ha).1, (H.ownp a ha).2⟩
    muo := fun q hq => ⟨(H.muo q hq).1, by rw [plus_out (fun h => hm _ h (List.mem_map_of_mem hq))]; exact (H.muo q hq).2.1, (H.muo q hq).2.2⟩
    os := H.os
    gens := H.gens
    gd := H.gd }

theorem W.unprotect (H₀ : W w B z env own m mu s₀) (H : W w (B.plus s₀ xs) z' env own m' mu' s') (hz : Le z z') : W w B z' env own m' mu' s' :=
  { H with
    cov := fun a o e => (H₀.cov a o e).imp id (hz a o)
    pin := fun a o e => H.pin a o (plus_in H₀ e)
    pz := fun a e => H.pz a (by
      cases q : B.p a with
      | none => exact absurd q e
      | some o => rw [plus_in H₀ q]; nofun)
    cown := fun x c e => H₀.cown x c e
    ownp := fun a ha => ⟨by
      cases q : B.p a with
      | none => rfl
      | some o => (have := (H.ownp a ha).1; rw [plus_in H₀ q] at this; exact nomatch this), (H.ownp a ha).2⟩
    muo := fun q hq => ⟨(H.muo q hq).1, by
      cases e : B.p q.1 with
      | none => rfl
      | some o => (have := (H.muo q hq).2.1; rw [plus_in H₀ e] at this; exact nomatch this), (H.muo q hq).2.2⟩
    os := H.os
    gens := H.gens
    gd := H₀.gd }

/-- into a comprehension's block -/
theorem W.inner {cenv : Env} {C : Addr} {mc ml : Str → Option Value} (H : W w B z env own m mu s) (hz : ∀ a ∈ xs, z a = none) (ho : ∀ a ∈ own, a ∈ xs) (hC : C ∉ xs) (hCp : B.p C = none) (hCz : z C = none)
    (hl : cenv.locals = C) (hn : s.heap.Ns C ml) (hml : ∀ x, cenv.kindOf x = some .local → ml x = mc x)
    (hcl : ∀ x c, cenv.cells.lookup x = some c → env.cells.lookup x = some c ∧ mc x = m x ∧ cenv.kindOf x ≠ some .local) (fn : cenv.scope.kind = .function) (gl : cenv.globals = mainGlobals) (bu : cenv.builtins = builtinsNs) :
    W w (B.plus s xs) z cenv [C] mc [] s where
  gd := H.gd
  cov := fun a o e => (H.cov a o e).imp (fun h => plus_in H h) id
  pin := fun a o e => by
    by_cases h : a ∈ xs
    · rw [plus_xs h] at e; exact e
    · rw [plus_out h] at e; exact H.pin a o e
  zin := H.zin
  pz := fun a e => by
    by_cases h : a ∈ xs
    · exact hz a h
    · rw [plus_out h] at e; exact H.pz a e
  ns := ⟨ml, hl ▸ hn, hml⟩
  cel := fun x c e => by rw [(hcl x c e).2.1]; exact H.cel x c (hcl x c e).1
  lown := by rw [hl]; exact .head _
  cown := fun x c e => by
    have h1 := H.cown x c (hcl x c e).1
    obtain ⟨oc, ec, _⟩ := H.cel x c (hcl x c e).1
    have h2 : (B.plus s xs).p c ≠ none := by
      rcases h1.2.2 with h | h
      · rw [plus_xs (ho c h), ec]; nofun
      · cases q : B.p c with
        | none => exact absurd q h
        | some o => rw [plus_in H q]; nofun
    refine ⟨(hcl x c e).2.2, fun q => ?_, .inr h2⟩
    rw [q, hl] at h1 ec
    rcases h1.2.2 with h | h
    · exact hC (ho _ h)
    · exact h hCp
  cinj := fun x y c e e' => H.cinj x y c (hcl x c e).1 (hcl y c e').1
  ownp := fun a ha => by
    rw [List.mem_singleton.mp ha]
    obtain ⟨o, _, _, e, _⟩ := hn
    exact ⟨by rw [plus_out hC]; exact hCp, hCz, o, e⟩
  muo := fun q hq => absurd hq List.not_mem_nil
  nd := List.nodup_nil
  os := H.os
  gens := H.gens
  fn := fn
  gl := gl
  bu := bu

/-- out of it -/
theorem W.outer {cenv : Env} {C : Addr} {mc : Str → Option Value} {mu'' : List (Addr × MO)} (H₀ : W w B z env own m mu s₀) (H : W w (B.plus s₀ xs) z' cenv [C] mc mu'' s') (hz : Le z z') (ho : ∀ a ∈ own, a ∈ xs) (hm : ∀ a ∈ mu.map (·.1), a ∈ xs) :
    W w B z' env own m mu s' := by
  have keep : ∀ a ∈ xs, ∀ o, s₀.heap.get? a = some o → s'.heap.get? a = some o := fun a ha o e => H.pin a o (by rw [plus_xs ha]; exact e)
  have keepp : ∀ a o, B.p a = some o → s'.heap.get? a = some o := fun a o e => H.pin a o (plus_in H₀ e)
  have nz : ∀ a ∈ xs, (∃ o, s₀.heap.get? a = some o) → z' a = none := fun a ha ⟨o, e⟩ => H.pz a (by rw [plus_xs ha, e]; nofun)
  exact
  { gd := H₀.gd
    cov := fun a o e => (H₀.cov a o e).imp id (hz a o)
    pin := keepp
    zin := H.zin
    pz := fun a e => H.pz a (by
      cases q : B.p a with
      | none => exact absurd q e
      | some o => rw [plus_in H₀ q]; nofun)
    ns := by
      obtain ⟨ml, ⟨o, es, ep, h1, r⟩, h2⟩ := H₀.ns
      exact ⟨ml, ⟨o, es, ep, keep _ (ho _ H₀.lown) _ h1, r⟩, h2⟩
    cel := fun x c e => by
      obtain ⟨o, e1, e2⟩ := H₀.cel x c e
      refine ⟨o, ?_, e2⟩
      rcases (H₀.cown x c e).2.2 with h | h
      · exact keep _ (ho c h) _ e1
      · cases q : B.p c with
        | none => exact absurd q h
        | some o' =>
          have := H₀.pin c o' q
          rw [e1] at this; cases this
          exact keepp c _ q
    lown := H₀.lown
    cown := H₀.cown
    cinj := H₀.cinj
    ownp := fun a ha => ⟨(H₀.ownp a ha).1, nz a (ho a ha) (H₀.ownp a ha).2.2, (H₀.ownp a ha).2.2.imp fun o e => keep a (ho a ha) o e⟩
    muo := fun q hq => by
      have h := H₀.muo q hq
      have hx := hm q.1 (List.mem_map_of_mem hq)
      exact ⟨h.1.keep fun o e => keep _ hx o e, h.2.1, nz _ hx h.1.some, h.2.2.2⟩
    nd := H₀.nd
    os := H.os
    gens := H.gens
    fn := H₀.fn
    gl := H₀.gl
    bu := H₀.bu }

end

/-- an iterator: its steps, with what the turn does to the owned tuple -/
structure Walk (w : World) (A : Around) (target : Expr) (I : Addr) (fp wr : List Addr) (n : Nat) (P : Nat → Value → Heap → Prop) (St : Nat → Heap → Prop) : Prop where
  frame : ∀ i h h', St i h → (∀ b ∈ fp, ∀ o, h.get? b = some o → h'.get? b = some o) → St i h'
  item : ∀ i (s : Shared) (Q : Value → Shared → Prop) (E : Value → Shared → Prop), i < n → St i s.heap →
    (∀ v h' tk, P i v h' → St (i + 1) h' → (∀ b o, b ∉ wr → s.heap.get? b = some o → h'.get? b = some o) → Q v { s with heap := h', toks := tk }) →
    wpAny (model prg w) A (pyNext (.ref I)) (fun r s₁ => match r with | none => False | some v => wpAny (model prg w) A (letOwnedTupleGo target (.ref I) v) (fun _ s₂ => Q v s₂) E s₁) E s
  done : ∀ (s : Shared) (Q : Shared → Prop) (E : Value → Shared → Prop), St n s.heap →
    (∀ h' tk, (∀ b o, b ∉ wr → s.heap.get? b = some o → h'.get? b = some o) → Q { s with heap := h', toks := tk }) →
    wpAny (model prg w) A (pyNext (.ref I)) (fun r s₁ => match r with | none => Q s₁ | some _ => False) E s
  self : ∀ i (s : Shared) (Q : Value → Shared → Prop) (E : Value → Shared → Prop), St i s.heap → Q (.ref I) s → wpAny (model prg w) A (pyIter (.ref I)) Q E s
  ex : ∀ i h, St i h → ∀ b ∈ wr, ∃ o, h.get? b = some o

theorem Walk.of {w : World} {A : Around} {target : Expr} {I : Addr} {fp wr : List Addr} {n : Nat} {P : Nat → Value → Prop} {St : Nat → Heap → Prop} (X : Walks prg w A I fp wr n P St)
    (hl : ∀ i (s : Shared) v (Q : Unit → Shared → Prop) (E : Value → Shared → Prop), St i s.heap → Q () s → wpAny (model prg w) A (letOwnedTupleGo target (.ref I) v) Q E s) (ex : ∀ i h, St i h → ∀ b ∈ wr, ∃ o, h.get? b = some o) :
    Walk w A target I fp wr n (fun i v _ => P i v) St where
  frame := X.frame
  item := fun i s Q E hi hst h => X.item i s _ E hi hst fun v h' tk hp hs hk => hl (i + 1) _ v _ E hs (h v h' tk hp hs hk)
  done := fun s Q E hst h => X.done s _ E hst fun h' tk hk => h h' tk hk
  self := X.self
  ex := ex

/-- an iterator under way: the addresses that it writes are nobody's -/
structure It (w : World) (A : Around) (B : Bs) (z : PM) (own : List Addr) (mu : List (Addr × MO)) (s : Shared) (target : Expr) (I : Addr) (n : Nat) (P : Nat → Value → Heap → Prop) : Prop where
  it : ∃ fp wr St, Walk w A target I fp wr n P St ∧ St 0 s.heap ∧ (∀ b ∈ fp, b ∈ wr ∨ z b ≠ none ∨ B.p b ≠ none) ∧
    ∀ b ∈ wr, B.p b = none ∧ z b = none ∧ b ∉ own ∧ b ∉ mu.map (·.1)

noncomputable def testAll (ifs : List Expr) (env : Env) : Sem Bool := forIn ifs true fun c r => if r = true then do let ok ← isTrue c env (eval c env); pure (ForInStep.yield ok) else pure (ForInStep.yield r)

noncomputable def turnTree (target : Expr) (ipos : Pos) (ifs : List Expr) (it : Value) (env : Env) (emit : Sem Unit) (c : Code) : Sem Fin := do
  standAt ipos
  match ← pyNext it with
  | none => pure (.done .next)
  | some v =>
    letOwnedTupleGo target it v
    assign target env v
    let mut ok := true
    for c in ifs do
      if ok then ok ← isTrue c env (eval c env)
    if ok then emit
    again c

theorem compTurn1 (elt target iter : Expr) (ifs : List Expr) (scope : Scope) (pos : Pos) (it acc : Value) (env : Env) :
    compTurn (.ListComp elt [⟨target, iter, ifs, 0⟩] scope pos) 0 it acc env =
      turnTree target iter.pos ifs it env (do let _ ← call (.builtin "list.append") [acc, ← eval elt env]) (.compLoop (.ListComp elt [⟨target, iter, ifs, 0⟩] scope pos) 0 it acc env) := by rfl

section
variable {w : World} {A : Around} {E : Value → Shared → Prop} {s : Shared}

theorem loop_any {env : Env} {target : Expr} {ipos : Pos} {ifs : List Expr} {it : Value} {emit : Sem Unit} {c : Code} {R : Result → Shared → Prop} (hq : c.quiet = true) (hu : A.under c = A)
    (hden : (model prg w).den c = (turnTree target ipos ifs it env emit c).onRaise (fun x => do noteFrame x env; theTreesLotGoes x)) (I : Nat → Shared → Prop)
    (turn : ∀ n s (E' : Value → Shared → Prop), I n s → wpAny (model prg w) A (pyNext it) (fun r s₁ => match r with
      | none => R (.ok .next) s₁
      | some v => wpAny (model prg w) A (letOwnedTupleGo target it v) (fun _ s₂ => wpAny (model prg w) A (assign target env v) (fun _ s₃ =>
          wpAny (model prg w) A (testAll ifs env) (fun ok s₄ =>
            if ok = true then wpAny (model prg w) A emit (fun _ s₅ => ∃ m, m < n ∧ I m s₅) E' s₄
            else ∃ m, m < n ∧ I m s₄) E' s₃) E' s₂) E' s₁) E' s)
    (n : Nat) (h : I n s) : codeAny (model prg w) A c R s := by
  refine codeAny_loop hq I (fun n s hI => ?_) n h
  rw [hu, hden]
  refine wpAny_noted ?_
  unfold turnTree
  refine wpAny_bind (wpAny_standAt (wpAny_bind (wpAny_mono (turn n s _ hI) (fun r s₁ h₁ => ?_) fun _ _ h' => h')))
  cases r with
  | none => exact wpAny_pure h₁
  | some v =>
    refine wpAny_bind (wpAny_mono h₁ (fun _ s₂ h₂ => wpAny_bind (wpAny_mono h₂ (fun _ s₃ h₃ => wpAny_bind (wpAny_mono h₃ (fun ok s₄ h₄ => ?_) fun _ _ h' => h')) fun _ _ h' => h')) fun _ _ h' => h')
    cases ok with
    | false =>
      simp only [Bool.false_eq_true, if_false] at h₄ ⊢
      first
        | exact wpAny_bind (wpAny_pure (wpAny_pure ⟨rfl, h₄⟩))
        | exact wpAny_pure ⟨rfl, h₄⟩
    | true =>
      simp only [if_true] at h₄ ⊢
      exact wpAny_bind (wpAny_mono h₄ (fun _ s₅ h₅ => wpAny_pure ⟨rfl, h₅⟩) fun _ _ h' => h')
end
end Mine
end
section
open PySem PySem.W PySem.Calls PyProof.Rows PySem.Spec
set_option Elab.async false
set_option maxRecDepth 100000
namespace Mine

noncomputable abbrev look (env : Env) : Str → Option Addr := fun x => env.cells.lookup x
noncomputable def closL (look : Str → Option Addr) : List (Str × NameKind) → List (Str × Addr) → List (Str × Addr)
  | [], acc => acc
  | (n, k) :: r, acc => closL look r (if k = .free then (match look n with | some c => (n, c) :: acc | none => acc) else acc)
theorem closL_mem (look : Str → Option Addr) : ∀ (names : List (Str × NameKind)) (acc : List (Str × Addr)) (x : Str) (c : Addr),
    (x, c) ∈ closL look names acc ↔ (x, c) ∈ acc ∨ ((x, NameKind.free) ∈ names ∧ look x = some c)
  | [], acc, x, c => by simp [closL]
  | (n, k) :: r, acc, x, c => by
    unfold closL
    rw [closL_mem look r]
    by_cases hk : k = .free
    · subst hk
      simp only [if_true]
      cases hl : look n with
      | none =>
        simp only [List.mem_cons, Prod.mk.injEq]
        constructor
        · rintro (h | ⟨h1, h2⟩)
          · exact .inl h
          · exact .inr ⟨.inr h1, h2⟩
        · rintro (h | ⟨h1 | h1, h2⟩)
          · exact .inl h
          · rw [h1.1, hl] at h2; cases h2
          · exact .inr ⟨h1, h2⟩
      | some c' =>
        simp only [List.mem_cons, Prod.mk.injEq]
        constructor
        · rintro ((h | h) | ⟨h1, h2⟩)
          · rw [h.1, h.2]; exact .inr ⟨.inl ⟨rfl, trivial⟩, hl⟩
          · exact .inl h
          · exact .inr ⟨.inr h1, h2⟩
        · rintro (h | ⟨h1 | h1, h2⟩)
          · exact .inl (.inr h)
          · rw [h1.1, hl] at h2; cases h2; exact .inl (.inl ⟨h1.1, rfl⟩)
          · exact .inr ⟨h1, h2⟩
    · rw [if_neg hk]
      simp only [List.mem_cons, Prod.mk.injEq]
      constructor
      · rintro (h | ⟨h1, h2⟩)
        · exact .inl h
        · exact .inr ⟨.inr h1, h2⟩
      · rintro (h | ⟨h1 | h1, h2⟩)
        · exact .inl h
        · exact absurd h1.2.symm hk
        · exact .inr ⟨h1, h2⟩
theorem closL_lookup {look : Str → Option Addr} {names : List (Str × NameKind)} {x : Str} {c : Addr} (h : (closL look names []).lookup x = some c) : (x, NameKind.free) ∈ names ∧ look x = some c :=
  ((closL_mem look names [] x c).mp (mem_of_lookup h)).resolve_left List.not_mem_nil
theorem lookup_some_of_mem {α : Type} : ∀ {l : List (Str × α)} {x : Str} {k : α}, (x, k) ∈ l → ∃ j, l.lookup x = some j
  | (n, j) :: r, x, k, h => by
    rw [List.lookup_cons]
    cases hx : x == n with
    | true => exact ⟨j, rfl⟩
    | false =>
      rcases List.mem_cons.mp h with e | h
      · cases e; simp at hx
      · exact lookup_some_of_mem h
theorem closL_some {look : Str → Option Addr} {names : List (Str × NameKind)} {x : Str} {c : Addr} (h : (x, NameKind.free) ∈ names) (e : look x = some c) : (closL look names []).lookup x = some c := by
  obtain ⟨c', hc⟩ := lookup_some_of_mem ((closL_mem look names [] x c).mpr (.inr ⟨h, e⟩))
  have := (closL_lookup hc).2
  rw [e] at this; cases this
  exact hc
theorem closureFor_eq {scope : Scope} {env : Env} (h : ∀ x, (x, NameKind.free) ∈ scope.names → ∃ c, env.cells.lookup x = some c) : closureFor scope env = pure (closL (look env) scope.names []) := by
  unfold closureFor
  have gen : ∀ (names : List (Str × NameKind)) (acc : List (Str × Addr)), (∀ x, (x, NameKind.free) ∈ names → ∃ c, env.cells.lookup x = some c) →
      (forIn names acc fun x r => (match x with | (name, kind) => if (kind == NameKind.free) = true then (do let a ← cellOf env name; pure (ForInStep.yield ((name, a) :: r))) else pure (ForInStep.yield r)) : Sem (List (Str × Addr))) = pure (closL (look env) names acc) := by
    intro names
    induction names with
    | nil => intro acc _; rfl
    | cons q r ih =>
      intro acc hq
      obtain ⟨n, k⟩ := q
      rw [List.forIn_cons]
      by_cases hk : k = .free
      · subst hk
        obtain ⟨c, hc⟩ := hq n (.head _)
        have e : cellOf env n = pure c := by unfold cellOf; rw [hc]
        simp only [beq_self_eq_true, if_true, e, pure_bind]
        rw [ih _ fun x hx => hq x (.tail _ hx)]
        have q : closL (look env) ((n, .free) :: r) acc = closL (look env) r ((n, c) :: acc) := by
          rw [closL]; simp only [if_true, look, hc]
        rw [q]
      · have hb : (k == NameKind.free) = false := beq_eq_false_iff_ne.mpr hk
        simp only [hb, Bool.false_eq_true, if_false, pure_bind]
        rw [ih _ fun x hx => hq x (.tail _ hx)]
        have q : closL (look env) ((n, k) :: r) acc = closL (look env) r acc := by
          rw [closL]; simp only [if_neg hk]
        rw [q]
  exact (bind_pure _).trans (gen scope.names [] h)
end Mine
end
section
open PySem PySem.W PySem.Calls PyProof.Rows PySem.Spec
set_option Elab.async false
set_option maxRecDepth 100000
namespace Mine

section
variable {w : World} {B : Bs} {z z' : PM} {env : Env} {own : List Addr} {m m' : Str → Option Value} {mu mu' : List (Addr × MO)} {s s' s₀ : Shared} {A : Around} {E : Value → Shared → Prop} {k : Nat} {xs : List Addr}

/-- what nobody holds may change -/
theorem W.side (H : W w B z env own m mu s) (xs : List Addr) (hk : ∀ b o, b ∉ xs → s.heap.get? b = some o → s'.heap.get? b = some o)
    (hx : ∀ b ∈ xs, B.p b = none ∧ z b = none ∧ b ∉ own ∧ b ∉ mu.map (·.1)) (ho : osd s' = osd s) (hg : s'.gens = s.gens) : W w B z env own m mu s' := by
  have kp : ∀ a o, B.p a = some o → s'.heap.get? a = some o := fun a o e => hk a o (fun h => by rw [(hx a h).1] at e; cases e) (H.pin a o e)
  have ko : ∀ a ∈ own, ∀ o, s.heap.get? a = some o → s'.heap.get? a = some o := fun a ha o e => hk a o (fun h => (hx a h).2.2.1 ha) e
  exact
  { H with
    pin := kp
    zin := fun a o e => hk a o (fun h => by rw [(hx a h).2.1] at e; cases e) (H.zin a o e)
    ns := by
      obtain ⟨ml, ⟨o, es, ep, h1, r⟩, h2⟩ := H.ns
      exact ⟨ml, ⟨o, es, ep, ko _ H.lown _ h1, r⟩, h2⟩
    cel := fun x c e => by
      obtain ⟨o, e1, e2⟩ := H.cel x c e
      refine ⟨o, ?_, e2⟩
      rcases (H.cown x c e).2.2 with h | h
      · exact ko c h _ e1
      · exact hk c o (fun h' => h (hx c h').1) e1
    ownp := fun a ha => ⟨(H.ownp a ha).1, (H.ownp a ha).2.1, (H.ownp a ha).2.2.imp fun o e => ko a ha o e⟩
    muo := fun q hq => ⟨(H.muo q hq).1.keep fun o e => hk _ o (fun h => (hx _ h).2.2.2 (List.mem_map_of_mem hq)) e, (H.muo q hq).2⟩
    os := ho.trans H.os
    gens := by rw [hg]; exact H.gens }

/-- what a comprehension's block knows of its names -/
structure CEnv (scope : Scope) (m mc : Str → Option Value) (C : Addr) (cenv : Env) : Prop where
  loc : ∀ x, scope.names.lookup x = some .local → SVar cenv [C] x
  glo : ∀ x, scope.names.lookup x = some .globalImplicit → cenv.kindOf x = some .globalImplicit
  cap : ∀ x, scope.names.lookup x = some .free → Var cenv x ∧ mc x = m x

/-- a scope that a comprehension may bear -/
structure CSc (scope : Scope) : Prop where
  cell : ∀ y ∈ scope.names, y.2 ≠ .cell
  fn : scope.kind = .function
  nd : (scope.names.map (·.1)).Nodup
theorem CSc.names {scope : Scope} (h : CSc scope) : ∀ x ∈ scope.names, x.2 = .local → scope.names.lookup x.1 = some .local := fun x hx e => by
  obtain ⟨n, k⟩ := x
  dsimp only at e
  subst e
  exact lookup_of_mem h.nd hx

theorem relabel_lookup (scope : Scope) (env : Env) (x : Str) :
    (relabel scope env).names.lookup x = (scope.names.lookup x).map fun k => if (k == .free && env.scope.kind == .function && env.kindOf x == some .cell) = true then .cell else k := by
  show (scope.names.map fun (n, k) => if (k == NameKind.free && env.scope.kind == .function && env.kindOf n == some .cell) = true then (n, NameKind.cell) else (n, k)).lookup x = _
  induction scope.names with
  | nil => rfl
  | cons q r ih =>
    obtain ⟨n, k⟩ := q
    rw [List.map_cons]
    dsimp only
    cases hx : x == n with
    | true =>
      have e : x = n := beq_iff_eq.mp hx
      subst e
      by_cases hc : (k == NameKind.free && env.scope.kind == .function && env.kindOf x == some .cell) = true
      · rw [if_pos hc]; simp only [List.lookup_cons, hx, Option.map_some, if_pos hc]
      · rw [if_neg hc]; simp only [List.lookup_cons, hx, Option.map_some, if_neg hc]
    | false =>
      by_cases hc : (k == NameKind.free && env.scope.kind == .function && env.kindOf n == some .cell) = true
      · rw [if_pos hc]; simp only [List.lookup_cons, hx]; exact ih
      · rw [if_neg hc]; simp only [List.lookup_cons, hx]; exact ih

noncomputable abbrev cEnv (scope : Scope) (C : Addr) (env : Env) : Env := compEnvC scope (closL (look env) scope.names []) C env

theorem cenv_cells {scope : Scope} {C : Addr} {env : Env} {x : Str} {c : Addr} (h : (cEnv scope C env).cells.lookup x = some c) : (x, NameKind.free) ∈ scope.names ∧ env.cells.lookup x = some c := closL_lookup h

theorem inner_of (H : W w B z env own m mu s) {scope : Scope} {C : Addr} {ml : Str → Option Value} (hsc : CSc scope) (hfree : ∀ x, (x, NameKind.free) ∈ scope.names → env.kindOf x = some .cell ∧ ∃ c, env.cells.lookup x = some c)
    (hz : ∀ a ∈ xs, z a = none) (ho : ∀ a ∈ own, a ∈ xs) (hC : C ∉ xs) (hCp : B.p C = none) (hCz : z C = none) (hn : s.heap.Ns C ml) :
    ∃ mc, W w (B.plus s xs) z (cEnv scope C env) [C] mc [] s ∧ CEnv scope m mc C (cEnv scope C env) := by
  have kd : ∀ x, (cEnv scope C env).kindOf x = (scope.names.lookup x).map fun k => if (k == .free && env.scope.kind == .function && env.kindOf x == some .cell) = true then .cell else k := fun x => relabel_lookup scope env x
  have kcell : ∀ x, scope.names.lookup x = some .free → (cEnv scope C env).kindOf x = some .cell := fun x hx => by
    rw [kd, hx]
    have h1 := (hfree x (lookup_mem_kind hx)).1
    simp [h1, H.fn]
  refine ⟨fun x => if (cEnv scope C env).kindOf x = some .local then ml x else m x, H.inner hz ho hC hCp hCz rfl hn (fun x hx => by rw [if_pos hx]) (fun x c e => ?_) ?_ H.gl H.bu, ⟨fun x hx => ?_, fun x hx => ?_, fun x hx => ?_⟩⟩
  · obtain ⟨h1, h2⟩ := cenv_cells e
    have h3 := kcell x (lookup_of_mem hsc.nd h1)
    exact ⟨h2, by rw [if_neg (by rw [h3]; nofun)], by rw [h3]; nofun⟩
  · exact hsc.fn
  · left; rw [kd, hx]; rfl
  · rw [kd, hx]; rfl
  · have h3 := kcell x hx
    obtain ⟨_, c, hc⟩ := hfree x (lookup_mem_kind hx)
    refine ⟨.inr ⟨.inl h3, c, closL_some (lookup_mem_kind hx) hc⟩, by rw [if_neg (by rw [h3]; nofun)]⟩
end
end Mine
end
section
open PySem PySem.W PySem.Calls PyProof.Rows PySem.Spec
set_option Elab.async false
set_option maxRecDepth 100000
namespace Mine

section
variable {w : World} {B : Bs} {z z' : PM} {env : Env} {own : List Addr} {m m' : Str → Option Value} {mu mu' : List (Addr × MO)} {s s' s₀ : Shared} {A : Around} {E : Value → Shared → Prop} {k : Nat} {xs : List Addr}

/-- what one turn of a comprehension must do -/
noncomputable def CTurn (w : World) (A : Around) (z : PM) (m : Str → Option Value) (scope : Scope) (target : Expr) (ifs : List Expr) (I : Addr) (n : Nat) (P : Nat → Value → Heap → Prop)
    (inner : Env → Shared → (E : Value → Shared → Prop) → (Value → Shared → Prop) → Prop) (Rr : Nat → Option Value → PM → Prop) : Prop :=
  ∀ i v z₁ B₁ C cenv mc s₁ (E' : Value → Shared → Prop), i < n → P i v s₁.heap → Le z z₁ → W w B₁ z₁ cenv [C] mc [] s₁ → CEnv scope m mc C cenv →
    wpAny (model prg w) A (assign target cenv v) (fun _ s₃ => wpAny (model prg w) A (testAll ifs cenv) (fun ok s₄ =>
      if ok = true then inner cenv s₄ E' (fun y s₅ => ∃ z₂ mc' mu', W w B₁ z₂ cenv [C] mc' mu' s₅ ∧ Le z₁ z₂ ∧ Rr i (some y) z₂)
      else ∃ z₂ mc', W w B₁ z₂ cenv [C] mc' [] s₄ ∧ Le z₁ z₂ ∧ Rr i none z₂) E' s₃) E' s₁

theorem comp_core {elt target iter : Expr} {ifs : List Expr} {scope : Scope} {pos : Pos} {I : Addr} {n : Nat} {P : Nat → Value → Heap → Prop} {RR : Value → Addr → Result → Shared → Prop}
    (H : W w B z env own m mu s) (IT : It w A B z own mu s target I n P) (hsz : n ≤ sizeLine) (hsc : CSc scope) (hfree : ∀ x, (x, NameKind.free) ∈ scope.names → env.kindOf x = some .cell ∧ ∃ c, env.cells.lookup x = some c)
    (Rr : Nat → Option Value → PM → Prop) (hR : ∀ i o z z', Le z z' → Rr i o z → Rr i o z')
    (turn : CTurn w A z m scope target ifs I n P (fun cenv s₄ E' K => wpAny (model prg w) A (eval elt cenv) K E' s₄) Rr)
    (done : ∀ z' s' D C mC ys (opts : List (Option Value)), W w B z' env own m ((D, .lst ys) :: mu) s' → Le z z' → s'.heap.Ns C mC → B.p C = none ∧ z' C = none ∧ C ∉ own ∧ C ∉ (D :: mu.map (·.1)) → opts.length = n →
      (∀ i o, opts[i]? = some o → Rr i o z') → ys.toList = opts.filterMap id → RR (.ref D) C (.ok .next) s') :
    wpAny (model prg w) A (newList []) (fun acc s₃ => wpAny (model prg w) A (newFunctionEnv scope env.globals (closL (look env) scope.names []) [] env.qual none .none (some env)) (fun cenv s₄ =>
      codeAny (model prg w) A (.compStart (.ListComp elt [⟨target, iter, ifs, 0⟩] scope pos) 0 (.ref I) acc { cenv with scope := relabel scope env }) (RR acc cenv.locals) s₄) E s₃) E s := by
  obtain ⟨fp, wr, St, WK, hst, hfp, hwr⟩ := IT.it
  refine wpAny_newObj_type (wpAny_newFunctionEnv hsc.cell (by intro y hy; simp at hy) (fun h₁ hns₁ hsb₁ => ?_) hsc.fn)
  dsimp only at hns₁ hsb₁ ⊢
  have hD := H.none_size
  generalize hDe : s.heap.objs.size = D at hD
  generalize hH2 : s.heap.push { cls := .type "list", dict := none, data := .seq ([] : List Value).toArray } = H2 at hns₁ hsb₁ ⊢
  have H2w : W w B z env own m ((D, .lst #[]) :: mu) { s with heap := H2 } := by
    have := H.pushM (s' := { s with heap := H2 }) (o := { cls := .type "list", dict := none, data := .seq ([] : List Value).toArray }) (x := .lst #[]) hH2.symm rfl rfl
      ⟨_, by show H2.get? _ = _; rw [← hH2]; exact Heap.get?_push_size _ rfl⟩
    rw [hDe] at this; exact this
  have hC2 := H2w.none_size
  simp only [show (Shared.mk H2 s.gens s.drawn s.toks s.os).heap = H2 from rfl] at hC2
  generalize hCe : H2.objs.size = C at hns₁ hsb₁ hC2 ⊢
  have keep12 : ∀ a o, H2.get? a = some o → h₁.get? a = some o := fun a o e => hsb₁.extBut a o (by rintro rfl; exact absurd (Heap.lt_size e) (by rw [hCe]; exact Nat.lt_irrefl _)) (Heap.get?_push_of_some _ e)
  have keep02 : ∀ a o, s.heap.get? a = some o → H2.get? a = some o := fun a o e => hH2 ▸ Heap.get?_push_of_some _ e
  -- the loop's state
  let Inv : Nat → Shared → Prop := fun j s' => ∃ i z' ys mC, ∃ opts : List (Option Value), i + j = n + 1 ∧ i ≤ n ∧ W w B z' env own m ((D, .lst ys) :: mu) s' ∧ Le z z' ∧ St i s'.heap ∧ s'.heap.Ns C mC ∧ z' C = none ∧ (∀ b ∈ wr, z' b = none) ∧
    opts.length = i ∧ (∀ j o, opts[j]? = some o → Rr j o z') ∧ ys.toList = opts.filterMap id
  have start : ∀ tk, Inv (n + 1) { s with heap := h₁, toks := tk } := fun tk => by
    refine ⟨0, z, #[], _, [], by exact Mine.om17, Nat.zero_le _, ?_, Le.refl z, WK.frame _ _ _ hst fun b _ o e => keep12 b o (keep02 b o e), hns₁, hC2.1, fun b hb => (hwr b hb).2.1, rfl, (fun j o h => by simp at h), rfl⟩
    exact H2w.nx ⟨keep12, Le.refl z, fun a o e => keep12 a o (H2w.zin a o e), fun _ a b => absurd b a, rfl, #[], by simp, AllBare.empty⟩
  have hCn : C ∉ D :: mu.map (·.1) := hC2.2.2.2
  have hCwr : C ∉ wr := fun h => by
    obtain ⟨o, e⟩ := WK.ex 0 _ hst C h
    have := Heap.lt_size (keep02 _ _ e)
    rw [hCe] at this; exact Nat.lt_irrefl _ this
  have hDwr : D ∉ wr := fun h => by
    obtain ⟨o, e⟩ := WK.ex 0 _ hst D h
    have := Heap.lt_size e
    rw [hDe] at this; exact Nat.lt_irrefl _ this
  have loop : ∀ j s₃, Inv j s₃ → codeAny (model prg w) A (.compLoop (.ListComp elt [⟨target, iter, ifs, 0⟩] scope pos) 0 (.ref I) (.ref D) (cEnv scope C env)) (RR (.ref D) C) s₃ := by
    intro j s₃ hI₀
    refine loop_any (target := target) (ipos := iter.pos) (ifs := ifs) (it := .ref I) (emit := (do let _ ← call (.builtin "list.append") [.ref D, ← eval elt (cEnv scope C env)])) rfl rfl rfl Inv (fun j s₁ E' hI => ?_) j hI₀
    obtain ⟨i, z₁, ys, mC, opts, hij, hin, H₁, hz₁, hst₁, hC₁, hzC, hzw, hlen, hops, hys⟩ := hI
    by_cases hlt : i < n
    · refine wpAny_mono (WK.item i s₁ (fun v s₂ => wpAny (model prg w) A (assign target (cEnv scope C env) v) (fun _ s₃ => wpAny (model prg w) A (testAll ifs (cEnv scope C env)) (fun ok s₄ =>
            if ok = true then wpAny (model prg w) A (do let _ ← call (.builtin "list.append") [.ref D, ← eval elt (cEnv scope C env)]) (fun _ s₅ => ∃ m, m < j ∧ Inv m s₅) E' s₄
            else ∃ m, m < j ∧ Inv m s₄) E' s₃) E' s₂) E' hlt hst₁ (fun v h' tk' hP hst₂ hk₂ => ?_)) (fun r s₂ h₂ => ?_) fun _ _ e => e
      · -- behind pyNext
        have H₂ : W w B z₁ env own m ((D, .lst ys) :: mu) { s₁ with heap := h', toks := tk' } := H₁.side wr hk₂ (fun b hb => ⟨(hwr b hb).1, hzw b hb, (hwr b hb).2.2.1, fun h => by
          rcases List.mem_cons.mp h with h | h
          · exact hDwr ((show b = D from h) ▸ hb)
          · exact (hwr b hb).2.2.2 h⟩) rfl rfl
        have hC₂ : ∃ mC, h'.Ns C mC := by
          obtain ⟨o, es, ep, e, r⟩ := hC₁
          exact ⟨_, o, es, ep, hk₂ _ _ hCwr e, r⟩
        obtain ⟨mC₂, hC₂⟩ := hC₂
        let xs := own ++ (D :: mu.map (·.1)) ++ wr
        have hxo : ∀ a ∈ own, a ∈ xs := fun a h => List.mem_append_left _ (List.mem_append_left _ h)
        have hxm : ∀ a ∈ (((D, MO.lst ys) :: mu).map (·.1)), a ∈ xs := fun a h => List.mem_append_left _ (List.mem_append_right _ h)
        have hxw : ∀ a ∈ wr, a ∈ xs := fun a h => List.mem_append_right _ h
        have hxz : ∀ a ∈ xs, z₁ a = none := fun a h => by
          rcases List.mem_append.mp h with h | h
          · rcases List.mem_append.mp h with h | h
            · exact (H₂.ownp a h).2.1
            · obtain ⟨q, hq, rfl⟩ := List.mem_map.mp (show a ∈ (((D, MO.lst ys) :: mu).map (·.1)) from h)
              exact (H₂.muo q hq).2.2.1
          · exact hzw a h
        have hCx : C ∉ xs := fun h => by
          rcases List.mem_append.mp h with h | h
          · rcases List.mem_append.mp h with h | h
            · exact hC2.2.2.1 h
            · exact hCn h
          · exact hCwr h
        obtain ⟨mc, HI, CE⟩ := inner_of (xs := xs) H₂ hsc hfree hxz hxo hCx hC2.2.1 hzC hC₂
        -- out of the block again
        have back : ∀ z₂ mc' mu' s₅, W w (B.plus { s₁ with heap := h', toks := tk' } xs) z₂ (cEnv scope C env) [C] mc' mu' s₅ → Le z₁ z₂ →
            W w B z₂ env own m ((D, .lst ys) :: mu) s₅ ∧ St (i + 1) s₅.heap ∧ (∃ mC, s₅.heap.Ns C mC) ∧ z₂ C = none ∧ ∀ b ∈ wr, z₂ b = none := fun z₂ mc' mu' s₅ H₅ hz₂ => by
          have H₆ := H₂.outer H₅ hz₂ hxo hxm
          refine ⟨H₆, WK.frame _ _ _ hst₂ (fun b hb o e => ?_), let ⟨ml, a, _⟩ := H₅.ns; ⟨ml, a⟩, (H₅.ownp C (.head _)).2.1, fun b hb => H₅.pz b ?_⟩
          · rcases hfp b hb with h | h | h
            · exact H₅.pin b o (by rw [plus_xs (hxw b h)]; exact e)
            · cases q : z b with
              | none => exact absurd q h
              | some o' =>
                have h1 := H₂.zin b o' (hz₁ b o' q)
                have h2 := H₆.zin b o' (hz₂ b o' (hz₁ b o' q))
                rw [show ({ s₁ with heap := h', toks := tk' } : Shared).heap = h' from rfl, e] at h1
                cases h1; exact h2
            · cases q : B.p b with
              | none => exact absurd q h
              | some o' =>
                have h1 := H₂.pin b o' q
                have h2 := H₆.pin b o' q
                rw [show ({ s₁ with heap := h', toks := tk' } : Shared).heap = h' from rfl, e] at h1
                cases h1; exact h2
          · rw [plus_xs (hxw b hb)]
            obtain ⟨o, e⟩ := WK.ex _ _ hst₂ b hb
            rw [show ({ s₁ with heap := h', toks := tk' } : Shared).heap = h' from rfl, e]; nofun
        have ops : ∀ z₂ o, Le z₁ z₂ → Rr i o z₂ → ∀ j o', (opts ++ [o])[j]? = some o' → Rr j o' z₂ := fun z₂ o hz₂ hr j o' hj => by
          rcases Nat.lt_trichotomy j i with h | h | h
          · rw [List.getElem?_append_left (by exact Mine.om16 hlen h)] at hj
            exact hR _ _ _ _ hz₂ (hops j o' hj)
          · subst h
            rw [← hlen, List.getElem?_append_right (Nat.le_refl _)] at hj
            simp at hj
            subst hj; exact hr
          · have hl : (opts ++ [o]).length ≤ j := by rw [List.length_append, List.length_singleton]; exact Mine.om15 hlen h
            rw [List.getElem?_eq_none hl] at hj
            cases hj
        refine wpAny_mono (turn i v z₁ _ C _ mc _ E' hlt hP hz₁ HI CE) (fun _ s₃ h₃ => wpAny_mono h₃ (fun ok s₄ h₄ => ?_) fun _ _ e => e) fun _ _ e => e
        cases ok with
        | false =>
          simp only [Bool.false_eq_true, if_false] at h₄ ⊢
          obtain ⟨z₂, mc', H₅, hz₂, hr⟩ := h₄
          obtain ⟨H₆, hst₆, ⟨mC₆, hC₆⟩, hzC₆, hzw₆⟩ := back z₂ mc' _ _ H₅ hz₂
          exact ⟨j - 1, by exact Mine.om14 hij hin, i + 1, z₂, ys, mC₆, opts ++ [none], by exact Mine.om13 hij hin, by exact Mine.om9 hlt, H₆, hz₁.trans hz₂, hst₆, hC₆, hzC₆, hzw₆, by rw [List.length_append, hlen]; rfl, ops z₂ none hz₂ hr, by rw [List.filterMap_append, hys]; simp⟩
        | true =>
          simp only [if_true] at h₄ ⊢
          refine wpAny_bind (wpAny_mono h₄ (fun y s₅ h₅ => ?_) fun _ _ e => e)
          obtain ⟨z₂, mc', mu₅, H₅, hz₂, hr⟩ := h₅
          obtain ⟨H₆, hst₆, ⟨mC₆, hC₆⟩, hzC₆, hzw₆⟩ := back z₂ mc' _ _ H₅ hz₂
          have hys' : ys.size ≤ sizeLine := by
            have h1 : ys.toList.length ≤ opts.length := by rw [hys]; exact List.length_filterMap_le _ _
            have h2 : ys.toList.length = ys.size := Array.length_toList
            exact Mine.om12 hsz hlen hlt h1 h2
          have hDl : s₅.heap.PlainList D ys := (H₆.muo (D, .lst ys) (.head _)).1
          refine wpAny_bind (wpAny_list_append_plain hDl (fun h₇ hl₇ hs₇ => wpAny_pure ?_) hys')
          have H₇ := H₆.chg (s' := { s₅ with heap := h₇ }) 0 (a := D) (x := .lst ys) (y := .lst (ys.push y)) rfl hl₇ hs₇ rfl rfl
          refine ⟨j - 1, by exact Mine.om11 hij hlt, i + 1, z₂, ys.push y, mC₆, opts ++ [some y], by exact Mine.om10 hij hlt, by exact Mine.om9 hlt, H₇, hz₁.trans hz₂, WK.frame _ _ _ hst₆ (fun b hb o e => (hs₇.2 b ?_).trans e), hC₆.sameBut hs₇ (fun q => hCn (q ▸ .head _)), hzC₆, hzw₆, by rw [List.length_append, hlen]; rfl, ops z₂ (some y) hz₂ hr, by rw [List.filterMap_append, ← hys]; simp⟩
          rintro rfl
          rcases hfp b hb with h | h | h
          · exact hDwr h
          · exact h hD.1
          · exact h hD.2.1
      · cases r with
        | none => exact h₂.elim
        | some v => exact h₂
    · have hin' : i = n := by exact Mine.om8 hin hlt
      subst hin'
      refine wpAny_mono (WK.done s₁ (fun s₂ => RR (.ref D) C (.ok .next) s₂) E' hst₁ (fun h' tk' hk₂ => ?_)) (fun r s₂ h₂ => ?_) fun _ _ e => e
      · have H₂ : W w B z₁ env own m ((D, .lst ys) :: mu) { s₁ with heap := h', toks := tk' } := H₁.side wr hk₂ (fun b hb => ⟨(hwr b hb).1, hzw b hb, (hwr b hb).2.2.1, fun h => by
          rcases List.mem_cons.mp h with h | h
          · exact hDwr ((show b = D from h) ▸ hb)
          · exact (hwr b hb).2.2.2 h⟩) rfl rfl
        obtain ⟨o, es, ep, e, r⟩ := hC₁
        exact done z₁ _ D C mC ys opts H₂ hz₁ ⟨o, es, ep, hk₂ _ _ hCwr e, r⟩ ⟨hC2.2.1, hzC, hC2.2.2.1, hCn⟩ hlen hops hys
      · cases r with
        | none => exact h₂
        | some v => exact h₂.elim
  exact codeAny_compStart_list (loop _ _ (start _)) (WK.self 0 _ _ _ (WK.frame _ _ _ hst fun b _ o e => keep12 b o (keep02 b o e)) (loop _ _ (start _)))
end
end Mine
end
section
open PySem PySem.W PySem.Calls PyProof.Rows PySem.Spec
set_option Elab.async false
set_option maxRecDepth 100000
namespace Mine

section
variable {w : World} {B : Bs} {z z' : PM} {env : Env} {own : List Addr} {m m' : Str → Option Value} {mu mu' : List (Addr × MO)} {s s' s₀ : Shared} {A : Around} {E : Value → Shared → Prop} {k : Nat} {xs : List Addr}

theorem r_comp {elt target iter : Expr} {ifs : List Expr} {scope : Scope} {pos : Pos} {Q : Value → Shared → Prop} (_ : W w B z env own m mu s)
    (hsc : CSc scope) (hfree : ∀ x, (x, NameKind.free) ∈ scope.names → env.kindOf x = some .cell ∧ ∃ c, env.cells.lookup x = some c)
    (h : wpAny (model prg w) A (eval iter env) (fun xv s₁ => wpAny (model prg w) A (pyIter xv) (fun it s₂ => ∃ I n P z₁, it = .ref I ∧ W w B z₁ env own m mu s₂ ∧ It w A B z₁ own mu s₂ target I n P ∧ n ≤ sizeLine ∧
      ∃ Rr : Nat → Option Value → PM → Prop, (∀ i o z z', Le z z' → Rr i o z → Rr i o z') ∧ CTurn w A z₁ m scope target ifs I n P (fun cenv s₄ E' K => wpAny (model prg w) A (eval elt cenv) K E' s₄) Rr ∧
      ∀ z' s' D ys (opts : List (Option Value)), W w B z' env own m ((D, .lst ys) :: mu) s' → Le z₁ z' → opts.length = n → (∀ i o, opts[i]? = some o → Rr i o z') → ys.toList = opts.filterMap id → Q (.ref D) s') E s₁) E s)
    (hs : ∀ x, foldedSetIterable iter env x = pure x := by intro _; rfl) :
    wpAny (model prg w) A (eval (.ListComp elt [⟨target, iter, ifs, 0⟩] scope pos) env) Q E s := by
  rw [eval_ListComp]
  have hclos : closureFor scope env = pure (closL (look env) scope.names []) := closureFor_eq fun x hx => (hfree x hx).2
  refine wpAny_comprehension_free (use := none) rfl hs hclos hsc.fn hsc.names (wpAny_mono h (fun xv s₁ h₁ => wpAny_mono h₁ (fun it s₂ h₂ => ?_) fun _ _ e => e) fun _ _ e => e)
  obtain ⟨I, n, P, z₁, rfl, H, IT, hsz, Rr, hR, turn, done⟩ := h₂
  refine comp_core (RR := fun acc C => compPost (model prg w) A E none Q acc C) H IT hsz hsc hfree Rr hR turn ?_
  intro z' s' D C mC ys opts H' hz hC hCn hlen hops hys
  refine ⟨mC, hC, fun h' hs' => done z' _ D ys opts (H'.side [C] (fun b o hb e => (hs'.2 b (fun q => hb (q ▸ .head _))).trans e) (fun b hb => ?_) rfl rfl) hz hlen hops hys⟩
  rw [List.mem_singleton.mp hb]; exact hCn

theorem r_acomp {elt target iter : Expr} {y : Str} {py : Pos} {ifs : List Expr} {scope : Scope} {pos spos : Pos} {Q : Flow → Shared → Prop}
    (_ : W w B z env own m mu s) (hsw : swapsWith (.ListComp elt [⟨target, iter, ifs, 0⟩] scope pos) (some (.Name y py)) spos.line env = pure true) (hy : SVar env own y)
    (hsc : CSc scope) (hfree : ∀ x, (x, NameKind.free) ∈ scope.names → env.kindOf x = some .cell ∧ ∃ c, env.cells.lookup x = some c)
    (h : wpAny (model prg w) A (eval iter env) (fun xv s₁ => wpAny (model prg w) A (pyIter xv) (fun it s₂ => ∃ I n P z₁, it = .ref I ∧ W w B z₁ env own m mu s₂ ∧ It w A B z₁ own mu s₂ target I n P ∧ n ≤ sizeLine ∧
      ∃ Rr : Nat → Option Value → PM → Prop, (∀ i o z z', Le z z' → Rr i o z → Rr i o z') ∧ CTurn w A z₁ m scope target ifs I n P (fun cenv s₄ E' K => wpAny (model prg w) A (eval elt cenv) K E' s₄) Rr ∧
      ∀ z' s' D ys (opts : List (Option Value)), W w B z' env own (upd m y (.ref D)) ((D, .lst ys) :: mu) s' → Le z₁ z' → opts.length = n → (∀ i o, opts[i]? = some o → Rr i o z') → ys.toList = opts.filterMap id → Q .next s') E s₁) E s)
    (hs : ∀ x, foldedSetIterable iter env x = pure x := by intro _; rfl) :
    wpAny (model prg w) A (exec (.Assign [.Name y py] (.ListComp elt [⟨target, iter, ifs, 0⟩] scope pos) spos) env) Q E s := by
  have hclos : closureFor scope env = pure (closL (look env) scope.names []) := closureFor_eq fun x hx => (hfree x hx).2
  rw [exec_Assign_Name_used _ _ _ _ hsw]
  refine wpAny_bind (wpAny_standAt (wpAny_bind ?_))
  show wpAny _ A (do let _ ← comprehension (.ListComp elt [⟨target, iter, ifs, 0⟩] scope pos) scope env _ (newList []) false (eval iter env) (some (assign (.Name y py) env))) _ _ s
  refine wpAny_bind (wpAny_mono (wpAny_comprehension_free (use := some (assign (.Name y py) env)) (Q := fun _ s' => Q .next s') rfl hs hclos hsc.fn hsc.names
    (wpAny_mono h (fun xv s₁ h₁ => wpAny_mono h₁ (fun it s₂ h₂ => ?_) fun _ _ e => e) fun _ _ e => e)) (fun _ s' hq => wpAny_pure (wpAny_pure hq)) fun _ _ e => e)
  obtain ⟨I, n, P, z₁, rfl, H, IT, hsz, Rr, hR, turn, done⟩ := h₂
  refine comp_core (RR := fun acc C => compPost (model prg w) A E (some (assign (.Name y py) env)) (fun _ s' => Q .next s') acc C) H IT hsz hsc hfree Rr hR turn ?_
  intro z' s' D C mC ys opts H' hz hC hCn hlen hops hys
  show wpAny _ A (assign (.Name y py) env (.ref D)) _ _ _
  have hCx : ∀ b ∈ [C], B.p b = none ∧ z' b = none ∧ b ∉ own ∧ b ∉ (((D, MO.lst ys) :: mu).map (·.1)) := fun b hb => by rw [List.mem_singleton.mp hb]; exact hCn
  have HP := H'.protect (xs := [C]) (fun b hb => (hCx b hb).2.1) (fun b hb => (hCx b hb).2.2.1) (fun b hb => (hCx b hb).2.2.2)
  refine wpAny_assign_Name (r_store HP hy fun s'' H'' => ?_)
  obtain ⟨o, es, ep, e, r⟩ := hC
  have e' : s''.heap.get? C = some o := H''.pin C o (by rw [plus_xs (.head _)]; exact e)
  refine ⟨mC, ⟨o, es, ep, e', r⟩, fun h' hs' => done z' _ D ys opts ((H'.unprotect H'' (Le.refl _)).side [C] (fun b o hb e => (hs'.2 b (fun q => hb (q ▸ .head _))).trans e) hCx rfl rfl) hz hlen hops hys⟩

/-- what one turn of a for must do -/
noncomputable def FTurn (w : World) (A : Around) (env : Env) (own : List Addr) (target : Expr) (body : List Stmt) (n : Nat) (P : Nat → Value → Heap → Prop) (J : Nat → PM → (Str → Option Value) → List (Addr × MO) → Prop) : Prop :=
  ∀ i v z₁ m₁ mu₁ B₁ s₁ (E' : Value → Shared → Prop), i < n → P i v s₁.heap → J i z₁ m₁ mu₁ → W w B₁ z₁ env own m₁ mu₁ s₁ →
    wpAny (model prg w) A (assign target env v) (fun _ s₂ => wpAny (model prg w) A (execs body env) (fun f s₃ => (f = .next ∨ f = .cont) ∧ ∃ z₂ m₂ mu₂, W w B₁ z₂ env own m₂ mu₂ s₃ ∧ Le z₁ z₂ ∧ J (i + 1) z₂ m₂ mu₂) E' s₂) E' s₁

theorem exec_For (target iter : Expr) (body orelse : List Stmt) (pos : Pos) (env : Env) : exec (.For target iter body orelse pos) env = (do
    standAt pos
    let x ← foldedSetIterable iter env (← eval iter env)
    standAt iter.pos
    runOwn (.forLoop target (← holding [x] (pyIter x)) body orelse env) env) := rfl

theorem for_core {target : Expr} {body : List Stmt} {I : Addr} {n : Nat} {P : Nat → Value → Heap → Prop} {R : Result → Shared → Prop} {J : Nat → PM → (Str → Option Value) → List (Addr × MO) → Prop}
    (H : W w B z env own m mu s) (IT : It w A B z own mu s target I n P) (hJ : J 0 z m mu) (turn : FTurn w A env own target body n P J)
    (done : ∀ z' m' mu' s', W w B z' env own m' mu' s' → J n z' m' mu' → R (.ok .next) s') : codeAny (model prg w) A (.forLoop target (.ref I) body [] env) R s := by
  obtain ⟨fp, wr, St, WK, hst, hfp, hwr⟩ := IT.it
  let Inv : Nat → Shared → Prop := fun j s' => ∃ i z' m' mu', i + j = n + 1 ∧ i ≤ n ∧ W w B z' env own m' mu' s' ∧ Le z z' ∧ St i s'.heap ∧ (∀ b ∈ wr, z' b = none ∧ b ∉ mu'.map (·.1)) ∧ J i z' m' mu'
  refine codeAny_forLoop_any Inv (fun j s₁ hI => ?_) (n + 1) ⟨0, z, m, mu, by exact Mine.om17, Nat.zero_le _, H, Le.refl z, hst, fun b hb => ⟨(hwr b hb).2.1, (hwr b hb).2.2.2⟩, hJ⟩
  obtain ⟨i, z₁, m₁, mu₁, hij, hin, H₁, hz₁, hst₁, hw₁, hJ₁⟩ := hI
  have hx₁ : ∀ b ∈ wr, B.p b = none ∧ z₁ b = none ∧ b ∉ own ∧ b ∉ mu₁.map (·.1) := fun b hb => ⟨(hwr b hb).1, (hw₁ b hb).1, (hwr b hb).2.2.1, (hw₁ b hb).2⟩
  by_cases hlt : i < n
  · refine wpAny_mono (WK.item i s₁ (fun v s₂ => wpAny (model prg w) A (assign target env v) (fun _ s₂ => wpAny (model prg w) A (execs body env) (fun f s₃ => match f with
            | .next | .cont => ∃ m, m < j ∧ Inv m s₃
            | .brk => R (.ok .next) s₃
            | .ret v => R (.ok (.ret v)) s₃) (notedBy (model prg w) A env fun e s' => R (.error e) s') s₂) (notedBy (model prg w) A env fun e s' => R (.error e) s') s₂) (notedBy (model prg w) A env fun e s' => R (.error e) s') hlt hst₁ (fun v h' tk' hP hst₂ hk₂ => ?_)) (fun r s₂ h₂ => ?_) fun _ _ e => e
    · have H₂ := H₁.side (s' := { s₁ with heap := h', toks := tk' }) wr hk₂ hx₁ rfl rfl
      have HP := H₂.protect (xs := wr) (fun b hb => (hx₁ b hb).2.1) (fun b hb => (hx₁ b hb).2.2.1) (fun b hb => (hx₁ b hb).2.2.2)
      refine wpAny_mono (turn i v z₁ m₁ mu₁ _ _ _ hlt hP hJ₁ HP) (fun _ s₃ h₃ => wpAny_mono h₃ (fun f s₄ h₄ => ?_) fun _ _ e => e) fun _ _ e => e
      obtain ⟨hf, z₂, m₂, mu₂, H₄, hz₂, hJ₂⟩ := h₄
      have H₅ := H₂.unprotect H₄ hz₂
      have goal : ∃ m, m < j ∧ Inv m s₄ := by
        have wrp : ∀ b ∈ wr, (B.plus { s₁ with heap := h', toks := tk' } wr).p b ≠ none := fun b hb => by
          rw [plus_xs hb]
          obtain ⟨o, e⟩ := WK.ex _ _ hst₂ b hb
          rw [show ({ s₁ with heap := h', toks := tk' } : Shared).heap = h' from rfl, e]; nofun
        refine ⟨j - 1, by exact Mine.om21 hij hlt, i + 1, z₂, m₂, mu₂, by exact Mine.om20 hij hlt, by exact Mine.om19 hlt, H₅, hz₁.trans hz₂, WK.frame _ _ _ hst₂ (fun b hb o e => ?_), (fun b hb => ⟨H₄.pz b (wrp b hb), fun hm => ?_⟩), hJ₂⟩
        · rcases hfp b hb with h | h | h
          · exact H₄.pin b o (by rw [plus_xs h]; exact e)
          · cases q : z b with
            | none => exact absurd q h
            | some o' =>
              have h1 := H₂.zin b o' (hz₁ b o' q)
              have h2 := H₅.zin b o' (hz₂ b o' (hz₁ b o' q))
              rw [show ({ s₁ with heap := h', toks := tk' } : Shared).heap = h' from rfl, e] at h1
              cases h1; exact h2
          · cases q : B.p b with
            | none => exact absurd q h
            | some o' =>
              have h1 := H₂.pin b o' q
              have h2 := H₅.pin b o' q
              rw [show ({ s₁ with heap := h', toks := tk' } : Shared).heap = h' from rfl, e] at h1
              cases h1; exact h2
        · obtain ⟨q, hq, e⟩ := List.mem_map.mp hm
          exact wrp b hb (e ▸ (H₄.muo q hq).2.1)
      rcases hf with rfl | rfl <;> exact goal
    · cases r with
      | none => exact h₂.elim
      | some v => exact h₂
  · have hin' : i = n := by exact Mine.om18 hin hlt
    subst hin'
    refine wpAny_mono (WK.done s₁ (fun s₂ => R (.ok .next) s₂) (notedBy (model prg w) A env fun e s' => R (.error e) s') hst₁ (fun h' tk' hk₂ => done z₁ m₁ mu₁ _ (H₁.side wr hk₂ hx₁ rfl rfl) hJ₁)) (fun r s₂ h₂ => ?_) fun _ _ e => e
    cases r with
    | none => exact wpAny_execs_nil h₂
    | some v => exact h₂.elim

theorem r_for {target iter : Expr} {body : List Stmt} {pos : Pos} {Q : Flow → Shared → Prop} (_ : W w B z env own m mu s)
    (h : wpAny (model prg w) A (eval iter env) (fun xv s₁ => wpAny (model prg w) A (pyIter xv) (fun it s₂ => ∃ I n P z₁, it = .ref I ∧ W w B z₁ env own m mu s₂ ∧ It w A B z₁ own mu s₂ target I n P ∧
      ∃ J : Nat → PM → (Str → Option Value) → List (Addr × MO) → Prop, J 0 z₁ m mu ∧ FTurn w A env own target body n P J ∧ ∀ z' m' mu' s', W w B z' env own m' mu' s' → J n z' m' mu' → Q .next s') E s₁) E s)
    (hm : A.mark none = A) (hs : ∀ x, foldedSetIterable iter env x = pure x := by intro _; rfl) :
    wpAny (model prg w) A (exec (.For target iter body [] pos) env) Q E s := by
  rw [exec_For]
  refine wpAny_bind (wpAny_standAt (wpAny_bind (wpAny_mono h (fun xv s₁ h₁ => ?_) fun _ _ e => e)))
  refine wpAny_bind (wpAny_of_eq (hs xv) (wpAny_bind (wpAny_standAt (wpAny_bind (wpAny_holding (wpAny_mono h₁ (fun it s₂ h₂ => ?_) fun _ _ e => e))))))
  obtain ⟨I, n, P, z₁, rfl, H, IT, J, hJ, turn, done⟩ := h₂
  refine wpAny_runOwn ?_
  rw [hm]
  exact for_core H IT hJ turn done
end
end Mine
end
section
open PySem PySem.W PySem.Calls PyProof.Rows PySem.Spec
set_option Elab.async false
set_option maxRecDepth 100000
namespace Mine

/-! typed representation -/
noncomputable abbrev Rep (α : Type) := PM → Value → α → Prop
noncomputable def Mono {α : Type} (R : Rep α) : Prop := ∀ z z' v x, Le z z' → R z v x → R z' v x
noncomputable def All2 {α β : Type} (R : α → β → Prop) : List α → List β → Prop
  | [], [] => True
  | a :: l, b :: r => R a b ∧ All2 R l r
  | _, _ => False
theorem All2.length {α β : Type} {R : α → β → Prop} : ∀ {l : List α} {r : List β}, All2 R l r → l.length = r.length
  | [], [], _ => rfl
  | _ :: _, _ :: _, h => by rw [List.length_cons, List.length_cons, h.2.length]
theorem All2.mono {α β : Type} {R S : α → β → Prop} (h : ∀ a b, R a b → S a b) : ∀ {l : List α} {r : List β}, All2 R l r → All2 S l r
  | [], [], _ => trivial
  | _ :: _, _ :: _, q => ⟨h _ _ q.1, q.2.mono h⟩
theorem All2.get {α β : Type} {R : α → β → Prop} : ∀ {l : List α} {r : List β} {i : Nat} {b : β}, All2 R l r → r[i]? = some b → ∃ a, l[i]? = some a ∧ R a b
  | [], [], _, _, _, h => by simp at h
  | a :: _, _ :: _, 0, _, q, h => by simp at h; subst h; exact ⟨a, rfl, q.1⟩
  | _ :: _, _ :: _, i + 1, _, q, h => by simp at h; simpa using q.2.get h
theorem All2.get' {α β : Type} {R : α → β → Prop} : ∀ {l : List α} {r : List β} {i : Nat} {a : α}, All2 R l r → l[i]? = some a → ∃ b, r[i]? = some b ∧ R a b
  | [], [], _, _, _, h => by simp at h
  | _ :: _, b :: _, 0, _, q, h => by simp at h; subst h; exact ⟨b, rfl, q.1⟩
  | _ :: _, _ :: _, i + 1, _, q, h => by simp at h; simpa using q.2.get' h
theorem All2.append {α β : Type} {R : α → β → Prop} : ∀ {l l' : List α} {r r' : List β}, All2 R l r → All2 R l' r' → All2 R (l ++ l') (r ++ r')
  | [], _, [], _, _, q => q
  | _ :: _, _, _ :: _, _, p, q => ⟨p.1, p.2.append q⟩
theorem All2.snoc {α β : Type} {R : α → β → Prop} {l : List α} {r : List β} {a : α} {b : β} (h : All2 R l r) (q : R a b) : All2 R (l ++ [a]) (r ++ [b]) := h.append ⟨q, trivial⟩

noncomputable def IsL (z : PM) (a : Addr) (vs : Array Value) : Prop := ∃ n, z a = some { cls := .type "list", data := .seq vs n }
noncomputable def IsT (z : PM) (a : Addr) (vs : Array Value) : Prop := ∃ n, z a = some { cls := .type "tuple", data := .seq vs n }
theorem IsL.mono {z z' : PM} {a : Addr} {vs : Array Value} (h : IsL z a vs) (k : Le z z') : IsL z' a vs := let ⟨n, e⟩ := h; ⟨n, k _ _ e⟩
theorem IsT.mono {z z' : PM} {a : Addr} {vs : Array Value} (h : IsT z a vs) (k : Le z z') : IsT z' a vs := let ⟨n, e⟩ := h; ⟨n, k _ _ e⟩

noncomputable def Rint : Rep Int := fun _ v i => ∃ t, v = .int i t
noncomputable def Rnat : Rep Nat := fun _ v n => ∃ t, v = .int (n : Int) t
noncomputable def Rstr : Rep Str := fun _ v x => ∃ t, v = .str x t
noncomputable def Rlist {α : Type} (R : Rep α) : Rep (List α) := fun z v xs => ∃ a vs, v = .ref a ∧ IsL z a vs ∧ All2 (R z) vs.toList xs
noncomputable def Rpair {α β : Type} (R : Rep α) (S : Rep β) : Rep (α × β) := fun z v x => ∃ a u y, v = .ref a ∧ IsT z a #[u, y] ∧ R z u x.1 ∧ S z y x.2
theorem mono_int : Mono Rint := fun _ _ _ _ _ h => h
theorem mono_nat : Mono Rnat := fun _ _ _ _ _ h => h
theorem mono_str : Mono Rstr := fun _ _ _ _ _ h => h
theorem mono_list {α : Type} {R : Rep α} (h : Mono R) : Mono (Rlist R) := fun _ _ _ _ k ⟨a, vs, e, hl, q⟩ => ⟨a, vs, e, hl.mono k, q.mono fun _ _ => h _ _ _ _ k⟩
theorem mono_pair {α β : Type} {R : Rep α} {S : Rep β} (h : Mono R) (h' : Mono S) : Mono (Rpair R S) := fun _ _ _ _ k ⟨a, u, y, e, ht, q, q'⟩ => ⟨a, u, y, e, ht.mono k, h _ _ _ _ k q, h' _ _ _ _ k q'⟩

section
variable {w : World} {B : Bs} {z z' : PM} {env : Env} {own : List Addr} {m m' : Str → Option Value} {mu mu' : List (Addr × MO)} {s s' s₀ : Shared} {A : Around} {E : Value → Shared → Prop} {k : Nat} {xs : List Addr}

theorem IsL.at {a : Addr} {vs : Array Value} (h : IsL z a vs) (H : W w B z env own m mu s) : s.heap.IsList a vs := let ⟨n, e⟩ := h; ⟨_, H.zin _ _ e, rfl, n, rfl⟩
theorem IsL.plain {a : Addr} {vs : Array Value} (h : IsL z a vs) (H : W w B z env own m mu s) : s.heap.PlainList a vs := let ⟨n, e⟩ := h; ⟨n, H.zin _ _ e⟩
theorem IsT.at {a : Addr} {vs : Array Value} (h : IsT z a vs) (H : W w B z env own m mu s) : s.heap.IsTuple a vs := let ⟨n, e⟩ := h; ⟨_, H.zin _ _ e, rfl, n, rfl⟩
theorem IsL.of_heap {a : Addr} {vs : Array Value} {o : Obj} (h : s.heap.PlainList a vs) (e : s.heap.get? a = some o) : IsL (z.put a o) a vs := by
  obtain ⟨n, e'⟩ := h
  rw [e] at e'; cases e'
  exact ⟨n, PM.put_self _ _ _⟩

/-- a mutable list is frozen -/
theorem W.freezeL {a : Addr} {vs : Array Value} (H : W w B z env own m ((a, .lst vs) :: mu) s) : ∃ z', Le z z' ∧ IsL z' a vs ∧ W w B z' env own m mu s := by
  obtain ⟨o, e, hl, hz, H'⟩ := H.freeze
  exact ⟨_, hz, IsL.of_heap hl e, H'⟩

theorem owned_any {target : Expr} {I : Addr} {T : String} {vs : Array Value} {v : Value} {Q : Unit → Shared → Prop} (hT : (["enumerate", "zip", "dict_itemiterator", "dict_reverseitemiterator", "odict_iterator", "itertools.zip_longest", "itertools.pairwise"] : List String).contains T = false)
    (ho : ∃ o, s.heap.get? I = some o ∧ o.cls = .type T ∧ o.data = .fields vs) (h : Q () s) : wpAny (model prg w) A (letOwnedTupleGo target (.ref I) v) Q E s := by
  have body : wpAny (model prg w) A (do
    let (.ref r, .ref a) := ((.ref I : Value), v) | return
    let o ← load r
    match o.cls, o.data with
    | .type n, .fields vs =>
      if ["enumerate", "zip", "dict_itemiterator", "dict_reverseitemiterator", "odict_iterator", "itertools.zip_longest", "itertools.pairwise"].contains n && vs[0]? == some (rawInt a) then
        rule "for.unpacks-the-owned-tuple"
        updateField r 0 .none
    | _, _ => pure ()) Q E s := by
    cases v with
    | ref a =>
      obtain ⟨o, e, hc, hd⟩ := ho
      refine wpAny_bind (m := load I) (wpAny_load e ?_)
      rw [hc, hd]
      dsimp only
      rw [hT]
      exact wpAny_pure h
    | _ => exact wpAny_pure h
  unfold letOwnedTupleGo
  split
  · exact body
  · exact body
  · exact wpAny_pure h

theorem size_none {a : Addr} (h : s.heap.get? a = none ∨ a = s.heap.objs.size) (H : W w B z env own m mu s) : B.p s.heap.objs.size = none ∧ z s.heap.objs.size = none ∧ s.heap.objs.size ∉ own ∧ s.heap.objs.size ∉ mu.map (·.1) :=
  ⟨H.none_size.2.1, H.none_size.1, H.none_size.2.2.1, H.none_size.2.2.2⟩

/-- a fresh object that nobody holds -/
theorem W.pushO {o : Obj} (H : W w B z env own m mu s) (hh : s'.heap = s.heap.push o) (ho : osd s' = osd s) (hg : s'.gens = s.gens) : W w B z env own m mu s' :=
  H.nx ⟨fun a o' e => by rw [hh]; exact Heap.get?_push_of_some _ e, Le.refl z, fun a o' e => by rw [hh]; exact Heap.get?_push_of_some _ (H.zin a o' e), fun _ a b => absurd b a, ho, #[], by simp [hg], AllBare.empty⟩

theorem iter_list {target : Expr} {l : Addr} {vs : Array Value} {Q : Value → Shared → Prop} (H : W w B z env own m mu s) (hA : A.handled = none) (hl : IsL z l vs)
    (h : ∀ I s', W w B z env own m mu s' → It w A B z own mu s' target I vs.size (fun i v _ => vs[i]? = some v) → Q (.ref I) s') : wpAny (model prg w) A (pyIter (.ref l)) Q E s := by
  have hn := H.none_size
  obtain ⟨_, ho⟩ := id hl
  have hlz : l ≠ s.heap.objs.size := by rintro rfl; rw [hn.1] at ho; cases ho
  refine wpAny_pyIter_list (hl.at H) (h _ _ (H.pushO rfl rfl rfl) ⟨[s.heap.objs.size, l], [s.heap.objs.size], _, Walk.of (Walks.list hA s.heap.objs.size l hlz vs) (fun i s v Q E hst hq => ?_) (fun i h hst b hb => ?_), ?_, ?_, ?_⟩)
  · obtain ⟨o, e, hc, hd⟩ := hst.1
    exact owned_any (T := "list_iterator") (by decide) ⟨o, e, hc, hd⟩ hq
  · rw [List.mem_singleton.mp hb]
    obtain ⟨o, e, _⟩ := hst.1
    exact ⟨o, e⟩
  · exact ⟨⟨_, Heap.get?_push_size _ rfl, rfl, rfl⟩, (hl.at H).push _⟩
  · intro b hb
    rcases List.mem_cons.mp hb with rfl | hb
    · exact .inl (.head _)
    · rw [List.mem_singleton.mp hb]; right; left; rw [ho]; nofun
  · intro b hb
    rw [List.mem_singleton.mp hb]
    exact ⟨hn.2.1, hn.1, hn.2.2.1, hn.2.2.2⟩

/-- range(a, b) made and walked -/
theorem iter_range {target : Expr} {r : Addr} {a b : Int} {t u v : Tok} {n : Nat} {Q : Value → Shared → Prop} (H : W w B z env own m mu s) (hA : A.handled = none) (hr : IsRange s.heap r a b 1 t u v)
    (ha : -(2 ^ 62) ≤ a ∧ a < 2 ^ 62) (hb : -(2 ^ 62) ≤ b ∧ b < 2 ^ 62) (hn' : Builtin.Range.rangeSize a b 1 = (n : Int))
    (h : ∀ I s', W w B z env own m mu s' → It w A B z own mu s' target I n (fun i v _ => i < n ∧ ∃ t, v = .int (a + i) t) → Q (.ref I) s') : wpAny (model prg w) A (pyIter (.ref r)) Q E s := by
  have hn := H.none_size
  refine wpAny_pyIter_range hr (small_one ha.1 ha.2 hb.1 hb.2) (h _ _ (H.pushO rfl rfl rfl) ⟨[s.heap.objs.size], [s.heap.objs.size], (fun i h => IsRangeIter h s.heap.objs.size (a + (i : Nat) * 1) ((n : Int) - (i : Nat)) 1), ?_, ?_, ?_, ?_⟩)
  · have WW := Walk.of (w := w) (target := target) ((Walks.range hA s.heap.objs.size a 1 n).bound) (fun i s v Q E hst hq => owned_any (T := "range_iterator") (by decide) ⟨_, hst, rfl, rfl⟩ hq)
      (fun i h hst b hb => by rw [List.mem_singleton.mp hb]; exact ⟨_, hst⟩)
    refine ⟨WW.frame, fun i s Q E hi hst hq => WW.item i s Q E hi hst fun v h' tk hp => hq v h' tk ?_, WW.done, WW.self, WW.ex⟩
    obtain ⟨h1, t, h2⟩ := hp
    exact ⟨h1, t, by rw [h2, Int.mul_one]⟩
  · show IsRangeIter _ _ _ _ _
    rw [hn']
    simpa using Heap.get?_push_size _ rfl
  · intro b hb; exact .inl hb
  · intro b hb
    rw [List.mem_singleton.mp hb]
    exact ⟨hn.2.1, hn.1, hn.2.2.1, hn.2.2.2⟩
end
end Mine
end
section
open PySem PySem.W PySem.Calls PyProof.Rows PySem.Spec
set_option Elab.async false
set_option maxRecDepth 100000
namespace Mine
section
variable {w : World} {B : Bs} {z z' : PM} {env : Env} {own : List Addr} {m m' : Str → Option Value} {mu mu' : List (Addr × MO)} {s s' s₀ : Shared} {A : Around} {E : Value → Shared → Prop} {k : Nat} {xs : List Addr}

theorem r_item {α : Type} {R : Rep α} {value slice : Expr} {v vi : Value} {ys : List α} {i : Nat} {d : α} {Q : Value → Shared → Prop} (H : W w B z env own m mu s) (hv : Rlist R z v ys) (hi : Rnat z vi i) (hx : ys[i]? = some d) (hf : ys.length ≤ 2 ^ 62)
    (h : ∀ y, R z y d → Q y s) (hs : ∀ a k t, subscripted slice false (.ref a) (.int k t) = operate [.ref a, .int k t] (getItem (.ref a) (.int k t)) := by intro _ _ _; rfl)
    (ht : ∀ a r, letTemporaryGo value (.ref a) r = pure () := by intro _ _; rfl) : wpAny (model prg w) A (subscriptTail value slice v vi) Q E s := by
  obtain ⟨a, vs, rfl, hl, h2⟩ := hv
  obtain ⟨t, rfl⟩ := hi
  obtain ⟨y, hy, hr⟩ := h2.get hx
  have hi' : i < ys.length := (List.getElem?_eq_some_iff.mp hx).1
  exact subscriptTail_builtin (hl.at H).typeIs slot_list_getitem.lookup (wpAny_getItem_list (hl.at H) (by exact Mine.om27) (by exact Mine.om26 hf hi') (by simpa using hy) (h y hr)) (hs _ _ _) (ht _)

theorem r_assignName {x : Str} {px : Pos} {v : Value} {Q : Unit → Shared → Prop} (H : W w B z env own m mu s) (hv : SVar env own x) (h : ∀ s', W w B z env own (upd m x v) mu s' → Q () s') :
    wpAny (model prg w) A (assign (.Name x px) env v) Q E s := wpAny_assign_Name (r_store H hv h)

theorem r_tests0 {Q : Bool → Shared → Prop} (h : Q true s) : wpAny (model prg w) A (testAll [] env) Q E s := wpAny_tests_nil h
theorem r_tests1 {c : Expr} {Q : Bool → Shared → Prop} (h : wpAny (model prg w) A (isTrue c env (eval c env)) Q E s) : wpAny (model prg w) A (testAll [c] env) Q E s := wpAny_tests_one h

theorem r_int {i : Int} {k : Nat} {pos : Pos} {Q : Value → Shared → Prop} (H : W w B z env own m mu s) (h : ∀ t s', W w B z env own m mu s' → Q (.int i t) s') : wpAny (model prg w) A (eval (.Constant (.int i) k pos) env) Q E s :=
  wpAny_Constant_int (h _ _ (H.same rfl rfl rfl))
theorem r_str {x : Str} {k : Nat} {pos : Pos} {Q : Value → Shared → Prop} (H : W w B z env own m mu s) (h : ∀ t s', W w B z env own m mu s' → Q (.str x t) s') : wpAny (model prg w) A (eval (.Constant (.str x) k pos) env) Q E s :=
  Constant_str (h _ _ (H.same rfl rfl rfl))

theorem cell_of {S : Scope} {x : Str} (hsc : env.scope = S) (e : S.names.lookup x = some .cell) (sv : SVar env own x) : env.kindOf x = some .cell ∧ ∃ c, env.cells.lookup x = some c := by
  have hk : env.kindOf x = some .cell := by rw [Env.kindOf, hsc]; exact e
  rcases sv with h | ⟨_, c, h, _⟩
  · rw [hk] at h; cases h
  · exact ⟨hk, c, h⟩
theorem free_of {names : List (Str × NameKind)} {F : Str → Prop} (fs : List Str) (e : (names.filterMap fun q => if q.2 = .free then some q.1 else none) = fs) (h : ∀ x ∈ fs, F x) : ∀ x, (x, NameKind.free) ∈ names → F x := fun x hx => by
  refine h x ?_
  rw [← e]
  exact List.mem_filterMap.mpr ⟨(x, .free), hx, by simp⟩
theorem all_nil {F : Str → Prop} : ∀ x ∈ ([] : List Str), F x := fun _ h => absurd h List.not_mem_nil
theorem all_cons {F : Str → Prop} {a : Str} {l : List Str} (h : F a) (q : ∀ x ∈ l, F x) : ∀ x ∈ a :: l, F x := List.forall_mem_cons.mpr ⟨h, q⟩

theorem sp_cons {e : Expr} {rest : List Expr} {pos : Pos} {Q : List Value → Shared → Prop}
    (h : wpAny (model prg w) A (eval e env) (fun v s₁ => wpAny (model prg w) A (spliced (backTo pos (starEach rest env))) (fun vs s₂ => Q (v :: vs) s₂) E s₁) E s)
    (he : starEach (e :: rest) env = (false, eval e env) :: starEach rest env := by rfl) : wpAny (model prg w) A (spliced (backTo pos (starEach (e :: rest) env))) Q E s := by
  rw [he]
  exact spliced_cons h
theorem sp_nil {pos : Pos} {Q : List Value → Shared → Prop} (h : Q [] s) : wpAny (model prg w) A (spliced (backTo pos (starEach [] env))) Q E s := spliced_nil h
/-- a call of a built-in name -/
theorem r_bcall {x : Str} {px pos : Pos} {e : Expr} {rest : List Expr} {Q : Value → Shared → Prop} (f : Value) (H : W w B z env own m mu s) (hx : env.kindOf x = some .globalImplicit) (e0 : nsIn (KK w) mainGlobals x = some none) (hv : bootBuiltins x = some f)
    (h : wpAny (model prg w) A (spliced (backTo pos (starEach (e :: rest) env))) (fun vs s₂ => wpAny (model prg w) A (call f vs) Q E s₂) E s)
    (hk : ∀ a, f ≠ .ref a := by intro _ h; cases h) (he : starEach (e :: rest) env = (false, eval e env) :: starEach rest env := by rfl) (hplain : (backTo pos (starEach rest env)).any (·.1) = false := by rfl)
    (hn : x ≠ "__name__" := by decide +kernel) (hd : (x == ("__debug__" : Str)) = false := by kernel_rfl) : wpAny (model prg w) A (eval (.Call (.Name x px) (e :: rest) [] pos) env) Q E s :=
  r_callB (r_bi H hx e0 hv ⟨rfl, h⟩ hn hd) hk he hplain
/-- a call of a def of the text -/
theorem r_gcall {x : Str} {px pos : Pos} {e : Expr} {rest : List Expr} {Q : Value → Shared → Prop} (f : Value) (H : W w B z env own m mu s) (hx : env.kindOf x = some .globalImplicit) (e0 : nsIn (KK w) mainGlobals x = some (some f)) (hk : keepIn (KK w) f = true)
    (h : wpAny (model prg w) A (spliced (backTo pos (starEach (e :: rest) env))) (fun vs s₂ => Gd w s₂.heap ∧ wpAny (model prg w) A (call f vs) Q E s₂) E s)
    (he : starEach (e :: rest) env = (false, eval e env) :: starEach rest env := by rfl) (hplain : (backTo pos (starEach rest env)).any (·.1) = false := by rfl)
    (hd : (x == ("__debug__" : Str)) = false := by kernel_rfl) : wpAny (model prg w) A (eval (.Call (.Name x px) (e :: rest) [] pos) env) Q E s :=
  r_call (r_glob H hx e0 ⟨rfl, h⟩ hd) hk he hplain

/-- the pairs of a comprehension's turns make the list -/
theorem all2_filterMap {α : Type} {R : Value → α → Prop} {g : Nat → Option α} : ∀ (opts : List (Option Value)) (j : Nat), (∀ i o, opts[i]? = some o → match o, g (j + i) with | some y, some d => R y d | none, none => True | _, _ => False) →
    All2 R (opts.filterMap id) ((List.range' j opts.length).filterMap g)
  | [], _, _ => trivial
  | o :: r, j, h => by
    have h0 := h 0 o rfl
    have ih := all2_filterMap (R := R) (g := g) r (j + 1) (fun i o' e => by
      have := h (i + 1) o' (by simpa using e)
      rw [show j + 1 + i = j + (i + 1) by exact Mine.om25]; exact this)
    rw [List.length_cons, List.range'_succ]
    rw [Nat.add_zero] at h0
    cases o with
    | none =>
      cases hg : g j with
      | none => simpa [hg] using ih
      | some d => rw [hg] at h0; exact h0.elim
    | some y =>
      cases hg : g j with
      | none => rw [hg] at h0; exact h0.elim
      | some d =>
        rw [hg] at h0
        simp only [List.filterMap_cons, id, hg]
        exact ⟨h0, ih⟩
/-- the usual relation of a turn -/
noncomputable def Rr {α : Type} (R : Rep α) (g : Nat → Option α) : Nat → Option Value → PM → Prop := fun i o z => match o, g i with | some y, some d => R z y d | none, none => True | _, _ => False
theorem Rr_some {α : Type} {R : Rep α} {g : Nat → Option α} {i : Nat} {y : Value} {d : α} (e : g i = some d) (h : R z y d) : Rr R g i (some y) z := by unfold Rr; rw [e]; exact h
theorem Rr_none {α : Type} {R : Rep α} {g : Nat → Option α} {i : Nat} (e : g i = none) : Rr R g i none z := by unfold Rr; rw [e]; trivial
theorem Rr.mono {α : Type} {R : Rep α} {g : Nat → Option α} (h : Mono R) : ∀ i o z z', Le z z' → Rr R g i o z → Rr R g i o z' := fun i o z z' k q => by
  unfold Rr at q ⊢
  split <;> simp_all
  exact h _ _ _ _ k q
theorem Rr.list {α : Type} {R : Rep α} {g : Nat → Option α} {n : Nat} {D : Addr} {ys : Array Value} {opts : List (Option Value)} (hl : IsL z D ys) (hn : opts.length = n) (h : ∀ i o, opts[i]? = some o → Rr R g i o z) (hy : ys.toList = opts.filterMap id) :
    Rlist R z (.ref D) ((List.range n).filterMap g) := by
  refine ⟨D, ys, rfl, hl, ?_⟩
  rw [hy, List.range_eq_range', ← hn]
  exact all2_filterMap opts 0 fun i o e => by rw [Nat.zero_add]; exact h i o e

theorem r_range2 {a b : Int} {t u : Tok} {Q : Value → Shared → Prop} (H : W w B z env own m mu s) (h : ∀ r s' t u v, W w B z env own m mu s' → IsRange s'.heap r a b 1 t u v → Q (.ref r) s') :
    wpAny (model prg w) A (call (.type "range") [.int a t, .int b u]) Q E s :=
  call_range_2 (h _ _ _ _ _ (H.pushO rfl rfl rfl) (IsRange.new ..))
theorem r_len {α : Type} {R : Rep α} {v : Value} {ys : List α} {Q : Value → Shared → Prop} (H : W w B z env own m mu s) (hv : Rlist R z v ys) (hf : ys.length ≤ 2 ^ 62) (h : ∀ t s', W w B z env own m mu s' → Q (.int ys.length t) s') :
    wpAny (model prg w) A (call (.builtin "len") [v]) Q E s := by
  obtain ⟨a, vs, rfl, hl, h2⟩ := hv
  have hsz : vs.size = ys.length := by rw [← Array.length_toList]; exact h2.length
  refine call_len_list (hl.at H) (by exact Mine.om24 hf hsz) ?_
  rw [hsz]
  exact h _ _ (H.same rfl rfl rfl)
theorem range_size {n : Nat} : Builtin.Range.rangeSize 1 (n : Int) 1 = ((n - 1 : Nat) : Int) := by
  rw [rangeSize_one]; split <;> (first | exact Mine.om22 (by assumption) | exact Mine.om23 (by assumption))
end
end Mine
end
section
open PySem PySem.Calls PyProof.Rows PySem.Spec
set_option Elab.async false
namespace Mine
/-- each c of a text turned into r -/
noncomputable def repl (c : Nat) (r l : List Nat) : List Nat := l.flatMap fun a => if a = c then r else [a]
theorem repl_append (c : Nat) (r a b : List Nat) : repl c r (a ++ b) = repl c r a ++ repl c r b := by simp [repl]
theorem repl_free (c : Nat) (r : List Nat) : ∀ l : List Nat, c ∉ l → repl c r l = l
  | [], _ => rfl
  | k :: t, h => by
    have h1 : ¬ k = c := fun e => h (e ▸ .head _)
    have ih := repl_free c r t fun m => h (.tail _ m)
    unfold repl at ih ⊢
    rw [List.flatMap_cons, if_neg h1, ih]; rfl
theorem repl_one (c : Nat) (r : List Nat) : repl c r [c] = r := by simp [repl]
theorem repl_join (c : Nat) (z : Str) : ∀ parts : List Str, (∀ p ∈ parts, c ∉ p.cps.toList) → repl c z.cps.toList (Str.join ⟨#[c]⟩ parts).cps.toList = (Str.join z parts).cps.toList
  | [], _ => rfl
  | [p], h => repl_free c _ _ (h p (List.mem_singleton.mpr rfl))
  | p :: q :: r, h => by
    have ih := repl_join c z (q :: r) fun a ha => h a (List.mem_cons_of_mem _ ha)
    show repl c z.cps.toList (p ++ ⟨#[c]⟩ ++ Str.join ⟨#[c]⟩ (q :: r)).cps.toList = (p ++ z ++ Str.join z (q :: r)).cps.toList
    simp only [Str.cps_append, Array.toList_append]
    rw [repl_append, repl_append, ih, repl_free c _ _ (h p (List.mem_cons_self ..))]
    show p.cps.toList ++ repl c z.cps.toList [c] ++ _ = _
    rw [repl_one]
theorem replace_repl (x z : Str) (c : Nat) : (Txt.replace x ⟨#[c]⟩ z).cps.toList = repl c z.cps.toList x.cps.toList := by
  rw [StrLaws.replace_one, ← repl_join c z _ (StrLaws.split_free x c), StrLaws.join_split]
theorem repl_len (c : Nat) (r : List Nat) : ∀ l : List Nat, (repl c r l).length ≤ l.length * (r.length + 1)
  | [] => by simp [repl]
  | k :: t => by
    have ih := repl_len c r t
    unfold repl at ih ⊢
    rw [List.flatMap_cons, List.length_append, List.length_cons, Nat.succ_mul]
    split
    · exact Mine.om30 ih
    · simp only [List.length_cons, List.length_nil]; exact Mine.om29 ih
theorem replace_len (x z : Str) (c : Nat) : (Txt.replace x ⟨#[c]⟩ z).length ≤ x.length * (z.length + 1) := by
  have h := repl_len c z.cps.toList x.cps.toList
  rw [← replace_repl] at h
  simpa [Str.length] using h

noncomputable abbrev sBack : Str := Str.ofString "\\"
noncomputable abbrev sBack2 : Str := Str.ofString "\\\\"
noncomputable abbrev sQuot : Str := Str.ofString "\""
noncomputable abbrev sQuotE : Str := Str.ofString "\\\""
noncomputable abbrev sEq : Str := Str.ofString "="
theorem sBack_is : sBack = ⟨#[92]⟩ := by decide +kernel
theorem sQuot_is : sQuot = ⟨#[34]⟩ := by decide +kernel
theorem sBack2_is : sBack2 = ⟨#[92, 92]⟩ := by decide +kernel
theorem sQuotE_is : sQuotE = ⟨#[92, 34]⟩ := by decide +kernel
theorem sEq_is : sEq = ⟨#[61]⟩ := by decide +kernel
noncomputable def escF (h : Str) : Str := Txt.replace (Txt.replace h sBack sBack2) sQuot sQuotE
noncomputable def itemF (x h : Str) : Str := (x ++ sEq) ++ (if h == sBack then h else (sQuot ++ escF h) ++ sQuot)
theorem esc_len1 (h : Str) : (Txt.replace h sBack sBack2).length ≤ h.length * 3 := by
  have := replace_len h sBack2 92
  rw [← sBack_is] at this
  have e : sBack2.length = 2 := by decide +kernel
  rw [e] at this; exact this
theorem esc_len (h : Str) : (escF h).length ≤ h.length * 9 := by
  have := replace_len (Txt.replace h sBack sBack2) sQuotE 34
  rw [← sQuot_is] at this
  have e : sQuotE.length = 2 := by decide +kernel
  rw [e] at this
  have h1 := esc_len1 h
  unfold escF; exact Mine.om28 this h1
end Mine
end
section
open PySem PySem.W PySem.Calls PyProof.Rows PySem.Spec
set_option Elab.async false
set_option maxRecDepth 100000
namespace Mine
section
variable {w : World} {B : Bs} {z z' : PM} {env : Env} {own : List Addr} {m m' : Str → Option Value} {mu mu' : List (Addr × MO)} {s s' s₀ : Shared} {A : Around} {E : Value → Shared → Prop} {k : Nat} {xs : List Addr}

/-- a str's method with arguments -/
theorem r_meth {o e : Expr} {name : Str} {apos pos : Pos} {rest : List Expr} {pl : Sem Bool} {Q : Value → Shared → Prop}
    (h : wpAny (model prg w) A (eval o env) (fun ov s₁ => wpAny (model prg w) A (getMethod ov name pl) (fun fx s₂ => ∃ id first, fx = (.builtin id, first) ∧
      wpAny (model prg w) A (spliced (backTo pos (starEach (e :: rest) env))) (fun vs s₃ => wpAny (model prg w) A (call (.builtin id) (first ++ vs)) Q E s₃) E s₂) E s₁) E s)
    (he : eval (.Call (.Attribute o name apos) (e :: rest) [] pos) env = (do
      let ov ← eval o env
      standAt apos.atName
      let (f, first) ← holding [ov] (getMethod ov name pl)
      callWith pos f first (backTo pos (starEach (e :: rest) env)) []) := by rfl)
    (hs : starEach (e :: rest) env = (false, eval e env) :: starEach rest env := by rfl) (hplain : (backTo pos (starEach rest env)).any (·.1) = false := by rfl) :
    wpAny (model prg w) A (eval (.Call (.Attribute o name apos) (e :: rest) [] pos) env) Q E s := by
  refine MethodCall_ (pl := pl) (wpAny_mono h (fun ov s₁ h₁ => wpAny_mono h₁ (fun fx s₂ h₂ => ?_) fun _ _ e => e) fun _ _ e => e) he
  obtain ⟨id, first, rfl, h₂⟩ := h₂
  exact callWith_method1 h₂ hs hplain

theorem r_addS {x y : Str} {t u : Tok} {Q : Value → Shared → Prop} (H : W w B z env own m mu s) (hsz : x.length + y.length ≤ sizeLine) (h : ∀ t' s', W w B z env own m mu s' → Q (.str (x ++ y) t') s') :
    wpAny (model prg w) A (binaryOp .Add (.str x t) (.str y u)) Q E s := PyProof.Rows.add_str (fun t' tk => h t' _ (H.same rfl rfl rfl)) hsz
theorem r_ifexp {test body orelse : Expr} {pos : Pos} {Q : Value → Shared → Prop}
    (h : wpAny (model prg w) A (isTrue test env (eval test env)) (fun b s₁ => if b = true then wpAny (model prg w) A (eval body env) Q E s₁ else wpAny (model prg w) A (eval orelse env) Q E s₁) E s) :
    wpAny (model prg w) A (eval (.IfExp test body orelse pos) env) Q E s := by
  show wpAny _ A (isTrue test env (eval test env) >>= fun b => if b = true then eval body env else eval orelse env) Q E s
  refine wpAny_bind (wpAny_mono h (fun b s₁ h₁ => ?_) fun _ _ e => e)
  cases b <;> exact h₁
/-- a literal, its token known -/
theorem r_strT {x : Str} {k : Nat} {pos : Pos} {Q : Value → Shared → Prop} (H : W w B z env own m mu s) (h : ∀ s', W w B z env own m mu s' → s'.toks = s.toks + 1 → Q (.str x s.toks) s') : wpAny (model prg w) A (eval (.Constant (.str x) k pos) env) Q E s :=
  Constant_str (h _ (H.same rfl rfl rfl) rfl)
end
end Mine
end
section
open PySem PySem.W PySem.Calls PyProof.Rows PySem.Spec
set_option Elab.async false
set_option maxRecDepth 100000
namespace Mine

/-- what must hold at s so that t ends in Q -/
structure Wp {α : Type} (w : World) (A : Around) (t : Sem α) (Q : α → Shared → Prop) (E : Value → Shared → Prop) (s : Shared) : Prop where
  out : wpAny (model prg w) A t Q E s

/-! what goes on behind a part, each by a name of its own (so that a proof's terms stay short) -/
noncomputable abbrev RestK {α : Type} (w : World) (A : Around) (env : Env) (rest : List Stmt) (Q : Flow → Shared → Prop) (E : Value → Shared → Prop) : α → Shared → Prop := fun _ s => Wp w A (execs rest env) Q E s
noncomputable abbrev SetK (w : World) (A : Around) (env : Env) (x : Str) (rest : List Stmt) (Q : Flow → Shared → Prop) (E : Value → Shared → Prop) : Value → Shared → Prop := fun v s => Wp w A (storeName env x v) (RestK w A env rest Q E) E s
noncomputable abbrev AugK2 (w : World) (A : Around) (env : Env) (op : Operator) (x : Str) (rest : List Stmt) (Q : Flow → Shared → Prop) (E : Value → Shared → Prop) (old : Value) : Value → Shared → Prop := fun v s => Wp w A (inplaceOp op old v) (SetK w A env x rest Q E) E s
noncomputable abbrev AugK (w : World) (A : Around) (env : Env) (op : Operator) (value : Expr) (x : Str) (rest : List Stmt) (Q : Flow → Shared → Prop) (E : Value → Shared → Prop) : Value → Shared → Prop := fun old s => Wp w A (eval value env) (AugK2 w A env op x rest Q E old) E s
noncomputable abbrev ExprK (w : World) (A : Around) (env : Env) (rest : List Stmt) (Q : Flow → Shared → Prop) (E : Value → Shared → Prop) : Value → Shared → Prop := fun v s => v = .none ∧ Wp w A (execs rest env) Q E s
noncomputable abbrev RetK (Q : Flow → Shared → Prop) : Value → Shared → Prop := fun v s => Q (.ret v) s
noncomputable abbrev IfK (w : World) (A : Around) (env : Env) (body orelse rest : List Stmt) (Q : Flow → Shared → Prop) (E : Value → Shared → Prop) : Bool → Shared → Prop := fun b s => (b = true → Wp w A (execs (body ++ rest) env) Q E s) ∧ (b = false → Wp w A (execs (orelse ++ rest) env) Q E s)
noncomputable abbrev SetTK (w : World) (A : Around) (env : Env) (target : Expr) (rest : List Stmt) (Q : Flow → Shared → Prop) (E : Value → Shared → Prop) : Value → Shared → Prop := fun v s => Wp w A (assign target env v) (RestK w A env rest Q E) E s
noncomputable abbrev BinK2 (w : World) (A : Around) (op : Operator) (Q : Value → Shared → Prop) (E : Value → Shared → Prop) (a : Value) : Value → Shared → Prop := fun b s => Wp w A (binaryOp op a b) Q E s
noncomputable abbrev BinK (w : World) (A : Around) (env : Env) (op : Operator) (r : Expr) (Q : Value → Shared → Prop) (E : Value → Shared → Prop) : Value → Shared → Prop := fun a s => Wp w A (eval r env) (BinK2 w A op Q E a) E s
noncomputable abbrev CmpK2 (w : World) (A : Around) (op : CmpOp) (Q : Value → Shared → Prop) (E : Value → Shared → Prop) (a : Value) : Value → Shared → Prop := fun b s => Wp w A (compareOp op a b) Q E s
noncomputable abbrev CmpK (w : World) (A : Around) (env : Env) (op : CmpOp) (r : Expr) (Q : Value → Shared → Prop) (E : Value → Shared → Prop) : Value → Shared → Prop := fun a s => Wp w A (eval r env) (CmpK2 w A op Q E a) E s
noncomputable abbrev BoolK (Q : Bool → Shared → Prop) : Value → Shared → Prop := fun c s => ∃ b, c = .bool b ∧ Q b s
noncomputable abbrev SubK2 (w : World) (A : Around) (value slice : Expr) (Q : Value → Shared → Prop) (E : Value → Shared → Prop) (o : Value) : Value → Shared → Prop := fun i s => Wp w A (subscriptTail value slice o i) Q E s
noncomputable abbrev SubK (w : World) (A : Around) (env : Env) (value slice : Expr) (Q : Value → Shared → Prop) (E : Value → Shared → Prop) : Value → Shared → Prop := fun o s => Wp w A (eval slice env) (SubK2 w A value slice Q E o) E s
noncomputable abbrev ConsK2 (Q : List Value → Shared → Prop) (v : Value) : List Value → Shared → Prop := fun vs s => Q (v :: vs) s
noncomputable abbrev ConsK (w : World) (A : Around) (env : Env) (pos : Pos) (rest : List Expr) (Q : List Value → Shared → Prop) (E : Value → Shared → Prop) : Value → Shared → Prop := fun v s => Wp w A (spliced (backTo pos (starEach rest env))) (ConsK2 Q v) E s
noncomputable abbrev OneK (Q : List Value → Shared → Prop) : Value → Shared → Prop := fun v s => Q [v] s
noncomputable abbrev CallK (w : World) (A : Around) (f : Value) (Q : Value → Shared → Prop) (E : Value → Shared → Prop) : List Value → Shared → Prop := fun vs s => Wp w A (call f vs) Q E s
noncomputable abbrev GCallK (w : World) (A : Around) (f : Value) (Q : Value → Shared → Prop) (E : Value → Shared → Prop) : List Value → Shared → Prop := fun vs s => Gd w s.heap ∧ Wp w A (call f vs) Q E s

section
variable {w : World} {B : Bs} {z z' : PM} {env : Env} {own : List Addr} {m m' : Str → Option Value} {mu mu' : List (Addr × MO)} {s s' s₀ : Shared} {A : Around} {E : Value → Shared → Prop} {k : Nat} {xs : List Addr}

theorem un {α : Type} {t : Sem α} {Q Q' : α → Shared → Prop} (h : Wp w A t Q E s) (k : ∀ a s', Q a s' → Q' a s') : wpAny (model prg w) A t Q' E s := wpAny_mono h.out k fun _ _ e => e
theorem un2 {α β : Type} {t : Sem α} {u : α → Sem β} {Q : β → Shared → Prop} (h : Wp w A t (fun a s₁ => Wp w A (u a) Q E s₁) E s) : wpAny (model prg w) A t (fun a s₁ => wpAny (model prg w) A (u a) Q E s₁) E s := un h fun _ _ q => q.out
theorem un3 {α β γ : Type} {t : Sem α} {u : α → Sem β} {v : α → β → Sem γ} {Q : γ → Shared → Prop} (h : Wp w A t (fun a s₁ => Wp w A (u a) (fun b s₂ => Wp w A (v a b) Q E s₂) E s₁) E s) :
    wpAny (model prg w) A t (fun a s₁ => wpAny (model prg w) A (u a) (fun b s₂ => wpAny (model prg w) A (v a b) Q E s₂) E s₁) E s := un h fun _ _ q => un2 q
theorem un4 {α β γ δ : Type} {t : Sem α} {u : α → Sem β} {v : α → β → Sem γ} {x : α → β → γ → Sem δ} {Q : δ → Shared → Prop}
    (h : Wp w A t (fun a s₁ => Wp w A (u a) (fun b s₂ => Wp w A (v a b) (fun c s₃ => Wp w A (x a b c) Q E s₃) E s₂) E s₁) E s) :
    wpAny (model prg w) A t (fun a s₁ => wpAny (model prg w) A (u a) (fun b s₂ => wpAny (model prg w) A (v a b) (fun c s₃ => wpAny (model prg w) A (x a b c) Q E s₃) E s₂) E s₁) E s := un h fun _ _ q => un3 q
theorem Wp.mono {α : Type} {t : Sem α} {Q Q' : α → Shared → Prop} (h : Wp w A t Q E s) (k : ∀ a s', Q a s' → Q' a s') : Wp w A t Q' E s := ⟨un h k⟩
theorem Wp.pure {α : Type} {a : α} {Q : α → Shared → Prop} (h : Q a s) : Wp w A (Pure.pure a) Q E s := ⟨wpAny_pure h⟩
theorem Wp.bind {α β : Type} {t : Sem α} {u : α → Sem β} {Q : β → Shared → Prop} (h : Wp w A t (fun a s₁ => Wp w A (u a) Q E s₁) E s) : Wp w A (t >>= u) Q E s := ⟨wpAny_bind (un2 h)⟩

/-! statements -/
theorem x_nil {Q : Flow → Shared → Prop} (h : Q .next s) : Wp w A (execs [] env) Q E s := ⟨wpAny_execs_nil h⟩
theorem x_seq {st : Stmt} {rest : List Stmt} {Q : Flow → Shared → Prop} (h : Wp w A (exec st env) (fun f s' => f = .next ∧ Wp w A (execs rest env) Q E s') E s) : Wp w A (execs (st :: rest) env) Q E s :=
  ⟨wpAny_execs_cons (un h fun f s' q => by obtain ⟨rfl, q⟩ := q; exact q.out)⟩
theorem x_ret {e : Expr} {pos : Pos} {rest : List Stmt} {Q : Flow → Shared → Prop} (h : Wp w A (eval e env) (RetK Q) E s) : Wp w A (execs (.Return (some e) pos :: rest) env) Q E s :=
  ⟨wpAny_execs_cons (wpAny_Return_some h.out)⟩
theorem x_cont {pos : Pos} {rest : List Stmt} {Q : Flow → Shared → Prop} (h : Q .cont s) : Wp w A (execs (.Continue pos :: rest) env) Q E s := ⟨wpAny_execs_cons (wpAny_Continue h)⟩
theorem execs_append (a b : List Stmt) (env : Env) : (do match ← execs a env with | .next => execs b env | f => Pure.pure f) = execs (a ++ b) env := by
  induction a with
  | nil => exact pure_bind _ _
  | cons x r ih =>
    rw [List.cons_append, execs_cons, execs_cons, bind_assoc, ← ih]
    congr 1
    funext f
    cases f with
    | next => rfl
    | _ => exact pure_bind _ _
theorem x_if {test : Expr} {body orelse rest : List Stmt} {pos : Pos} {Q : Flow → Shared → Prop}
    (h : Wp w A (isTrue test env (eval test env)) (IfK w A env body orelse rest Q E) E s) :
    Wp w A (execs (.If test body orelse pos :: rest) env) Q E s := by
  refine ⟨?_⟩
  have e : execs (.If test body orelse pos :: rest) env = (do standAt pos; let b ← isTrue test env (eval test env); if b = true then execs (body ++ rest) env else execs (orelse ++ rest) env) := by
    rw [execs_cons, exec_If, bind_assoc]
    congr 1
    funext _
    rw [bind_assoc]
    congr 1
    funext b
    cases b with
    | true => exact execs_append body rest env
    | false => exact execs_append orelse rest env
  rw [e]
  refine wpAny_bind (wpAny_standAt (wpAny_bind (un h fun b s₂ q => ?_)))
  cases b with
  | true => exact (q.1 rfl).out
  | false => exact (q.2 rfl).out

theorem x_set {x : Str} {p pos : Pos} {value : Expr} {rest : List Stmt} {Q : Flow → Shared → Prop}
    (h : Wp w A (eval value env) (SetK w A env x rest Q E) E s)
    (hs : swapsWith value (some (.Name x p)) pos.line env = Pure.pure false := by kernel_rfl) : Wp w A (execs (.Assign [.Name x p] value pos :: rest) env) Q E s :=
  ⟨wpAny_execs_cons (wpAny_Assign_Name (un3 h) hs)⟩
theorem x_set2 {x y : Str} {p q pos : Pos} {value : Expr} {rest : List Stmt} {Q : Flow → Shared → Prop}
    (h : Wp w A (eval value env) (fun v s₁ => Wp w A (storeName env x v) (fun _ s₂ => Wp w A (storeName env y v) (RestK w A env rest Q E) E s₂) E s₁) E s)
    (he : (assignEach [.Name x p, .Name y q] env).map (·.2) = [assign (.Name x p) env, assign (.Name y q) env] := by kernel_rfl)
    (hw : swappedStores [.Name x p, .Name y q] value env = Pure.pure none := by kernel_rfl) : Wp w A (execs (.Assign [.Name x p, .Name y q] value pos :: rest) env) Q E s :=
  ⟨wpAny_execs_cons (wpAny_Assign_two (un h fun _ _ q => wpAny_assign_Name (un q fun _ _ q => wpAny_assign_Name (un2 q))) he hw)⟩
theorem x_aug {x : Str} {p pos : Pos} {op : Operator} {value : Expr} {rest : List Stmt} {Q : Flow → Shared → Prop}
    (h : Wp w A (loadName env x) (AugK w A env op value x rest Q E) E s) :
    Wp w A (execs (.AugAssign (.Name x p) op value pos :: rest) env) Q E s := ⟨wpAny_execs_cons (wpAny_AugAssign_Name (un h fun _ _ q => un4 q))⟩
theorem x_expr {e : Expr} {pos : Pos} {rest : List Stmt} {Q : Flow → Shared → Prop} (h : Wp w A (eval e env) (ExprK w A env rest Q E) E s)
    (hi : interactive env = false := by kernel_rfl) (hs : swapsWith e none pos.line env = Pure.pure false := by kernel_rfl) : Wp w A (execs (.Expr e pos :: rest) env) Q E s :=
  ⟨wpAny_execs_cons (wpAny_Expr (un h fun v s' q => by obtain ⟨rfl, q⟩ := q; exact q.out) hi hs)⟩
theorem x_setItem {o i : Expr} {p pos : Pos} {value : Expr} {rest : List Stmt} {Q : Flow → Shared → Prop}
    (h : Wp w A (eval value env) (fun v s₁ => Wp w A (eval o env) (fun ov s₂ => Wp w A (eval i env) (fun iv s₃ => Wp w A (setItem ov iv v) (RestK w A env rest Q E) E s₃) E s₂) E s₁) E s)
    (hs : swapsWith value (some (.Subscript o i p)) pos.line env = Pure.pure false := by kernel_rfl) : Wp w A (execs (.Assign [.Subscript o i p] value pos :: rest) env) Q E s :=
  ⟨wpAny_execs_cons (wpAny_Assign_Subscript (un h fun _ _ q => un4 q) hs)⟩
theorem x_setT {elts : List Expr} {n : _} {tpos pos : Pos} {value : Expr} {rest : List Stmt} {Q : Flow → Shared → Prop}
    (h : Wp w A (eval value env) (SetTK w A env (.Tuple elts n tpos) rest Q E) E s)
    (hs : swapsWithSole [.Tuple elts n tpos] value pos.line env = Pure.pure false := by kernel_rfl)
    (hw : swappedStores [.Tuple elts n tpos] value env = Pure.pure none := by kernel_rfl) : Wp w A (execs (.Assign [.Tuple elts n tpos] value pos :: rest) env) Q E s :=
  ⟨wpAny_execs_cons (Assign_Tuple (un3 h) hs hw)⟩
theorem x_setTs {elts : List Expr} {n : _} {tpos pos : Pos} {value : Expr} {rest : List Stmt} (names : List Str) {Q : Flow → Shared → Prop}
    (h : Wp w A (eval value env) (fun v s₁ => Wp w A (unpackItems v names.length none) (fun items s₂ => Wp w A (assignInOrder (names.reverse.map fun n => bindName env n) items.reverse) (RestK w A env rest Q E) E s₂) E s₁) E s)
    (hs : swapsWithSole [.Tuple elts n tpos] value pos.line env = Pure.pure false := by kernel_rfl)
    (hw : swappedStores [.Tuple elts n tpos] value env = Pure.pure (some names) := by kernel_rfl) : Wp w A (execs (.Assign [.Tuple elts n tpos] value pos :: rest) env) Q E s :=
  ⟨wpAny_execs_cons (Assign_Tuple_swapped (un4 h) hs hw)⟩

/-- while, with nothing behind else -/
theorem x_while {test : Expr} {body rest : List Stmt} {pos : Pos} {Q : Flow → Shared → Prop} (I : Nat → Shared → Prop) (n : Nat) (h : I n s)
    (turn : ∀ n s (E' : Value → Shared → Prop), I n s → Wp w A (isTrue test env (eval test env)) (fun b s₂ => (b = true → Wp w A (execs body env) (fun f s₃ => (f = .next ∨ f = .cont) ∧ ∃ m, m < n ∧ I m s₃) E' s₂) ∧ (b = false → Wp w A (execs rest env) Q E s₂)) E' s) :
    Wp w A (execs (.While test body [] pos :: rest) env) Q E s := by
  refine ⟨wpAny_execs_cons (wpAny_While (codeAny_whileLoop I (fun n s hI => ?_) n h))⟩
  refine un (turn n s _ hI) fun b s₂ q => ?_
  cases b with
  | true =>
    refine un (q.1 rfl) fun f s₃ h₃ => ?_
    obtain ⟨hf, h₃⟩ := h₃
    rcases hf with rfl | rfl <;> exact h₃
  | false => exact wpAny_execs_nil (q.2 rfl).out

/-! expressions -/
theorem e_int {i : Int} {k : _} {pos : Pos} {Q : Value → Shared → Prop} (H : W w B z env own m mu s) (h : ∀ t s', W w B z env own m mu s' → Q (.int i t) s') : Wp w A (eval (.Constant (.int i) k pos) env) Q E s := ⟨r_int H h⟩
theorem e_str {x : Str} {k : _} {pos : Pos} {Q : Value → Shared → Prop} (H : W w B z env own m mu s) (h : ∀ t s', W w B z env own m mu s' → Q (.str x t) s') : Wp w A (eval (.Constant (.str x) k pos) env) Q E s := ⟨r_str H h⟩
theorem e_strT {x : Str} {k : _} {pos : Pos} {Q : Value → Shared → Prop} (H : W w B z env own m mu s) (h : ∀ s', W w B z env own m mu s' → s'.toks = s.toks + 1 → Q (.str x s.toks) s') : Wp w A (eval (.Constant (.str x) k pos) env) Q E s := ⟨r_strT H h⟩
theorem e_none {k : _} {pos : Pos} {Q : Value → Shared → Prop} (h : Q .none s) : Wp w A (eval (.Constant .none k pos) env) Q E s := ⟨wpAny_Constant_none h⟩
theorem e_bool {b : Bool} {k : _} {pos : Pos} {Q : Value → Shared → Prop} (h : Q (.bool b) s) : Wp w A (eval (.Constant (.bool b) k pos) env) Q E s := ⟨wpAny_Constant_bool h⟩
theorem e_load {x : Str} {v : Value} {Q : Value → Shared → Prop} (H : W w B z env own m mu s) (hv : Var env x) (hm : m x = some v) (h : Q v s) (hn : (x == ("__classdict__" : Str)) = false := by kernel_rfl) :
    Wp w A (loadName env x) Q E s := ⟨r_load H hv hm h hn⟩
theorem e_var {x : Str} {pos : Pos} {v : Value} {Q : Value → Shared → Prop} (H : W w B z env own m mu s) (hv : Var env x) (hm : m x = some v) (h : Q v s) (hd : (x == ("__debug__" : Str)) = false := by kernel_rfl)
    (hn : (x == ("__classdict__" : Str)) = false := by kernel_rfl) : Wp w A (eval (.Name x pos) env) Q E s := ⟨r_var H hv hm h hd hn⟩
theorem x_store {x : Str} {v : Value} {Q : Unit → Shared → Prop} (H : W w B z env own m mu s) (hv : SVar env own x) (h : ∀ s', W w B z env own (upd m x v) mu s' → Q () s') : Wp w A (storeName env x v) Q E s := ⟨r_store H hv h⟩
theorem x_assignN {x : Str} {px : Pos} {v : Value} {Q : Unit → Shared → Prop} (H : W w B z env own m mu s) (hv : SVar env own x) (h : ∀ s', W w B z env own (upd m x v) mu s' → Q () s') : Wp w A (assign (.Name x px) env v) Q E s :=
  ⟨r_assignName H hv h⟩
theorem e_glob {x : Str} {pos : Pos} (v : Value) {Q : Value → Shared → Prop} (H : W w B z env own m mu s) (hx : env.kindOf x = some .globalImplicit) (e : nsIn (KK w) mainGlobals x = some (some v)) (h : Q v s)
    (hd : (x == ("__debug__" : Str)) = false := by kernel_rfl) : Wp w A (eval (.Name x pos) env) Q E s := ⟨r_glob H hx e h hd⟩
theorem e_bi {x : Str} {pos : Pos} (v : Value) {Q : Value → Shared → Prop} (H : W w B z env own m mu s) (hx : env.kindOf x = some .globalImplicit) (e : nsIn (KK w) mainGlobals x = some none) (hv : bootBuiltins x = some v) (h : Q v s)
    (hn : x ≠ "__name__" := by decide +kernel) (hd : (x == ("__debug__" : Str)) = false := by kernel_rfl) : Wp w A (eval (.Name x pos) env) Q E s := ⟨r_bi H hx e hv h hn hd⟩
theorem e_bin {l r : Expr} {op : Operator} {pos : Pos} {Q : Value → Shared → Prop} (h : Wp w A (eval l env) (BinK w A env op r Q E) E s) :
    Wp w A (eval (.BinOp l op r pos) env) Q E s := ⟨wpAny_BinOp (un3 h)⟩
theorem e_cmp {l r : Expr} {op : CmpOp} {pos : Pos} {Q : Value → Shared → Prop} (h : Wp w A (eval l env) (CmpK w A env op r Q E) E s)
    (hm : behindInMarks op r = false := by kernel_rfl) : Wp w A (eval (.Compare l [op] [r] pos) env) Q E s := ⟨wpAny_Compare1 (un3 h) hm⟩
theorem t_cmp {l r : Expr} {op : CmpOp} {pos : Pos} {whole : Sem Value} {Q : Bool → Shared → Prop}
    (h : Wp w A (eval l env) (CmpK w A env op r (BoolK Q) E) E s)
    (hm : behindInMarks op r = false := by kernel_rfl) : Wp w A (isTrue (.Compare l [op] [r] pos) env whole) Q E s :=
  ⟨wpAny_isTrue_Compare1 (un h fun _ _ q => un q fun _ _ q => un q fun _ _ q => by obtain ⟨b, rfl, q⟩ := q; exact wpAny_truthy_bool q) hm⟩
theorem t_val {e : Expr} {whole : Sem Value} {Q : Bool → Shared → Prop} (h : Wp w A whole (fun v s₁ => Wp w A (truthy v) Q E s₁) E s)
    (he : isTrue e env whole = (do let v ← whole; standAt e.pos; holding [v] (truthy v)) := by rfl) : Wp w A (isTrue e env whole) Q E s := ⟨isTrue_plain (un2 h) he⟩
theorem t_and {x : Expr} {rest : List Expr} {pos : Pos} {whole : Sem Value} {Q : Bool → Shared → Prop}
    (h : Wp w A (isTrue x env (eval x env)) (fun c s' => (c = true → Wp w A (isTrue (.BoolOp .And rest pos) env whole) Q E s') ∧ (c = false → Q false s')) E s) : Wp w A (isTrue (.BoolOp .And (x :: rest) pos) env whole) Q E s :=
  ⟨isTrue_and (un h fun c s' q => by cases c with | true => exact (q.1 rfl).out | false => exact q.2 rfl)⟩
theorem t_and0 {pos : Pos} {whole : Sem Value} {Q : Bool → Shared → Prop} (h : Q true s) : Wp w A (isTrue (.BoolOp .And [] pos) env whole) Q E s := ⟨isTrue_and_nil h⟩
theorem t_bool {b : Bool} {Q : Bool → Shared → Prop} (h : Q b s) : Wp w A (truthy (.bool b)) Q E s := ⟨wpAny_truthy_bool h⟩
theorem t_str {x : Str} {t : Tok} {Q : Bool → Shared → Prop} (H : W w B z env own m mu s) (hfit : x.length ≤ sizeLine) (h : ∀ s', W w B z env own m mu s' → Q (x.length != 0) s') : Wp w A (truthy (.str x t)) Q E s := by
  refine ⟨PySem.P.truthy_str (by rw [sizeLine_eq] at hfit; exact Mine.om32 hfit) ?_⟩
  have e : ((x.length : Int) != 0) = (x.length != 0) := by
    cases hl : x.length with
    | zero => rfl
    | succ n => simp; exact Mine.om31
  rw [e]
  exact h _ (H.same rfl rfl rfl)
theorem e_ifexp {test body orelse : Expr} {pos : Pos} {Q : Value → Shared → Prop}
    (h : Wp w A (isTrue test env (eval test env)) (fun b s₁ => (b = true → Wp w A (eval body env) Q E s₁) ∧ (b = false → Wp w A (eval orelse env) Q E s₁)) E s) : Wp w A (eval (.IfExp test body orelse pos) env) Q E s :=
  ⟨r_ifexp (un h fun b s₁ q => by cases b with | true => exact (q.1 rfl).out | false => exact (q.2 rfl).out)⟩
theorem e_sub {value slice : Expr} {pos : Pos} {Q : Value → Shared → Prop} (h : Wp w A (eval value env) (SubK w A env value slice Q E) E s) :
    Wp w A (eval (.Subscript value slice pos) env) Q E s := ⟨Subscript_ (un3 h)⟩

theorem a_cons {e : Expr} {rest : List Expr} {pos : Pos} {Q : List Value → Shared → Prop}
    (h : Wp w A (eval e env) (ConsK w A env pos rest Q E) E s)
    (he : starEach (e :: rest) env = (false, eval e env) :: starEach rest env := by kernel_rfl) : Wp w A (spliced (backTo pos (starEach (e :: rest) env))) Q E s := ⟨sp_cons (un h fun _ _ q => q.out) he⟩
theorem a_nil {pos : Pos} {Q : List Value → Shared → Prop} (h : Q [] s) : Wp w A (spliced (backTo pos (starEach [] env))) Q E s := ⟨sp_nil h⟩
/-- the last argument -/
theorem a_one {e : Expr} {pos : Pos} {Q : List Value → Shared → Prop}
    (h : Wp w A (eval e env) (OneK Q) E s)
    (he : starEach [e] env = (false, eval e env) :: starEach [] env := by kernel_rfl) : Wp w A (spliced (backTo pos (starEach [e] env))) Q E s := ⟨sp_cons (un h fun _ _ q => sp_nil q) he⟩

theorem e_bcall {x : Str} {px pos : Pos} {e : Expr} {rest : List Expr} {Q : Value → Shared → Prop} (f : Value) (H : W w B z env own m mu s) (hx : env.kindOf x = some .globalImplicit)
    (h : Wp w A (spliced (backTo pos (starEach (e :: rest) env))) (CallK w A f Q E) E s)
    (e0 : nsIn (KK w) mainGlobals x = some none := by kernel_rfl) (hv : bootBuiltins x = some f := by kernel_rfl)
    (hk : ∀ a, f ≠ .ref a := by intro _ h; cases h) (he : starEach (e :: rest) env = (false, eval e env) :: starEach rest env := by kernel_rfl) (hplain : (backTo pos (starEach rest env)).any (·.1) = false := by kernel_rfl)
    (hn : x ≠ "__name__" := by decide +kernel) (hd : (x == ("__debug__" : Str)) = false := by kernel_rfl) : Wp w A (eval (.Call (.Name x px) (e :: rest) [] pos) env) Q E s :=
  ⟨r_bcall f H hx e0 hv (un2 h) hk he hplain hn hd⟩
theorem e_gcall {x : Str} {px pos : Pos} {e : Expr} {rest : List Expr} {Q : Value → Shared → Prop} (f : Value) (H : W w B z env own m mu s) (hx : env.kindOf x = some .globalImplicit)
    (h : Wp w A (spliced (backTo pos (starEach (e :: rest) env))) (GCallK w A f Q E) E s)
    (e0 : nsIn (KK w) mainGlobals x = some (some f) := by kernel_rfl) (hk : keepIn (KK w) f = true := by kernel_rfl)
    (he : starEach (e :: rest) env = (false, eval e env) :: starEach rest env := by kernel_rfl) (hplain : (backTo pos (starEach rest env)).any (·.1) = false := by kernel_rfl)
    (hd : (x == ("__debug__" : Str)) = false := by kernel_rfl) : Wp w A (eval (.Call (.Name x px) (e :: rest) [] pos) env) Q E s :=
  ⟨r_gcall f H hx e0 hk (un h fun _ _ q => ⟨q.1, q.2.out⟩) he hplain hd⟩
theorem e_meth {o e : Expr} {name : Str} {apos pos : Pos} {rest : List Expr} {pl : Sem Bool} {Q : Value → Shared → Prop}
    (h : Wp w A (eval o env) (fun ov s₁ => Wp w A (getMethod ov name pl) (fun fx s₂ => ∃ id first, fx = (.builtin id, first) ∧
      Wp w A (spliced (backTo pos (starEach (e :: rest) env))) (fun vs s₃ => Wp w A (call (.builtin id) (first ++ vs)) Q E s₃) E s₂) E s₁) E s)
    (he : eval (.Call (.Attribute o name apos) (e :: rest) [] pos) env = (do
      let ov ← eval o env
      standAt apos.atName
      let (f, first) ← holding [ov] (getMethod ov name pl)
      callWith pos f first (backTo pos (starEach (e :: rest) env)) []) := by rfl)
    (hs : starEach (e :: rest) env = (false, eval e env) :: starEach rest env := by kernel_rfl) (hplain : (backTo pos (starEach rest env)).any (·.1) = false := by kernel_rfl) :
    Wp w A (eval (.Call (.Attribute o name apos) (e :: rest) [] pos) env) Q E s :=
  ⟨r_meth (un h fun _ _ q => un q fun _ _ q => by obtain ⟨id, first, e, q⟩ := q; exact ⟨id, first, e, un2 q⟩) he hs hplain⟩

theorem d_addS {x y : Str} {t u : Tok} {Q : Value → Shared → Prop} (H : W w B z env own m mu s) (hsz : x.length + y.length ≤ sizeLine) (h : ∀ t' s', W w B z env own m mu s' → Q (.str (x ++ y) t') s') :
    Wp w A (binaryOp .Add (.str x t) (.str y u)) Q E s := ⟨r_addS H hsz h⟩
theorem d_item {α : Type} {R : Rep α} {value slice : Expr} {v vi : Value} {ys : List α} {i : Nat} {d : α} {Q : Value → Shared → Prop} (H : W w B z env own m mu s) (hv : Rlist R z v ys) (hi : Rnat z vi i) (hx : ys[i]? = some d) (hf : ys.length ≤ 2 ^ 62)
    (h : ∀ y, R z y d → Q y s) (hs : ∀ a k t, subscripted slice false (.ref a) (.int k t) = operate [.ref a, .int k t] (getItem (.ref a) (.int k t)) := by intro _ _ _; rfl)
    (ht : ∀ a r, letTemporaryGo value (.ref a) r = Pure.pure () := by intro _ _; rfl) : Wp w A (subscriptTail value slice v vi) Q E s := ⟨r_item H hv hi hx hf h hs ht⟩
theorem d_range2 {a b : Int} {t u : Tok} {Q : Value → Shared → Prop} (H : W w B z env own m mu s) (h : ∀ r s' t u v, W w B z env own m mu s' → IsRange s'.heap r a b 1 t u v → Q (.ref r) s') :
    Wp w A (call (.type "range") [.int a t, .int b u]) Q E s := ⟨r_range2 H h⟩
theorem d_len {α : Type} {R : Rep α} {v : Value} {ys : List α} {Q : Value → Shared → Prop} (H : W w B z env own m mu s) (hv : Rlist R z v ys) (hf : ys.length ≤ 2 ^ 62) (h : ∀ t s', W w B z env own m mu s' → Q (.int ys.length t) s') :
    Wp w A (call (.builtin "len") [v]) Q E s := ⟨r_len H hv hf h⟩
theorem i_range {target : Expr} {r : Addr} {a b : Int} {t u v : Tok} {n : Nat} {Q : Value → Shared → Prop} (H : W w B z env own m mu s) (hA : A.handled = none) (hr : IsRange s.heap r a b 1 t u v)
    (ha : -(2 ^ 62) ≤ a ∧ a < 2 ^ 62) (hb : -(2 ^ 62) ≤ b ∧ b < 2 ^ 62) (hn' : Builtin.Range.rangeSize a b 1 = (n : Int))
    (h : ∀ I s', W w B z env own m mu s' → It w A B z own mu s' target I n (fun i v _ => i < n ∧ ∃ t, v = .int (a + i) t) → Q (.ref I) s') : Wp w A (pyIter (.ref r)) Q E s := ⟨iter_range H hA hr ha hb hn' h⟩
theorem i_list {target : Expr} {l : Addr} {vs : Array Value} {Q : Value → Shared → Prop} (H : W w B z env own m mu s) (hA : A.handled = none) (hl : IsL z l vs)
    (h : ∀ I s', W w B z env own m mu s' → It w A B z own mu s' target I vs.size (fun i v _ => vs[i]? = some v) → Q (.ref I) s') : Wp w A (pyIter (.ref l)) Q E s := ⟨iter_list H hA hl h⟩

/-! comprehensions and for -/
noncomputable def CTurnW (w : World) (A : Around) (z : PM) (m : Str → Option Value) (scope : Scope) (elt target : Expr) (ifs : List Expr) (n : Nat) (P : Nat → Value → Heap → Prop) (Rr : Nat → Option Value → PM → Prop) : Prop :=
  ∀ i v z₁ B₁ C cenv mc s₁ (E' : Value → Shared → Prop), i < n → P i v s₁.heap → Le z z₁ → W w B₁ z₁ cenv [C] mc [] s₁ → CEnv scope m mc C cenv →
    Wp w A (assign target cenv v) (fun _ s₃ => Wp w A (testAll ifs cenv) (fun ok s₄ =>
      (ok = true → Wp w A (eval elt cenv) (fun y s₅ => ∃ z₂ mc' mu', W w B₁ z₂ cenv [C] mc' mu' s₅ ∧ Le z₁ z₂ ∧ Rr i (some y) z₂) E' s₄) ∧
      (ok = false → ∃ z₂ mc', W w B₁ z₂ cenv [C] mc' [] s₄ ∧ Le z₁ z₂ ∧ Rr i none z₂)) E' s₃) E' s₁
theorem CTurnW.to {scope : Scope} {elt target : Expr} {ifs : List Expr} {I : Addr} {n : Nat} {P : Nat → Value → Heap → Prop} {Rr : Nat → Option Value → PM → Prop} (h : CTurnW w A z m scope elt target ifs n P Rr) :
    CTurn w A z m scope target ifs I n P (fun cenv s₄ E' K => wpAny (model prg w) A (eval elt cenv) K E' s₄) Rr := fun i v z₁ B₁ C cenv mc s₁ E' a b c d e =>
  un (h i v z₁ B₁ C cenv mc s₁ E' a b c d e) fun _ _ q => un q fun ok s₄ q => by
    cases ok with
    | true => exact (q.1 rfl).out
    | false => exact q.2 rfl
noncomputable abbrev CompK2 (w : World) (A : Around) (B : Bs) (env : Env) (own : List Addr) (m : Str → Option Value) (mM : Addr → Str → Option Value) (mu : List (Addr × MO)) (elt target : Expr) (ifs : List Expr) (scope : Scope) (K : Addr → Shared → Prop) : Value → Shared → Prop := fun it s₂ =>
    ∃ I n P z₁, it = .ref I ∧ W w B z₁ env own m mu s₂ ∧ It w A B z₁ own mu s₂ target I n P ∧ n ≤ sizeLine ∧
      ∃ Rr : Nat → Option Value → PM → Prop, (∀ i o z z', Le z z' → Rr i o z → Rr i o z') ∧ CTurnW w A z₁ m scope elt target ifs n P Rr ∧
      ∀ z' s' D ys (opts : List (Option Value)), W w B z' env own (mM D) ((D, .lst ys) :: mu) s' → Le z₁ z' → opts.length = n → (∀ i o, opts[i]? = some o → Rr i o z') → ys.toList = opts.filterMap id → K D s'
noncomputable abbrev CompK (w : World) (A : Around) (B : Bs) (env : Env) (own : List Addr) (m : Str → Option Value) (mM : Addr → Str → Option Value) (mu : List (Addr × MO)) (elt target : Expr) (ifs : List Expr) (scope : Scope) (K : Addr → Shared → Prop) (E : Value → Shared → Prop) : Value → Shared → Prop := fun xv s₁ =>
    Wp w A (pyIter xv) (CompK2 w A B env own m mM mu elt target ifs scope K) E s₁
theorem compI {A : Around} {elt target : Expr} {ifs : List Expr} {scope : Scope} {z₁ : PM} {s₂ : Shared} {I : Addr} {n : Nat} {P : Nat → Value → Heap → Prop} {mM : Addr → Str → Option Value} {K : Addr → Shared → Prop} (H : W w B z₁ env own m mu s₂) (IT : It w A B z₁ own mu s₂ target I n P) (hn : n ≤ sizeLine)
    (Rr : Nat → Option Value → PM → Prop) (mono : ∀ i o z z', Le z z' → Rr i o z → Rr i o z') (turn : CTurnW w A z₁ m scope elt target ifs n P Rr)
    (fin : ∀ z' s' D ys (opts : List (Option Value)), W w B z' env own (mM D) ((D, .lst ys) :: mu) s' → Le z₁ z' → opts.length = n → (∀ i o, opts[i]? = some o → Rr i o z') → ys.toList = opts.filterMap id → K D s') :
    CompK2 w A B env own m mM mu elt target ifs scope K (.ref I) s₂ := ⟨I, n, P, z₁, rfl, H, IT, hn, Rr, mono, turn, fin⟩
theorem g_tests0 {Q : Bool → Shared → Prop} (h : Q true s) : Wp w A (testAll [] env) Q E s := ⟨r_tests0 h⟩
theorem g_tests1 {c : Expr} {Q : Bool → Shared → Prop} (h : Wp w A (isTrue c env (eval c env)) Q E s) : Wp w A (testAll [c] env) Q E s := ⟨r_tests1 h.out⟩

theorem e_comp {elt target iter : Expr} {ifs : List Expr} {scope : Scope} {pos : Pos} {Q : Value → Shared → Prop} (H : W w B z env own m mu s)
    (hsc : CSc scope) (hfree : ∀ x, (x, NameKind.free) ∈ scope.names → env.kindOf x = some .cell ∧ ∃ c, env.cells.lookup x = some c)
    (h : Wp w A (eval iter env) (CompK w A B env own m (fun _ => m) mu elt target ifs scope (fun D s' => Q (.ref D) s') E) E s)
    (hs : ∀ x, foldedSetIterable iter env x = Pure.pure x := by intro _; rfl) : Wp w A (eval (.ListComp elt [⟨target, iter, ifs, 0⟩] scope pos) env) Q E s :=
  ⟨r_comp H hsc hfree (un h fun _ _ q => un q fun _ _ q => by obtain ⟨I, n, P, z₁, a, b, c, d, Rr, e, f, g⟩ := q; exact ⟨I, n, P, z₁, a, b, c, d, Rr, e, f.to, g⟩) hs⟩
theorem x_acomp {elt target iter : Expr} {y : Str} {py : Pos} {ifs : List Expr} {scope : Scope} {pos spos : Pos} {rest : List Stmt} {Q : Flow → Shared → Prop}
    (H : W w B z env own m mu s) (hy : SVar env own y)
    (hsc : CSc scope) (hfree : ∀ x, (x, NameKind.free) ∈ scope.names → env.kindOf x = some .cell ∧ ∃ c, env.cells.lookup x = some c)
    (h : Wp w A (eval iter env) (CompK w A B env own m (fun D => upd m y (.ref D)) mu elt target ifs scope (RestK w A env rest Q E) E) E s)
    (hsw : swapsWith (.ListComp elt [⟨target, iter, ifs, 0⟩] scope pos) (some (.Name y py)) spos.line env = Pure.pure true := by kernel_rfl)
    (hs : ∀ x, foldedSetIterable iter env x = Pure.pure x := by intro _; rfl) :
    Wp w A (execs (.Assign [.Name y py] (.ListComp elt [⟨target, iter, ifs, 0⟩] scope pos) spos :: rest) env) Q E s :=
  ⟨wpAny_execs_cons (r_acomp H hsw hy hsc hfree (un h fun _ _ q => un q fun _ _ q => by obtain ⟨I, n, P, z₁, a, b, c, d, Rr, e, f, g⟩ := q; exact ⟨I, n, P, z₁, a, b, c, d, Rr, e, f.to, fun z' s' D ys opts h1 h2 h3 h4 h5 => (g z' s' D ys opts h1 h2 h3 h4 h5).out⟩) hs)⟩

noncomputable def FTurnW (w : World) (A : Around) (env : Env) (own : List Addr) (target : Expr) (body : List Stmt) (n : Nat) (P : Nat → Value → Heap → Prop) (J : Nat → PM → (Str → Option Value) → List (Addr × MO) → Prop) : Prop :=
  ∀ i v z₁ m₁ mu₁ B₁ s₁ (E' : Value → Shared → Prop), i < n → P i v s₁.heap → J i z₁ m₁ mu₁ → W w B₁ z₁ env own m₁ mu₁ s₁ →
    Wp w A (assign target env v) (fun _ s₂ => Wp w A (execs body env) (fun f s₃ => (f = .next ∨ f = .cont) ∧ ∃ z₂ m₂ mu₂, W w B₁ z₂ env own m₂ mu₂ s₃ ∧ Le z₁ z₂ ∧ J (i + 1) z₂ m₂ mu₂) E' s₂) E' s₁

noncomputable abbrev ForK2 (w : World) (A : Around) (B : Bs) (env : Env) (own : List Addr) (m : Str → Option Value) (mu : List (Addr × MO)) (target : Expr) (body rest : List Stmt) (Q : Flow → Shared → Prop) (E : Value → Shared → Prop) : Value → Shared → Prop := fun it s₂ => ∃ I n P z₁, it = .ref I ∧ W w B z₁ env own m mu s₂ ∧ It w A B z₁ own mu s₂ target I n P ∧
      ∃ J : Nat → PM → (Str → Option Value) → List (Addr × MO) → Prop, J 0 z₁ m mu ∧ FTurnW w A env own target body n P J ∧ ∀ z' m' mu' s', W w B z' env own m' mu' s' → J n z' m' mu' → Wp w A (execs rest env) Q E s'
noncomputable abbrev ForK (w : World) (A : Around) (B : Bs) (env : Env) (own : List Addr) (m : Str → Option Value) (mu : List (Addr × MO)) (target : Expr) (body rest : List Stmt) (Q : Flow → Shared → Prop) (E : Value → Shared → Prop) : Value → Shared → Prop := fun xv s₁ =>
    Wp w A (pyIter xv) (ForK2 w A B env own m mu target body rest Q E) E s₁
theorem forI {A : Around} {E : Value → Shared → Prop} {target : Expr} {z₁ : PM} {s₂ : Shared} {I : Addr} {n : Nat} {P : Nat → Value → Heap → Prop} {body rest : List Stmt} {Q : Flow → Shared → Prop} (H : W w B z₁ env own m mu s₂) (IT : It w A B z₁ own mu s₂ target I n P)
    (J : Nat → PM → (Str → Option Value) → List (Addr × MO) → Prop) (h0 : J 0 z₁ m mu) (turn : FTurnW w A env own target body n P J) (fin : ∀ z' m' mu' s', W w B z' env own m' mu' s' → J n z' m' mu' → Wp w A (execs rest env) Q E s') :
    ForK2 w A B env own m mu target body rest Q E (.ref I) s₂ := ⟨I, n, P, z₁, rfl, H, IT, J, h0, turn, fin⟩
theorem post {α : Type} {A : Around} {t : Sem α} {Q : α → Shared → Prop} (h : ∀ Q₀ : α → Shared → Prop, (∀ a s', Q a s' → Q₀ a s') → Wp w A t Q₀ E s) : Wp w A t Q E s := h Q fun _ _ q => q
theorem turnQ {target : Expr} {body : List Stmt} {v : Value} {Q : Flow → Shared → Prop} (h : ∀ Q₀ : Flow → Shared → Prop, (∀ a s', Q a s' → Q₀ a s') → Wp w A (assign target env v) (RestK w A env body Q₀ E) E s) :
    Wp w A (assign target env v) (fun _ s₂ => Wp w A (execs body env) Q E s₂) E s := h Q fun _ _ q => q
noncomputable abbrev EltK (w : World) (A : Around) (cenv : Env) (elt : Expr) (Q : Value → Shared → Prop) (E : Value → Shared → Prop) : Unit → Shared → Prop := fun _ s => Wp w A (eval elt cenv) Q E s
theorem turnC {cenv : Env} {target elt : Expr} {v : Value} {Q : Value → Shared → Prop} {N : Shared → Prop} (h : ∀ Q₀ : Value → Shared → Prop, (∀ a s', Q a s' → Q₀ a s') → Wp w A (assign target cenv v) (EltK w A cenv elt Q₀ E) E s) :
    Wp w A (assign target cenv v) (fun _ s₃ => Wp w A (testAll [] cenv) (fun ok s₄ => (ok = true → Wp w A (eval elt cenv) Q E s₄) ∧ (ok = false → N s₄)) E s₃) E s :=
  (h Q fun _ _ q => q).mono fun _ _ q => g_tests0 ⟨fun _ => q, fun q => (nomatch q)⟩
theorem x_for {target iter : Expr} {body rest : List Stmt} {pos : Pos} {Q : Flow → Shared → Prop} (H : W w B z env own m mu s)
    (h : Wp w A (eval iter env) (ForK w A B env own m mu target body rest Q E) E s)
    (hs : ∀ x, foldedSetIterable iter env x = Pure.pure x := by intro _; rfl) : Wp w A (execs (.For target iter body [] pos :: rest) env) Q E s :=
  ⟨wpAny_execs_cons (r_for H (un h fun _ _ q => un q fun _ _ q => by
    obtain ⟨I, n, P, z₁, a, b, c, J, d, e, f⟩ := q
    exact ⟨I, n, P, z₁, a, b, c, J, d, fun i v z₁ m₁ mu₁ B₁ s₁ E' h1 h2 h3 h4 => un2 (e i v z₁ m₁ mu₁ B₁ s₁ E' h1 h2 h3 h4), fun z' m' mu' s' h1 h2 => (f z' m' mu' s' h1 h2).out⟩) (Around.mark_none A) hs)⟩


/-! a name is bound: what the table tells now, by a new name of its own -/
theorem x_storeG {x : Str} {v : Value} {Q : Unit → Shared → Prop} (H : W w B z env own m mu s) (hv : SVar env own x)
    (h : ∀ m', (∀ y u, y ≠ x → m y = u → m' y = u) → m' x = some v → ∀ s', W w B z env own m' mu s' → Q () s') : Wp w A (storeName env x v) Q E s :=
  x_store H hv (h _ (fun _ _ a b => upd_get a b) (upd_self _ _ _))
theorem x_assignG {x : Str} {px : Pos} {v : Value} {Q : Unit → Shared → Prop} (H : W w B z env own m mu s) (hv : SVar env own x)
    (h : ∀ m', (∀ y u, y ≠ x → m y = u → m' y = u) → m' x = some v → ∀ s', W w B z env own m' mu s' → Q () s') : Wp w A (assign (.Name x px) env v) Q E s :=
  x_assignN H hv (h _ (fun _ _ a b => upd_get a b) (upd_self _ _ _))

theorem W.named {x : Str} {v : Value} (H : W w B z env own (upd m x v) mu s) : ∃ m', (∀ y u, y ≠ x → m y = u → m' y = u) ∧ m' x = some v ∧ W w B z env own m' mu s := ⟨_, fun _ _ a b => upd_get a b, upd_self _ _ _, H⟩

/-- the room that the top and the frozen part give -/
structure Sit (w : World) (z : PM) (s : Shared) : Prop where
  gd : Gd w s.heap
  zin : ∀ a o, z a = some o → s.heap.get? a = some o
theorem W.sit (H : W w B z env own m mu s) : Sit w z s := ⟨H.gd', H.zin⟩

theorem go {f : Addr} {name : Str} {args : List Str} {body : List Stmt} {scope : Scope} {vs : List Value} {k : Nat} {Q : Value → Shared → Prop}
    (FA : FnAt w f name args body scope) (G : Sit w z s) (R : Rm A (k + 1)) (hn : vs.length = args.length)
    (h : ∀ A' env own m s', Rm A' k → W w (Bs.of z s) z env own m [] s' → (∀ x, scope.names.lookup x = some .local ∨ scope.names.lookup x = some .cell → SVar env own x) →
      (∀ x, scope.names.lookup x = some .globalImplicit → env.kindOf x = some .globalImplicit) → (∀ q ∈ args.zip vs, m q.1 = some q.2) → env.scope = scope →
      Wp w A' (execs body env) (fun fl s'' => Q (match fl with | .ret v => v | _ => .none) s'') (fun _ _ => False) s') :
    Wp w A (call (.ref f) vs) Q E s := ⟨enter FA G.gd G.zin R hn fun A' env own m s' h1 h2 h3 h4 h5 h6 => (h A' env own m s' h1 h2 h3 h4 h5 h6).out⟩
theorem W.back {z₀ : PM} {s₀ : Shared} (G : Sit w z₀ s₀) (H : W w (Bs.of z₀ s₀) z env own m mu s) : Nx z₀ s₀ z s := H.out G.zin
end
end Mine
end
section
open PySem PySem.W PySem.Calls PyProof.Rows PySem.Spec
set_option Elab.async false
set_option maxRecDepth 100000
namespace Mine
section
variable {w : World} {B : Bs} {z z' : PM} {env : Env} {own : List Addr} {m m' : Str → Option Value} {mu mu' : List (Addr × MO)} {s s' s₀ : Shared} {A : Around} {E : Value → Shared → Prop} {k : Nat} {xs : List Addr}

theorem d_eqI {a b : Int} {t u : Tok} {Q : Value → Shared → Prop} (h : Q (.bool (a == b)) s) : Wp w A (compareOp .Eq (.int a t) (.int b u)) Q E s := ⟨eq_int h⟩
theorem natEq {a b : Nat} : ((a : Int) == (b : Int)) = (a == b) := by rw [Bool.eq_iff_iff]; simp; exact Mine.om33
theorem d_eqN {a b : Nat} {t u : Tok} {Q : Value → Shared → Prop} (h : Q (.bool (a == b)) s) : Wp w A (compareOp .Eq (.int (a : Int) t) (.int (b : Int) u)) Q E s := ⟨eq_int (by rw [natEq]; exact h)⟩
theorem d_neI {a b : Int} {t u : Tok} {Q : Value → Shared → Prop} (h : Q (.bool (a != b)) s) : Wp w A (compareOp .NotEq (.int a t) (.int b u)) Q E s := ⟨ne_int h⟩

/-- a list display, mutable -/
theorem e_listM {elts : List Expr} {pos : Pos} {Q : Value → Shared → Prop} (_ : W w B z env own m mu s)
    (h : Wp w A (spliced (backTo pos (starEach elts env))) (fun vs s₁ => vs.length ≤ sizeLine ∧ ∃ z₁ m₁ mu₁, W w B z₁ env own m₁ mu₁ s₁ ∧ ∀ a s₂, W w B z₁ env own m₁ ((a, .lst vs.toArray) :: mu₁) s₂ → Q (.ref a) s₂) E s) :
    Wp w A (eval (.List elts pos) env) Q E s :=
  ⟨wpAny_List_spliced (un h fun vs s₁ q => ⟨q.1, by
    obtain ⟨_, z₁, m₁, mu₁, H, q⟩ := q
    exact q _ _ (H.pushM rfl rfl rfl ⟨_, Heap.get?_push_size _ rfl⟩)⟩)⟩
theorem e_nilM {pos : Pos} {Q : Value → Shared → Prop} (H : W w B z env own m mu s) (h : ∀ a s₂, W w B z env own m ((a, .lst #[]) :: mu) s₂ → Q (.ref a) s₂) : Wp w A (eval (.List [] pos) env) Q E s :=
  e_listM H (a_nil ⟨Nat.zero_le _, z, m, mu, H, h⟩)
/-- one, frozen -/
theorem e_listZ {elts : List Expr} {pos : Pos} {Q : Value → Shared → Prop} (_ : W w B z env own m mu s)
    (h : Wp w A (spliced (backTo pos (starEach elts env))) (fun vs s₁ => vs.length ≤ sizeLine ∧ ∃ z₁ m₁ mu₁, W w B z₁ env own m₁ mu₁ s₁ ∧ ∀ a z₂ s₂, Le z₁ z₂ → IsL z₂ a vs.toArray → W w B z₂ env own m₁ mu₁ s₂ → Q (.ref a) s₂) E s) :
    Wp w A (eval (.List elts pos) env) Q E s :=
  ⟨wpAny_List_spliced (un h fun vs s₁ q => ⟨q.1, by
    obtain ⟨_, z₁, m₁, mu₁, H, q⟩ := q
    exact q _ _ _ (PM.put_le H.none_size.1) ⟨_, PM.put_self _ _ _⟩ (H.pushZ rfl rfl rfl rfl)⟩)⟩
theorem e_tupZ {elts : List Expr} {n : _} {pos : Pos} {Q : Value → Shared → Prop} (_ : W w B z env own m mu s)
    (h : Wp w A (spliced (backTo pos (starEach elts env))) (fun vs s₁ => vs.length ≤ sizeLine ∧ ∃ z₁ m₁ mu₁, W w B z₁ env own m₁ mu₁ s₁ ∧ ∀ a z₂ s₂, Le z₁ z₂ → IsT z₂ a vs.toArray → W w B z₂ env own m₁ mu₁ s₂ → Q (.ref a) s₂) E s) :
    Wp w A (eval (.Tuple elts n pos) env) Q E s :=
  ⟨wpAny_Tuple_spliced (un h fun vs s₁ q => ⟨q.1, by
    obtain ⟨_, z₁, m₁, mu₁, H, q⟩ := q
    exact q _ _ _ (PM.put_le H.none_size.1) ⟨_, PM.put_self _ _ _⟩ (H.pushZ rfl rfl rfl rfl)⟩)⟩

theorem W.plainAt (H : W w B z env own m mu s) {i : Nat} {a : Addr} {vs : Array Value} (hi : mu[i]? = some (a, .lst vs)) : s.heap.PlainList a vs := (H.muo _ (List.mem_of_getElem? hi)).1

theorem W.inter (H : W w B z env own m mu s) : interactive env = false := by unfold interactive; rw [H.fn]; rfl
/-- l.append(e) -/
theorem x_append {l : Str} {pl pa pc pos : Pos} {e : Expr} {rest : List Stmt} {Q : Flow → Shared → Prop} {a : Addr} (i₀ : Nat) {vs₀ : Array Value} (H : W w B z env own m mu s) (hv : Var env l) (hm : m l = some (.ref a)) (hi₀ : mu[i₀]? = some (a, .lst vs₀))
    (h : Wp w A (eval e env) (fun v s₁ => ∃ z₁ m₁ mu₁ i vs, W w B z₁ env own m₁ mu₁ s₁ ∧ mu₁[i]? = some (a, .lst vs) ∧ vs.size ≤ sizeLine ∧ ∀ s', W w B z₁ env own m₁ (mu₁.set i (a, .lst (vs.push v))) s' → Wp w A (execs rest env) Q E s') E s)
    (hs : swapsWith (.Call (.Attribute (.Name l pl) "append" pa) [e] [] pc) none pos.line env = Pure.pure false := by kernel_rfl)
    (hev : eval (.Call (.Attribute (.Name l pl) "append" pa) [e] [] pc) env = (do
      let ov ← eval (.Name l pl) env
      standAt pa.atName
      let (f, first) ← holding [ov] (getMethod ov "append" (do return (← importBound (.Name l pl) env).getD true))
      callWith pc f first (backTo pc (starEach [e] env)) []) := by kernel_rfl)
    (he : starEach [e] env = (false, eval e env) :: starEach [] env := by kernel_rfl)
    (hd : (l == ("__debug__" : Str)) = false := by kernel_rfl) (hn : (l == ("__classdict__" : Str)) = false := by kernel_rfl) :
    Wp w A (execs (.Expr (.Call (.Attribute (.Name l pl) "append" pa) [e] [] pc) pos :: rest) env) Q E s := by
  refine x_expr (e_meth (e_var H hv hm ⟨?_⟩ hd hn) hev he (by rfl)) H.inter hs
  obtain ⟨n, ho⟩ := H.plainAt hi₀
  refine getMethod_list_append ho rfl rfl ⟨_, _, rfl, a_one (h.mono fun v s₁ q => ?_) he⟩
  obtain ⟨z₁, m₁, mu₁, i, vs, H₁, hi, hsz, q⟩ := q
  refine ⟨wpAny_list_append_plain (H₁.plainAt hi) (fun h' hl hs => ⟨rfl, q _ (H₁.chg i hi hl hs rfl rfl)⟩) hsz⟩

theorem mapSeq_appP (its its2 : Array Value) (n : Nat) : Obj.mapSeq (fun x => x ++ its2) { cls := .type "list", data := .seq its n } = { cls := .type "list", data := .seq (its ++ its2) (if (its ++ its2).size == its.size then n else n + 1) } := rfl
/-- l.extend(e), e a list -/
theorem x_extend {l : Str} {pl pa pc pos : Pos} {e : Expr} {rest : List Stmt} {Q : Flow → Shared → Prop} {a : Addr} (i₀ : Nat) {vs₀ : Array Value} (H : W w B z env own m mu s) (hv : Var env l) (hm : m l = some (.ref a)) (hi₀ : mu[i₀]? = some (a, .lst vs₀))
    (h : Wp w A (eval e env) (fun v s₁ => ∃ b z₁ m₁ mu₁ i vs us, v = .ref b ∧ W w B z₁ env own m₁ mu₁ s₁ ∧ mu₁[i]? = some (a, .lst vs) ∧ IsL z₁ b us ∧ vs.size + us.size ≤ sizeLine ∧ ∀ s', W w B z₁ env own m₁ (mu₁.set i (a, .lst (vs ++ us))) s' → Wp w A (execs rest env) Q E s') E s)
    (hs : swapsWith (.Call (.Attribute (.Name l pl) "extend" pa) [e] [] pc) none pos.line env = Pure.pure false := by kernel_rfl)
    (hev : eval (.Call (.Attribute (.Name l pl) "extend" pa) [e] [] pc) env = (do
      let ov ← eval (.Name l pl) env
      standAt pa.atName
      let (f, first) ← holding [ov] (getMethod ov "extend" (do return (← importBound (.Name l pl) env).getD true))
      callWith pc f first (backTo pc (starEach [e] env)) []) := by kernel_rfl)
    (he : starEach [e] env = (false, eval e env) :: starEach [] env := by kernel_rfl)
    (hd : (l == ("__debug__" : Str)) = false := by kernel_rfl) (hn : (l == ("__classdict__" : Str)) = false := by kernel_rfl) :
    Wp w A (execs (.Expr (.Call (.Attribute (.Name l pl) "extend" pa) [e] [] pc) pos :: rest) env) Q E s := by
  refine x_expr (e_meth (e_var H hv hm ⟨?_⟩ hd hn) hev he (by rfl)) H.inter hs
  have hp := H.plainAt hi₀
  refine getMethod_list_of PySem.F.slot_list_extend PySem.F.type_list_extend hp.isList (let ⟨n, e⟩ := hp; ⟨_, e, rfl⟩) ⟨_, _, rfl, a_one (h.mono fun v s₁ q => ?_) he⟩
  obtain ⟨b, z₁, m₁, mu₁, i, vs, us, rfl, H₁, hi, hb, hsz, q⟩ := q
  obtain ⟨n, ho⟩ := H₁.plainAt hi
  obtain ⟨n2, hob⟩ := hb.plain H₁
  refine ⟨call_meets PySem.F.slot_list_extend ⟨_, ho, rfl⟩ PySem.F.entry_list_extend (PySem.F.args_list_extend_2 _ _) (AutoSeq1.list_extend_list_list_0 a vs n b us n2 (extend_door hsz) (Nat.le_trans (Nat.le_add_right _ _) hsz)) ⟨ho, hob, rfl, ?_⟩⟩
  refine q _ (H₁.chg i (y := .lst (vs ++ us)) hi ⟨if (vs ++ us).size == vs.size then n else n + 1, ?_⟩ (Heap.SameBut.update ..) rfl rfl)
  rw [Heap.get?_update_self _ ho (by rw [mapSeq_appP]; rfl), mapSeq_appP]
end
end Mine
end
section
open PySem PySem.W PySem.Calls PyProof.Rows PySem.Spec PySem.Builtin PySem.Builtin.Str
set_option Elab.async false
set_option maxRecDepth 100000
namespace Mine
section
variable {w : World} {B : Bs} {z z' : PM} {env : Env} {own : List Addr} {m m' : Str → Option Value} {mu mu' : List (Addr × MO)} {s s' s₀ : Shared} {A : Around} {E : Value → Shared → Prop} {k : Nat} {xs : List Addr}

/-! methods of str -/
section
variable {x y : Str} {t u : Tok} {pl : Sem Bool} {Q : Value × List Value → Shared → Prop}
theorem gm_replace (h : Q (.builtin "str.replace", [.str x t]) s) : Wp w A (getMethod (.str x t) "replace" pl) Q E s := .mk (@GM.replace (model prg w) A E s x t pl Q h)
theorem gm_rstrip (h : Q (.builtin "str.rstrip", [.str x t]) s) : Wp w A (getMethod (.str x t) "rstrip" pl) Q E s := .mk (@GM.rstrip (model prg w) A E s x t pl Q h)
theorem gm_lstrip (h : Q (.builtin "str.lstrip", [.str x t]) s) : Wp w A (getMethod (.str x t) "lstrip" pl) Q E s := .mk (@GM.lstrip (model prg w) A E s x t pl Q h)
theorem gm_strip (h : Q (.builtin "str.strip", [.str x t]) s) : Wp w A (getMethod (.str x t) "strip" pl) Q E s := .mk (@GM.strip (model prg w) A E s x t pl Q h)
theorem gm_rfind (h : Q (.builtin "str.rfind", [.str x t]) s) : Wp w A (getMethod (.str x t) "rfind" pl) Q E s := .mk (@GM.rfind (model prg w) A E s x t pl Q h)
theorem gm_split (h : Q (.builtin "str.split", [.str x t]) s) : Wp w A (getMethod (.str x t) "split" pl) Q E s := .mk (@GM.split (model prg w) A E s x t pl Q h)
theorem gm_join (h : Q (.builtin "str.join", [.str x t]) s) : Wp w A (getMethod (.str x t) "join" pl) Q E s := .mk (@GM.join (model prg w) A E s x t pl Q h)
end
section
variable {x y : Str} {t u v : Tok} {Q : Value → Shared → Prop}
/-- a str's method with arguments -/
theorem e_sm {o e : Expr} {name : Str} {apos pos : Pos} {rest : List Expr} {pl : Sem Bool} (id : String)
    (h : Wp w A (eval o env) (fun ov s₁ => ∃ x t, ov = .str x t ∧ Wp w A (spliced (backTo pos (starEach (e :: rest) env))) (fun vs s₃ => Wp w A (call (.builtin id) (.str x t :: vs)) Q E s₃) E s₁) E s)
    (g : ∀ (x : Str) (t : Tok) (s : Shared) (Q : Value × List Value → Shared → Prop), Q (.builtin id, [.str x t]) s → Wp w A (getMethod (.str x t) name pl) Q E s)
    (he : eval (.Call (.Attribute o name apos) (e :: rest) [] pos) env = (do
      let ov ← eval o env
      standAt apos.atName
      let (f, first) ← holding [ov] (getMethod ov name pl)
      callWith pos f first (backTo pos (starEach (e :: rest) env)) []) := by rfl)
    (hs : starEach (e :: rest) env = (false, eval e env) :: starEach rest env := by kernel_rfl) (hplain : (backTo pos (starEach rest env)).any (·.1) = false := by kernel_rfl) :
    Wp w A (eval (.Call (.Attribute o name apos) (e :: rest) [] pos) env) Q E s :=
  e_meth (h.mono fun ov s₁ q => by
    obtain ⟨x, t, rfl, q⟩ := q
    exact g x t s₁ _ ⟨id, _, rfl, q⟩) he hs hplain
theorem e_meth0 {o : Expr} {name : Str} {apos pos : Pos} {pl : Sem Bool}
    (h : Wp w A (eval o env) (fun ov s₁ => Wp w A (getMethod ov name pl) (fun fx s₂ => ∃ id first, fx = (.builtin id, first) ∧ Wp w A (call (.builtin id) first) Q E s₂) E s₁) E s)
    (he : eval (.Call (.Attribute o name apos) [] [] pos) env = (do
      let ov ← eval o env
      standAt apos.atName
      let (f, first) ← holding [ov] (getMethod ov name pl)
      callWith pos f first (backTo pos (starEach [] env)) []) := by rfl) : Wp w A (eval (.Call (.Attribute o name apos) [] [] pos) env) Q E s :=
  ⟨MethodCall_ (un h fun _ _ q => un q fun _ _ q => by
    obtain ⟨id, first, rfl, q⟩ := q
    exact callWith_method0 q.out) he⟩

theorem c_strip (H : W w B z env own m mu s) (hsz : x.length ≤ sizeLine) (h : ∀ t' s', W w B z env own m mu s' → Q (.str (Txt.strip x) t') s') : Wp w A (call (.builtin "str.strip") [.str x t]) Q E s := ⟨SC.strip (fun t' k => h t' _ (H.same rfl rfl rfl)) hsz⟩
theorem c_rstrip (H : W w B z env own m mu s) (hsz : x.length ≤ sizeLine) (h : ∀ t' s', W w B z env own m mu s' → Q (.str (Txt.rstripChars x y) t') s') : Wp w A (call (.builtin "str.rstrip") [.str x t, .str y u]) Q E s :=
  ⟨SC.rstripChars (fun t' k => h t' _ (H.same rfl rfl rfl)) hsz⟩
theorem c_lstrip (H : W w B z env own m mu s) (hsz : x.length ≤ sizeLine) (h : ∀ t' s', W w B z env own m mu s' → Q (.str (Txt.lstripChars x y) t') s') : Wp w A (call (.builtin "str.lstrip") [.str x t, .str y u]) Q E s :=
  ⟨SC.lstripChars (fun t' k => h t' _ (H.same rfl rfl rfl)) hsz⟩
theorem c_rfind (H : W w B z env own m mu s) (h : ∀ t' s', W w B z env own m mu s' → Q (.int (Txt.rfind x y) t') s') : Wp w A (call (.builtin "str.rfind") [.str x t, .str y u]) Q E s :=
  ⟨SC.rfind (h _ _ (H.same rfl rfl rfl))⟩
/-- joined texts of a list -/
theorem strVals {zz : PM} : ∀ {vs : List Value} {texts : List Str}, All2 (Rstr zz) vs texts → ∃ l : List (Str × Tok), vs = strValues l ∧ l.map (·.1) = texts
  | [], [], _ => ⟨[], rfl, rfl⟩
  | v :: vs, x :: texts, h => by
    obtain ⟨⟨t, rfl⟩, h2⟩ := h
    obtain ⟨l, rfl, rfl⟩ := strVals h2
    exact ⟨(x, t) :: l, rfl, rfl⟩
theorem c_join {lv : Value} {texts : List Str} (H : W w B z env own m mu s) (hl : Rlist Rstr z lv texts) (hok : JoinOk x texts = true) (h : ∀ t' s', W w B z env own m mu s' → Q (.str (Txt.join x texts) t') s') :
    Wp w A (call (.builtin "str.join") [.str x t, lv]) Q E s := by
  obtain ⟨a, vs, rfl, hl, hv⟩ := hl
  obtain ⟨l, e, rfl⟩ := strVals hv
  have : vs = (strValues l).toArray := by rw [← e]
  subst this
  exact ⟨SC.join (hl.at H) rfl hok fun t' k => h t' _ (H.same rfl rfl rfl)⟩

/-- x.split(y, k) -/
theorem all2_vals {zz : PM} : ∀ l : List (Str × Tok), All2 (Rstr zz) (strValues l) (l.map (·.1))
  | [] => trivial
  | (x, t) :: r => ⟨⟨t, rfl⟩, all2_vals r⟩
theorem c_split {k : Int} (H : W w B z env own m mu s) (hy : (y.length == 0) = false) (hk : (decide (k < -(2 ^ 63 : Int)) || decide (k ≥ 2 ^ 63)) = false) (hsz : x.length + 2 ≤ sizeLine)
    (h : ∀ r z' s', Le z z' → W w B z' env own m mu s' → Rlist Rstr z' r (Txt.splitMax x y k) → Q r s') : Wp w A (call (.builtin "str.split") [.str x t, .str y u, .int k v]) Q E s := by
  have hn : (partsBetween x (occurrences x y 0 x.length (limitOf x k)) y.length).length ≤ sizeLine := by
    have e1 := StrLaws.occ_length_le_len x y 0 x.length (limitOf x k)
    rw [length_partsBetween]; exact Mine.om35 hsz e1
  have h' : ∀ (l : List (Str × Tok)) tk, l.map (·.1) = Txt.splitMax x y k → Q (.ref s.heap.objs.size) { s with heap := s.heap.push { cls := .type "list", data := .seq (strValues l).toArray }, toks := tk } := fun l tk e =>
    h _ _ _ (PM.put_le H.none_size.1) (H.pushZ (s' := { s with heap := s.heap.push { cls := .type "list", data := .seq (strValues l).toArray }, toks := tk }) rfl rfl rfl rfl) ⟨_, _, rfl, ⟨_, PM.put_self _ _ _⟩, e ▸ all2_vals l⟩
  refine ⟨?_⟩
  cases h1 : (decide (x.length < y.length) || decide (strKind x < strKind y))
  · cases hf : (occurrences x y 0 x.length (limitOf x k)).isEmpty
    · refine call_meets F.slot_str_split (typeIs_str _ _ _) F.entry_str_split (F.args_str_split_3 _ _ _) (meets_str_split_sep_max x y k t u v hk h1 hy hf (by exact Mine.om34 hsz) hn) ?_
      show wants Q E _ { s with toks := _, heap := s.heap.push { cls := .type "list", data := .seq (strsFrom s.toks (partsBetween x (occurrences x y 0 x.length (limitOf x k)) y.length)).toArray } }
      rw [strsFrom_eq]
      exact h' (numbered s.toks _) _ ((numbered_texts _ _).trans ((if_neg (ne_true_of_eq_false h1)).trans (if_neg (ne_true_of_eq_false hf))).symm)
    · exact call_meets F.slot_str_split (typeIs_str _ _ _) F.entry_str_split (F.args_str_split_3 _ _ _) (meets_str_split_max_not_found x y k t u v hk h1 hy hf)
        (h' [(x, t)] s.toks ((if_neg (ne_true_of_eq_false h1)).trans (if_pos hf)).symm)
  · exact call_meets F.slot_str_split (typeIs_str _ _ _) F.entry_str_split (F.args_str_split_3 _ _ _) (meets_str_split_max_cannot_occur x y k t u v hk h1)
      (h' [(x, t)] s.toks (if_pos h1).symm)

theorem x_toks {α : Type} {t : Sem α} {Q : α → Shared → Prop} (n : Nat) (hn : n ≤ s.toks) (h : Wp w A t (fun a s' => n ≤ s'.toks → Q a s') E s) : Wp w A t Q E s := .mk (wpAny_with_toks hn (wpAny_mono h.out (fun _ _ q => q) fun _ _ e _ => e))
theorem c_replace {q : Tok} {v : Str} (H : W w B z env own m mu s) (hu : u ≠ 0) (hv : q ≠ 0) (huv : u ≠ q) (hyz : (y == v) = false) (hb : x.length + (x.length + 1) * v.length ≤ 16777216)
    (h : ∀ t' s', W w B z env own m mu s' → s.toks ≤ s'.toks → Q (.str (Txt.replace x y v) t') s') : Wp w A (call (.builtin "str.replace") [.str x t, .str y u, .str v q]) Q E s :=
  x_toks s.toks (Nat.le_refl _) (.mk (SC.replace hu hv huv hyz hb (fun t' k => h t' _ (H.same (s' := { s with toks := k }) rfl rfl rfl))))
/-! operators -/
theorem d_eqS (h : Q (.bool (x == y)) s) : Wp w A (compareOp .Eq (.str x t) (.str y u)) Q E s := ⟨PyProof.Rows.eq_str h⟩
theorem d_neS (h : Q (.bool (x != y)) s) : Wp w A (compareOp .NotEq (.str x t) (.str y u)) Q E s := ⟨PyProof.Rows.ne_str h⟩
end
end
end Mine
end
section
open PySem PySem.W PySem.Calls PyProof.Rows PySem.Spec
set_option Elab.async false
set_option maxRecDepth 100000
namespace Mine
/-- values that are data -/
structure Dat {α : Type} (R : Rep α) (f : α → PyData) (V : α → Prop) (d : Nat) : Prop where
  rd : ∀ (z : PM) (h : Heap) v x, (∀ a o, z a = some o → h.get? a = some o) → R z v x → ∃ as, Reads h v (f x) as
  lay : ∀ x, V x → (f x).canLay0 = true
  dep : ∀ x, (f x).depth ≤ d
  eq : ∀ x y, PyData.eqv (f x) (f y) = true ↔ x = y
theorem dat_nat : Dat Rnat (fun n => .int n) (fun _ => True) 0 := ⟨fun _ _ _ _ _ ⟨_, e⟩ => e ▸ ⟨_, .int _ _⟩, fun _ _ => rfl, fun _ => Nat.le_refl _, fun x y => by simp [PyData.eqv]; exact Mine.om33⟩
theorem dat_str : Dat Rstr .str (fun x => PyData.strOk x = true) 0 := ⟨fun _ _ _ _ _ ⟨_, e⟩ => e ▸ ⟨_, .str _ _⟩, fun _ h => by simp only [PyData.canLay0]; exact h, fun _ => Nat.le_refl _, fun x y => by simp [PyData.eqv]⟩
theorem readsAll_of {α : Type} {R : Rep α} {f : α → PyData} {V : α → Prop} {d : Nat} (D : Dat R f V d) {z : PM} {h : Heap} (hz : ∀ a o, z a = some o → h.get? a = some o) : ∀ {vs : List Value} {xs : List α}, All2 (R z) vs xs → ∃ as, ReadsAll h vs (xs.map f) as
  | [], [], _ => ⟨_, .nil⟩
  | _ :: _, _ :: _, q => let ⟨_, a⟩ := D.rd z h _ _ hz q.1; let ⟨_, b⟩ := readsAll_of D hz q.2; ⟨_, .cons a b⟩
theorem eqvAll_of {α : Type} {R : Rep α} {f : α → PyData} {V : α → Prop} {d : Nat} (D : Dat R f V d) : ∀ xs ys : List α, PyData.eqvAll (xs.map f) (ys.map f) = true ↔ xs = ys
  | [], [] => by simp [PyData.eqvAll]
  | [], _ :: _ => by simp [PyData.eqvAll]
  | _ :: _, [] => by simp [PyData.eqvAll]
  | x :: xs, y :: ys => by simp [PyData.eqvAll, D.eq x y, eqvAll_of D xs ys]
theorem layAll_of {α : Type} {R : Rep α} {f : α → PyData} {V : α → Prop} {d : Nat} (D : Dat R f V d) : ∀ xs : List α, (∀ x ∈ xs, V x) → PyData.canLayAll0 (xs.map f) = true
  | [], _ => rfl
  | x :: xs, h => by simp [PyData.canLayAll0, D.lay x (h x (.head _)), layAll_of D xs fun y hy => h y (.tail _ hy)]
theorem depAll_of {α : Type} {R : Rep α} {f : α → PyData} {V : α → Prop} {d : Nat} (D : Dat R f V d) : ∀ xs : List α, PyData.depthAll (xs.map f) ≤ d
  | [] => by simp [PyData.depthAll]
  | x :: xs => by
    have h1 := D.dep x
    have h2 := depAll_of D xs
    simp only [List.map_cons, PyData.depthAll]
    exact Mine.om41 h1 h2
theorem dat_list {α : Type} {R : Rep α} {f : α → PyData} {V : α → Prop} {d : Nat} (D : Dat R f V d) : Dat (Rlist R) (fun xs => .list (xs.map f)) (fun xs => ∀ x ∈ xs, V x) (d + 1) where
  rd := fun z h v xs hz q => by
    obtain ⟨a, vs, rfl, ⟨n, e⟩, q⟩ := q
    obtain ⟨as, r⟩ := readsAll_of D hz q
    exact ⟨_, .list (hz _ _ e) rfl rfl r⟩
  lay := fun xs h => by simp only [PyData.canLay0]; exact layAll_of D xs h
  dep := fun xs => by
    have := depAll_of D xs
    simp only [PyData.depth]; exact Mine.om40 this
  eq := fun xs ys => by simp only [PyData.eqv]; exact eqvAll_of D xs ys
theorem dat_pair {α β : Type} {R : Rep α} {S : Rep β} {f : α → PyData} {g : β → PyData} {V : α → Prop} {V' : β → Prop} {d e : Nat} (D : Dat R f V d) (D' : Dat S g V' e) : Dat (Rpair R S) (fun p => .tuple [f p.1, g p.2]) (fun p => V p.1 ∧ V' p.2) (max d e + 1) where
  rd := fun z h v x hz q => by
    obtain ⟨a, u, y, rfl, ⟨n, e⟩, q, q'⟩ := q
    obtain ⟨_, r⟩ := D.rd z h _ _ hz q
    obtain ⟨_, r'⟩ := D'.rd z h _ _ hz q'
    exact ⟨_, .tuple (hz _ _ e) rfl rfl (.cons r (.cons r' .nil))⟩
  lay := fun x h => by simp [PyData.canLay0, PyData.canLayAll0, D.lay _ h.1, D'.lay _ h.2]
  dep := fun x => by
    have := D.dep x.1
    have := D'.dep x.2
    simp only [PyData.depth, PyData.depthAll]; exact Mine.om39 (by assumption) this
  eq := fun x y => by
    obtain ⟨a, b⟩ := x; obtain ⟨c, e⟩ := y
    simp [PyData.eqv, PyData.eqvAll, D.eq, D'.eq]

section
variable {w : World} {B : Bs} {z z' : PM} {env : Env} {own : List Addr} {m m' : Str → Option Value} {mu mu' : List (Addr × MO)} {s s' s₀ : Shared} {A : Around} {E : Value → Shared → Prop} {k : Nat} {xs : List Addr}
theorem shaped_of {α : Type} {R : Rep α} {f : α → PyData} {V : α → Prop} {d : Nat} (D : Dat R f V d) (hd : d ≤ 64) {x : α} (hx : V x) : PySem.SeqAt.shaped (f x) = true := by
  have := D.dep x
  simp [PySem.SeqAt.shaped, D.lay x hx]; exact Mine.om38 hd this
theorem d_eqD {α : Type} {R : Rep α} {f : α → PyData} {V : α → Prop} {d : Nat} (D : Dat R f V d) {u v : Value} {x y : α} {Q : Value → Shared → Prop} (H : W w B z env own m mu s) (R4 : Rm A 5) (hd : d ≤ 64) (hu : R z u x) (hv : R z v y) (hx : V x) (hy : V y) (h : ∀ b : Bool, (b = true ↔ x = y) → Q (.bool b) s) :
    Wp w A (compareOp .Eq u v) Q E s := by
  obtain ⟨_, ra⟩ := D.rd z _ _ _ H.zin hu
  obtain ⟨_, rb⟩ := D.rd z _ _ _ H.zin hv
  exact .mk (PySem.SeqAt.compareEq_shaped ra rb (shaped_of D hd hx) (shaped_of D hd hy) (by have := R4.u; exact Mine.om37 this) (h _ (D.eq x y)))
theorem d_neD {α : Type} {R : Rep α} {f : α → PyData} {V : α → Prop} {d : Nat} (D : Dat R f V d) {u v : Value} {x y : α} {Q : Value → Shared → Prop} (H : W w B z env own m mu s) (R4 : Rm A 5) (hd : d ≤ 64) (hu : R z u x) (hv : R z v y) (hx : V x) (hy : V y) (h : ∀ b : Bool, (b = true ↔ x ≠ y) → Q (.bool b) s) :
    Wp w A (compareOp .NotEq u v) Q E s := by
  obtain ⟨_, ra⟩ := D.rd z _ _ _ H.zin hu
  obtain ⟨_, rb⟩ := D.rd z _ _ _ H.zin hv
  refine .mk (PySem.SeqAt.compareNe_shaped ra rb (shaped_of D hd hx) (shaped_of D hd hy) (by have := R4.u; exact Mine.om37 this) (h _ ?_))
  have := D.eq x y
  rw [Bool.not_eq_true', ← Bool.not_eq_true, Ne, this]

theorem strsAre_of {zz : PM} : ∀ {vs : List Value} {ys : List Str}, All2 (Rstr zz) vs ys → StrsAre vs ys
  | [], [], _ => .nil
  | _ :: _, _ :: _, ⟨⟨_, e⟩, q⟩ => e ▸ .cons _ _ (strsAre_of q)
theorem intsAre_of {zz : PM} : ∀ {vs : List Value} {ys : List Nat}, All2 (Rnat zz) vs ys → IntsAre vs (ys.map Int.ofNat)
  | [], [], _ => .nil
  | _ :: _, _ :: _, ⟨⟨_, e⟩, q⟩ => e ▸ .cons _ _ (intsAre_of q)
/-- k not in l, l mutable or not -/
theorem d_notinN {l : Addr} {vs : Array Value} {ys : List Nat} {n : Nat} {t : Tok} {Q : Value → Shared → Prop} (hl : s.heap.PlainList l vs) (hv : All2 (Rnat z) vs.toList ys) (h : Q (.bool (!ys.contains n)) s) :
    Wp w A (compareOp .NotIn (.int (n : Int) t) (.ref l)) Q E s := by
  refine .mk (notin_list_ints (ns := ys.map Int.ofNat) (vs := vs.toList) hl.isList (intsAre_of hv) ?_)
  have e : ((ys.map Int.ofNat).any (· == (n : Int))) = ys.contains n := by
    rw [List.any_map, List.contains_eq_any_beq]
    congr 1
    funext a
    simp only [Function.comp]
    rw [Bool.eq_iff_iff]; simp; exact Mine.om36
  rw [e]; exact h
theorem d_notinS {l : Addr} {vs : Array Value} {ys : List Str} {x : Str} {t : Tok} {Q : Value → Shared → Prop} (hl : s.heap.PlainList l vs) (hv : All2 (Rstr z) vs.toList ys) (h : Q (.bool (!ys.contains x)) s) :
    Wp w A (compareOp .NotIn (.str x t) (.ref l)) Q E s := by
  refine .mk (notin_list_strs (ys := ys) (vs := vs.toList) hl.isList (strsAre_of hv) ?_)
  have e : (ys.any (· == x)) = ys.contains x := by
    rw [List.contains_eq_any_beq]
    congr 1
    funext a
    rw [Bool.eq_iff_iff]; simp; exact eq_comm
  rw [e]; exact h
end
end Mine
end
section
open PySem PySem.W PySem.Calls PyProof.Rows PySem.Spec PySem.Builtin PySem.Builtin.Str
set_option Elab.async false
set_option maxRecDepth 100000
set_option linter.unusedVariables false
namespace Mine
theorem findNone (fs : List (Value → Sem Unit)) : (fs.map fun f => (false, f)).findIdx? (·.1) = none := by
  rw [List.findIdx?_eq_none_iff]
  intro x hx
  obtain ⟨f, _, rfl⟩ := List.mem_map.mp hx
  rfl
section
variable {w : World} {B : Bs} {z z' : PM} {env : Env} {own : List Addr} {m m' : Str → Option Value} {mu mu' : List (Addr × MO)} {s s' s₀ : Shared} {A : Around} {E : Value → Shared → Prop} {k : Nat} {xs : List Addr}

theorem tail_any {value slice : Expr} {o i : Value} {T id : String} {ops : List Value} {Q : Value → Shared → Prop} (hT : s.TypeIs o T) (hl : typeLookup (.type T) "__getitem__" = pure (some (.builtin id))) (h : Wp w A (getItem o i) Q E s)
    (hs : subscripted slice false o i = operate ops (getItem o i)) : Wp w A (subscriptTail value slice o i) Q E s := by
  refine .mk ?_
  unfold subscriptTail
  refine wpAny_bind ?_
  rw [getitemInPython_of_ne hT.not_modules]
  refine wpAny_bind (wpAny_specialOf hT hl ?_)
  have fin : wpAny (model prg w) A (subscripted slice false o i) (fun r s₃ => wpAny (model prg w) A (letTemporaryGo value o r >>= fun _ => pure r) Q E s₃) E s := by
    rw [hs]
    exact wpAny_operating (wpAny_mono h.out (fun r s₃ h₃ => wpAny_bind (wpAny_letTemporaryGo (wpAny_pure h₃))) fun _ _ x => x)
  first
    | exact wpAny_pure (wpAny_bind fin)
    | exact wpAny_bind (wpAny_pure (wpAny_bind fin))
    | exact wpAny_bind fin

/-- a list's slice -/
theorem e_sliceL {value : Expr} {lower upper step : Option Expr} {p pos : Pos} {Q : Value → Shared → Prop} (_ : W w B z env own m mu s)
    (h : Wp w A (eval value env) (fun o s₁ => Wp w A (evalPart lower env) (fun vl s₂ => Wp w A (evalPart upper env) (fun vu s₃ => Wp w A (evalPart step env) (fun vk s₄ =>
      ∃ l items lo hi st z₁ m₁ mu₁, o = .ref l ∧ W w B z₁ env own m₁ mu₁ s₄ ∧ s₄.heap.PlainList l items ∧ items.size ≤ sizeLine ∧ IsPart vl lo ∧ IsPart vu hi ∧ IsPart vk st ∧ st ≠ some 0 ∧
        ∀ a z₂ s₅, Le z₁ z₂ → IsL z₂ a (slicePick items lo hi st) → W w B z₂ env own m₁ mu₁ s₅ → Q (.ref a) s₅) E s₃) E s₂) E s₁) E s)
    (hs : ∀ l a, ∃ ops, subscripted (.Slice lower upper step p) false (.ref l) (.ref a) = operate ops (getItem (.ref l) (.ref a))) :
    Wp w A (eval (.Subscript value (.Slice lower upper step p) pos) env) Q E s := by
  refine e_sub (h.mono fun o s₁ q => .mk (wpAny_Slice (un q fun vl s₂ q => un q fun vu s₃ q => un q fun vk s₄ q => ?_)))
  obtain ⟨l, items, lo, hi, st, z₁, m₁, mu₁, rfl, H, hl, hsz, pl, pu, pk, h0, q⟩ := q
  obtain ⟨ops, hs⟩ := hs l s₄.heap.objs.size
  have hl2 : ({ s₄ with heap := s₄.heap.push { cls := .type "slice", data := .fields #[vl, vu, vk] } } : Shared).heap.IsList l items := hl.isList.push _
  have H2 : W w B z₁ env own m₁ mu₁ { s₄ with heap := s₄.heap.push { cls := .type "slice", data := .fields #[vl, vu, vk] } } := H.pushO rfl rfl rfl
  refine tail_any hl2.typeIs list_getitem_lookup (.mk (wpAny_getItem_list_slice hl2 (Heap.IsSliceOf.new ..) pl pu pk h0 (q _ _ _ (PM.put_le H2.none_size.1) ⟨_, PM.put_self _ _ _⟩ (H2.pushZ rfl rfl rfl rfl)) hsz)) hs

/-- a str's slice, step one -/
theorem e_sliceS {value : Expr} {lower upper : Option Expr} {p pos : Pos} {Q : Value → Shared → Prop} (_ : W w B z env own m mu s)
    (h : Wp w A (eval value env) (fun o s₁ => Wp w A (evalPart lower env) (fun vl s₂ => Wp w A (evalPart upper env) (fun vu s₃ =>
      ∃ x t l u z₁ m₁ mu₁, o = .str x t ∧ vl = partValue l ∧ vu = partValue u ∧ x.length ≤ sizeLine ∧ W w B z₁ env own m₁ mu₁ s₃ ∧ ∀ t' s', W w B z₁ env own m₁ mu₁ s' → Q (.str (Txt.slice x (l.map (·.1)) (u.map (·.1))) t') s') E s₂) E s₁) E s)
    (hs : ∀ x t a, ∃ ops, subscripted (.Slice lower upper none p) false (.str x t) (.ref a) = operate ops (getItem (.str x t) (.ref a))) :
    Wp w A (eval (.Subscript value (.Slice lower upper none p) pos) env) Q E s := by
  refine e_sub (h.mono fun o s₁ q => .mk (wpAny_Slice (un q fun vl s₂ q => un q fun vu s₃ q => ?_)))
  rw [evalPart_none]
  refine wpAny_pure ?_
  obtain ⟨x, t, l, u, z₁, m₁, mu₁, rfl, rfl, rfl, hsz, H, q⟩ := q
  obtain ⟨ops, hs⟩ := hs x t s₃.heap.objs.size
  refine tail_any (typeIs_str _ x t) F.slot_str_getitem.lookup (.mk (wpAny_getItem_str_slice (l := l) (u := u) (st := none) ⟨_, Heap.get?_push_size _ rfl, rfl, rfl⟩ rfl ?_)) hs
  have e : sliceMade x t l u none = if ((1 : Int) == 1 && (strSliceIndices (l.map (·.1)) (u.map (·.1)) 1 x.length).length == x.length) = true then .val (.str x t) else .str ⟨((strSliceIndices (l.map (·.1)) (u.map (·.1)) 1 x.length).filterMap (x.cps[·]?)).toArray⟩ := rfl
  rw [e]
  exact post_val_or_str ⟨Nat.le_trans (Txt.slice_le x _ _) hsz, fun t' k => q t' _ (H.pushO rfl rfl rfl)⟩

theorem p_none {Q : Value → Shared → Prop} (h : Q .none s) : Wp w A (evalPart none env) Q E s := .mk (wpAny_pure h)
theorem p_some {e : Expr} {Q : Value → Shared → Prop} (h : Wp w A (eval e env) Q E s) : Wp w A (evalPart (some e) env) Q E s := h

theorem e_neg {i : Int} {k : _} {p pos : Pos} {Q : Value → Shared → Prop} (H : W w B z env own m mu s) (h : ∀ t s', W w B z env own m mu s' → Q (.int (-i) t) s') : Wp w A (eval (.UnaryOp .USub (.Constant (.int i) k p) pos) env) Q E s :=
  .mk (wpAny_UnaryOp (r_int H fun t s₁ H => PyProof.Rows.neg_int (h _ _ (H.same rfl rfl rfl))))
theorem range_fm {α β : Type} (l : List α) (f : α → Option β) : (List.range l.length).filterMap (fun i => l[i]?.bind f) = l.filterMap f := by
  have gen : ∀ (l : List α) (j : Nat) (g : Nat → Option α), (∀ i, i < l.length → g (j + i) = l[i]?) → (List.range' j l.length).filterMap (fun i => (g i).bind f) = l.filterMap f := by
    intro l
    induction l with
    | nil => intro j g _; rfl
    | cons a r ih =>
      intro j g hg
      rw [List.length_cons, List.range'_succ, List.filterMap_cons, List.filterMap_cons, ih (j + 1) g fun i hi => by
        have := hg (i + 1) (by simp; exact Mine.om44 hi)
        rw [show j + 1 + i = j + (i + 1) by exact Mine.om43, this]; simp]
      have h0 := hg 0 (by simp)
      rw [Nat.add_zero] at h0
      rw [h0]
      rfl
  rw [List.range_eq_range']
  exact gen l 0 (fun i => l[i]?) fun i _ => by rw [Nat.zero_add]
theorem comp_vals {α β : Type} {R : Rep β} {l : List α} {f : α → Option β} {ys : Array Value} {opts : List (Option Value)} (hlen : opts.length = l.length) (hops : ∀ i o, opts[i]? = some o → Rr R (fun i => l[i]?.bind f) i o z) (hys : ys.toList = opts.filterMap id) :
    All2 (R z) ys.toList (l.filterMap f) := by
  have h := all2_filterMap (R := R z) (g := fun i => l[i]?.bind f) opts 0 fun i o e => by rw [Nat.zero_add]; exact hops i o e
  rw [hys, ← range_fm l f, List.range_eq_range', ← hlen]
  exact h
theorem d_modN {a b : Nat} {t u : Tok} {Q : Value → Shared → Prop} (H : W w B z env own m mu s) (hb : b ≠ 0) (h : ∀ t s', W w B z env own m mu s' → Q (.int ((a % b : Nat) : Int) t) s') : Wp w A (binaryOp .Mod (.int (a : Int) t) (.int (b : Int) u)) Q E s :=
  .mk (PyProof.Rows.mod_int' (by exact Mine.om42 hb) (by
    rw [show ((a : Int).fmod b) = ((a % b : Nat) : Int) by rw [Int.fmod_eq_emod_of_nonneg _ (by exact Mine.om27)]; rfl]
    exact h _ _ (H.same rfl rfl rfl)))
theorem d_mod {a b : Int} {t u : Tok} {Q : Value → Shared → Prop} (H : W w B z env own m mu s) (hb : b ≠ 0) (h : ∀ t s', W w B z env own m mu s' → Q (.int (a.fmod b) t) s') : Wp w A (binaryOp .Mod (.int a t) (.int b u)) Q E s :=
  .mk (PyProof.Rows.mod_int' hb (h _ _ (H.same rfl rfl rfl)))

/-- two lists together -/
theorem d_addL {a b : Addr} {us vs : Array Value} {Q : Value → Shared → Prop} (H : W w B z env own m mu s) (ha : s.heap.PlainList a us) (hb : s.heap.PlainList b vs) (hsz : us.size + vs.size ≤ sizeLine)
    (h : ∀ c z₂ s', Le z z₂ → IsL z₂ c (us ++ vs) → W w B z₂ env own m mu s' → Q (.ref c) s') : Wp w A (binaryOp .Add (.ref a) (.ref b)) Q E s := by
  obtain ⟨n, ha⟩ := ha
  obtain ⟨n2, hb⟩ := hb
  exact .mk (PySem.P.add_list ha hb (h _ _ _ (PM.put_le H.none_size.1) ⟨_, PM.put_self _ _ _⟩ (H.pushZ rfl rfl rfl rfl)) hsz)

/-! tuples taken apart -/
theorem u_tuple {t : Addr} {items : Array Value} {n : Nat} {Q : List Value → Shared → Prop} (H : W w B z env own m mu s) (hA : A.handled = none) (ht : IsT z t items) (hn : items.size = n) (h : ∀ s', W w B z env own m mu s' → Q items.toList s') :
    Wp w A (unpackItems (.ref t) n none) Q E s := by
  subst hn
  refine .mk (wpAny_unpackItems_tuple hA (ht.at H) fun h' hs => h _ (H.side (s' := { s with heap := h' }) [s.heap.objs.size] (fun b o hb e => hs b o (fun q => hb (q ▸ .head _)) e) (fun b hb => ?_) rfl rfl))
  rw [List.mem_singleton.mp hb]
  have := H.none_size
  exact ⟨this.2.1, this.1, this.2.2.1, this.2.2.2⟩
theorem i_nil {Q : Unit → Shared → Prop} (h : Q () s) : Wp w A (assignInOrder [] []) Q E s := .mk (wpAny_pure h)
theorem i_cons {f : Value → Sem Unit} {fs : List (Value → Sem Unit)} {v : Value} {vs : List Value} {Q : Unit → Shared → Prop} (h : Wp w A (f v) (fun _ s' => Wp w A (assignInOrder fs vs) Q E s') E s) : Wp w A (assignInOrder (f :: fs) (v :: vs)) Q E s :=
  .mk (wpAny_bind (wpAny_holding (un2 h)))
theorem b_name {x : Str} {v : Value} {Q : Unit → Shared → Prop} (H : W w B z env own m mu s) (hv : SVar env own x) (h : ∀ s', W w B z env own (upd m x v) mu s' → Q () s') : Wp w A (bindName env x v) Q E s := .mk (wpAny_bindName (r_store H hv h))
/-- an assignment to a tuple of names -/
theorem g_tuple {elts : List Expr} {n : _} {pos : Pos} {t : Addr} {items : Array Value} {Q : Unit → Shared → Prop} (H : W w B z env own m mu s) (hA : A.handled = none) (ht : IsT z t items)
    (hn : elts.length = items.size) (h : ∀ s', W w B z env own m mu s' → Wp w A (assignInOrder (elts.map fun e => assign e env) items.toList) Q E s')
    (hf : assignEach elts env = elts.map fun e => (false, assign e env) := by kernel_rfl) : Wp w A (assign (.Tuple elts n pos) env (.ref t)) Q E s := by
  have hf : assignEach elts env = (elts.map fun e => assign e env).map fun f => (false, f) := by rw [hf, List.map_map]; rfl
  refine .mk (wpAny_assign_Tuple hA (ht.at H) (by rw [hf, List.length_map, List.length_map]; exact hn) (by rw [hf]; exact findNone _) fun h' hs => ?_)
  have e : (assignEach elts env).map (·.2) = elts.map fun e => assign e env := by rw [hf, List.map_map]; exact List.map_id' _
  rw [e]
  refine (h _ (H.side (s' := { s with heap := h' }) [s.heap.objs.size] (fun b o hb e => hs b o (fun q => hb (q ▸ .head _)) e) (fun b hb => ?_) rfl rfl)).out
  rw [List.mem_singleton.mp hb]
  have := H.none_size
  exact ⟨this.2.1, this.1, this.2.2.1, this.2.2.2⟩
theorem env_eq {S : Scope} (h : env.scope = S) : env = { env with scope := S } := by cases env; cases h; rfl
end
end Mine
end
section
open PySem PySem.W PySem.Calls PyProof.Rows PySem.Spec
set_option Elab.async false
set_option maxRecDepth 100000
set_option linter.unusedVariables false
namespace Mine
/-- a frozen dict of texts' keys -/
noncomputable def IsD (w : World) (z : PM) (a : Addr) (kvs : List (Str × Value)) : Prop := (a == sysModules) = false ∧ ∃ o, z a = some o ∧ o.IsDictOf (PySem.strKind prg w) kvs
theorem IsD.mono {w : World} {z z' : PM} {a : Addr} {kvs : List (Str × Value)} (h : IsD w z a kvs) (k : Le z z') : IsD w z' a kvs := let ⟨h0, o, e, r⟩ := h; ⟨h0, o, k _ _ e, r⟩
noncomputable def Rdict {α : Type} (w : World) (R : Rep α) : Rep (List (Str × α)) := fun z v d => ∃ a kvs, v = .ref a ∧ IsD w z a kvs ∧ All2 (fun kv q => kv.1 = q.1 ∧ R z kv.2 q.2) kvs d
theorem mono_dict {α : Type} {w : World} {R : Rep α} (h : Mono R) : Mono (Rdict w R) := fun _ _ _ _ k ⟨a, kvs, e, hd, q⟩ => ⟨a, kvs, e, hd.mono k, q.mono fun _ _ r => ⟨r.1, h _ _ _ _ k r.2⟩⟩

section
variable {w : World} {B : Bs} {z z' : PM} {env : Env} {own : List Addr} {m m' : Str → Option Value} {mu mu' : List (Addr × MO)} {s s' s₀ : Shared} {A : Around} {E : Value → Shared → Prop} {k : Nat} {xs : List Addr}

theorem IsD.at {a : Addr} {kvs : List (Str × Value)} (h : IsD w z a kvs) (H : W w B z env own m mu s) : s.heap.DictOf (PySem.strKind prg w) a kvs := let ⟨_, o, e, r⟩ := h; Heap.dictOf_iff.mpr ⟨o, H.zin _ _ e, r⟩
theorem W.dictAt (H : W w B z env own m mu s) {i : Nat} {a : Addr} {kvs : List (Str × Value)} (hi : mu[i]? = some (a, .dct kvs)) : (a == sysModules) = false ∧ s.heap.DictOf (PySem.strKind prg w) a kvs := (H.muo _ (List.mem_of_getElem? hi)).1
/-- a mutable dict is frozen -/
theorem W.freezeD {a : Addr} {kvs : List (Str × Value)} (H : W w B z env own m ((a, .dct kvs) :: mu) s) : ∃ z', Le z z' ∧ IsD w z' a kvs ∧ W w B z' env own m mu s := by
  obtain ⟨o, e, hl, hz, H'⟩ := H.freeze
  obtain ⟨h0, hd⟩ := hl
  obtain ⟨o', e', hd⟩ := Heap.dictOf_iff.mp hd
  rw [e] at e'; cases e'
  exact ⟨_, hz, ⟨h0, o, PM.put_self _ _ _, hd⟩, H'⟩
theorem W.not_sys (H : W w B z env own m mu s) : (s.heap.objs.size == sysModules) = false := by
  obtain ⟨o, e⟩ : ∃ o, (KK w).lookup 67 = some o := ⟨_, rfl⟩
  have h := Heap.lt_size (H.gd'.K _ _ e)
  have h1 : sysModules = 1 := rfl
  rw [h1]
  exact beq_eq_false_iff_ne.mpr (Nat.ne_of_gt (Nat.lt_trans (by decide) h))
theorem e_dict0 {pos : Pos} {Q : Value → Shared → Prop} (H : W w B z env own m mu s) (h : ∀ a s₂, W w B z env own m ((a, .dct []) :: mu) s₂ → Q (.ref a) s₂) : Wp w A (eval (.Dict [] [] pos) env) Q E s :=
  .mk (wpAny_Dict_empty (h _ _ (H.pushM rfl rfl rfl ⟨H.not_sys, Heap.DictOf.new s.heap⟩)))
theorem d_setD {a : Addr} {kvs : List (Str × Value)} {x : Str} {t : Tok} {v : Value} {Q : Unit → Shared → Prop} (H : W w B z env own m mu s) (i : Nat) (hi : mu[i]? = some (a, .dct kvs)) (hsz : kvs.length ≤ sizeLine)
    (h : ∀ s', W w B z env own m (mu.set i (a, .dct (stored kvs x v))) s' → Q () s') : Wp w A (setItem (.ref a) (.str x t) v) Q E s := by
  have hd := H.dictAt hi
  exact .mk (wpAny_setItem_pairs (knd := PySem.strKind prg w) (k := x) (by simp [PySem.strKind, Value.isStrOf]) hd.2 (fun h' hm hs => h _ (H.chg i hi (y := .dct _) ⟨hd.1, hm⟩ hs rfl rfl)) hsz)
theorem d_getD {value slice : Expr} {a : Addr} {kvs : List (Str × Value)} {x : Str} {t : Tok} {v : Value} {Q : Value → Shared → Prop} (H : W w B z env own m mu s) (hd : IsD w z a kvs) (hv : valueAt kvs x = some v) (h : ∀ s', W w B z env own m mu s' → Q v s')
    (hs : ∃ ops, subscripted slice false (.ref a) (.str x t) = operate ops (getItem (.ref a) (.str x t))) : Wp w A (subscriptTail value slice (.ref a) (.str x t)) Q E s := by
  obtain ⟨ops, hs⟩ := hs
  exact tail_any (hd.at H).typeIs slot_dict_getitem.lookup (.mk (wpAny_getItem_of (knd := PySem.strKind prg w) (k := x) (by simp [PySem.strKind, Value.isStrOf]) (hd.at H).mapOf hv (h _ (H.same rfl rfl rfl)))) hs

theorem i_dict {target : Expr} {d : Addr} {kvs : List (Str × Value)} {Q : Value → Shared → Prop} (H : W w B z env own m mu s) (hA : A.handled = none) (hd : IsD w z d kvs)
    (h : ∀ I s', W w B z env own m mu s' → It w A B z own mu s' target I kvs.length (fun i v _ => ∃ k x t, kvs[i]? = some (k, x) ∧ v = .str k t) → Q (.ref I) s') : Wp w A (pyIter (.ref d)) Q E s := by
  have hn := H.none_size
  obtain ⟨h0, o, ho, hdo⟩ := id hd
  obtain ⟨ep, hat⟩ := (hd.at H).dictAt
  have hlz : d ≠ s.heap.objs.size := by rintro rfl; rw [hn.1] at ho; cases ho
  refine .mk (wpAny_pyIter_dict h0 hat (h _ _ (H.pushO rfl rfl rfl) ⟨[s.heap.objs.size, d], [s.heap.objs.size], (fun i h => h.IsKeyIter s.heap.objs.size d i kvs.length ep ∧ h.DictAt (PySem.strKind prg w) d kvs ep), ?_, ?_, ?_, ?_⟩))
  · have WW := Walk.of (w := w) (A := A) (target := target) (Walks.dictKeys (knd := PySem.strKind prg w) hA s.heap.objs.size d hlz kvs ep) (fun i s v Q E hst hq => letGo_keyiter hst.1 hq) (fun i h hst b hb => by
      rw [List.mem_singleton.mp hb]
      obtain ⟨o, e, _⟩ := hst.1
      exact ⟨o, e⟩)
    refine ⟨WW.frame, fun i s Q E hi hst hq => WW.item i s Q E hi hst fun v h' tk hp => hq v h' tk ?_, WW.done, WW.self, WW.ex⟩
    obtain ⟨k, x, e, hk⟩ := hp
    obtain ⟨t, rfl⟩ := Value.isStrOf_shape hk
    exact ⟨k, x, t, e, rfl⟩
  · exact ⟨⟨_, Heap.get?_push_size _ rfl, rfl, rfl⟩, hat.push _⟩
  · intro b hb
    rcases List.mem_cons.mp hb with rfl | hb
    · exact .inl (.head _)
    · rw [List.mem_singleton.mp hb]; right; left; rw [ho]; nofun
  · intro b hb
    rw [List.mem_singleton.mp hb]
    exact ⟨hn.2.1, hn.1, hn.2.2.1, hn.2.2.2⟩

theorem i_str {target : Expr} {x : Str} {t : Tok} {Q : Value → Shared → Prop} (H : W w B z env own m mu s) (hA : A.handled = none)
    (h : ∀ I s', W w B z env own m mu s' → It w A B z own mu s' target I x.cps.size (fun i v _ => SignAt x i v) → Q (.ref I) s') : Wp w A (pyIter (.str x t)) Q E s := by
  have hn := H.none_size
  have side : ∀ b ∈ [s.heap.objs.size], B.p b = none ∧ z b = none ∧ b ∉ own ∧ b ∉ mu.map (·.1) := fun b hb => by
    rw [List.mem_singleton.mp hb]
    exact ⟨hn.2.1, hn.1, hn.2.2.1, hn.2.2.2⟩
  refine .mk ?_
  cases ha : x.cps.all (· < 128)
  · refine wpAny_pyIter_wide ha (h _ _ (H.pushO rfl rfl rfl) ⟨[s.heap.objs.size], [s.heap.objs.size], _, Walk.of (Walks.strWide hA s.heap.objs.size x t) (fun i s v Q E hst hq => ?_) (fun i h hst b hb => ?_), ⟨_, Heap.get?_push_size _ rfl, rfl, rfl⟩, fun b hb => .inl hb, side⟩)
    · obtain ⟨o, e, hc, hd⟩ := hst
      exact owned_any (T := "str_iterator") (by decide) ⟨o, e, hc, hd⟩ hq
    · rw [List.mem_singleton.mp hb]
      obtain ⟨o, e, _⟩ := hst
      exact ⟨o, e⟩
  · refine wpAny_pyIter_ascii ha (h _ _ (H.pushO rfl rfl rfl) ⟨[s.heap.objs.size], [s.heap.objs.size], _, Walk.of (Walks.strAscii hA s.heap.objs.size x t) (fun i s v Q E hst hq => ?_) (fun i h hst b hb => ?_), ⟨_, Heap.get?_push_size _ rfl, rfl, rfl⟩, fun b hb => .inl hb, side⟩)
    · obtain ⟨o, e, hc, hd⟩ := hst
      exact owned_any (T := "str_ascii_iterator") (by decide) ⟨o, e, hc, hd⟩ hq
    · rw [List.mem_singleton.mp hb]
      obtain ⟨o, e, _⟩ := hst
      exact ⟨o, e⟩

theorem draw_list {I l : Addr} {vs : Array Value} (hA : A.handled = none) (hne : l ≠ I) : ∀ (n i : Nat) (s : Shared) (Q : List Value → Shared → Prop), s.heap.IsListIter I l i → s.heap.IsList l vs → i + n ≤ vs.size →
    (∀ h' tk, h'.IsListIter I l (i + n) → h'.IsList l vs → (∀ b o, b ≠ I → s.heap.get? b = some o → h'.get? b = some o) → Q ((vs.toList.drop i).take n) { s with heap := h', toks := tk }) → wpAny (model prg w) A (draw (.ref I) n) Q E s
  | 0, i, s, Q, hit, hl, _, hQ => by
    show wpAny _ _ (pure []) Q E s
    exact wpAny_pure (by simpa using hQ s.heap s.toks hit hl fun _ _ _ e => e)
  | n + 1, i, s, Q, hit, hl, hle, hQ => by
    have hlt : i < vs.size := by exact Mine.om48 hle
    show wpAny _ _ (pyNext (.ref I) >>= _) Q E s
    refine wpAny_bind ((Walks.list hA I l hne vs).item i s _ E hlt ⟨hit, hl⟩ fun v h₁ tk₁ hp hst hk => ?_)
    refine wpAny_bind (wpAny_holding (draw_list hA hne n (i + 1) _ _ hst.1 hst.2 (by exact Mine.om47 hle) fun h₂ tk₂ hit₂ hl₂ hk₂ => wpAny_pure ?_))
    have hv : vs[i]? = some v := hp
    obtain ⟨_, hv⟩ := Array.getElem?_eq_some_iff.mp hv
    have hd : vs.toList.drop i = v :: vs.toList.drop (i + 1) := by rw [← hv]; simp [List.drop_eq_getElem_cons, hlt]
    have := hQ h₂ tk₂ (by rw [show i + (n + 1) = i + 1 + n by exact Mine.om46]; exact hit₂) hl₂ fun b o hb e => hk₂ b o hb (hk b o (by simp [hb]) e)
    rw [hd, List.take_succ_cons] at this
    exact this
theorem u_list {l : Addr} {vs : Array Value} {n : Nat} {Q : List Value → Shared → Prop} (H : W w B z env own m mu s) (hA : A.handled = none) (hl : IsL z l vs) (hn : vs.size = n) (h : ∀ s', W w B z env own m mu s' → Q vs.toList s') :
    Wp w A (unpackItems (.ref l) n none) Q E s := by
  subst hn
  have hns := H.none_size
  have hll := hl.at H
  have hlz : l ≠ s.heap.objs.size := by
    obtain ⟨_, ho⟩ := id hl
    rintro rfl; rw [hns.1] at ho; cases ho
  refine .mk ?_
  unfold unpackItems
  refine wpAny_bind ?_
  unfold notIterableAtAll
  refine wpAny_bind (wpAny_specialOf hll.typeIs F.slot_list_iter.lookup ?_)
  refine wpAny_pure ?_
  simp only [Bool.false_eq_true, if_false]
  refine wpAny_bind (wpAny_holding (wpAny_pyIter_list hll ?_))
  refine wpAny_bind (wpAny_holding (draw_list hA hlz vs.size 0 _ _ ⟨_, Heap.get?_push_size _ rfl, rfl, rfl⟩ (hll.push _) (by exact Mine.om45) fun h₁ tk₁ hit₁ hl₁ hk₁ => ?_))
  have hall : List.take vs.size (List.drop 0 vs.toList) = vs.toList := by
    rw [List.drop_zero]; exact List.take_of_length_le (by simp)
  rw [hall, if_neg (by simp)]
  rw [Nat.zero_add] at hit₁
  refine wpAny_bind (wpAny_holding ((Walks.list hA _ l hlz vs).done _ _ E ⟨hit₁, hl₁⟩ fun h₂ tk₂ hk₂ => ?_))
  simp only [Option.isSome_none, Bool.false_eq_true, if_false]
  refine wpAny_pure (h _ (H.side (s' := { s with heap := h₂, toks := tk₂ }) [s.heap.objs.size] (fun b o hb e => hk₂ b o hb (hk₁ b o (fun q => hb (q ▸ .head _)) (Heap.get?_push_of_some _ e))) (fun b hb => ?_) rfl rfl))
  rw [List.mem_singleton.mp hb]
  exact ⟨hns.2.1, hns.1, hns.2.2.1, hns.2.2.2⟩
/-- an assignment of a list to names -/
theorem g_list {elts : List Expr} {n : _} {pos : Pos} {t : Addr} {items : Array Value} {Q : Unit → Shared → Prop} (H : W w B z env own m mu s) (hA : A.handled = none) (ht : IsL z t items)
    (hn : elts.length = items.size) (h : ∀ s', W w B z env own m mu s' → Wp w A (assignInOrder (elts.map fun e => assign e env) items.toList) Q E s')
    (hf : assignEach elts env = elts.map fun e => (false, assign e env) := by kernel_rfl) : Wp w A (assign (.Tuple elts n pos) env (.ref t)) Q E s := by
  have hf : assignEach elts env = (elts.map fun e => assign e env).map fun f => (false, f) := by rw [hf, List.map_map]; rfl
  refine .mk ?_
  rw [arm_assign_Tuple]
  refine wpAny_bind (wpAny_standAt ?_)
  unfold unpack
  rw [hf, findNone, List.length_map, List.length_map]
  have e : (((elts.map fun e => assign e env).map fun f => ((false, f) : Bool × (Value → Sem Unit))).map (·.2)) = elts.map fun e => assign e env := by rw [List.map_map]; exact List.map_id' _
  rw [e]
  exact wpAny_bind (wpAny_holding (un (u_list (Q := fun vs s' => Wp w A (assignInOrder (elts.map fun e => assign e env) vs) Q E s') H hA ht hn.symm h) fun _ _ q => q.out))
end
end Mine
end
section
open PySem PySem.W PySem.Calls PyProof.Rows PySem.Spec
set_option Elab.async false
set_option maxRecDepth 100000
namespace Mine

noncomputable def belowF (ab : List Nat) (n : Nat) : List Nat := (List.range' 1 (ab.length - 1)).filter (fun k => ab[k]? == some n)

theorem belowF_eq (ab : List Nat) (n : Nat) : belowF ab n = (List.range (ab.length - 1)).filterMap (fun i => if ab[i + 1]? = some n then some (i + 1) else none) := by
  unfold belowF
  rw [List.range_eq_range']
  have gen : ∀ (k j : Nat), (List.range' (j + 1) k).filter (fun i => ab[i]? == some n) = (List.range' j k).filterMap (fun i => if ab[i + 1]? = some n then some (i + 1) else none) := by
    intro k
    induction k with
    | zero => intro j; rfl
    | succ k ih =>
      intro j
      rw [List.range'_succ, List.range'_succ, List.filter_cons, List.filterMap_cons, ih (j + 1)]
      by_cases h : ab[j + 1]? = some n
      · simp [h]
      · simp [h]
  exact gen _ 0

theorem below_ok {w : World} {A : Around} {s : Shared} {z : PM} {va vn : Value} {ab : List Nat} {n : Nat} {Q : Value → Shared → Prop} {E : Value → Shared → Prop} (G : Sit w z s) (R : Rm A 3)
    (hv : Rlist Rnat z va ab) (hn : Rnat z vn n) (hlen : ab.length ≤ 100) (h : ∀ r z' s', Nx z s z' s' → Rlist Rnat z' r (belowF ab n) → Q r s') : Wp w A (call (.ref 67) [va, vn]) Q E s := by
  refine go (at_below w) G R rfl fun A' env own m s' R' H hsv hgl hm hsc => post fun Q₁ fin₁ => ?_
  have h := fun r z' s' N X => fin₁ (.ret r) s' (h r z' s' N X)
  have vA := hsv (Str.ofString "above") (.inr (by kernel_rfl))
  have vN := hsv (Str.ofString "node") (.inr (by kernel_rfl))
  have mA : m (Str.ofString "above") = some va := hm (_, _) (.head _)
  have mN : m (Str.ofString "node") = some vn := hm (_, _) (.tail _ (.head _))
  have gR := hgl (Str.ofString "range") (by kernel_rfl)
  have gL := hgl (Str.ofString "len") (by kernel_rfl)
  have cA := cell_of hsc (x := Str.ofString "above") (by kernel_rfl) vA
  have cN := cell_of hsc (x := Str.ofString "node") (by kernel_rfl) vN
  clear hsv hgl hm hsc
  refine x_ret (e_comp H ⟨by decide +kernel, rfl, by decide +kernel⟩ (free_of [Str.ofString "above", Str.ofString "node"] (by decide +kernel) (all_cons cA (all_cons cN all_nil))) ?_)
  -- range(1, len(above))
  refine e_bcall (.type "range") H gR ?_
  refine a_cons (e_int H fun t s₁ H => a_one (e_bcall (.builtin "len") H gL (a_one (e_var H vA.var mA ?_))))
  refine d_len H hv (by exact Mine.om51 hlen) fun t s₂ H => (d_range2 H fun r s₃ t u v H hr => ?_)
  refine i_range H R'.hh hr (by exact Mine.om54) (by exact Mine.om53 hlen) range_size fun I s₄ H IT => compI H IT (by rw [sizeLine_eq]; exact Mine.om52 hlen) (Rr Rnat (fun i => if ab[i + 1]? = some n then some (i + 1) else none)) (Rr.mono mono_nat) ?_ ?_
  · -- a turn
    intro i v z₁ B₁ C cenv mc s₁ E' hi hP hz₁ H CE
    obtain ⟨_, t, rfl⟩ := hP
    have vK := CE.loc (Str.ofString "k") (by kernel_rfl)
    have cA := CE.cap (Str.ofString "above") (by kernel_rfl)
    have cN := CE.cap (Str.ofString "node") (by kernel_rfl)
    refine x_assignN H vK fun s₂ H => g_tests1 (t_cmp ?_)
    have hx : ab[i + 1]? = some (ab[i + 1]'(by exact Mine.om49 hi)) := List.getElem?_eq_getElem _
    refine e_sub (e_var H cA.1 (upd_get (by decide +kernel) (cA.2.trans mA)) (e_var H vK.var (upd_self _ _ _) (d_item H (mono_list mono_nat _ _ _ _ hz₁ hv) ⟨_, by rw [show (1 : Int) + (i : Int) = ((i + 1 : Nat) : Int) by exact Mine.om50]⟩ hx (by exact Mine.om51 hlen) fun y hy => ?_)))
    obtain ⟨ty, rfl⟩ := hy
    obtain ⟨tn, rfl⟩ := hn
    refine e_var H cN.1 (upd_get (by decide +kernel) (cN.2.trans mN)) (d_eqN ⟨_, rfl, fun hb => ?_, fun hb => ?_⟩)
    · have hq : ab[i + 1]'(by exact Mine.om49 hi) = n := by simpa using hb
      refine e_var H vK.var (upd_self _ _ _) ⟨z₁, _, _, H, Le.refl _, Rr_some (d := i + 1) (by simp [hx, hq]) ⟨t, by rw [show (1 : Int) + (i : Int) = ((i + 1 : Nat) : Int) by exact Mine.om50]⟩⟩
    · have hq : ¬ ab[i + 1]'(by exact Mine.om49 hi) = n := by simpa using hb
      exact ⟨z₁, _, H, Le.refl _, Rr_none (by simp [hx, hq])⟩
  · intro z' s' D ys opts H hz' hlen' hops hys
    obtain ⟨z₂, hz₂, hl, H⟩ := H.freezeL
    refine h _ _ _ (H.back G) ?_
    rw [belowF_eq]
    exact Rr.list hl hlen' (fun i o e => Rr.mono mono_nat _ _ _ _ hz₂ (hops i o e)) hys
end Mine
end
section
open PySem PySem.W PySem.Calls PyProof.Rows PySem.Spec
set_option Elab.async false
set_option maxRecDepth 100000
namespace Mine
theorem at_item (w : World) : FnAt w 100 (Str.ofString "_law_item") [Str.ofString "word", Str.ofString "held"] (bodyOf (stAt 18)) (scopeOf (stAt 18)) where
  fd := ⟨_, _, rfl, rfl, rfl, rfl, rfl, rfl, rfl, by kernel_rfl, ofLen2 (fun _ _ => rfl)⟩
  par := by decide +kernel
  nd := by decide +kernel
  nnd := by decide +kernel
  cnd := by decide +kernel
  co := by kernel_rfl
  gen := by kernel_rfl
  fn := by kernel_rfl

theorem el1 : (Str.ofString "=").length = 1 := by decide +kernel
theorem el2 : (Str.ofString "\\\\").length = 2 := by decide +kernel
theorem el3 : (Str.ofString "\\\"").length = 2 := by decide +kernel
theorem el4 : (Str.ofString "\"").length = 1 := by decide +kernel
theorem item_ok {w : World} {A : Around} {s : Shared} {z : PM} {vx vh : Value} {x y : Str} {Q : Value → Shared → Prop} {E : Value → Shared → Prop} (G : Sit w z s) (R : Rm A 3)
    (hx : Rstr z vx x) (hy : Rstr z vh y) (hl : x.length ≤ 1000) (hl' : y.length ≤ 1000000) (h : ∀ r z' s', Nx z s z' s' → Rstr z' r (itemF x y) → Q r s') : Wp w A (call (.ref 100) [vx, vh]) Q E s := by
  refine go (at_item w) G R rfl fun A' env own m s' R' H hsv hgl hm hsc => post fun Q₁ fin₁ => ?_
  have h := fun r z' s' N X => fin₁ (.ret r) s' (h r z' s' N X)
  have vW := hsv (Str.ofString "word") (.inl (by kernel_rfl))
  have vH := hsv (Str.ofString "held") (.inl (by kernel_rfl))
  have mW : m (Str.ofString "word") = some vx := hm (_, _) (.head _)
  have mH : m (Str.ofString "held") = some vh := hm (_, _) (.tail _ (.head _))
  clear hsv hgl hm hsc
  obtain ⟨tx, rfl⟩ := hx
  obtain ⟨ty, rfl⟩ := hy
  refine x_ret (e_bin (e_bin (e_var H vW.var mW (e_strT H fun s₁ H ht => x_toks 1 (by exact Mine.om65 ht) (d_addS H (by rw [el1, sizeLine_eq]; exact Mine.om64 hl) fun t' s₂ H h2 => ?_)))))
  refine e_ifexp (t_cmp (e_var H vH.var mH (e_strT H fun s₃ H h3 => d_eqS ⟨_, rfl, fun hq => ?_, fun hq => ?_⟩)))
  · refine e_var H vH.var mH (d_addS H (by rw [Str.length_append, el1, sizeLine_eq]; exact Mine.om63 hl hl') fun t s₄ H => h _ _ _ (H.back G) ⟨t, ?_⟩)
    rw [itemF, if_pos hq]
  · refine e_bin (e_bin (e_strT H fun s₄ H h4 => e_sm _ (e_sm _ (e_var H vH.var mH ⟨_, _, rfl, a_cons (e_strT H fun s₅ H h5 => a_one (e_strT H fun s₆ H h6 => ?_))⟩) (fun _ _ _ _ h => gm_replace h)) (fun _ _ _ _ h => gm_replace h)))
    have e1 : (Txt.replace y (Str.ofString "\\") (Str.ofString "\\\\")).length ≤ y.length * 3 := esc_len1 y
    have e2 := esc_len y
    refine c_replace H (Nat.ne_of_gt (show 0 < s₄.toks by exact Mine.om60 h4)) (Nat.ne_of_gt (show 0 < s₅.toks by exact Mine.om60 h5)) (Nat.ne_of_lt (show s₄.toks < s₅.toks by exact Mine.om59 h5)) (by decide +kernel) (by rw [el2]; exact Mine.om62 hl') fun t' s₇ H h7 => ?_
    refine ⟨_, _, rfl, a_cons (e_strT H fun s₈ H h8 => a_one (e_strT H fun s₉ H h9 => ?_))⟩
    refine c_replace H (Nat.ne_of_gt (show 0 < s₇.toks by exact Mine.om61 h6 h7)) (Nat.ne_of_gt (show 0 < s₈.toks by exact Mine.om60 h8)) (Nat.ne_of_lt (show s₇.toks < s₈.toks by exact Mine.om59 h8)) (by decide +kernel) (by rw [el3]; exact Mine.om58 hl' e1) fun t'' s₁₀ H _ => ?_
    refine d_addS H (by rw [el4, sizeLine_eq]; show 1 + (escF y).length ≤ _; exact Mine.om57 hl' e2) fun t₃ s₁₁ H => e_str H fun t₄ s₁₂ H => d_addS H (by rw [Str.length_append, el4, sizeLine_eq]; show 1 + (escF y).length + 1 ≤ _; exact Mine.om56 hl' e2) fun t₅ s₁₃ H => ?_
    refine d_addS H (by rw [Str.length_append, Str.length_append, Str.length_append, el4, el1, sizeLine_eq]; show x.length + 1 + (1 + (escF y).length + 1) ≤ _; exact Mine.om55 hl hl' e2) fun t s₁₄ H => h _ _ _ (H.back G) ⟨t, ?_⟩
    rw [itemF, if_neg (by simpa using hq)]
    rfl
end Mine
end
section
open PySem PySem.W PySem.Calls PyProof.Rows PySem.Spec
set_option Elab.async false
set_option maxRecDepth 100000
namespace Mine
theorem at_up (w : World) : FnAt w 86 (Str.ofString "_law_up") [Str.ofString "above", Str.ofString "node"] (bodyOf (stAt 16)) (scopeOf (stAt 16)) where
  fd := ⟨_, _, rfl, rfl, rfl, rfl, rfl, rfl, rfl, by kernel_rfl, ofLen2 (fun _ _ => rfl)⟩
  par := by decide +kernel
  nd := by decide +kernel
  nnd := by decide +kernel
  cnd := by decide +kernel
  co := by kernel_rfl
  gen := by kernel_rfl
  fn := by kernel_rfl

/-- the way up, the root left out -/
noncomputable def upF (ab : List Nat) : Nat → Nat → List Nat
  | 0, _ => []
  | f + 1, n => if n = 0 then [] else n :: upF ab f (ab[n]?.getD 0)
/-- each place stands behind the one it hangs on -/
noncomputable def Up (ab : List Nat) : Prop := ∀ k, k < ab.length → 0 < k → ∃ p, ab[k]? = some p ∧ p < k
theorem upF_fuel {ab : List Nat} (U : Up ab) : ∀ (f n : Nat), n < ab.length → n ≤ f → ∀ g, n ≤ g → upF ab f n = upF ab g n
  | 0, n, hl, hn, g, hg => by
    have : n = 0 := by exact Mine.om75 hn
    subst this
    cases g <;> simp [upF]
  | f + 1, n, hl, hn, g, hg => by
    cases g with
    | zero =>
      have : n = 0 := by exact Mine.om75 hg
      subst this
      simp [upF]
    | succ g =>
      unfold upF
      by_cases h0 : n = 0
      · simp [h0]
      · rw [if_neg h0, if_neg h0]
        obtain ⟨p, hp, hlt⟩ := U n hl (by exact Mine.om74 h0)
        rw [hp]
        simp only [Option.getD_some]
        rw [upF_fuel U f p (by exact Mine.om73 hl hlt) (by exact Mine.om72 hn hlt) g (by exact Mine.om72 hg hlt)]
theorem upF_len (ab : List Nat) : ∀ f n, (upF ab f n).length ≤ f
  | 0, _ => by simp [upF]
  | f + 1, n => by
    unfold upF
    split
    · simp
    · simp only [List.length_cons]; have := upF_len ab f (ab[n]?.getD 0); exact Mine.om40 this

theorem up_ok {w : World} {A : Around} {s : Shared} {z : PM} {va vn : Value} {ab : List Nat} {n : Nat} {Q : Value → Shared → Prop} {E : Value → Shared → Prop} (G : Sit w z s) (R : Rm A 3)
    (hv : Rlist Rnat z va ab) (hn : Rnat z vn n) (hlen : ab.length ≤ 100) (U : Up ab) (hnl : n < ab.length) (h : ∀ r z' s', Nx z s z' s' → Rlist Rnat z' r (upF ab n n) → Q r s') : Wp w A (call (.ref 86) [va, vn]) Q E s := by
  refine go (at_up w) G R rfl fun A' env own m s' R' H hsv hgl hm hsc => post fun Q₁ fin₁ => ?_
  have h := fun r z' s' N X => fin₁ (.ret r) s' (h r z' s' N X)
  have vA := hsv (Str.ofString "above") (.inl (by kernel_rfl))
  have vN := hsv (Str.ofString "node") (.inl (by kernel_rfl))
  have vW := hsv (Str.ofString "way") (.inl (by kernel_rfl))
  have mA : m (Str.ofString "above") = some va := hm (_, _) (.head _)
  have mN : m (Str.ofString "node") = some vn := hm (_, _) (.tail _ (.head _))
  clear hsv hgl hm hsc
  refine x_set (e_nilM H fun a s₁ H => x_store H vW fun s₂ H => ?_)
  obtain ⟨tn, rfl⟩ := hn
  refine x_while (fun j s' => ∃ m ys done t, W w (Bs.of z s) z env own m [(a, .lst ys)] s' ∧ m (Str.ofString "above") = some va ∧ m (Str.ofString "node") = some (.int (j : Nat) t) ∧ m (Str.ofString "way") = some (.ref a) ∧ j < ab.length ∧
      All2 (Rnat z) ys.toList done ∧ done ++ upF ab j j = upF ab n n) n ⟨_, _, [], tn, H, ?_, ?_, upd_self _ _ _, hnl, trivial, rfl⟩ ?_
  · exact upd_get (by decide +kernel) mA
  · exact upd_get (by decide +kernel) mN
  intro j s₁ E' hI
  obtain ⟨m, ys, done, t, H, mA, mN, mW, hj, hys, hd⟩ := hI
  refine t_cmp (e_var H vN.var mN (e_int H fun t' s₂ H => d_neI ⟨_, rfl, fun hb => ?_, fun hb => ?_⟩))
  · have h0 : j ≠ 0 := by rintro rfl; simp at hb
    obtain ⟨p, hp, hlt⟩ := U j hj (by exact Mine.om71 h0)
    have hu : upF ab j j = j :: upF ab p p := by
      obtain ⟨i, rfl⟩ : ∃ i, j = i + 1 := ⟨j - 1, by exact Mine.om70 hlt⟩
      rw [upF, if_neg h0, hp, Option.getD_some, upF_fuel U i p (by exact Mine.om69 hj hlt) (by exact Mine.om68 hlt) p (Nat.le_refl _)]
    have hsz : ys.size ≤ sizeLine := by
      have h1 := hys.length
      have h2 := upF_len ab n n
      rw [← hd, List.length_append] at h2
      rw [Array.length_toList] at h1
      rw [sizeLine_eq]; exact Mine.om67 hlen hnl h1 h2
    refine x_append 0 H vW.var mW rfl (e_var H vN.var mN ⟨_, _, _, 0, _, H, rfl, hsz, fun s₃ H => ?_⟩)
    refine x_set (e_sub (e_var H vA.var mA (e_var H vN.var mN (d_item H hv ⟨_, rfl⟩ hp (by exact Mine.om51 hlen) fun y hy => ?_))))
    obtain ⟨ty, rfl⟩ := hy
    refine x_store H vN fun s₄ H => x_nil ⟨.inl rfl, p, hlt, _, _, done ++ [j], ty, H, ?_, upd_self _ _ _, ?_, by exact Mine.om66 hj hlt, ?_, ?_⟩
    · exact upd_get (by decide +kernel) mA
    · exact upd_get (by decide +kernel) mW
    · rw [Array.toList_push]; exact hys.snoc ⟨t, rfl⟩
    · rw [← hd, hu, List.append_assoc]; rfl
  · have h0 : j = 0 := by simpa using hb
    subst h0
    refine x_ret (e_var H vW.var mW ?_)
    obtain ⟨z₂, hz₂, hl, H⟩ := H.freezeL
    refine h _ _ _ (H.back G) ⟨_, _, rfl, hl, ?_⟩
    rw [← hd, show upF ab 0 0 = [] from rfl, List.append_nil]
    exact hys.mono fun _ _ h => h
end Mine
end
section
open PySem PySem.W PySem.Calls PyProof.Rows PySem.Spec
set_option Elab.async false
set_option maxRecDepth 100000
namespace Mine
theorem at_leaves (w : World) : FnAt w 79 (Str.ofString "_law_leaves") [Str.ofString "above", Str.ofString "node"] (bodyOf (stAt 15)) (scopeOf (stAt 15)) where
  fd := ⟨_, _, rfl, rfl, rfl, rfl, rfl, rfl, rfl, by kernel_rfl, ofLen2 (fun _ _ => rfl)⟩
  par := by decide +kernel
  nd := by decide +kernel
  nnd := by decide +kernel
  cnd := by decide +kernel
  co := by kernel_rfl
  gen := by kernel_rfl
  fn := by kernel_rfl

/-- what is under n is at most d floors high -/
noncomputable def Ht (ab : List Nat) : Nat → Nat → Prop
  | 0, n => belowF ab n = []
  | d + 1, n => ∀ k ∈ belowF ab n, Ht ab d k
noncomputable def leavesF (ab : List Nat) : Nat → Nat → List Nat
  | 0, n => [n]
  | d + 1, n => if belowF ab n = [] then [n] else (belowF ab n).flatMap (leavesF ab d)
theorem below_len (ab : List Nat) (n : Nat) : (belowF ab n).length ≤ ab.length := by
  unfold belowF
  refine Nat.le_trans (List.length_filter_le _ _) ?_
  rw [List.length_range']; exact Mine.om90
theorem flatMap_len {α : Type} (g : α → List Nat) (c : Nat) : ∀ l : List α, (∀ x ∈ l, (g x).length ≤ c) → (l.flatMap g).length ≤ l.length * c
  | [], _ => by simp
  | x :: l, h => by
    have h1 := h x (.head _)
    have h2 := flatMap_len g c l fun y hy => h y (.tail _ hy)
    rw [List.flatMap_cons, List.length_append, List.length_cons, Nat.succ_mul]; exact Mine.om89 h1 h2
theorem leaves_len (ab : List Nat) (hl : ab.length ≤ 100) : ∀ d n, (leavesF ab d n).length ≤ 100 ^ d
  | 0, n => by simp [leavesF]
  | d + 1, n => by
    unfold leavesF
    have hp : 0 < 100 ^ (d + 1) := Nat.pow_pos (by decide)
    split
    · simp only [List.length_cons, List.length_nil]; exact Mine.om88 hp
    · have h1 := flatMap_len (leavesF ab d) (100 ^ d) (belowF ab n) fun x _ => leaves_len ab hl d x
      have h2 := below_len ab n
      have h3 : (belowF ab n).length * 100 ^ d ≤ 100 * 100 ^ d := Nat.mul_le_mul_right _ (by exact Mine.om87 hl h2)
      rw [Nat.pow_succ]; exact Mine.om86 h1 h3
theorem below_lt {ab : List Nat} {n k : Nat} (h : k ∈ belowF ab n) : 0 < k ∧ k < ab.length ∧ ab[k]? = some n := by
  unfold belowF at h
  rw [List.mem_filter, List.mem_range'_1] at h
  have h2 : ab[k]? = some n := by simpa using h.2
  exact ⟨by exact Mine.om85 h, (List.getElem?_eq_some_iff.mp h2).1, h2⟩

noncomputable abbrev LeavesC (w : World) (va : Value) (ab : List Nat) (c : Nat) (k : Nat) (res : List Nat) : Prop :=
  ∀ (A : Around) (s : Shared) (z : PM) (vn : Value) (Q : Value → Shared → Prop) (E : Value → Shared → Prop) (_ : Sit w z s) (_ : Rm A c) (_ : Rlist Rnat z va ab) (_ : Rnat z vn k)
    (_ : ∀ r z' s', Nx z s z' s' → Rlist Rnat z' r res → Q r s'), Wp w A (call (.ref 79) [va, vn]) Q E s

theorem leaves_step {w : World} {va : Value} {ab : List Nat} {n c : Nat} (g : Nat → List Nat) (hc : 6 ≤ c) (hlen : ab.length ≤ 100) (hg : ∀ k, (g k).length ≤ 10000) (sub : ∀ k ∈ belowF ab n, LeavesC w va ab c k (g k)) :
    LeavesC w va ab (c + 1) n (if belowF ab n = [] then [n] else (belowF ab n).flatMap g) := by
  intro A s z vn Q E G R hv hn h
  refine go (at_leaves w) G R rfl fun A' env own m s' R' H hsv hgl hm hsc => post fun Q₁ fin₁ => ?_
  have h := fun r z' s' N X => fin₁ (.ret r) s' (h r z' s' N X)
  have vA := hsv (Str.ofString "above") (.inl (by kernel_rfl))
  have vN := hsv (Str.ofString "node") (.inl (by kernel_rfl))
  have vB := hsv (Str.ofString "below") (.inl (by kernel_rfl))
  have vL := hsv (Str.ofString "leaves") (.inl (by kernel_rfl))
  have vK := hsv (Str.ofString "k") (.inl (by kernel_rfl))
  have mA : m (Str.ofString "above") = some va := hm (_, _) (.head _)
  have mN : m (Str.ofString "node") = some vn := hm (_, _) (.tail _ (.head _))
  have gB := hgl (Str.ofString "_law_below") (by kernel_rfl)
  have gL := hgl (Str.ofString "_law_leaves") (by kernel_rfl)
  clear hsv hgl hm hsc
  refine x_set (e_gcall (.ref 67) H gB (a_cons (e_var H vA.var mA (a_one (e_var H vN.var mN ⟨H.gd', ?_⟩)))))
  refine below_ok H.sit (R'.le (by exact Mine.om84 hc)) hv hn hlen fun rb z₁ s₁ N hb => ?_
  obtain ⟨b, us, rfl, hbl', hus⟩ := hb
  have H := H.nx N
  have hv := mono_list mono_nat _ _ _ _ N.zz hv
  have hl := below_len ab n
  have hbl : ∀ x ∈ belowF ab n, 0 < x ∧ x < ab.length ∧ ab[x]? = some n := fun x hx => below_lt hx
  generalize belowF ab n = bl at hus sub hl hbl h ⊢
  refine x_store H vB fun s₂ H => ?_
  -- leaves = [node] if below == [] else []
  have go2 : ∀ (a : Addr) (vs : Array Value) (ini : List Nat) (z₂ : PM) (s₃ : Shared) (m₁ : Str → Option Value), Le z₁ z₂ → W w (Bs.of z s) z₂ env own m₁ [(a, .lst vs)] s₃ → m₁ (Str.ofString "above") = some va → m₁ (Str.ofString "below") = some (.ref b) →
      All2 (Rnat z₂) vs.toList ini → ini.length ≤ 1 → ini ++ bl.flatMap g = (if bl = [] then [n] else bl.flatMap g) → m₁ (Str.ofString "leaves") = some (.ref a) → Wp w A' (execs ((bodyOf (stAt 15)).drop 2) env) Q₁ (fun _ _ => False) s₃ := by
    intro a vs ini z₂ s₃ m₁ hz₂ H mA mB hvs hi1 hini mL
    refine x_for H (e_var H vB.var mB ?_)
    refine i_list H R'.hh (hbl'.mono hz₂) fun I s₄ H IT => forI H IT (fun i z' m mu => Le z₂ z' ∧ m (Str.ofString "above") = some va ∧ m (Str.ofString "leaves") = some (.ref a) ∧ ∃ vs, mu = [(a, .lst vs)] ∧ All2 (Rnat z') vs.toList (ini ++ (bl.take i).flatMap g)) ⟨Le.refl _, mA, mL, vs, rfl, by simpa using hvs⟩ ?_ ?_
    · intro i v z₃ m₃ mu₃ B₃ s₅ E' hi hP hJ H
      refine turnQ fun Q₀ fin => ?_
      obtain ⟨hz₃, mA, mL, ws, rfl, hws⟩ := hJ
      obtain ⟨k, hk, t, rfl⟩ := hus.get' (i := i) (a := v) (by simpa using hP)
      have hmem : k ∈ bl := List.mem_of_getElem? hk
      refine x_assignG H vK fun m₄ kk mK s₆ H => ?_
      have mL := kk _ _ (by decide +kernel) mL
      have mA := kk _ _ (by decide +kernel) mA
      refine x_extend 0 H vL.var mL rfl ?_
      refine e_gcall (.ref 79) H gL (a_cons (e_var H vA.var mA (a_one (e_var H vK.var mK ⟨H.gd', ?_⟩))))
      refine sub k hmem _ _ _ _ _ _ H.sit R' (mono_list mono_nat _ _ _ _ (hz₂.trans hz₃) hv) ⟨t, rfl⟩ fun r z₄ s₇ N hr => ?_
      obtain ⟨d, ds, rfl, hd, hds⟩ := hr
      have H := H.nx N
      refine ⟨d, z₄, _, _, 0, ws, ds, rfl, H, rfl, hd, ?_, fun s₈ H => x_nil (fin _ _ ⟨.inl rfl, z₄, _, _, H, N.zz, hz₃.trans N.zz, mA, mL, _, rfl, ?_⟩)⟩
      · have h1 := hws.length
        have h2 := hds.length
        have h3 : ((bl.take i).flatMap g).length ≤ (bl.take i).length * 10000 := flatMap_len g 10000 _ fun x _ => hg x
        have h4 := hg k
        rw [List.length_append] at h1
        rw [Array.length_toList] at h1 h2
        rw [List.length_take] at h3
        have h5 : min i bl.length * 10000 ≤ 100 * 10000 := Nat.mul_le_mul_right _ (by exact Mine.om83 hlen hl)
        rw [sizeLine_eq]; exact Mine.om82 hi1 h1 h2 h3 h4 h5
      · rw [List.take_add_one, hk, Array.toList_append]
        simp only [Option.toList, List.flatMap_append, List.flatMap_cons, List.flatMap_nil, List.append_nil]
        rw [← List.append_assoc]
        exact (hws.mono fun _ _ => mono_nat _ _ _ _ N.zz).append hds
    · intro z' m' mu' s₅ H hJ
      obtain ⟨_, _, mL, ws, rfl, hws⟩ := hJ
      refine x_ret (e_var H vL.var mL ?_)
      obtain ⟨z₃, hz₃, hl, H⟩ := H.freezeL
      refine h _ _ _ (H.back G) ⟨_, _, rfl, hl, ?_⟩
      have e : us.size = bl.length := by rw [← hus.length]; simp
      rw [e, List.take_length, hini] at hws
      exact hws.mono fun _ _ => mono_nat _ _ _ _ hz₃
  refine x_set (e_ifexp (t_cmp (e_var H vB.var (upd_self _ _ _) (e_listZ H (a_nil ⟨Nat.zero_le _, z₁, _, _, H, fun a z₂ s₃ hz₂ ha H => ?_⟩)))))
  refine d_eqD (dat_list dat_nat) (x := bl) (y := []) H (R'.le (by exact Mine.om81 hc)) (by decide) (mono_list mono_nat _ _ _ _ hz₂ ⟨b, us, rfl, hbl', hus⟩) ⟨_, _, rfl, ha, trivial⟩ (fun _ _ => trivial) (fun _ _ => trivial) fun b hbq => ⟨b, rfl, fun hb1 => ?_, fun hb0 => ?_⟩
  · have e : bl = [] := hbq.mp hb1
    refine e_listM H (a_one (e_var H vN.var (upd_get (by decide +kernel) mN) ⟨by rw [sizeLine_eq]; simp, z₂, _, _, H, fun a s₄ H => x_store H vL fun s₅ H => go2 a _ [n] z₂ _ _ hz₂ H ?_ ?_ ⟨hn, trivial⟩ (by simp) (by simp [e]) (upd_self _ _ _)⟩))
    · exact upd_get (by decide +kernel) (upd_get (by decide +kernel) mA)
    · exact upd_get (by decide +kernel) (upd_self _ _ _)
  · have e : bl ≠ [] := fun q => by rw [hbq.mpr q] at hb0; cases hb0
    refine e_nilM H fun a s₄ H => x_store H vL fun s₅ H => go2 a _ [] z₂ _ _ hz₂ H ?_ ?_ trivial (by simp) (by simp [e]) (upd_self _ _ _)
    · exact upd_get (by decide +kernel) (upd_get (by decide +kernel) mA)
    · exact upd_get (by decide +kernel) (upd_self _ _ _)

theorem leaves_ok (w : World) (va : Value) {ab : List Nat} (hlen : ab.length ≤ 100) : ∀ (d n : Nat), d ≤ 3 → Ht ab d n → LeavesC w va ab (d + 7) n (leavesF ab d n) := by
  intro d
  induction d with
  | zero =>
    intro n _ hh
    have := leaves_step (w := w) (va := va) (n := n) (c := 6) (fun _ => []) (by exact Mine.om80) hlen (fun _ => by simp) (fun k hk => by rw [show belowF ab n = [] from hh] at hk; cases hk)
    rw [if_pos (show belowF ab n = [] from hh)] at this
    exact this
  | succ d ih =>
    intro n hd hh
    exact leaves_step (w := w) (va := va) (n := n) (c := d + 7) (leavesF ab d) (by exact Mine.om79) hlen (fun k => by
      have := leaves_len ab hlen d k
      have h2 : 100 ^ d ≤ 100 ^ 2 := Nat.pow_le_pow_right (by decide) (by exact Mine.om78 hd)
      exact Mine.om77 this h2) (fun k hk => ih k (by exact Mine.om76 hd) (hh k hk))
end Mine
end
section
open PySem PySem.W PySem.Calls PyProof.Rows PySem.Spec
set_option Elab.async false
set_option maxRecDepth 100000
namespace Mine
theorem at_folders (w : World) : FnAt w 93 (Str.ofString "_law_folders") [Str.ofString "above", Str.ofString "leaves"] (bodyOf (stAt 17)) (scopeOf (stAt 17)) where
  fd := ⟨_, _, rfl, rfl, rfl, rfl, rfl, rfl, rfl, by kernel_rfl, ofLen2 (fun _ _ => rfl)⟩
  par := by decide +kernel
  nd := by decide +kernel
  nnd := by decide +kernel
  cnd := by decide +kernel
  co := by kernel_rfl
  gen := by kernel_rfl
  fn := by kernel_rfl

noncomputable def addF (acc : List Nat) (k : Nat) : List Nat := if acc.contains k then acc else acc ++ [k]
noncomputable abbrev parF (ab : List Nat) (x : Nat) : Nat := ab[x]?.getD 0
noncomputable def foldersF (ab leaves : List Nat) : List Nat := leaves.foldl (fun acc x => (upF ab (parF ab x) (parF ab x)).foldl addF acc) []
theorem addF_len : ∀ (l acc : List Nat), (l.foldl addF acc).length ≤ acc.length + l.length
  | [], acc => by simp
  | k :: l, acc => by
    rw [List.foldl_cons]
    have h := addF_len l (addF acc k)
    have h2 : (addF acc k).length ≤ acc.length + 1 := by
      unfold addF; split
      · exact Mine.om97
      · simp
    simp only [List.length_cons]; exact Mine.om96 h h2
theorem folds_len (ab : List Nat) (c : Nat) : ∀ (l acc : List Nat), (∀ x ∈ l, parF ab x ≤ c) → (l.foldl (fun acc x => (upF ab (parF ab x) (parF ab x)).foldl addF acc) acc).length ≤ acc.length + l.length * c
  | [], acc, _ => by simp
  | x :: l, acc, h => by
    rw [List.foldl_cons]
    have h1 := folds_len ab c l ((upF ab (parF ab x) (parF ab x)).foldl addF acc) fun y hy => h y (.tail _ hy)
    have h2 := addF_len (upF ab (parF ab x) (parF ab x)) acc
    have h3 := upF_len ab (parF ab x) (parF ab x)
    have h4 := h x (.head _)
    simp only [List.length_cons, Nat.succ_mul]; exact Mine.om95 h1 h2 h3 h4
theorem foldl_take_succ {α β : Type} (f : β → α → β) (l : List α) (i : Nat) (a : α) (b : β) (h : l[i]? = some a) : (l.take (i + 1)).foldl f b = f ((l.take i).foldl f b) a := by
  rw [List.take_add_one, h, List.foldl_append]; rfl

theorem folders_ok {w : World} {A : Around} {s : Shared} {z : PM} {va vl : Value} {ab ls : List Nat} {Q : Value → Shared → Prop} {E : Value → Shared → Prop} (G : Sit w z s) (R : Rm A 5)
    (hv : Rlist Rnat z va ab) (hls : Rlist Rnat z vl ls) (hlen : ab.length ≤ 100) (hll : ls.length ≤ 10000) (U : Up ab) (hb : ∀ x ∈ ls, ∃ p, ab[x]? = some p ∧ p < ab.length) (h : ∀ r z' s', Nx z s z' s' → Rlist Rnat z' r (foldersF ab ls) → Q r s') : Wp w A (call (.ref 93) [va, vl]) Q E s := by
  obtain ⟨la, lvs, rfl, hla, hlv⟩ := hls
  refine go (at_folders w) G R rfl fun A' env own m s' R' H hsv hgl hm hsc => post fun Q₁ fin₁ => ?_
  have h := fun r z' s' N X => fin₁ (.ret r) s' (h r z' s' N X)
  have vA := hsv (Str.ofString "above") (.inl (by kernel_rfl))
  have vL := hsv (Str.ofString "leaves") (.inl (by kernel_rfl))
  have vF := hsv (Str.ofString "folders") (.inl (by kernel_rfl))
  have vX := hsv (Str.ofString "leaf") (.inl (by kernel_rfl))
  have vK := hsv (Str.ofString "k") (.inl (by kernel_rfl))
  have mA : m (Str.ofString "above") = some va := hm (_, _) (.head _)
  have mL : m (Str.ofString "leaves") = some (.ref la) := hm (_, _) (.tail _ (.head _))
  have gU := hgl (Str.ofString "_law_up") (by kernel_rfl)
  clear hsv hgl hm hsc
  refine x_set (e_nilM H fun a s₁ H => x_store H vF fun s₂ H => ?_)
  refine x_for H (e_var H vL.var (upd_get (by decide +kernel) mL) (i_list H R'.hh hla fun I s₄ H IT => forI H IT
    (fun i z' m mu => Le z z' ∧ m (Str.ofString "above") = some va ∧ m (Str.ofString "folders") = some (.ref a) ∧ ∃ vs, mu = [(a, .lst vs)] ∧ All2 (Rnat z') vs.toList ((ls.take i).foldl (fun acc x => (upF ab (parF ab x) (parF ab x)).foldl addF acc) []))
    ⟨Le.refl _, upd_get (by decide +kernel) mA, upd_self _ _ _, _, rfl, trivial⟩ ?_ ?_))
  · intro i v z₁ m₁ mu₁ B₁ s₁ E' hi hP hJ H
    refine turnQ fun Q₀ fin => ?_
    obtain ⟨hz₁, mA, mF, vs, rfl, hvs⟩ := hJ
    obtain ⟨x, hx, t, rfl⟩ := hlv.get' (i := i) (a := v) (by simpa using hP)
    have hmem : x ∈ ls := List.mem_of_getElem? hx
    obtain ⟨p, hp, hpl⟩ := hb x hmem
    have hpar : parF ab x = p := by unfold parF; rw [hp]; rfl
    have hl1 := folds_len ab 100 (ls.take i) [] fun y hy => by
      obtain ⟨q, hq, hql⟩ := hb y (List.mem_of_mem_take hy)
      unfold parF; rw [hq, Option.getD_some]; exact Mine.om94 hlen hql
    rw [List.length_take, List.length_nil] at hl1
    have hl2 : min i ls.length * 100 ≤ 10000 * 100 := Nat.mul_le_mul_right _ (by exact Mine.om93 hll)
    refine x_assignG H vX fun m₂ kk mX s₂ H => ?_
    have mA := kk _ _ (by decide +kernel) mA
    have mF := kk _ _ (by decide +kernel) mF
    refine x_for H (e_gcall (.ref 86) H gU (a_cons (e_var H vA.var mA (a_one (e_sub (e_var H vA.var mA (e_var H vX.var mX
      (d_item H (mono_list mono_nat _ _ _ _ hz₁ hv) ⟨t, rfl⟩ hp (by exact Mine.om51 hlen) fun y hy => ⟨H.gd', ?_⟩))))))))
    refine up_ok H.sit (R'.le (by exact Mine.om92)) (mono_list mono_nat _ _ _ _ hz₁ hv) hy hlen U hpl fun r z₂ s₃ N hr => ?_
    obtain ⟨b, us, rfl, hbl, hus⟩ := hr
    have H := H.nx N
    refine i_list H R'.hh hbl fun I s₄ H IT => forI H IT
      (fun j z' m mu => Le z₂ z' ∧ m (Str.ofString "above") = some va ∧ m (Str.ofString "folders") = some (.ref a) ∧ ∃ vs, mu = [(a, .lst vs)] ∧
        All2 (Rnat z') vs.toList (((upF ab p p).take j).foldl addF ((ls.take i).foldl (fun acc x => (upF ab (parF ab x) (parF ab x)).foldl addF acc) [])))
      ⟨Le.refl _, mA, mF, _, rfl, hvs.mono fun _ _ => mono_nat _ _ _ _ N.zz⟩ ?_ ?_
    · intro j v z₃ m₃ mu₃ B₃ s₅ E'' hj hP hJ H
      refine turnQ fun Q₂ fin₂ => ?_
      obtain ⟨hz₃, mA, mF, ws, rfl, hws⟩ := hJ
      obtain ⟨k, hk, t', rfl⟩ := hus.get' (i := j) (a := v) (by simpa using hP)
      have hsz : ws.size ≤ sizeLine := by
        have h1 := hws.length
        have h2 := addF_len ((upF ab p p).take j) ((ls.take i).foldl (fun acc x => (upF ab (parF ab x) (parF ab x)).foldl addF acc) [])
        have h3 := upF_len ab p p
        rw [Array.length_toList] at h1
        rw [List.length_take] at h2
        rw [sizeLine_eq]; exact Mine.om91 hlen hll hpl hl1 h1 h2 h3
      refine x_assignG H vK fun m₄ kk mK s₆ H => ?_
      have mA := kk _ _ (by decide +kernel) mA
      have mF := kk _ _ (by decide +kernel) mF
      refine x_if (t_cmp (e_var H vK.var mK (e_var H vF.var mF (d_notinN (H.plainAt (i := 0) rfl) hws ⟨_, rfl, fun hb1 => ?_, fun hb0 => ?_⟩))))
      · refine x_append 0 H vF.var mF rfl (e_var H vK.var mK ⟨z₃, _, _, 0, ws, H, rfl, hsz, fun s₇ H => x_nil (fin₂ _ _ ⟨.inl rfl, z₃, _, _, H, Le.refl _, hz₃, mA, mF, _, rfl, ?_⟩)⟩)
        · rw [foldl_take_succ _ _ _ _ _ hk, addF, if_neg (by simpa using hb1), Array.toList_push]
          exact hws.snoc ⟨t', rfl⟩
      · refine x_nil (fin₂ _ _ ⟨.inl rfl, z₃, _, _, H, Le.refl _, hz₃, mA, mF, _, rfl, ?_⟩)
        · rw [foldl_take_succ _ _ _ _ _ hk, addF, if_pos (by simpa using hb0)]
          exact hws
    · intro z' m' mu' s₅ H hJ
      obtain ⟨hz₃, mA, mF, ws, rfl, hws⟩ := hJ
      refine x_nil (fin _ _ ⟨.inl rfl, z', _, _, H, N.zz.trans hz₃, hz₁.trans (N.zz.trans hz₃), mA, mF, _, rfl, ?_⟩)
      rw [foldl_take_succ _ _ _ _ _ hx, hpar]
      have e : us.size = (upF ab p p).length := by rw [← hus.length]; simp
      rw [e, List.take_length] at hws
      exact hws
  · intro z' m' mu' s₅ H hJ
    obtain ⟨_, _, mF, ws, rfl, hws⟩ := hJ
    refine x_ret (e_var H vF.var mF ?_)
    obtain ⟨z₃, hz₃, hl, H⟩ := H.freezeL
    refine h _ _ _ (H.back G) ⟨_, _, rfl, hl, ?_⟩
    have e : lvs.size = ls.length := by rw [← hlv.length]; simp
    rw [e, List.take_length] at hws
    exact hws.mono fun _ _ => mono_nat _ _ _ _ hz₃
end Mine
end
section
open PySem PySem.W PySem.Calls PyProof.Rows PySem.Spec
set_option Elab.async false
set_option maxRecDepth 100000
namespace Mine
theorem at_due (w : World) : FnAt w 124 (Str.ofString "_law_due") [Str.ofString "above", Str.ofString "words", Str.ofString "texts", Str.ofString "leaf"] (bodyOf (stAt 22)) (scopeOf (stAt 22)) where
  fd := ⟨_, _, rfl, rfl, rfl, rfl, rfl, rfl, rfl, by kernel_rfl, ofLen4 (fun _ _ _ _ => rfl)⟩
  par := by decide +kernel
  nd := by decide +kernel
  nnd := by decide +kernel
  cnd := by decide +kernel
  co := by kernel_rfl
  gen := by kernel_rfl
  fn := by kernel_rfl

noncomputable abbrev sNil : Str := Str.ofString ""
noncomputable def dueF (ab : List Nat) (ws ts : List Str) (x : Nat) : List Str × Str :=
  let way := ((upF ab x x).filterMap (fun k => ws[k]?)).reverse
  if x % 2 = 0 then (way, ts[x]?.getD sNil) else (way ++ [sNil], sNil)

theorem upF_mem {ab : List Nat} (U : Up ab) : ∀ (f n : Nat), n < ab.length → ∀ k ∈ upF ab f n, 0 < k ∧ k < ab.length
  | 0, n, _, k, hk => by simp [upF] at hk
  | f + 1, n, hl, k, hk => by
    unfold upF at hk
    by_cases h0 : n = 0
    · simp [h0] at hk
    · rw [if_neg h0] at hk
      rcases List.mem_cons.mp hk with rfl | hk
      · exact ⟨by exact Mine.om74 h0, hl⟩
      · obtain ⟨p, hp, hlt⟩ := U n hl (by exact Mine.om74 h0)
        rw [hp] at hk
        exact upF_mem U f p (by exact Mine.om73 hl hlt) k hk
theorem All2.reverse {α β : Type} {R : α → β → Prop} : ∀ {l : List α} {r : List β}, All2 R l r → All2 R l.reverse r.reverse
  | [], [], _ => trivial
  | a :: l, b :: r, h => by
    rw [List.reverse_cons, List.reverse_cons]
    exact h.2.reverse.snoc h.1

theorem due_ok {w : World} {A : Around} {s : Shared} {z : PM} {va vw vt vx : Value} {ab : List Nat} {ws ts : List Str} {x : Nat} {Q : Value → Shared → Prop} {E : Value → Shared → Prop} (G : Sit w z s) (R : Rm A 5)
    (hv : Rlist Rnat z va ab) (hw : Rlist Rstr z vw ws) (ht : Rlist Rstr z vt ts) (hx : Rnat z vx x) (hlen : ab.length ≤ 100) (hwl : ws.length = ab.length) (htl : ts.length = ab.length) (U : Up ab) (hxl : x < ab.length)
    (h : ∀ r z' s', Nx z s z' s' → Rpair (Rlist Rstr) Rstr z' r (dueF ab ws ts x) → Q r s') : Wp w A (call (.ref 124) [va, vw, vt, vx]) Q E s := by
  refine go (at_due w) G R rfl fun A' env own m s' R' H hsv hgl hm hsc => post fun Q₁ fin₁ => ?_
  have h := fun r z' s' N X => fin₁ (.ret r) s' (h r z' s' N X)
  have vA := hsv (Str.ofString "above") (.inl (by kernel_rfl))
  have vW := hsv (Str.ofString "words") (.inr (by kernel_rfl))
  have vT := hsv (Str.ofString "texts") (.inl (by kernel_rfl))
  have vX := hsv (Str.ofString "leaf") (.inl (by kernel_rfl))
  have vY := hsv (Str.ofString "way") (.inl (by kernel_rfl))
  have mA : m (Str.ofString "above") = some va := hm (_, _) (.head _)
  have mW : m (Str.ofString "words") = some vw := hm (_, _) (.tail _ (.head _))
  have mT : m (Str.ofString "texts") = some vt := hm (_, _) (.tail _ (.tail _ (.head _)))
  have mX : m (Str.ofString "leaf") = some vx := hm (_, _) (.tail _ (.tail _ (.tail _ (.head _))))
  have gU := hgl (Str.ofString "_law_up") (by kernel_rfl)
  have cW := cell_of hsc (x := Str.ofString "words") (by kernel_rfl) vW
  clear hsv hgl hm hsc
  obtain ⟨tx, rfl⟩ := hx
  refine x_set (e_sliceL H (e_comp H ⟨by decide +kernel, rfl, by decide +kernel⟩ (free_of [Str.ofString "words"] (by decide +kernel) (all_cons cW all_nil)) ?_) (fun _ _ => ⟨_, by with_unfolding_all rfl⟩))
  refine e_gcall (.ref 86) H gU (a_cons (e_var H vA.var mA (a_one (e_var H vX.var mX ⟨H.gd', ?_⟩))))
  refine up_ok H.sit (R'.le (by exact Mine.om92)) hv ⟨_, rfl⟩ hlen U hxl fun r z₁ s₁ N hr => ?_
  obtain ⟨b, us, rfl, hbl, hus⟩ := hr
  have H := H.nx N
  have hw := mono_list mono_str _ _ _ _ N.zz hw
  have ht := mono_list mono_str _ _ _ _ N.zz ht
  have eu : us.size = (upF ab x x).length := by rw [← hus.length]; simp
  have hul : ∀ (i k : Nat), (upF ab x x)[i]? = some k → k < ab.length := fun i k e => (upF_mem U _ _ hxl k (List.mem_of_getElem? e)).2
  refine i_list H R'.hh hbl fun I s₂ H IT => compI H IT (by have := upF_len ab x x; rw [sizeLine_eq]; exact Mine.om102 hlen hxl eu this) (Rr Rstr (fun i => (upF ab x x)[i]?.bind (fun k => ws[k]?))) (Rr.mono mono_str) ?_ ?_
  · intro i v z₂ B₁ C cenv mc s₁ E' hi hP hz₁ H CE
    refine turnC fun Q₂ fin₂ => ?_
    obtain ⟨k, hk, t, rfl⟩ := hus.get' (i := i) (a := v) (by simpa using hP)
    have vK := CE.loc (Str.ofString "k") (by kernel_rfl)
    have cW := CE.cap (Str.ofString "words") (by kernel_rfl)
    have hkl := hul i k hk
    have hwk : ws[k]? = some (ws[k]'(by exact Mine.om16 hwl hkl)) := List.getElem?_eq_getElem _
    refine x_assignN H vK fun s₃ H => ?_
    refine e_sub (e_var H cW.1 (upd_get (by decide +kernel) (cW.2.trans mW)) (e_var H vK.var (upd_self _ _ _) (d_item H (mono_list mono_str _ _ _ _ hz₁ hw) ⟨_, rfl⟩ hwk (by exact Mine.om99 hlen hwl) fun y hy => ?_)))
    exact fin₂ _ _ ⟨z₂, _, _, H, Le.refl _, Rr_some (by rw [hk]; exact hwk) hy⟩
  · intro z₂ s₃ D ys opts H hz₂ hlen' hops hys
    have hvals : All2 (Rstr z₂) ys.toList ((upF ab x x).filterMap fun k => ws[k]?) := by
      exact comp_vals (hlen'.trans eu) hops hys
    have hysl : ys.size ≤ 100 := by
      have h1 := hvals.length
      have h2 := List.length_filterMap_le (fun k => ws[k]?) (upF ab x x)
      have h3 := upF_len ab x x
      rw [Array.length_toList] at h1; exact Mine.om101 hlen hxl h1 h2 h3
    refine p_none (p_none (p_some (e_neg H fun t s₄ H => ⟨D, ys, none, none, some (-1), z₂, _, _, rfl, H, H.plainAt (i := 0) rfl, by rw [sizeLine_eq]; exact Mine.om100 hysl, .none, .none, .int _ _, by decide, fun a z₃ s₅ hz₃ ha H => ?_⟩)))
    rw [krv_pick] at ha
    have H := H.drop
    have hway : All2 (Rstr z₃) ys.toList.reverse ((upF ab x x).filterMap fun k => ws[k]?).reverse := (hvals.mono fun _ _ => mono_str _ _ _ _ hz₃).reverse
    generalize hwd : ((upF ab x x).filterMap fun k => ws[k]?).reverse = wd at hway
    refine x_store H vY fun s₆ H => x_ret (e_ifexp (t_cmp (e_bin (e_var H vX.var (upd_get (by decide +kernel) mX) (e_int H fun t s₇ H => d_modN (b := 2) H (by decide) fun t s₈ H => e_int H fun t s₉ H => d_eqN (b := 0) ⟨_, rfl, fun hq => ?_, fun hq => ?_⟩)))))
    · have hev : x % 2 = 0 := by simpa using hq
      have htx : ts[x]? = some (ts[x]'(by exact Mine.om16 htl hxl)) := List.getElem?_eq_getElem _
      refine e_tupZ H (a_cons (e_var H vY.var (upd_self _ _ _) (a_one (e_sub (e_var H vT.var (upd_get (by decide +kernel) mT) (e_var H vX.var (upd_get (by decide +kernel) mX)
        (d_item H (mono_list mono_str _ _ _ _ (hz₂.trans hz₃) ht) ⟨_, rfl⟩ htx (by exact Mine.om99 hlen htl) fun y hy => ⟨by rw [sizeLine_eq]; simp, z₃, _, _, H, fun c z₄ s₁₀ hz₄ hc H => ?_⟩)))))))
      refine h _ _ _ (H.back G) ⟨c, _, _, rfl, hc, ?_⟩
      rw [dueF, if_pos hev, htx]
      rw [← hwd] at hway
      exact ⟨⟨_, _, rfl, ha.mono hz₄, hway.mono fun _ _ => mono_str _ _ _ _ hz₄⟩, hy⟩
    · have hev : ¬ x % 2 = 0 := by simpa using hq
      refine e_tupZ H (a_cons (e_bin (e_var H vY.var (upd_self _ _ _) (e_listZ H (a_one (e_str H fun t s₁₀ H => ⟨by rw [sizeLine_eq]; simp, z₃, _, _, H, fun c z₄ s₁₁ hz₄ hc H => ?_⟩))))))
      refine d_addL H ((ha.mono hz₄).plain H) (hc.plain H) (by rw [sizeLine_eq]; simp; exact Mine.om98 hysl) fun d z₅ s₁₂ hz₅ hd H => a_one (e_str H fun t' s₁₃ H => ⟨by rw [sizeLine_eq]; simp, z₅, _, _, H, fun e z₆ s₁₄ hz₆ he H => ?_⟩)
      refine h _ _ _ (H.back G) ⟨e, _, _, rfl, he, ?_⟩
      rw [dueF, if_neg hev]
      rw [← hwd] at hway
      refine ⟨⟨_, _, rfl, hd.mono hz₆, ?_⟩, ⟨t', rfl⟩⟩
      rw [Array.toList_append]
      exact (hway.mono fun _ _ => mono_str _ _ _ _ ((hz₄.trans hz₅).trans hz₆)).append ⟨⟨_, rfl⟩, trivial⟩
end Mine
end
section
open PySem PySem.W PySem.Calls PyProof.Rows PySem.Spec
set_option Elab.async false
set_option maxRecDepth 100000
set_option linter.unusedVariables false
namespace Mine
theorem at_written (w : World) : FnAt w 107 (Str.ofString "_law_written") [Str.ofString "above", Str.ofString "words", Str.ofString "texts", Str.ofString "node"] (bodyOf (stAt 19)) (scopeOf (stAt 19)) where
  fd := ⟨_, _, rfl, rfl, rfl, rfl, rfl, rfl, rfl, by kernel_rfl, ofLen4 (fun _ _ _ _ => rfl)⟩
  par := by decide +kernel
  nd := by decide +kernel
  nnd := by decide +kernel
  cnd := by decide +kernel
  co := by kernel_rfl
  gen := by kernel_rfl
  fn := by kernel_rfl

noncomputable def nthS (l : List Stmt) (i : Nat) : Stmt := l[i]?.getD (.Pass default)
noncomputable def bodyFor : Stmt → List Stmt
  | .For _ _ b _ _ => b
  | _ => []
noncomputable def elseOf : Stmt → List Stmt
  | .If _ _ e _ => e
  | _ => []
noncomputable def thenOf : Stmt → List Stmt
  | .If _ b _ _ => b
  | _ => []
noncomputable abbrev sComma : Str := Str.ofString ", "
noncomputable abbrev sSlash : Str := Str.ofString "/"
theorem len_comma : sComma.length = 2 := by decide +kernel
theorem len_slash : sSlash.length = 1 := by decide +kernel
noncomputable abbrev at? (ws : List Str) (k : Nat) : Str := ws[k]?.getD sNil
noncomputable def cellF (ab : List Nat) (ws ts : List Str) (g : Nat → Str) (k : Nat) : Str :=
  if belowF ab k = [] ∧ k % 2 = 0 then itemF (at? ws k) (at? ts k) else itemF (at? ws k ++ sSlash) (g k)
noncomputable def writtenF (ab : List Nat) (ws ts : List Str) : Nat → Nat → Str
  | 0, _ => Txt.join sComma []
  | d + 1, n => Txt.join sComma ((belowF ab n).map (cellF ab ws ts (writtenF ab ws ts d)))

theorem item_len (x y : Str) : (itemF x y).length ≤ x.length + 1 + (y.length * 9 + 2) := by
  have e1 : sEq.length = 1 := by decide +kernel
  have e2 : sQuot.length = 1 := by decide +kernel
  have := esc_len y
  unfold itemF
  split
  · rw [Str.length_append, Str.length_append, e1]; exact Mine.om128
  · rw [Str.length_append, Str.length_append, Str.length_append, Str.length_append, e1, e2]; exact Mine.om127 this
theorem sum_len (c : Nat) : ∀ l : List Str, (∀ x ∈ l, x.length ≤ c) → (l.map (·.length)).sum ≤ l.length * c
  | [], _ => by simp
  | x :: l, h => by
    have h1 := h x (.head _)
    have h2 := sum_len c l fun y hy => h y (.tail _ hy)
    simp only [List.map_cons, List.sum_cons, List.length_cons, Nat.succ_mul]; exact Mine.om89 h1 h2
theorem join_len (c n : Nat) (l : List Str) (h : ∀ x ∈ l, x.length ≤ c) (hn : l.length ≤ n) : (Txt.join sComma l).length ≤ n * (c + 2) := by
  have h1 := StrLaws.join_length_le sComma l
  have h2 := sum_len c l h
  have h3 : l.length * (c + 2) ≤ n * (c + 2) := Nat.mul_le_mul_right _ hn
  rw [len_comma] at h1
  rw [Nat.mul_add] at h3
  rw [show Txt.join sComma l = Str.join sComma l from StrLaws.glued_eq_join _ _]
  exact Mine.om126 h1 h2 h3
theorem joinOk_len (c : Nat) (l : List Str) (h : ∀ x ∈ l, x.length ≤ c) (hb : l.length * c + l.length * 2 ≤ 16777216) : JoinOk sComma l = true := by
  refine PyProof.Rows.joinOk_of ?_
  have h2 := sum_len c l h
  rw [len_comma]; exact Mine.om125 hb h2

structure Wds (ab : List Nat) (ws ts : List Str) : Prop where
  wl : ws.length = ab.length
  tl : ts.length = ab.length
  w2 : ∀ x ∈ ws, x.length ≤ 2
  t3 : ∀ x ∈ ts, x.length ≤ 3
theorem at_len {l : List Str} {c k : Nat} (h : ∀ x ∈ l, x.length ≤ c) : (at? l k).length ≤ c := by
  unfold at?
  cases e : l[k]? with
  | none => rw [Option.getD_none]; have : sNil.length = 0 := by decide +kernel
            exact Mine.om124 this
  | some x => exact h x (List.mem_of_getElem? e)
theorem cell_len {ab : List Nat} {ws ts : List Str} (D : Wds ab ws ts) (g : Nat → Str) (c k : Nat) (hg : (g k).length ≤ c) (hc : 3 ≤ c) : (cellF ab ws ts g k).length ≤ 6 + c * 9 := by
  unfold cellF
  have h1 := at_len (k := k) D.w2
  have h2 := at_len (k := k) D.t3
  split
  · have := item_len (at? ws k) (at? ts k); exact Mine.om123 hc h1 h2 this
  · have := item_len (at? ws k ++ sSlash) (g k)
    rw [Str.length_append, len_slash] at this; exact Mine.om122 hg h1 this

noncomputable abbrev WrittenC (w : World) (va vw vt : Value) (ab : List Nat) (ws ts : List Str) (c : Nat) (k : Nat) (res : Str) : Prop :=
  ∀ (A : Around) (s : Shared) (z : PM) (vn : Value) (Q : Value → Shared → Prop) (E : Value → Shared → Prop) (_ : Sit w z s) (_ : Rm A c) (_ : Rlist Rnat z va ab) (_ : Rlist Rstr z vw ws) (_ : Rlist Rstr z vt ts) (_ : Rnat z vn k)
    (_ : ∀ r z' s', Nx z s z' s' → Rstr z' r res → Q r s'), Wp w A (call (.ref 107) [va, vw, vt, vn]) Q E s

theorem written_step {w : World} {va vw vt : Value} {ab : List Nat} {ws ts : List Str} {n c L : Nat} (D : Wds ab ws ts) (g : Nat → Str) (hc : 6 ≤ c) (hlen : ab.length ≤ 15) (hg : ∀ k, (g k).length ≤ L) (hL : L ≤ 61852) (hL3 : 3 ≤ L) (sub : ∀ k ∈ belowF ab n, WrittenC w va vw vt ab ws ts c k (g k)) :
    WrittenC w va vw vt ab ws ts (c + 1) n (Txt.join sComma ((belowF ab n).map (cellF ab ws ts g))) := by
  intro A s z vn Q E G R hv hw ht hn h
  refine go (at_written w) G R rfl fun A' env own m s' R' H hsv hgl hm hsc => post fun Q₁ fin₁ => ?_
  have h := fun r z' s' N X => fin₁ (.ret r) s' (h r z' s' N X)
  have vA := hsv (Str.ofString "above") (.inl (by kernel_rfl))
  have vW := hsv (Str.ofString "words") (.inl (by kernel_rfl))
  have vT := hsv (Str.ofString "texts") (.inl (by kernel_rfl))
  have vN := hsv (Str.ofString "node") (.inl (by kernel_rfl))
  have vI := hsv (Str.ofString "items") (.inl (by kernel_rfl))
  have vK := hsv (Str.ofString "k") (.inl (by kernel_rfl))
  have mA : m (Str.ofString "above") = some va := hm (_, _) (.head _)
  have mW : m (Str.ofString "words") = some vw := hm (_, _) (.tail _ (.head _))
  have mT : m (Str.ofString "texts") = some vt := hm (_, _) (.tail _ (.tail _ (.head _)))
  have mN : m (Str.ofString "node") = some vn := hm (_, _) (.tail _ (.tail _ (.tail _ (.head _))))
  have gB := hgl (Str.ofString "_law_below") (by kernel_rfl)
  have gI := hgl (Str.ofString "_law_item") (by kernel_rfl)
  have gW := hgl (Str.ofString "_law_written") (by kernel_rfl)
  clear hsv hgl hm hsc
  have hbl : ∀ x ∈ belowF ab n, 0 < x ∧ x < ab.length ∧ ab[x]? = some n := fun x hx => below_lt hx
  have hl := below_len ab n
  refine x_set (e_nilM H fun a s₁ H => x_store H vI fun s₂ H => ?_)
  refine x_for H (e_gcall (.ref 67) H gB (a_cons (e_var H vA.var (upd_get (by decide +kernel) mA) (a_one (e_var H vN.var (upd_get (by decide +kernel) mN) ⟨H.gd', ?_⟩)))))
  refine below_ok H.sit (R'.le (by exact Mine.om84 hc)) hv hn (by exact Mine.om117 hlen) fun rb z₁ s₁ N hb => ?_
  obtain ⟨b, us, rfl, hbL, hus⟩ := hb
  have H := H.nx N
  have hv := mono_list mono_nat _ _ _ _ N.zz hv
  have hw := mono_list mono_str _ _ _ _ N.zz hw
  have ht := mono_list mono_str _ _ _ _ N.zz ht
  generalize belowF ab n = bl at hus sub hl hbl h ⊢
  have hcell : ∀ k, (cellF ab ws ts g k).length ≤ 6 + L * 9 := fun k => cell_len D g L k (hg k) hL3
  refine i_list H R'.hh hbL fun I s₄ H IT => forI H IT
    (fun i z' m mu => Le z₁ z' ∧ m (Str.ofString "above") = some va ∧ m (Str.ofString "words") = some vw ∧ m (Str.ofString "texts") = some vt ∧ m (Str.ofString "items") = some (.ref a) ∧ ∃ vs, mu = [(a, .lst vs)] ∧ All2 (Rstr z') vs.toList ((bl.take i).map (cellF ab ws ts g)))
    ⟨Le.refl _, upd_get (by decide +kernel) mA, upd_get (by decide +kernel) mW, upd_get (by decide +kernel) mT, upd_self _ _ _, _, rfl, trivial⟩ ?_ ?_
  · intro i v z₂ m₂ mu₂ B₂ s₅ E' hi hP hJ H
    refine turnQ fun Q₀ fin₀ => ?_
    obtain ⟨hz₂, mA, mW, mT, mI, vs, rfl, hvs⟩ := hJ
    obtain ⟨k, hk, t, rfl⟩ := hus.get' (i := i) (a := v) (by simpa using hP)
    have hmem : k ∈ bl := List.mem_of_getElem? hk
    have hkl := (hbl k hmem).2.1
    have hv := mono_list mono_nat _ _ _ _ hz₂ hv
    have hw := mono_list mono_str _ _ _ _ hz₂ hw
    have ht := mono_list mono_str _ _ _ _ hz₂ ht
    have hwk : ws[k]? = some (ws[k]'(by rw [D.wl]; exact hkl)) := List.getElem?_eq_getElem _
    have htk : ts[k]? = some (ts[k]'(by rw [D.tl]; exact hkl)) := List.getElem?_eq_getElem _
    have aw : at? ws k = ws[k]'(by rw [D.wl]; exact hkl) := by unfold at?; rw [hwk]; rfl
    have aT : at? ts k = ts[k]'(by rw [D.tl]; exact hkl) := by unfold at?; rw [htk]; rfl
    have lw := at_len (k := k) D.w2
    have lt := at_len (k := k) D.t3
    have hsz : vs.size ≤ 100 := by
      have h1 := hvs.length
      rw [Array.length_toList, List.length_map, List.length_take] at h1; exact Mine.om121 hlen hl h1
    refine x_assignG H vK fun m₃ kk mK' s₆ H => ?_
    have mA' := kk _ _ (by decide +kernel) mA
    have mW' := kk _ _ (by decide +kernel) mW
    have mT' := kk _ _ (by decide +kernel) mT
    have mI' := kk _ _ (by decide +kernel) mI
    -- the end of a turn
    have fin : ∀ (z₃ : PM) (s₇ : Shared) (r : Value), Le z₂ z₃ → W w B₂ z₃ env own m₃ [(a, .lst (vs.push r))] s₇ → Rstr z₃ r (cellF ab ws ts g k) →
        Wp w A' (execs [] env) Q₀ E' s₇ := by
      intro z₃ s₇ r hz₃ H hr
      refine x_nil (fin₀ _ _ ⟨.inl rfl, z₃, _, _, H, hz₃, hz₂.trans hz₃, mA', mW', mT', mI', _, rfl, ?_⟩)
      rw [List.take_add_one, hk, Array.toList_push, List.map_append]
      exact (hvs.mono fun _ _ => mono_str _ _ _ _ hz₃).snoc hr
    -- the second branch
    have other : ∀ (z₃ : PM) (s₇ : Shared), Le z₂ z₃ → ¬ (belowF ab k = [] ∧ k % 2 = 0) → W w B₂ z₃ env own m₃ [(a, .lst vs)] s₇ → Wp w A' (execs ((elseOf (nthS (bodyFor (nthS (bodyOf (stAt 19)) 1)) 0)) ++ []) env) Q₀ E' s₇ := by
      intro z₃ s₇ hz₃ hno H
      have hv := mono_list mono_nat _ _ _ _ hz₃ hv
      have hw := mono_list mono_str _ _ _ _ hz₃ hw
      have ht := mono_list mono_str _ _ _ _ hz₃ ht
      refine x_append 0 H vI.var mI' rfl ?_
      refine e_gcall (.ref 100) H gI (a_cons (e_bin (e_sub (e_var H vW.var mW' (e_var H vK.var mK' (d_item H hw ⟨t, rfl⟩ hwk (by have := D.wl; exact Mine.om116 hlen this) fun y hy => e_str H fun t₁ s₈ H => ?_))))))
      obtain ⟨ty, rfl⟩ := hy
      refine d_addS H (by rw [← aw, show (Str.ofString "/").length = 1 from len_slash, sizeLine_eq]; exact Mine.om120 lw) fun t₂ s₉ H => a_one ?_
      refine e_gcall (.ref 107) H gW (a_cons (e_var H vA.var mA' (a_cons (e_var H vW.var mW' (a_cons (e_var H vT.var mT' (a_one (e_var H vK.var mK' ⟨H.gd', ?_⟩))))))))
      refine sub k hmem _ _ _ _ _ _ H.sit R' hv hw ht ⟨t, rfl⟩ fun r z₄ s₁₀ N hr => ?_
      have H := H.nx N
      have hgk := hg k
      refine ⟨H.gd', item_ok H.sit (R'.le (by exact Mine.om84 hc)) ⟨t₂, rfl⟩ hr (by rw [Str.length_append, ← aw, show (Str.ofString "/").length = 1 from len_slash]; exact Mine.om119 lw) (by exact Mine.om118 hL hgk) fun r z₅ s₁₁ N' hr => ?_⟩
      have H := H.nx N'
      refine ⟨z₅, _, _, 0, vs, H, rfl, by rw [sizeLine_eq]; exact Mine.om100 hsz, fun s₁₂ H => fin z₅ s₁₂ r (hz₃.trans (N.zz.trans N'.zz)) H ?_⟩
      rw [cellF, if_neg hno, aw]; exact hr
    refine x_if (t_and (t_cmp (e_gcall (.ref 67) H gB (a_cons (e_var H vA.var mA' (a_one (e_var H vK.var mK' ⟨H.gd', ?_⟩)))))))
    refine below_ok H.sit (R'.le (by exact Mine.om84 hc)) hv ⟨t, rfl⟩ (by exact Mine.om117 hlen) fun rb z₃ s₇ N hb => ?_
    have H := H.nx N
    refine e_listZ H (a_nil ⟨Nat.zero_le _, z₃, _, _, H, fun c z₄ s₈ hz₄ hc H => ?_⟩)
    refine d_eqD (dat_list dat_nat) (x := belowF ab k) (y := []) H (R'.le (by exact Mine.om81 (by assumption))) (by decide) (mono_list mono_nat _ _ _ _ hz₄ hb) ⟨_, _, rfl, hc, trivial⟩ (fun _ _ => trivial) (fun _ _ => trivial) fun b hbq => ⟨b, rfl, fun hb1 => ?_, fun hb0 => ?_⟩
    · have e : belowF ab k = [] := hbq.mp hb1
      refine t_and (t_cmp (e_bin (e_var H vK.var mK' (e_int H fun t s₇ H => d_modN (b := 2) H (by decide) fun t s₈ H => e_int H fun t s₉ H => d_eqN (b := 0) ⟨_, rfl, fun hq => t_and0 ⟨fun _ => ?_, fun q => (nomatch q)⟩, fun hq => ⟨fun q => (nomatch q), fun _ => ?_⟩⟩))))
      · have hev : k % 2 = 0 := by simpa using hq
        have hw := mono_list mono_str _ _ _ _ (N.zz.trans hz₄) hw
        have ht := mono_list mono_str _ _ _ _ (N.zz.trans hz₄) ht
        refine x_append 0 H vI.var mI' rfl ?_
        refine e_gcall (.ref 100) H gI (a_cons (e_sub (e_var H vW.var mW' (e_var H vK.var mK' (d_item H hw ⟨_, rfl⟩ hwk (by have := D.wl; exact Mine.om116 hlen this) fun y hy => a_one (e_sub (e_var H vT.var mT' (e_var H vK.var mK' (d_item H ht ⟨_, rfl⟩ htk (by have := D.tl; exact Mine.om116 hlen this) fun y' hy' => ⟨H.gd', ?_⟩)))))))))
        refine item_ok H.sit (R'.le (by exact Mine.om84 (by assumption))) hy hy' (by rw [← aw]; exact Mine.om115 lw) (by rw [← aT]; exact Mine.om114 lt) fun r z₅ s₁₁ N' hr => ?_
        have H := H.nx N'
        refine ⟨z₅, _, _, 0, vs, H, rfl, by rw [sizeLine_eq]; exact Mine.om100 hsz, fun s₁₂ H => fin z₅ s₁₂ r (N.zz.trans (hz₄.trans N'.zz)) H ?_⟩
        rw [cellF, if_pos ⟨e, hev⟩, aw, aT]; exact hr
      · have hev : ¬ k % 2 = 0 := by simpa using hq
        exact other z₄ _ (N.zz.trans hz₄) (fun q => hev q.2) H
    · have e : belowF ab k ≠ [] := fun q => by rw [hbq.mpr q] at hb0; cases hb0
      exact ⟨fun q => (nomatch q), fun _ => other z₄ _ (N.zz.trans hz₄) (fun q => e q.1) H⟩
  · intro z' m' mu' s₅ H hJ
    obtain ⟨hz₃, _, _, _, mI, ws', rfl, hws⟩ := hJ
    have e : us.size = bl.length := by rw [← hus.length]; simp
    rw [e, List.take_length] at hws
    refine x_ret (e_sm "str.join" (e_str H fun t s₆ H => ⟨_, _, rfl, a_one (e_var H vI.var mI ?_)⟩) (fun _ _ _ _ h => gm_join h))
    obtain ⟨z₄, hz₄, hl', H⟩ := H.freezeL
    refine c_join H ⟨_, _, rfl, hl', hws.mono fun _ _ => mono_str _ _ _ _ hz₄⟩ (joinOk_len (6 + L * 9) _ (fun x hx => ?_) ?_) fun t' s₇ H => h _ _ _ (H.back G) ⟨t', rfl⟩
    · obtain ⟨k, _, rfl⟩ := List.mem_map.mp hx
      exact hcell k
    · rw [List.length_map]
      have h1 : bl.length * (6 + L * 9) ≤ 15 * (6 + 61852 * 9) := Nat.mul_le_mul (by exact Mine.om113 hlen hl) (by exact Mine.om112 hL)
      exact Mine.om111 hlen hl h1
end Mine
namespace Mine
theorem below_len' (ab : List Nat) (n : Nat) : (belowF ab n).length ≤ ab.length - 1 := by
  unfold belowF
  refine Nat.le_trans (List.length_filter_le _ _) ?_
  rw [List.length_range']; exact Mine.om110
noncomputable def Lw : Nat → Nat
  | 0 => 3
  | d + 1 => 14 * (8 + 9 * Lw d)
theorem Lw_ge : ∀ d, 3 ≤ Lw d
  | 0 => Nat.le_refl _
  | d + 1 => by have := Lw_ge d; unfold Lw; exact Mine.om109
theorem written_len {ab : List Nat} {ws ts : List Str} (D : Wds ab ws ts) (hlen : ab.length ≤ 15) : ∀ d n, (writtenF ab ws ts d n).length ≤ Lw d
  | 0, n => by
    have : (Txt.join sComma []).length = 0 := by decide +kernel
    unfold writtenF Lw; exact Mine.om108 this
  | d + 1, n => by
    have h := join_len (6 + Lw d * 9) 14 ((belowF ab n).map (cellF ab ws ts (writtenF ab ws ts d))) (fun x hx => by
      obtain ⟨k, _, rfl⟩ := List.mem_map.mp hx
      exact cell_len D _ _ _ (written_len D hlen d k) (Lw_ge d)) (by rw [List.length_map]; have := below_len' ab n; exact Mine.om107 hlen this)
    unfold writtenF Lw; exact Mine.om106 h
theorem written_ok {w : World} {va vw vt : Value} {ab : List Nat} {ws ts : List Str} (D : Wds ab ws ts) (hlen : ab.length ≤ 15) : ∀ (d n : Nat), d ≤ 3 → Ht ab d n → WrittenC w va vw vt ab ws ts (d + 7) n (writtenF ab ws ts d n) := by
  intro d
  induction d with
  | zero =>
    intro n _ hh
    have := written_step (w := w) (va := va) (vw := vw) (vt := vt) (n := n) (c := 6) (L := 3) D (fun _ => Txt.join sComma []) (by exact Mine.om80) hlen (fun _ => by decide +kernel) (by exact Mine.om105) (by exact Mine.om104) (fun k hk => by rw [show belowF ab n = [] from hh] at hk; cases hk)
    rw [show belowF ab n = [] from hh] at this
    exact this
  | succ d ih =>
    intro n hd hh
    exact written_step (w := w) (va := va) (vw := vw) (vt := vt) (n := n) (c := d + 7) (L := Lw d) D (writtenF ab ws ts d) (by exact Mine.om79) hlen (fun k => written_len D hlen d k) (by
      have h : d = 0 ∨ d = 1 ∨ d = 2 := by exact Mine.om103 hd
      rcases h with rfl | rfl | rfl <;> decide) (Lw_ge d) (fun k hk => ih k (by exact Mine.om76 hd) (hh k hk))
end Mine
end
section
open PySem PySem.W PySem.Calls PyProof.Rows PySem.Spec PySem.Builtin PySem.Builtin.Str
set_option Elab.async false
set_option maxRecDepth 100000
set_option linter.unusedVariables false
namespace Mine
theorem at_kind (w : World) : FnAt w 40 (Str.ofString "_kind") [Str.ofString "name", Str.ofString "x"] (bodyOf (stAt 6)) (scopeOf (stAt 6)) where
  fd := ⟨_, _, rfl, rfl, rfl, rfl, rfl, rfl, rfl, by kernel_rfl, ofLen2 (fun _ _ => rfl)⟩
  par := by decide +kernel
  nd := by decide +kernel
  nnd := by decide +kernel
  cnd := by decide +kernel
  co := by kernel_rfl
  gen := by kernel_rfl
  fn := by kernel_rfl
theorem at_fspath (w : World) : FnAt w 47 (Str.ofString "_fspath") [Str.ofString "name", Str.ofString "x"] (bodyOf (stAt 7)) (scopeOf (stAt 7)) where
  fd := ⟨_, _, rfl, rfl, rfl, rfl, rfl, rfl, rfl, by kernel_rfl, ofLen2 (fun _ _ => rfl)⟩
  par := by decide +kernel
  nd := by decide +kernel
  nnd := by decide +kernel
  cnd := by decide +kernel
  co := by kernel_rfl
  gen := by kernel_rfl
  fn := by kernel_rfl
theorem at_split (w : World) : FnAt w 54 (Str.ofString "split") [Str.ofString "p"] (bodyOf (stAt 8)) (scopeOf (stAt 8)) where
  fd := ⟨_, _, rfl, rfl, rfl, rfl, rfl, rfl, rfl, by kernel_rfl, ofLen1 (fun _ => rfl)⟩
  par := by decide +kernel
  nd := by decide +kernel
  nnd := by decide +kernel
  cnd := by decide +kernel
  co := by kernel_rfl
  gen := by kernel_rfl
  fn := by kernel_rfl

section
variable {w : World} {A : Around} {s : Shared} {z : PM} {Q : Value → Shared → Prop} {E : Value → Shared → Prop}
theorem kind_ok {vn : Value} {x : Str} {t : Tok} (G : Sit w z s) (R : Rm A 1) (h : ∀ t' s', Nx z s z s' → Q (.str sNil t') s') : Wp w A (call (.ref 40) [vn, .str x t]) Q E s := by
  refine go (at_kind w) G R rfl fun A' env own m s' R' H hsv hgl hm hsc => ?_
  have vX := hsv (Str.ofString "x") (.inl (by kernel_rfl))
  have vT := hsv (Str.ofString "t") (.inl (by kernel_rfl))
  have mX : m (Str.ofString "x") = some (.str x t) := hm (_, _) (.tail _ (.head _))
  have gT := hgl (Str.ofString "type") (by kernel_rfl)
  have gS := hgl (Str.ofString "str") (by kernel_rfl)
  clear hsv hgl hm hsc
  refine x_set (e_bcall (.type "type") H gT (a_one (e_var H vX.var mX (.mk (call_type_of (typeIs_str _ x t) (by decide +kernel) ?_)))))
  refine x_store H vT fun s₁ H => x_if (t_cmp (e_var H vT.var (upd_self _ _ _) (e_bi (.type "str") H gS (by kernel_rfl) (by kernel_rfl) (.mk (wpAny_is_self (by decide +kernel) ⟨_, rfl, fun _ => ?_, fun q => (nomatch q)⟩)))))
  exact x_ret (e_str H fun t' s₂ H => h _ _ (H.back G))

theorem fspath_ok {vn : Value} {x : Str} {t : Tok} (G : Sit w z s) (R : Rm A 2) (h : ∀ s', Nx z s z s' → Q (.str x t) s') : Wp w A (call (.ref 47) [vn, .str x t]) Q E s := by
  refine go (at_fspath w) G R rfl fun A' env own m s' R' H hsv hgl hm hsc => ?_
  have vX := hsv (Str.ofString "x") (.inl (by kernel_rfl))
  have vN := hsv (Str.ofString "name") (.inl (by kernel_rfl))
  have vK := hsv (Str.ofString "k") (.inl (by kernel_rfl))
  have mX : m (Str.ofString "x") = some (.str x t) := hm (_, _) (.tail _ (.head _))
  have mN : m (Str.ofString "name") = some vn := hm (_, _) (.head _)
  have gK := hgl (Str.ofString "_kind") (by kernel_rfl)
  clear hsv hgl hm hsc
  refine x_set (e_gcall (.ref 40) H gK (a_cons (e_var H vN.var mN (a_one (e_var H vX.var mX ⟨H.gd', ?_⟩)))))
  refine kind_ok H.sit R' fun t' s₁ N => ?_
  have H := H.nx N
  refine x_store H vK fun s₂ H => x_if (t_val (e_var H vK.var (upd_self _ _ _) (t_str H (by decide +kernel) fun s₃ H => ⟨fun q => ?_, fun _ => ?_⟩)))
  · rw [show (sNil.length != 0) = false by decide +kernel] at q; cases q
  · exact x_ret (e_var H vX.var (upd_get (by decide +kernel) mX) (h _ (H.back G)))
end
end Mine
namespace Mine
noncomputable def headF (p : Str) : Str :=
  let h := Txt.slice p none (some (Txt.rfind p sSlash + 1))
  if h.length ≠ 0 ∧ h ≠ Txt.mul sSlash h.length then Txt.rstripChars h sSlash else h
noncomputable def tailF (p : Str) : Str := Txt.slice p (some (Txt.rfind p sSlash + 1)) none
section
variable {w : World} {B : Bs} {z z' : PM} {env : Env} {own : List Addr} {m m' : Str → Option Value} {mu mu' : List (Addr × MO)} {s s' s₀ : Shared} {A : Around} {E : Value → Shared → Prop} {k : Nat} {xs : List Addr}
theorem d_addI {a b : Int} {t u : Tok} {Q : Value → Shared → Prop} (H : W w B z env own m mu s) (h : ∀ t s', W w B z env own m mu s' → Q (.int (a + b) t) s') : Wp w A (binaryOp .Add (.int a t) (.int b u)) Q E s :=
  .mk (PyProof.Rows.add_int (h _ _ (H.same rfl rfl rfl)))
theorem mulOk_of {x : Str} {n : Nat} (hx : x.length = 1) (hn : n ≤ 16777216) : MulOk x n := by
  refine ⟨?_, fun h1 h2 => ?_, fun h1 h2 => ?_⟩
  · rw [decide_eq_false (by exact Mine.om135), decide_eq_false (by exact Mine.om32 hn)]; rfl
  · rw [hx]
    have h3 : (1 : Int) ≤ (2 ^ 63 - 1) / (n : Int) := (Int.le_ediv_iff_mul_le (by exact Mine.om134 h1)).mpr (by exact Mine.om133 hn)
    exact Mine.om132 h3
  · have e : (2 : Nat) ^ 24 = 16777216 := by decide
    unfold tooLong
    rw [hx]
    have e2 := sizeLine_eq
    exact decide_eq_false (by simp only [Int.toNat_natCast]; show ¬ 1 * n > PySem.sizeLine; exact Mine.om131 hn e2)
theorem d_mulS {x : Str} {n : Nat} {t u : Tok} {Q : Value → Shared → Prop} (H : W w B z env own m mu s) (hx : x.length = 1) (hn : n ≤ 16777216) (h : ∀ t s', W w B z env own m mu s' → Q (.str (Txt.mul x n) t) s') :
    Wp w A (binaryOp .Mult (.str x t) (.int (n : Int) u)) Q E s := .mk (PySem.SB.mul (mulOk_of hx hn) fun t' k => h t' _ (H.same rfl rfl rfl))
theorem d_lenS {x : Str} {t : Tok} {Q : Value → Shared → Prop} (H : W w B z env own m mu s) (hx : x.length ≤ sizeLine) (h : ∀ t s', W w B z env own m mu s' → Q (.int (x.length : Int) t) s') : Wp w A (call (.builtin "len") [.str x t]) Q E s :=
  .mk (PySem.P.len_str (by rw [sizeLine_eq] at hx; exact Mine.om32 hx) (h _ _ (H.same rfl rfl rfl)))
end
section
variable {w : World} {A : Around} {s : Shared} {z : PM} {Q : Value → Shared → Prop} {E : Value → Shared → Prop}

theorem split_ok {p : Str} {t : Tok} (G : Sit w z s) (R : Rm A 3) (hp : p.length ≤ sizeLine) (h : ∀ r z' s', Nx z s z' s' → Rpair Rstr Rstr z' r (headF p, tailF p) → Q r s') : Wp w A (call (.ref 54) [.str p t]) Q E s := by
  refine go (at_split w) G R rfl fun A' env own m s' R' H hsv hgl hm hsc => post fun Q₁ fin₁ => ?_
  have h := fun r z' s' N X => fin₁ (.ret r) s' (h r z' s' N X)
  have vP := hsv (Str.ofString "p") (.inl (by kernel_rfl))
  have vS := hsv (Str.ofString "sep") (.inl (by kernel_rfl))
  have vI := hsv (Str.ofString "i") (.inl (by kernel_rfl))
  have vH := hsv (Str.ofString "head") (.inl (by kernel_rfl))
  have vT := hsv (Str.ofString "tail") (.inl (by kernel_rfl))
  have mP : m (Str.ofString "p") = some (.str p t) := hm (_, _) (.head _)
  have gF := hgl (Str.ofString "_fspath") (by kernel_rfl)
  have gL := hgl (Str.ofString "len") (by kernel_rfl)
  have ee := env_eq hsc
  clear hsv hgl hm hsc
  refine x_set (e_gcall (.ref 47) H gF (a_cons (e_str H fun t₁ s₁ H => a_one (e_var H vP.var mP ⟨H.gd', ?_⟩))))
  refine fspath_ok H.sit R' fun s₂ N => ?_
  have H := H.nx N
  refine x_store H vP fun s₃ H => x_set (e_str H fun t₂ s₄ H => x_store H vS fun s₅ H => ?_)
  have mP : upd (upd m (Str.ofString "p") (.str p t)) (Str.ofString "sep") (.str (Str.ofString "/") t₂) (Str.ofString "p") = some (.str p t) := upd_get (by decide +kernel) (upd_self _ _ _)
  have mS := upd_self (upd m (Str.ofString "p") (.str p t)) (Str.ofString "sep") (.str (Str.ofString "/") t₂)
  generalize upd (upd m (Str.ofString "p") (.str p t)) (Str.ofString "sep") (.str (Str.ofString "/") t₂) = m₁ at H mP mS
  refine x_set (e_bin (e_sm "str.rfind" (e_var H vP.var mP ⟨_, _, rfl, a_one (e_var H vS.var mS (c_rfind H fun t₃ s₆ H => e_int H fun t₄ s₇ H => d_addI H fun t₅ s₈ H => ?_))⟩) (fun _ _ _ _ h => gm_rfind h)))
  refine x_store H vI fun s₉ H => ?_
  have mP : upd m₁ (Str.ofString "i") (.int (Txt.rfind p (Str.ofString "/") + 1) t₅) (Str.ofString "p") = some (.str p t) := upd_get (by decide +kernel) mP
  have mS : upd m₁ (Str.ofString "i") (.int (Txt.rfind p (Str.ofString "/") + 1) t₅) (Str.ofString "sep") = some (.str (Str.ofString "/") t₂) := upd_get (by decide +kernel) mS
  have mI := upd_self m₁ (Str.ofString "i") (.int (Txt.rfind p (Str.ofString "/") + 1) t₅)
  generalize upd m₁ (Str.ofString "i") (.int (Txt.rfind p (Str.ofString "/") + 1) t₅) = m₂ at H mP mS mI
  refine x_setTs [Str.ofString "head", Str.ofString "tail"] (e_tupZ H (a_cons (e_sliceS H (e_var H vP.var mP (p_none (p_some (e_var H vI.var mI ⟨p, t, none, some (_, _), z, _, _, rfl, rfl, rfl, hp, H, fun t₆ s₁₀ H => ?_⟩))))
    (fun _ _ _ => ⟨_, by with_unfolding_all rfl⟩)))) (by kernel_rfl) (by rw [ee]; kernel_rfl)
  refine a_one (e_sliceS H (e_var H vP.var mP (p_some (e_var H vI.var mI (p_none ⟨p, t, some (_, _), none, z, _, _, rfl, rfl, rfl, hp, H, fun t₇ s₁₁ H => ⟨by rw [sizeLine_eq]; simp, z, _, _, H, fun a z₁ s₁₂ hz₁ ha H => ?_⟩⟩)))) (fun _ _ _ => ⟨_, by with_unfolding_all rfl⟩))
  refine u_tuple H R'.hh ha rfl fun s₁₃ H => i_cons (b_name H vT fun s₁₄ H => i_cons (b_name H vH fun s₁₅ H => i_nil ?_))
  have hh : headF p = (let h := Txt.slice p none (some (Txt.rfind p sSlash + 1)); if h.length ≠ 0 ∧ h ≠ Txt.mul sSlash h.length then Txt.rstripChars h sSlash else h) := rfl
  have hl := Txt.slice_le p none (some (Txt.rfind p (Str.ofString "/") + 1))
  simp only [Option.map_none, Option.map_some] at H
  have ht : tailF p = Txt.slice p (some (Txt.rfind p (Str.ofString "/") + 1)) none := rfl
  generalize Txt.slice p none (some (Txt.rfind p (Str.ofString "/") + 1)) = hd at H hl hh
  generalize Txt.slice p (some (Txt.rfind p (Str.ofString "/") + 1)) none = tl at H ht
  have mH := upd_self (upd m₂ (Str.ofString "tail") (.str tl t₇)) (Str.ofString "head") (.str hd t₆)
  have mT : upd (upd m₂ (Str.ofString "tail") (.str tl t₇)) (Str.ofString "head") (.str hd t₆) (Str.ofString "tail") = some (.str tl t₇) := upd_get (by decide +kernel) (upd_self _ _ _)
  have mS : upd (upd m₂ (Str.ofString "tail") (.str tl t₇)) (Str.ofString "head") (.str hd t₆) (Str.ofString "sep") = some (.str (Str.ofString "/") t₂) := upd_get (by decide +kernel) (upd_get (by decide +kernel) mS)
  generalize upd (upd m₂ (Str.ofString "tail") (.str tl t₇)) (Str.ofString "head") (.str hd t₆) = m₃ at H mH mT mS
  -- the end
  have fin : ∀ (m₄ : Str → Option Value) (s₁₆ : Shared) (t₈ : Tok), W w (Bs.of z s) z₁ env own m₄ [] s₁₆ → m₄ (Str.ofString "head") = some (.str (headF p) t₈) → m₄ (Str.ofString "tail") = some (.str tl t₇) →
      Wp w A' (execs ((bodyOf (stAt 8)).drop 5) env) Q₁ (fun _ _ => False) s₁₆ := by
    intro m₄ s₁₆ t₈ H mH mT
    refine x_ret (e_tupZ H (a_cons (e_var H vH.var mH (a_one (e_var H vT.var mT ⟨by rw [sizeLine_eq]; simp, z₁, _, _, H, fun b z₂ s₁₇ hz₂ hb H => h _ _ _ (H.back G) ⟨b, _, _, rfl, hb, ⟨_, rfl⟩, ⟨t₇, by rw [← ht]⟩⟩⟩)))))
  refine x_if (t_and (t_val (e_var H vH.var mH (t_str H (by exact Mine.om129 hp hl) fun s₁₆ H => ⟨fun h0 => ?_, fun h0 => ⟨fun q => (nomatch q), fun _ => ?_⟩⟩))))
  · have hne : hd.length ≠ 0 := by simpa using h0
    refine t_and (t_cmp (e_var H vH.var mH (e_bin (e_var H vS.var mS (e_bcall (.builtin "len") H gL (a_one (e_var H vH.var mH (d_lenS H (by exact Mine.om129 hp hl) fun t₈ s₁₇ H => d_mulS H (by decide +kernel) (by rw [sizeLine_eq] at hp; exact Mine.om130 hp hl) fun t₉ s₁₈ H =>
      d_neS ⟨_, rfl, fun h1 => t_and0 ⟨fun _ => ?_, fun q => (nomatch q)⟩, fun h1 => ⟨fun q => (nomatch q), fun _ => ?_⟩⟩))))))))
    · have h2 : hd ≠ Txt.mul sSlash hd.length := by simpa using h1
      refine x_set (e_sm "str.rstrip" (e_var H vH.var mH ⟨_, _, rfl, a_one (e_var H vS.var mS (c_rstrip H (by exact Mine.om129 hp hl) fun t₁₀ s₁₉ H => ?_))⟩) (fun _ _ _ _ h => gm_rstrip h))
      refine x_store H vH fun s₂₀ H => fin _ _ t₁₀ H ?_ (upd_get (by decide +kernel) mT)
      rw [upd_self, hh]
      simp only [if_pos (show hd.length ≠ 0 ∧ hd ≠ Txt.mul sSlash hd.length from ⟨hne, h2⟩)]
    · have h2 : hd = Txt.mul sSlash hd.length := by simpa using h1
      refine fin _ _ t₆ H ?_ mT
      rw [mH, hh]
      simp only [if_neg (show ¬ (hd.length ≠ 0 ∧ hd ≠ Txt.mul sSlash hd.length) from fun q => q.2 h2)]
  · have he : hd.length = 0 := by simpa using h0
    refine fin _ _ t₆ H ?_ mT
    rw [mH, hh]
    simp only [if_neg (show ¬ (hd.length ≠ 0 ∧ hd ≠ Txt.mul sSlash hd.length) from fun q => q.1 he)]
end
end Mine
end
section
open PySem PySem.W PySem.Calls PyProof.Rows PySem.Spec
set_option Elab.async false
set_option maxRecDepth 100000
set_option linter.unusedVariables false
namespace Mine
open Sem (wp)
/-- the generators that g's turns leave -/
noncomputable def GG (g : Nat) (a b : Array GenState) : Prop := a.size ≤ b.size ∧ (∀ i, i ≠ g → i < a.size → b[i]? = a[i]?) ∧ ∀ (i : Nat) (x : GenState), b[i]? = some x → x.bare = true ∨ a[i]? = some x
theorem GG.refl (g : Nat) (a : Array GenState) : GG g a a := ⟨Nat.le_refl _, fun _ _ _ => rfl, fun _ _ e => .inr e⟩
theorem GG.trans {g : Nat} {a b c : Array GenState} (x : GG g a b) (y : GG g b c) : GG g a c :=
  ⟨Nat.le_trans x.1 y.1, fun i h1 h2 => (y.2.1 i h1 (Nat.lt_of_lt_of_le h2 x.1)).trans (x.2.1 i h1 h2), fun i v e => (y.2.2 i v e).elim .inl fun e => x.2.2 i v e⟩
theorem GG.setGen (s : Shared) (g : Nat) {y : GenState} (hb : y.bare = true) : GG g s.gens (s.setGen g y).gens := by
  refine ⟨by simp [Shared.setGen], fun i h1 h2 => by simp [Shared.setGen, Ne.symm h1], fun i x e => ?_⟩
  by_cases hi : i = g
  · subst hi
    simp only [Shared.setGen] at e
    by_cases hl : i < s.gens.size
    · have h2 := setGen_self (s := s) (x := y) (Array.getElem?_eq_getElem hl)
      simp only [Shared.setGen] at h2
      rw [h2] at e; cases e; exact .inl hb
    · rw [Array.getElem?_eq_none (by simp; exact Mine.om144 hl)] at e; cases e
  · right
    have h2 := (GenOnly.setGen s g y).2 i hi
    rw [h2] at e; exact e
theorem GG.app {g : Nat} {a ext : Array GenState} (hb : AllBare ext) : GG g a (a ++ ext) := by
  refine ⟨by simp, fun i h1 h2 => ?_, fun i x e => ?_⟩
  · rw [Array.getElem?_append_left h2]
  · by_cases hi : i < a.size
    · rw [Array.getElem?_append_left hi] at e; exact .inr e
    · rw [Array.getElem?_append_right (by exact Mine.om144 hi)] at e
      exact .inl (hb x (Array.mem_of_getElem? e))
theorem GG.ext {g : Nat} {a b : Array GenState} {n : Nat} (x : GG g a b) (hg : n ≤ g) (hn : n ≤ a.size) (hb : ∀ i y, n ≤ i → a[i]? = some y → y.bare = true) : ∃ ext, b = a.extract 0 n ++ ext ∧ AllBare ext := by
  refine ⟨b.extract n b.size, ?_, fun y hy => ?_⟩
  · apply Array.ext_getElem?
    intro i
    by_cases hi : i < n
    · rw [Array.getElem?_append_left (by simp; exact Mine.om143 hn hi), x.2.1 i (by exact Mine.om142 hg hi) (by exact Mine.om141 hn hi), Array.getElem?_extract]
      simp; exact Mine.om140 hi
    · rw [Array.getElem?_append_right (by simp; exact Mine.om139 hi), Array.getElem?_extract]
      have h2 := x.1
      simp only [Array.size_extract]
      split
      · congr 1; exact Mine.om138 hn hi
      · exact Array.getElem?_eq_none (by exact Mine.om137 hn hi (by assumption))
  · obtain ⟨i, hi⟩ := Array.mem_iff_getElem?.mp hy
    rw [Array.getElem?_extract] at hi
    split at hi
    · rcases x.2.2 _ _ hi with h | h
      · exact h
      · exact hb _ _ (by exact Mine.om136) h
    · cases hi

/-- what a turn of the generator keeps: all but its own locals -/
structure Since (L : Addr) (s s' : Shared) : Prop where
  keep : ∀ b o, b ≠ L → s.heap.get? b = some o → s'.heap.get? b = some o
  os : osd s' = osd s
  gens : ∃ ext, s'.gens = s.gens ++ ext ∧ AllBare ext

section
variable {w : World} {A : Around} {E : Value → Shared → Prop} {s : Shared}
/-- next of a def's generator -/
theorem next_gen {a : Addr} {g n : Nat} {gs : GenState} {P : Nat → Shared → Shared → Prop} {Y : Protocol} {Q : Option Value → Shared → Prop} (hh : A.handled = none)
    (hl : s.heap.NoLimit) (hroom : A.depth < recursionLimit) (hg : s.heap.IsGen a g) (hgs : s.gens[g]? = some gs)
    (hgo : gs.Goes (model prg w) A.in1 (fun n s₀ r s₁ => r = .ok (.ret .none) ∧ P n s₀ s₁) Y n (.send .none) (s.setGen g .running))
    (hY : ∀ v s₁ gs', gs'.bare = true → Y (n - 1) (s.setGen g .running) v s₁ (fun r' s'' => match n with
        | 0 => False
        | m + 1 => gs'.Goes (model prg w) A.in1 (fun n s₀ r s₁ => r = .ok (.ret .none) ∧ P n s₀ s₁) Y m r' s'') → Q (some v) (s₁.setGen g gs'))
    (hP : ∀ s₁, P n (s.setGen g .running) s₁ → ∀ h', (∀ b o, s₁.heap.get? b = some o → h'.get? b = some o) → Q none { s₁.setGen g .finished with heap := h' }) :
    wpAny (model prg w) A (pyNext (.ref a)) Q E s := by
  unfold pyNext
  refine wpAny_bind (wpAny_attempt (wpAny_callSpecial?_slot (name := Str.ofString "__next__") hg.typeIs slot_gen_next (wpAny_call_entry slot_gen_next hg.typeIs entry_gen_next ?_ (args_gen_next _))))
  show wpAny _ A.in1 (Builtin.Generator.genWake (.ref a) (.send .none)) _ _ s
  unfold Builtin.Generator.genWake
  refine wpAny_bind (wpAny_holding (wpAny_genNumber hg (wpAny_bind (wpAny_genState hgs ?_))))
  have main : gs.status = .fresh ∨ gs.status = .suspended → _ := fun _ => hgo
  cases gs with
  | running => exact hgo.elim
  | finished => exact hgo.elim
  | _ =>
    refine wpAny_bind (wpAny_roomToWake hl hroom (show wpAny _ A.in1 (.resume g (.send .none) [] _) _ _ s from wpAny_resumeQ hgs hgo (fun x s₁ hx => ?_) fun v s₁ gs' hb hv => wpAny_pure ⟨v, rfl, wpAny_pure (hY v s₁ gs' hb hv)⟩))
    obtain ⟨rfl, hp⟩ := hx
    show wpAny _ _ (newExc (.type "StopIteration") [] >>= _) _ _ _
    refine wpAny_bind ?_
    simp only [newExc, newTuple]
    refine wpAny_bind (wpAny_newObj_type (wpAny_bind (m := firstArgMember _ _) (wpAny_of_eq (a := Value.none) (by first | rfl | (simp only [firstArgMember]; rfl)) (wpAny_newObj_type ?_ (by size_fits)))) (by size_fits))
    simp only [raiseNew]
    refine wpAny_bind (wpAny_bind (wpAny_handled ?_))
    first | rw [show A.in1.handled = none from hh] | rw [hh]
    exact wpAny_throw (wpAny_bind (wpAny_isInstance (T := "StopIteration") (b := true) ⟨_, Heap.get?_push_size _ rfl, rfl⟩ isSubtype_stop
      (wpAny_pure (hP s₁ hp _ fun b o hb => Heap.get?_push_of_some _ (Heap.get?_push_of_some _ hb)))))
end
end Mine
end
section
open PySem PySem.W PySem.Calls PyProof.Rows PySem.Spec
set_option Elab.async false
set_option maxRecDepth 100000
set_option linter.unusedVariables false
namespace Mine
open Sem (wp)
noncomputable def ancF : Nat → Str → Option (List Str)
  | 0, p => if (Txt.rstripChars p sSlash).length = 0 then some [] else none
  | f + 1, p => if (Txt.rstripChars p sSlash).length = 0 then some [] else (ancF f (headF p)).map (p :: ·)

noncomputable abbrev ancBody : List Stmt := bodyOf (stAt 10)
noncomputable def testOf : Stmt → Expr
  | .While t _ _ _ => t
  | _ => .Constant .none 0 default
noncomputable def bodyW : Stmt → List Stmt
  | .While _ b _ _ => b
  | _ => []
noncomputable abbrev ancTest : Expr := testOf (nthS ancBody 1)
noncomputable abbrev ancTurn : List Stmt := bodyW (nthS ancBody 1)

section
variable {w : World} {A : Around} {E : Value → Shared → Prop} {s : Shared} {z : PM}
noncomputable abbrev ancY (l : List Str) (fp : List Addr) (L : Addr) : Protocol := fun n s₀ v s₁ kap => (∃ x t, l[l.length - 1 - n]? = some x ∧ v = .str x t) ∧ Since L s₀ s₁ ∧ ∀ s'', (∀ b ∈ fp, ∀ o, s₁.heap.get? b = some o → s''.heap.get? b = some o) → kap (.send .none) s''
noncomputable abbrev ancR (L : Addr) : GenEnd := fun n s₀ r s₁ => r = .ok (.ret .none) ∧ (n = 0 ∧ Since L s₀ s₁)

noncomputable def Bx (h₀ : Heap) (L : Addr) (z : PM) (s : Shared) : Bs := ⟨h₀, fun a => if a = L then none else if z a = none then s.heap.get? a else none, osd s, s.gens⟩
/-- the generator's own names -/
structure AEnv (h₀ : Heap) (z : PM) (L : Addr) (env : Env) : Prop where
  zh : ∀ a o, z a = some o → h₀.get? a = some o
  hL : h₀.get? L = none
  loc : env.locals = L
  cells : env.cells = []
  sc : env.scope = scopeOf (stAt 10)
  gl : env.globals = mainGlobals
  bu : env.builtins = builtinsNs

theorem mkW {h₀ : Heap} {L : Addr} {env : Env} {ml m : Str → Option Value} (G : Gd w h₀) (AE : AEnv h₀ z L env) (hk : ∀ a o, h₀.get? a = some o → s.heap.get? a = some o) (hn : s.heap.Ns L ml)
    (hm : ∀ x, env.kindOf x = some .local → ml x = m x) : W w (Bx h₀ L z s) z env [L] m [] s where
  gd := G
  cov := fun a o e => by
    have hL := AE.hL
    have e : h₀.get? a = some o := e
    have ha : a ≠ L := fun q => by rw [q, hL] at e; cases e
    cases q : z a with
    | none => left; simp only [Bx, if_neg ha, q, if_true]; exact hk a o e
    | some o' => right; have := AE.zh a o' q; rw [e] at this; exact this ▸ rfl
  pin := fun a o e => by
    simp only [Bx] at e
    split at e
    · cases e
    · split at e
      · exact e
      · cases e
  zin := fun a o e => hk a o (AE.zh a o e)
  pz := fun a e => by
    simp only [Bx] at e
    split at e
    · exact absurd rfl e
    · split at e
      · assumption
      · exact absurd rfl e
  ns := ⟨ml, AE.loc ▸ hn, hm⟩
  cel := fun x c e => by rw [AE.cells] at e; cases e
  lown := by rw [AE.loc]; exact .head _
  cown := fun x c e => by rw [AE.cells] at e; cases e
  cinj := fun x y c e => by rw [AE.cells] at e; cases e
  ownp := fun a ha => by
    rw [List.mem_singleton.mp ha]
    refine ⟨by simp only [Bx, if_true], ?_, ?_⟩
    · cases q : z L with
      | none => rfl
      | some o => have := AE.zh L o q; rw [AE.hL] at this; cases this
    · obtain ⟨o, _, _, e, _⟩ := hn
      exact ⟨o, e⟩
  muo := fun q hq => absurd hq List.not_mem_nil
  nd := List.nodup_nil
  os := rfl
  gens := ⟨#[], by simp [Bx], AllBare.empty⟩
  fn := by rw [AE.sc]; kernel_rfl
  gl := AE.gl
  bu := AE.bu

/-- a base that holds all that s₀ held, the generator's locals apart -/
structure BOk (B : Bs) (L : Addr) (z : PM) (s₀ : Shared) : Prop where
  cov : ∀ b o, b ≠ L → s₀.heap.get? b = some o → B.p b = some o ∨ z b = some o
  os : B.os = osd s₀
  gens : B.gens = s₀.gens
theorem BOk.mono {B : Bs} {L : Addr} {z z' : PM} {s₀ : Shared} (h : BOk B L z s₀) (k : Le z z') : BOk B L z' s₀ := ⟨fun b o hb e => (h.cov b o hb e).imp id (k b o), h.os, h.gens⟩
theorem BOk.bx (h₀ : Heap) (L : Addr) (z : PM) (s : Shared) (hz : ∀ a o, z a = some o → s.heap.get? a = some o) : BOk (Bx h₀ L z s) L z s := ⟨fun b o hb e => by
  cases q : z b with
  | none => left; simp only [Bx, if_neg hb, q, if_true]; exact e
  | some o' => right; have := hz b o' q; rw [e] at this; exact this ▸ rfl, rfl, rfl⟩
theorem BOk.since {B : Bs} {L : Addr} {s₀ : Shared} {env : Env} {own : List Addr} {m : Str → Option Value} {mu : List (Addr × MO)} (h : BOk B L z s₀) (H : W w B z env own m mu s) : Since L s₀ s :=
  ⟨fun b o hb e => (h.cov b o hb e).elim (H.pin b o) (H.zin b o), H.os.trans h.os, h.gens ▸ H.gens⟩

theorem mono_ns {h h' : Heap} {L : Addr} {ml : Str → Option Value} (hn : h.Ns L ml) (k : ∀ o, h.get? L = some o → h'.get? L = some o) : h'.Ns L ml := by
  obtain ⟨o, es, ep, e, r⟩ := hn
  exact ⟨o, es, ep, k _ e, r⟩
theorem anc_ne {f : Nat} {p : Str} {rest : List Str} (h : ancF f p = some rest) (hn : (Txt.rstripChars p sSlash).length ≠ 0) : ∃ f' r, f = f' + 1 ∧ rest = p :: r ∧ ancF f' (headF p) = some r := by
  cases f with
  | zero => unfold ancF at h; rw [if_neg hn] at h; cases h
  | succ f =>
    unfold ancF at h
    rw [if_neg hn] at h
    cases e : ancF f (headF p) with
    | none => rw [e] at h; cases h
    | some r => rw [e] at h; cases h; exact ⟨f, r, rfl, rfl, e⟩
theorem anc_nil {f : Nat} {p : Str} {rest : List Str} (h : ancF f p = some rest) (hn : (Txt.rstripChars p sSlash).length = 0) : rest = [] := by
  cases f <;> (unfold ancF at h; rw [if_pos hn] at h; cases h; rfl)
theorem head_len (p : Str) : (headF p).length ≤ p.length := by
  unfold headF
  have h1 := Txt.slice_le p none (some (Txt.rfind p sSlash + 1))
  dsimp only
  split
  · exact Nat.le_trans (PyProof.Rows.len_rstripChars _ _) h1
  · exact h1
end
end Mine
end
section
open PySem PySem.W PySem.Calls PyProof.Rows PySem.Spec
set_option Elab.async false
set_option maxRecDepth 100000
set_option linter.unusedVariables false
namespace Mine
open Sem (wp)
section
variable {w : World} {A : Around} {E : Value → Shared → Prop} {s : Shared} {z : PM} {α : Type}
theorem s_wrap {R : GenEnd} {Y : Protocol} {n : Nat} {s₀ : Shared} {c : Code} {fs : List Frame} {t : Sem α} {K : α → Sem Fin} {Hd : Value → Sem Fin} {gd : Bool → Bool} {lv : List Value → List Value}
    (h : Wp w (A.over c fs) t (fun a s' => Seg (model prg w) A R Y n s₀ c (K a) fs s') (fun x s' => Seg (model prg w) A R Y n s₀ c (Hd x) fs s') s) : Seg (model prg w) A R Y n s₀ c (t.wrap K Hd gd lv) fs s := seg_wrap h.out

theorem seg_anc {l : List Str} {fp : List Addr} {L : Addr} {h₀ : Heap} {env : Env} {fs : List Frame} (G : Gd w h₀) (AE : AEnv h₀ z L env) (hfp : L ∈ fp ∧ ∀ a o, h₀.get? a = some o → a ∈ fp)
    (hfs : splitAtGen fs = none) (hfg : fs.any Frame.guarded = false) (R : Rm (A.over (.whileLoop ancTest ancTurn [] env) fs) 4)
    (vP : SVar env [L] (Str.ofString "path")) (vT : SVar env [L] (Str.ofString "tail")) (gS : env.kindOf (Str.ofString "sep") = some .globalImplicit) (gP : env.kindOf (Str.ofString "split") = some .globalImplicit)
    (fin : ∀ s₀ s, Since L s₀ s → Seg (model prg w) A (ancR L) (ancY l fp L) 0 s₀ (.whileLoop ancTest ancTurn [] env) (.pure (.done .next)) fs s) :
    ∀ (n : Nat) (rest : List Str) (f : Nat) (p : Str) (t : Tok) (s₀ s : Shared) (B : Bs) (z₁ : PM) (m : Str → Option Value), rest.length = n → ancF f p = some rest → rest = l.drop (l.length - n) → n ≤ l.length → p.length ≤ sizeLine → Le z z₁ →
      W w B z₁ env [L] m [] s → B.h₀ = h₀ → BOk B L z₁ s₀ → m (Str.ofString "path") = some (.str p t) →
      Seg (model prg w) A (ancR L) (ancY l fp L) n s₀ (.whileLoop ancTest ancTurn [] env) ((model prg w).den (.whileLoop ancTest ancTurn [] env)) fs s := by
  intro n
  induction n with
  | zero =>
    intro rest f p t s₀ s B z₁ m hlen hanc hdrop hnl hpl hz₁ H hB hok mP
    have hrest : rest = [] := List.eq_nil_of_length_eq_zero hlen
    have hz : (Txt.rstripChars p sSlash).length = 0 := by
      refine Decidable.byContradiction fun hn => ?_
      obtain ⟨f', r, _, e, _⟩ := anc_ne hanc hn
      rw [e] at hrest; cases hrest
    refine seg_whileLoop (Wp.out ?_)
    refine t_val (e_sm "str.rstrip" (e_var H vP.var mP ⟨_, _, rfl, a_one (e_glob (.str (Str.ofString "/") 215) H gS (by kernel_rfl) ?_)⟩) (fun _ _ _ _ h => gm_rstrip h))
    refine c_rstrip H hpl fun t' s₁ H => t_str H (Nat.le_trans (PyProof.Rows.len_rstripChars _ _) hpl) fun s₂ H => ?_
    rw [hz]
    exact fin s₀ s₂ (hok.since H)
  | succ n ih =>
    intro rest f p t s₀ s B z₁ m hlen hanc hdrop hnl hpl hz₁ H hB hok mP
    have hne : (Txt.rstripChars p sSlash).length ≠ 0 := fun hz => by rw [anc_nil hanc hz] at hlen; cases hlen
    obtain ⟨f', r, rfl, rfl, hanc'⟩ := anc_ne hanc hne
    have hr : r.length = n := by simpa using hlen
    refine seg_whileLoop (Wp.out ?_)
    refine t_val (e_sm "str.rstrip" (e_var H vP.var mP ⟨_, _, rfl, a_one (e_glob (.str (Str.ofString "/") 215) H gS (by kernel_rfl) ?_)⟩) (fun _ _ _ _ h => gm_rstrip h))
    refine c_rstrip H hpl fun t' s₁ H => t_str H (Nat.le_trans (PyProof.Rows.len_rstripChars _ _) hpl) fun s₂ H => ?_
    rw [show ((Txt.rstripChars p sSlash).length != 0) = true by simpa using hne, if_pos rfl]
    -- yield path
    refine seg_execs_cons (seg_Expr_Yield hfs rfl hfg (Wp.out ?_) (by rw [AE.sc]; kernel_rfl) H.inter)
    refine e_var H vP.var mP ?_
    intro kap hkap
    have hidx : l[l.length - 1 - n]? = some p := by
      have h1 : (l.drop (l.length - (n + 1)))[0]? = some p := by rw [← hdrop]; rfl
      rw [List.getElem?_drop] at h1
      rw [← h1]; congr 1; exact Mine.om147
    refine ⟨⟨p, t, hidx, rfl⟩, hok.since H, fun s'' hs'' => hkap .none s'' ?_⟩
    -- awake again
    obtain ⟨ml, hns, hml⟩ := H.ns
    have keep : ∀ a o, h₀.get? a = some o → s''.heap.get? a = some o := fun a o e => hs'' a (hfp.2 a o e) o (H.keep0 a o (by rw [hB]; exact e))
    have H := mkW G AE keep (mono_ns (AE.loc ▸ hns) fun o e => hs'' L hfp.1 o e) hml
    refine s_wrap (x_setT (e_gcall (.ref 54) H gP (a_one (e_var H vP.var mP ⟨H.gd', ?_⟩))) (by kernel_rfl) (by kernel_rfl))
    refine split_ok H.sit (R.le (by exact Mine.om92)) hpl fun r' z₂ s₃ N hr' => ?_
    obtain ⟨tu, u, v, rfl, htu, ⟨t₁, rfl⟩, ⟨t₂, rfl⟩⟩ := hr'
    have H := H.nx N
    refine g_tuple H R.hh htu rfl fun s₄ H => i_cons (x_assignN H vP fun s₅ H => i_cons (x_assignN H vT fun s₆ H => i_nil (x_nil ?_)))
    refine seg_again rfl (ih r f' (headF p) t₁ s'' s₆ _ z₂ _ hr hanc' ?_ (by exact Mine.om146 hnl) (Nat.le_trans (head_len p) hpl) N.zz H rfl ((BOk.bx h₀ L z s'' fun a o e => keep a o (AE.zh a o e)).mono N.zz) ?_)
    · have e : l.drop (l.length - n) = (l.drop (l.length - (n + 1))).drop 1 := by rw [List.drop_drop]; congr 1; exact Mine.om145 hnl
      rw [e, ← hdrop]; rfl
    · exact upd_get (by decide +kernel) (upd_self _ _ _)
end
end Mine
end
section
open PySem PySem.W PySem.Calls PyProof.Rows PySem.Spec
set_option Elab.async false
set_option maxRecDepth 100000
set_option linter.unusedVariables false
namespace Mine
open Sem (wp)
section
variable {w : World} {A : Around} {E : Value → Shared → Prop} {s : Shared} {z : PM} {α : Type}
theorem x_setE {env : Env} {x : Str} {p pos : Pos} {value : Expr} {Q : Flow → Shared → Prop} (h : Wp w A (eval value env) (fun v s₁ => Wp w A (storeName env x v) (fun _ s₂ => Q .next s₂) E s₁) E s)
    (hs : swapsWith value (some (.Name x p)) pos.line env = Pure.pure false := by kernel_rfl) : Wp w A (exec (.Assign [.Name x p] value pos) env) Q E s := ⟨wpAny_Assign_Name (un2 h) hs⟩

/-- the generator's whole text -/
theorem seg_start {l : List Str} {fp : List Addr} {L : Addr} {h₀ : Heap} {env : Env} {x : Str} {t : Tok} {m : Str → Option Value} {f : Nat} (G : Gd w h₀) (AE : AEnv h₀ z L env) (hfp : L ∈ fp ∧ ∀ a o, h₀.get? a = some o → a ∈ fp)
    (R : Rm A 6) (hanc : ancF f (Txt.rstripChars x sSlash) = some l) (hx : x.length ≤ sizeLine) (H : W w (Bx h₀ L z s) z env [L] m [] s) (mP : m (Str.ofString "path") = some (.str x t)) :
    Seg (model prg w) A (ancR L) (ancY l fp L) l.length s (.func ancBody env) ((model prg w).den (.func ancBody env)) [] s := by
  have vP : SVar env [L] (Str.ofString "path") := .inl (by rw [Env.kindOf, AE.sc]; kernel_rfl)
  have vT : SVar env [L] (Str.ofString "tail") := .inl (by rw [Env.kindOf, AE.sc]; kernel_rfl)
  have gS : env.kindOf (Str.ofString "sep") = some .globalImplicit := by rw [Env.kindOf, AE.sc]; kernel_rfl
  have gP : env.kindOf (Str.ofString "split") = some .globalImplicit := by rw [Env.kindOf, AE.sc]; kernel_rfl
  have ok : BOk (Bx h₀ L z s) L z s := BOk.bx h₀ L z s H.zin
  refine seg_func (seg_execs_cons (s_wrap (x_setE (e_sm "str.rstrip" (e_var H vP.var mP ⟨_, _, rfl, a_one (e_glob (.str (Str.ofString "/") 215) H gS (by kernel_rfl) ?_)⟩) (fun _ _ _ _ h => gm_rstrip h)))))
  refine c_rstrip H hx fun t' s₁ H => x_store H vP fun s₂ H => seg_execs_cons (seg_While fun p => ?_)
  refine seg_anc G AE hfp rfl rfl ?_ vP vT gS gP (fun s₀ s₃ hs => ?_) l.length l f _ t' s s₂ _ z _ rfl hanc (by rw [Nat.sub_self]; rfl) (Nat.le_refl _) (Nat.le_trans (PyProof.Rows.len_rstripChars _ _) hx) (Le.refl _) H rfl ok (upd_self _ _ _)
  · refine ⟨?_, ?_, ?_⟩
    · have := R.hh
      simp only [Around.over]
      first | (rw [this]; rfl) | (simp [marksOver, this])
    · have := R.d
      show A.depth + 1 + 0 + 4 < _
      exact Mine.om149 this
    · have := R.u
      first
        | (show A.units + 3 + 0 + 16 * 4 < _; exact Mine.om148 this)
        | (show A.units + (3 + 0) + 0 + 16 * 4 < _; omega)
        | (show A.units + 3 + 1 + 16 * 4 < _; omega)
        | (show A.units + (3 + 0) + 1 + 16 * 4 < _; omega)
        | (show A.units + 4 + 0 + 16 * 4 < _; omega)
  · refine seg_leaf (.ok .next) ?_
    exact seg_end (.ok (.ret .none)) ⟨rfl, rfl, hs⟩
end
end Mine
end
section
open PySem PySem.W PySem.Calls PyProof.Rows PySem.Spec
set_option Elab.async false
set_option maxRecDepth 100000
set_option linter.unusedVariables false
namespace Mine
open Sem (wp)
section
variable {w : World} {A : Around} {E : Value → Shared → Prop} {s : Shared} {z : PM} {α : Type}

/-- the generator after i turns -/
structure AncSt (w : World) (A : Around) (h₀ : Heap) (l : List Str) (fp : List Addr) (L I : Addr) (g : Nat) (i : Nat) (s : Shared) : Prop where
  gen : s.heap.IsGen I g
  keep : ∀ a o, h₀.get? a = some o → s.heap.get? a = some o
  gs : ∃ gs, s.gens[g]? = some gs ∧ ∀ s'', (∀ b ∈ fp, ∀ o, s.heap.get? b = some o → s''.heap.get? b = some o) → gs.Goes (model prg w) A (ancR L) (ancY l fp L) (l.length - i) (.send .none) s''

theorem Since.setGen {L : Addr} {s s' : Shared} {g : Nat} {y : GenState} (h : Since L (s.setGen g .running) s') (hb : y.bare = true) : Moved [L] (GG g) s (s'.setGen g y) ∨ ¬ s.toks ≤ s'.toks := by
  by_cases ht : s.toks ≤ s'.toks
  · left
    have hos : osd s' = osd s := h.os
    refine ⟨fun b o hb e => h.keep b o (fun q => hb (q ▸ .head _)) e, ?_, congrArg Prod.snd hos, congrArg Prod.fst hos, ht⟩
    obtain ⟨ext, hx, hbx⟩ := h.gens
    refine GG.trans (GG.trans (GG.setGen s g (y := .running) rfl) ?_) (GG.setGen s' g hb)
    rw [hx]; exact GG.app hbx
  · exact .inr ht

theorem walks_anc {h₀ : Heap} {l : List Str} {fp : List Addr} {L I : Addr} {g : Nat} (G : Gd w h₀) (R : Rm A 0) (hIL : I ≠ L) (hI : I ∈ fp) (hL : L ∈ fp) (h0 : ∀ a o, h₀.get? a = some o → a ∈ fp) (hL0 : h₀.get? L = none) :
    WalksS prg w A I fp [L] (GG g) l.length (fun i v => ∃ x t, l[i]? = some x ∧ v = .str x t) (AncSt w A.in1 h₀ l fp L I g) where
  sub := fun b hb => by rw [List.mem_singleton.mp hb]; exact hL
  grefl := GG.refl g
  gtrans := fun _ _ _ => GG.trans
  frame := fun i s h' tk st htk hk => ⟨(let ⟨o, nm, qn, ho, r⟩ := st.gen; ⟨o, nm, qn, hk I hI o ho, r⟩), fun a o e => hk a (h0 a o e) o (st.keep a o e),
    let ⟨gs, hgs, hgo⟩ := st.gs; ⟨gs, hgs, fun s'' hs => hgo s'' fun b hb o e => hs b hb o (hk b hb o e)⟩⟩
  item := fun i s Q E hi st hQ => by
    obtain ⟨gs, hgs, hgo⟩ := st.gs
    obtain ⟨m, hm⟩ : ∃ m, l.length - i = m + 1 := ⟨l.length - i - 1, by exact Mine.om153 hi⟩
    rw [hm] at hgo
    obtain ⟨_, _, _, T⟩ := (G.keeps st.keep).T
    refine wpAny_with_toks (Nat.le_refl s.toks) ?_
    refine next_gen (P := fun n s₀ s₁ => n = 0 ∧ Since L s₀ s₁) R.hh T.nolimit (by have := R.d; exact Mine.om150 this) st.gen hgs (hgo _ fun _ _ _ e => e) (fun v s₁ gs' hb hv => ?_) (fun s₁ hp h' hk => ?_)
    · obtain ⟨hv, hsi, hkap⟩ := hv
      intro htk
      rcases hsi.setGen (y := gs') hb with hM | hM
      · refine hQ v _ (by rw [show l.length - 1 - (m + 1 - 1) = i by exact Mine.om152 hm] at hv; exact hv) ⟨?_, fun a o e => hM.heap a o (fun q => ?_) (st.keep a o e), gs', setGen_self (gs := .running) ?_, fun s'' hs => ?_⟩ hM
        · obtain ⟨o, nm, qn, ho, r⟩ := st.gen
          exact ⟨o, nm, qn, hM.heap I o (fun q => hIL (List.mem_singleton.mp q)) ho, r⟩
        · rw [List.mem_singleton.mp q, hL0] at e; cases e
        · obtain ⟨ext, hx, _⟩ := hsi.gens
          have h1 := setGen_self (x := GenState.running) hgs
          rw [hx, Array.getElem?_append_left (Array.getElem?_eq_some_iff.mp h1).1]
          exact h1
        · rw [show l.length - (i + 1) = m by exact Mine.om151 hm]
          exact hkap s'' hs
      · exact absurd htk hM
    · exact absurd hp.1 (Nat.succ_ne_zero m)
  done := fun s Q E st hQ => by
    obtain ⟨gs, hgs, hgo⟩ := st.gs
    rw [Nat.sub_self] at hgo
    obtain ⟨_, _, _, T⟩ := (G.keeps st.keep).T
    refine wpAny_with_toks (Nat.le_refl s.toks) ?_
    refine next_gen (P := fun n s₀ s₁ => n = 0 ∧ Since L s₀ s₁) R.hh T.nolimit (by have := R.d; exact Mine.om150 this) st.gen hgs (hgo _ fun _ _ _ e => e) (fun v s₁ gs' hb hv => ?_) (fun s₁ hp h' hk => ?_)
    · exact (hv.2.2 s₁ fun _ _ _ e => e).elim
    · intro htk
      rcases hp.2.setGen (y := .finished) rfl with hM | hM
      · exact hQ _ (hM.then_heap (Nat.le_refl _) fun b o _ e => hk b o e)
      · exact absurd htk hM
  self := fun _ _ _ _ st hQ => wpAny_pyIter_gen st.gen hQ
end
end Mine
end
section
open PySem PySem.W PySem.Calls PyProof.Rows PySem.Spec
set_option Elab.async false
set_option maxRecDepth 100000
set_option linter.unusedVariables false
namespace Mine
open Sem (wp)
section
variable {w : World} {A : Around} {E : Value → Shared → Prop} {s : Shared} {z : PM} {α : Type}

theorem all2_of_get {zz : PM} : ∀ (vs : List Value) (l : List Str), vs.length = l.length → (∀ (j : Nat) (v : Value), vs[j]? = some v → ∃ (x : Str) (t : Tok), l[j]? = some x ∧ v = Value.str x t) → All2 (Rstr zz) vs l
  | [], [], _, _ => trivial
  | v :: vs, x :: l, hn, h => by
    refine ⟨?_, all2_of_get vs l (by simpa using hn) fun j u e => by simpa using h (j + 1) u (by simpa using e)⟩
    obtain ⟨y, t, e, rfl⟩ := h 0 v rfl
    cases e
    exact ⟨t, rfl⟩

theorem anclist_ok {x : Str} {t : Tok} {l : List Str} {f : Nat} {Q : Value → Shared → Prop} (G : Sit w z s) (R : Rm A 12) (hx : x.length ≤ sizeLine) (hanc : ancF f (Txt.rstripChars x sSlash) = some l) (hl : l.length ≤ sizeLine)
    (h : ∀ r z' s', Nx z s z' s' → Rlist Rstr z' r l → Q r s') : Wp w A (call (.ref 61) [.str x t]) (fun r s₁ => Wp w A (call (.type "list") [r]) Q E s₁) E s := by
  obtain ⟨o, fd, hK, hdata, hbody, hsc, hcl, hgl, hbu, hcode, hbind⟩ : ∃ o fd, (KK w).lookup 61 = some o ∧ o.data = .func fd ∧ fd.body = .stmts ancBody ∧ fd.scope = scopeOf (stAt 10) ∧ fd.closure = [] ∧ fd.globals = mainGlobals ∧ fd.builtins = builtinsNs ∧
      codeIn (KK w) fd.code fd.qualname = true ∧ ∀ v : Value, bindArgs fd ⟨[v], []⟩ = pure [(Str.ofString "path", v)] := ⟨_, _, rfl, rfl, rfl, rfl, rfl, rfl, rfl, by kernel_rfl, fun v => rfl⟩
  obtain ⟨_, _, _, T⟩ := G.gd.T
  refine .mk (wpAny_call (codeAny_call_generator (by have := R.d; exact Mine.om159 this) (G.gd.K _ _ hK) hdata (by rw [hsc]; kernel_rfl) (by rw [hsc]; kernel_rfl) hbody (codeRec_of G.gd.K hcode) ?_))
  rw [hbind]
  refine wpAny_pure (wpAny_newFunctionEnv (by rw [hsc]; decide +kernel) (fun y hy => by rw [List.mem_singleton.mp hy, hsc]; kernel_rfl) (fun h' hns hs => ?_) (by rw [hsc]; kernel_rfl))
  have keep' : ∀ b o, s.heap.get? b = some o → h'.get? b = some o := fun b o e => hs.extBut b o (Nat.ne_of_lt (Heap.lt_size e)) (Heap.get?_push_of_some _ e)
  refine ⟨T.nolimit.keeps keep', ?_⟩
  generalize henv : newEnv fd.scope s.heap.objs.size fd.globals fd.closure (fd.qualname ++ ".<locals>.") (some 61) fd.code none fd.builtins = env
  have hsz : h'.objs.size = s.heap.objs.size + 1 := by rw [hs.1, Heap.size_push]
  dsimp only
  generalize hob : ({ cls := .type "generator", data := .fields #[.int s.gens.size 0, .str fd.name (s.toks + [(Str.ofString "path", Value.str x t)].length), .str fd.qualname (s.toks + [(Str.ofString "path", Value.str x t)].length + 1)] } : Obj) = ob
  have hL0 : s.heap.get? s.heap.objs.size = none := by
    cases q : s.heap.get? s.heap.objs.size with
    | none => rfl
    | some o => exact absurd (Heap.lt_size q) (Nat.lt_irrefl _)
  have AE : AEnv s.heap z s.heap.objs.size env := by
    refine ⟨G.zin, hL0, ?_, ?_, ?_, ?_, ?_⟩
    · rw [← henv]; rfl
    · rw [← henv]; exact hcl
    · rw [← henv]; exact hsc
    · rw [← henv]; exact hgl
    · rw [← henv]; exact hbu
  have keep2 : ∀ b o, s.heap.get? b = some o → (h'.push ob).get? b = some o := fun b o e => Heap.get?_push_of_some _ (keep' b o e)
  have hI : (h'.push ob).get? h'.objs.size = some ob := Heap.get?_push_size _ (by rw [← hob]; rfl)
  have fpL : s.heap.objs.size ∈ h'.objs.size :: s.heap.objs.size :: List.range s.heap.objs.size := .tail _ (.head _)
  have fp0 : ∀ a o, s.heap.get? a = some o → a ∈ h'.objs.size :: s.heap.objs.size :: List.range s.heap.objs.size := fun a o e => .tail _ (.tail _ (List.mem_range.mpr (Heap.lt_size e)))
  have R2 : Rm A.in1.in1 8 := (R.le (j := 10) (by exact Mine.om158)).in1.in1
  have WK := walks_anc (w := w) (A := A.in1.in1) (h₀ := s.heap) (l := l) (L := s.heap.objs.size) (I := h'.objs.size) (g := s.gens.size) (fp := h'.objs.size :: s.heap.objs.size :: List.range s.heap.objs.size) G.gd (R2.le (by exact Mine.om157)) (by rw [hsz]; exact Nat.succ_ne_self _) (.head _) fpL fp0 hL0
  have hgen : ({ s with gens := s.gens.push (.fresh (.func ancBody env)), toks := s.toks + [(Str.ofString "path", Value.str x t)].length + 1 + 1, heap := h'.push ob } : Shared).heap.IsGen h'.objs.size s.gens.size :=
    ⟨ob, _, _, hI, by rw [← hob], by rw [← hob], by rw [← hob]⟩
  have st0 : AncSt w A.in1.in1.in1 s.heap l (h'.objs.size :: s.heap.objs.size :: List.range s.heap.objs.size) s.heap.objs.size h'.objs.size s.gens.size 0
      { s with gens := s.gens.push (.fresh (.func ancBody env)), toks := s.toks + [(Str.ofString "path", Value.str x t)].length + 1 + 1, heap := h'.push ob } := by
    refine ⟨hgen, keep2, _, Array.getElem?_push_size .., fun s'' hs'' => ⟨rfl, ?_⟩⟩
    have k2 : ∀ a o, s.heap.get? a = some o → s''.heap.get? a = some o := fun a o e => hs'' a (fp0 a o e) o (keep2 a o e)
    have hn2 : s''.heap.Ns s.heap.objs.size (fun y => [(Str.ofString "path", Value.str x t)].reverse.lookup y) := mono_ns hns fun o e => hs'' _ fpL o (Heap.get?_push_of_some _ e)
    exact seg_start (f := f) G.gd AE ⟨fpL, fp0⟩ (R2.le (j := 7) (by exact Mine.om156)).in1 hanc hx (mkW (m := fun y => [(Str.ofString "path", Value.str x t)].reverse.lookup y) G.gd AE k2 hn2 fun _ _ => rfl) (t := t) rfl
  refine .mk (call_list_gen (W := WK) (fun i s st => st.gen.typeIs) st0 (fun b hb => ?_) (.head _) (fun s' acc' c' hM hS hacc => ?_) hl)
  · show b < (h'.push ob).objs.size
    rw [Heap.size_push, hsz]
    rcases List.mem_cons.mp hb with h1 | hb
    · rw [h1, hsz]; exact Nat.lt_succ_self _
    · rcases List.mem_cons.mp hb with h1 | hb
      · rw [h1]; exact Nat.lt_succ_of_lt (Nat.lt_succ_self _)
      · exact Nat.lt_succ_of_lt (Nat.lt_succ_of_lt (List.mem_range.mp hb))
  · have hSz : (h'.push ob).objs.size = s.heap.objs.size + 2 := by rw [Heap.size_push, hsz]
    dsimp only at hM hS ⊢
    rw [hSz] at hM hS ⊢
    have ks : ∀ a o, s.heap.get? a = some o → s'.heap.get? a = some o := fun a o e => hM.heap a o (fun q => by
      have := Heap.lt_size e
      rcases List.mem_cons.mp q with q | q
      · exact Nat.ne_of_lt (Nat.lt_succ_of_lt (Nat.lt_succ_of_lt this)) q
      · exact Nat.ne_of_lt this (List.mem_singleton.mp q)) (Heap.get?_push_of_some _ (keep2 a o e))
    have hS0 : s.heap.get? (s.heap.objs.size + 2) = none := by
      cases q : s.heap.get? (s.heap.objs.size + 2) with
      | none => rfl
      | some o => exact absurd (Heap.lt_size q) (Nat.not_lt.mpr (Nat.le_add_right _ 2))
    have hzS : z (s.heap.objs.size + 2) = none := by
      cases q : z (s.heap.objs.size + 2) with
      | none => rfl
      | some o => have := G.zin _ _ q; rw [hS0] at this; cases this
    refine h _ _ s' ⟨ks, PM.put_le hzS, fun a o e => ?_, fun a h1 h2 => ?_, ?_, ?_⟩ ⟨_, acc', rfl, ⟨c', PM.put_self z (s.heap.objs.size + 2) _⟩, all2_of_get _ _ (by simpa using hacc.1) fun j v e => hacc.2 j v (by simpa using e)⟩
    · rcases PM.put_some e with ⟨rfl, rfl⟩ | ⟨_, e⟩
      · exact hS
      · exact ks _ _ (G.zin _ _ e)
    · by_cases ha : a = s.heap.objs.size + 2
      · rw [ha]; exact hS0
      · exact absurd (PM.put_none h2 ha) h1
    · show (s'.os, s'.drawn) = (s.os, s.drawn)
      rw [hM.os, hM.drawn]
    · obtain ⟨ext, e, hb⟩ := GG.ext (n := s.gens.size) hM.gens (Nat.le_refl _) (by simp) fun i y hi e => by
        dsimp only at e
        rw [Array.getElem?_push] at e
        split at e
        · cases e; rfl
        · obtain ⟨h1, _⟩ := Array.getElem?_eq_some_iff.mp e; exact (Mine.om155 hi h1).elim
      refine ⟨ext, e.trans ?_, hb⟩
      congr 1
      dsimp only
      apply Array.ext_getElem?
      intro i
      rw [Array.getElem?_extract]
      by_cases hi : i < s.gens.size
      · rw [if_pos (by simp; exact Mine.om44 hi), Nat.zero_add, Array.getElem?_push, if_neg (by exact Mine.om154 hi)]
      · rw [if_neg (by simp; exact Mine.om144 hi), Array.getElem?_eq_none (by exact Mine.om144 hi)]
end
end Mine
end
section
open PySem PySem.W PySem.Calls PyProof.Rows PySem.Spec
set_option Elab.async false
set_option maxRecDepth 100000
set_option linter.unusedVariables false
namespace Mine
theorem at_keqv (w : World) : FnAt w 28 (Str.ofString "parse_keqv_list") [Str.ofString "l"] (bodyOf (stAt 2)) (scopeOf (stAt 2)) where
  fd := ⟨_, _, rfl, rfl, rfl, rfl, rfl, rfl, rfl, by kernel_rfl, ofLen1 (fun _ => rfl)⟩
  par := by decide +kernel
  nd := by decide +kernel
  nnd := by decide +kernel
  cnd := by decide +kernel
  co := by kernel_rfl
  gen := by kernel_rfl
  fn := by kernel_rfl

/-- quotes off -/
noncomputable def unqF (v : Str) : Str := if v.cps.toList.head? = some 34 ∧ v.cps.toList.getLast? = some 34 then Txt.slice v (some 1) (some (-1)) else v
noncomputable def kvF (e : Str) : Option (Str × Str) :=
  match Txt.splitMax e sEq 1 with
  | [k, v] => if v.length = 0 then none else some (k, unqF v)
  | _ => none
noncomputable def storedF {β : Type} (d : List (Str × β)) (k : Str) (v : β) : List (Str × β) := if d.any (fun q => q.1 = k) then d.map (fun q => if q.1 = k then (q.1, v) else q) else d ++ [(k, v)]
theorem stored_all2 {β : Type} {R : Value → β → Prop} {k : Str} {v : Value} {y : β} (hv : R v y) {kvs : List (Str × Value)} {d : List (Str × β)} (h : All2 (fun kv q => kv.1 = q.1 ∧ R kv.2 q.2) kvs d) :
    All2 (fun kv q => kv.1 = q.1 ∧ R kv.2 q.2) (stored kvs k v) (storedF d k y) := by
  have any_eq : ∀ {kvs : List (Str × Value)} {d : List (Str × β)}, All2 (fun kv q => kv.1 = q.1 ∧ R kv.2 q.2) kvs d → kvs.any (fun q => decide (q.1 = k)) = d.any (fun q => decide (q.1 = k)) := by
    intro kvs
    induction kvs with
    | nil => intro d h; cases d with | nil => rfl | cons _ _ => exact h.elim
    | cons a r ih =>
      intro d h
      cases d with
      | nil => exact h.elim
      | cons b r' => rw [List.any_cons, List.any_cons, ih h.2, h.1.1]
  have map_all : ∀ {kvs : List (Str × Value)} {d : List (Str × β)}, All2 (fun kv q => kv.1 = q.1 ∧ R kv.2 q.2) kvs d →
      All2 (fun kv q => kv.1 = q.1 ∧ R kv.2 q.2) (kvs.map fun q => if q.1 = k then (q.1, v) else q) (d.map fun q => if q.1 = k then (q.1, y) else q) := by
    intro kvs
    induction kvs with
    | nil => intro d h; cases d with | nil => trivial | cons _ _ => exact h.elim
    | cons a r ih =>
      intro d h
      cases d with
      | nil => exact h.elim
      | cons b r' =>
        refine ⟨?_, ih h.2⟩
        dsimp only
        by_cases hk : b.1 = k
        · rw [if_pos (h.1.1.trans hk), if_pos hk]; exact ⟨h.1.1, hv⟩
        · rw [if_neg (fun q => hk (h.1.1 ▸ q)), if_neg hk]; exact h.1
  unfold stored storedF
  rw [any_eq h]
  split
  · exact map_all h
  · exact h.snoc ⟨rfl, hv⟩
noncomputable def keqvF : List Str → List (Str × Str) → Option (List (Str × Str))
  | [], d => some d
  | e :: r, d => match kvF e with | some (k, v) => keqvF r (storedF d k v) | none => none

section
variable {w : World} {B : Bs} {z z' : PM} {env : Env} {own : List Addr} {m m' : Str → Option Value} {mu mu' : List (Addr × MO)} {s s' s₀ : Shared} {A : Around} {E : Value → Shared → Prop} {k : Nat} {xs : List Addr}
theorem d_itemS {value slice : Expr} {x : Str} {t u : Tok} {i : Int} {c : Nat} {Q : Value → Shared → Prop} (H : W w B z env own m mu s) (hr : (decide (i < -(2 ^ 63 : Int)) || decide (i ≥ 2 ^ 63)) = false) (hc : (seqIndex? i x.length).bind (x.cps[·]?) = some c)
    (h : ∀ t s', W w B z env own m mu s' → Q (.str ⟨#[c]⟩ t) s') (hs : ∃ ops, subscripted slice false (.str x t) (.int i u) = operate ops (getItem (.str x t) (.int i u))) : Wp w A (subscriptTail value slice (.str x t) (.int i u)) Q E s := by
  obtain ⟨ops, hs⟩ := hs
  exact tail_any (typeIs_str _ x t) F.slot_str_getitem.lookup (.mk (PyProof.Rows.getItem_str hr hc (h _ _ (H.same rfl rfl rfl)))) hs
theorem idx0 {x : Str} {c : Nat} (h : x.cps.toList.head? = some c) : (seqIndex? 0 x.length).bind (x.cps[·]?) = some c := by
  have hl : 0 < x.length := by
    rcases Nat.eq_zero_or_pos x.length with h0 | h0
    · rw [List.eq_nil_of_length_eq_zero (show x.cps.toList.length = 0 from h0)] at h; cases h
    · exact h0
  unfold seqIndex?
  simp [hl]
  rw [List.head?_eq_getElem?] at h
  simpa using h
theorem idxL {x : Str} {c : Nat} (h : x.cps.toList.getLast? = some c) : (seqIndex? (-1) x.length).bind (x.cps[·]?) = some c := by
  have hl : 0 < x.length := by
    rcases Nat.eq_zero_or_pos x.length with h0 | h0
    · rw [List.eq_nil_of_length_eq_zero (show x.cps.toList.length = 0 from h0)] at h; cases h
    · exact h0
  have h1 : (0 : Int) ≤ -1 + (x.length : Int) := by exact Mine.om164 hl
  have h2 : (-1 + (x.length : Int)) < x.length := by exact Mine.om163
  have h3 : (-1 + (x.length : Int)).toNat = x.length - 1 := by exact Mine.om162
  unfold seqIndex?
  simp [h1, h2, h3]
  rw [List.getLast?_eq_getElem?] at h
  simpa [Str.length] using h
theorem stored_len {β : Type} (d : List (Str × β)) (k : Str) (v : β) : (storedF d k v).length ≤ d.length + 1 := by
  unfold storedF; split <;> simp
theorem keqv_snoc : ∀ (l : List Str) (e : Str) (d : List (Str × Str)), keqvF (l ++ [e]) d = (keqvF l d).bind fun d' => keqvF [e] d'
  | [], e, d => rfl
  | x :: l, e, d => by
    rw [List.cons_append, keqvF, keqvF]
    cases kvF x with
    | none => rfl
    | some q => obtain ⟨k, v⟩ := q; exact keqv_snoc l e _
theorem keqv_take {l : List Str} {d r : List (Str × Str)} (h : keqvF l d = some r) (i : Nat) : ∃ r', keqvF (l.take i) d = some r' := by
  cases e : keqvF (l.take i) d with
  | some r' => exact ⟨r', rfl⟩
  | none =>
    exfalso
    have gen : ∀ (a b : List Str) (d : List (Str × Str)), keqvF a d = none → keqvF (a ++ b) d = none := by
      intro a
      induction a with
      | nil => intro b d h; cases h
      | cons x a ih =>
        intro b d h
        rw [List.cons_append, keqvF]
        rw [keqvF] at h
        cases q : kvF x with
        | none => rfl
        | some kv => rw [q] at h; exact ih b _ h
    have := gen _ (l.drop i) d e
    rw [List.take_append_drop, h] at this
    cases this
theorem keqv_len : ∀ (l : List Str) (d r : List (Str × Str)), keqvF l d = some r → r.length ≤ d.length + l.length
  | [], d, r, h => by cases h; simp
  | x :: l, d, r, h => by
    rw [keqvF] at h
    cases q : kvF x with
    | none => rw [q] at h; cases h
    | some kv =>
      rw [q] at h
      have h1 := keqv_len l _ r h
      have h2 := stored_len d kv.1 kv.2
      simp only [List.length_cons]; exact Mine.om96 h1 h2

theorem keqv_ok {va : Value} {ls : List Str} {r : List (Str × Str)} {Q : Value → Shared → Prop} (G : Sit w z s) (R : Rm A 3) (hv : Rlist Rstr z va ls) (hll : ls.length ≤ sizeLine) (hel : ∀ e ∈ ls, e.length + 2 ≤ sizeLine) (hr : keqvF ls [] = some r)
    (h : ∀ v z' s', Nx z s z' s' → Rdict w Rstr z' v r → Q v s') : Wp w A (call (.ref 28) [va]) Q E s := by
  obtain ⟨la, lvs, rfl, hla, hlv⟩ := hv
  refine go (at_keqv w) G R rfl fun A' env own m s' R' H hsv hgl hm hsc => post fun Q₁ fin₁ => ?_
  have h := fun r z' s' N X => fin₁ (.ret r) s' (h r z' s' N X)
  have vL := hsv (Str.ofString "l") (.inl (by kernel_rfl))
  have vP := hsv (Str.ofString "parsed") (.inl (by kernel_rfl))
  have vE := hsv (Str.ofString "elt") (.inl (by kernel_rfl))
  have vK := hsv (Str.ofString "k") (.inl (by kernel_rfl))
  have vV := hsv (Str.ofString "v") (.inl (by kernel_rfl))
  have mL : m (Str.ofString "l") = some (.ref la) := hm (_, _) (.head _)
  clear hsv hgl hm hsc
  refine x_set (e_dict0 H fun a s₁ H => x_store H vP fun s₂ H => ?_)
  refine x_for H (e_var H vL.var (upd_get (by decide +kernel) mL) (i_list H R'.hh hla fun I s₄ H IT => forI H IT
    (fun i z' m mu => Le z z' ∧ m (Str.ofString "parsed") = some (.ref a) ∧ ∃ kvs d, mu = [(a, .dct kvs)] ∧ keqvF (ls.take i) [] = some d ∧ All2 (fun kv q => kv.1 = q.1 ∧ Rstr z' kv.2 q.2) kvs d)
    ⟨Le.refl _, upd_self _ _ _, [], [], rfl, rfl, trivial⟩ ?_ ?_))
  · intro i v z₁ m₁ mu₁ B₁ s₅ E' hi hP hJ H
    refine turnQ fun Q₀ fin₀ => ?_
    obtain ⟨hz₁, mP, kvs, d, rfl, hd, hkv⟩ := hJ
    obtain ⟨e, he, t, rfl⟩ := hlv.get' (i := i) (a := v) (by simpa using hP)
    have hmem : e ∈ ls := List.mem_of_getElem? he
    obtain ⟨d', hd'⟩ := keqv_take hr (i + 1)
    have htk : ls.take (i + 1) = ls.take i ++ [e] := by rw [List.take_add_one, he]; rfl
    have hstep : keqvF [e] d = some d' := by
      rw [htk, keqv_snoc, hd] at hd'; exact hd'
    obtain ⟨k, v, hk, rfl⟩ : ∃ k v, kvF e = some (k, v) ∧ d' = storedF d k v := by
      rw [keqvF] at hstep
      cases q : kvF e with
      | none => rw [q] at hstep; cases hstep
      | some kv => rw [q] at hstep; exact ⟨kv.1, kv.2, rfl, (Option.some.inj hstep).symm⟩
    obtain ⟨v₀, hsp, hv0, rfl⟩ : ∃ v₀, Txt.splitMax e sEq 1 = [k, v₀] ∧ v₀.length ≠ 0 ∧ v = unqF v₀ := by
      unfold kvF at hk
      split at hk
      · rename_i k' v' hs
        split at hk
        · cases hk
        · cases hk; exact ⟨v', hs, by assumption, rfl⟩
      · cases hk
    have hle : v₀.length ≤ e.length := PyProof.Rows.partMax_short (x := e) (y := sEq) (k := 1) (by rw [hsp]; exact .tail _ (.head _))
    have hel' := hel e hmem
    refine x_assignG H vE fun m₂ ka mE s₆ H => x_setT (e_sm "str.split" (e_var H vE.var mE ⟨_, _, rfl, a_cons (e_str H fun t₁ s₇ H => a_one (e_int H fun t₂ s₈ H => ?_))⟩) (fun _ _ _ _ h => gm_split h))
    refine c_split H (by decide +kernel) (by decide +kernel) hel' fun r' z₂ s₉ hz₂ H hr' => ?_
    rw [show (Txt.splitMax e (Str.ofString "=") 1) = [k, v₀] from hsp] at hr'
    obtain ⟨b, us, rfl, hb, hus⟩ := hr'
    obtain ⟨u0, u1, hu, ⟨tk, rfl⟩, ⟨tv, rfl⟩⟩ : ∃ u0 u1, us = #[u0, u1] ∧ Rstr z₂ u0 k ∧ Rstr z₂ u1 v₀ := by
      obtain ⟨l⟩ := us
      match l, hus with
      | [u0, u1], h => exact ⟨u0, u1, rfl, h.1, h.2.1⟩
      | [], h => exact h.elim
      | [_], h => exact h.2.elim
      | _ :: _ :: _ :: _, h => exact h.2.2.elim
    subst hu
    refine g_list H R'.hh hb rfl fun s₁₀ H => i_cons (x_assignG H vK fun mb kb mK s₁₁ H => i_cons (x_assignG H vV fun m₂ kc mV s₁₂ H => i_nil ?_))
    have mP' := kc _ _ (by decide +kernel) (kb _ _ (by decide +kernel) (ka _ _ (by decide +kernel) mP))
    have mK := kc _ _ (by decide +kernel) mK
    -- parsed[k] = v
    have fin : ∀ (m₃ : Str → Option Value) (s₁₃ : Shared) (t' : Tok), W w B₁ z₂ env own m₃ [(a, .dct kvs)] s₁₃ → m₃ (Str.ofString "parsed") = some (.ref a) → m₃ (Str.ofString "k") = some (.str k tk) → m₃ (Str.ofString "v") = some (.str (unqF v₀) t') →
        Wp w A' (execs ((bodyFor (nthS (bodyOf (stAt 2)) 1)).drop 2) env) Q₀ E' s₁₃ := by
      intro m₃ s₁₃ t' H mP mK mV
      have hkl : kvs.length ≤ sizeLine := by
        have h1 := hkv.length
        have h2 := keqv_len _ _ _ hd
        rw [List.length_take, List.length_nil] at h2
        exact Mine.om161 hll h1 h2
      refine x_setItem (e_var H vV.var mV (e_var H vP.var mP (e_var H vK.var mK (d_setD H 0 rfl hkl fun s₁₄ H => x_nil (fin₀ _ _ ⟨.inl rfl, z₂, _, _, H, hz₂, hz₁.trans hz₂, mP, _, _, rfl, hd', ?_⟩)))))
      exact stored_all2 (R := Rstr z₂) ⟨t', rfl⟩ (hkv.mono fun _ _ q => ⟨q.1, mono_str _ _ _ _ hz₂ q.2⟩)
    obtain ⟨c, hc⟩ : ∃ c, v₀.cps.toList.head? = some c := by
      cases q : v₀.cps.toList.head? with
      | some c => exact ⟨c, rfl⟩
      | none => exact absurd (show v₀.cps.toList.length = 0 by rw [List.head?_eq_none_iff.mp q]; rfl) hv0
    obtain ⟨c', hc'⟩ : ∃ c, v₀.cps.toList.getLast? = some c := by
      cases q : v₀.cps.toList.getLast? with
      | some c => exact ⟨c, rfl⟩
      | none => exact absurd (show v₀.cps.toList.length = 0 by rw [List.getLast?_eq_none_iff.mp q]; rfl) hv0
    have eqc : ∀ c : Nat, ((⟨#[c]⟩ : Str) == Str.ofString "\"") = true ↔ c = 34 := fun c => by
      rw [show Str.ofString "\"" = (⟨#[34]⟩ : Str) from sQuot_is]
      simp
    refine x_if (t_and (t_cmp (e_sub (e_var H vV.var mV (e_int H fun t₃ s₁₃ H => d_itemS H (by decide +kernel) (idx0 hc) (fun t₄ s₁₄ H => e_str H fun t₅ s₁₅ H => d_eqS ⟨_, rfl, fun h1 => ?_, fun h1 => ⟨fun q => (nomatch q), fun _ => ?_⟩⟩) ⟨_, by with_unfolding_all rfl⟩)))))
    · refine t_and (t_cmp (e_sub (e_var H vV.var mV (e_neg H fun t₆ s₁₆ H => d_itemS H (by decide +kernel) (idxL hc') (fun t₇ s₁₇ H => e_str H fun t₈ s₁₈ H => d_eqS ⟨_, rfl, fun h2 => t_and0 ⟨fun _ => ?_, fun q => (nomatch q)⟩, fun h2 => ⟨fun q => (nomatch q), fun _ => ?_⟩⟩) ⟨_, by with_unfolding_all rfl⟩))))
      · have e1 := (eqc c).mp h1
        have e2 := (eqc c').mp h2
        refine x_set (e_sliceS H (e_var H vV.var mV (p_some (e_int H fun t₉ s₁₉ H => p_some (e_neg H fun t₁₀ s₂₀ H => ⟨v₀, tv, some (1, t₉), some (-1, t₁₀), z₂, _, _, rfl, rfl, rfl, by exact Mine.om160 hle hel', H, fun t₁₁ s₂₁ H => x_store H vV fun s₂₂ H => ?_⟩)))) (fun _ _ _ => ⟨_, by with_unfolding_all rfl⟩))
        refine fin _ _ t₁₁ H (upd_get (by decide +kernel) mP') (upd_get (by decide +kernel) mK) ?_
        rw [upd_self, unqF, if_pos ⟨e1 ▸ hc, e2 ▸ hc'⟩]
        rfl
      · refine fin _ _ tv H mP' mK ?_
        rw [mV, unqF, if_neg fun q => ?_]
        rw [hc'] at q
        rw [(eqc c').mpr (Option.some.inj q.2)] at h2; cases h2
    · refine fin _ _ tv H mP' mK ?_
      rw [mV, unqF, if_neg fun q => ?_]
      rw [hc] at q
      rw [(eqc c).mpr (Option.some.inj q.1)] at h1; cases h1
  · intro z' m' mu' s₅ H hJ
    obtain ⟨_, mP, kvs, d, rfl, hd, hkv⟩ := hJ
    have e : lvs.size = ls.length := by rw [← hlv.length]; simp
    rw [e, List.take_length, hr] at hd
    cases hd
    refine x_ret (e_var H vP.var mP ?_)
    obtain ⟨z₃, hz₃, hl, H⟩ := H.freezeD
    exact h _ _ _ (H.back G) ⟨_, kvs, rfl, hl, hkv.mono fun _ _ q => ⟨q.1, mono_str _ _ _ _ hz₃ q.2⟩⟩
end
end Mine
end
section
open PySem PySem.W PySem.Calls PyProof.Rows PySem.Spec
set_option Elab.async false
set_option maxRecDepth 100000
set_option linter.unusedVariables false
namespace Mine
theorem at_http (w : World) : FnAt w 33 (Str.ofString "parse_http_list") [Str.ofString "s"] (bodyOf (stAt 3)) (scopeOf (stAt 3)) where
  fd := ⟨_, _, rfl, rfl, rfl, rfl, rfl, rfl, rfl, by kernel_rfl, ofLen1 (fun _ => rfl)⟩
  par := by decide +kernel
  nd := by decide +kernel
  nnd := by decide +kernel
  cnd := by decide +kernel
  co := by kernel_rfl
  gen := by kernel_rfl
  fn := by kernel_rfl

structure HS where
  acc : List Str
  part : Str
  esc : Bool
  quo : Bool
noncomputable def hstep (st : HS) (c : Nat) : HS :=
  if st.esc then { st with part := st.part ++ ⟨#[c]⟩, esc := false }
  else if st.quo then (if c = 92 then { st with esc := true } else if c = 34 then { st with part := st.part ++ ⟨#[c]⟩, quo := false } else { st with part := st.part ++ ⟨#[c]⟩ })
  else if c = 44 then { st with acc := st.acc ++ [st.part], part := sNil }
  else if c = 34 then { st with part := st.part ++ ⟨#[c]⟩, quo := true }
  else { st with part := st.part ++ ⟨#[c]⟩ }
noncomputable def hrun (l : List Nat) : HS := l.foldl hstep ⟨[], sNil, false, false⟩
noncomputable def httpF (x : Str) : List Str :=
  let st := hrun x.cps.toList
  (if st.part.length ≠ 0 then st.acc ++ [st.part] else st.acc).map Txt.strip
theorem hstep_len (st : HS) (c : Nat) : (hstep st c).acc.length ≤ st.acc.length + 1 ∧ (hstep st c).part.length ≤ st.part.length + 1 := by
  have h1 : ∀ x : Str, (x ++ (⟨#[c]⟩ : Str)).length = x.length + 1 := fun x => by rw [Str.length_append]; rfl
  have h2 : sNil.length = 0 := by decide +kernel
  unfold hstep
  (repeat' split) <;> simp [h1, h2]
theorem hrun_len : ∀ (l : List Nat) (st : HS), (l.foldl hstep st).acc.length ≤ st.acc.length + l.length ∧ (l.foldl hstep st).part.length ≤ st.part.length + l.length
  | [], st => by simp
  | c :: l, st => by
    have h1 := hrun_len l (hstep st c)
    have h2 := hstep_len st c
    rw [List.foldl_cons, List.length_cons]; exact Mine.om177 h1 h2

section
variable {w : World} {B : Bs} {z z' : PM} {env : Env} {own : List Addr} {m m' : Str → Option Value} {mu mu' : List (Addr × MO)} {s s' s₀ : Shared} {A : Around} {E : Value → Shared → Prop} {k : Nat} {xs : List Addr}
theorem d_iaddS {x y : Str} {t u : Tok} {Q : Value → Shared → Prop} (H : W w B z env own m mu s) (hsz : x.length + y.length ≤ sizeLine) (h : ∀ t' s', W w B z env own m mu s' → Q (.str (x ++ y) t') s') :
    Wp w A (inplaceOp .Add (.str x t) (.str y u)) Q E s := .mk (PyProof.Rows.iadd_str (fun t' tk => h t' _ (H.same rfl rfl rfl)) hsz)
theorem eq1 (c d : Nat) (x : Str) (hx : x = ⟨#[d]⟩) : ((⟨#[c]⟩ : Str) == x) = true ↔ c = d := by subst hx; simp
theorem len1 (c : Nat) : (⟨#[c]⟩ : Str).length = 1 := rfl
theorem is44 : Str.ofString "," = ⟨#[44]⟩ := by decide +kernel
theorem is34 : Str.ofString "\"" = ⟨#[34]⟩ := by decide +kernel
theorem is92 : Str.ofString "\\" = ⟨#[92]⟩ := by decide +kernel


theorem hrun_mem : ∀ (l : List Nat) (st : HS), ∀ p ∈ (l.foldl hstep st).acc, p ∈ st.acc ∨ p.length ≤ st.part.length + l.length
  | [], st, p, h => .inl h
  | c :: l, st, p, h => by
    rw [List.foldl_cons] at h
    have h2 := (hstep_len st c).2
    rcases hrun_mem l (hstep st c) p h with h | h
    · have h3 : p ∈ st.acc ∨ p = st.part := by
        unfold hstep at h
        (repeat' split at h) <;> first | exact .inl h | (simp at h; exact h)
      rcases h3 with h3 | h3
      · exact .inl h3
      · right; rw [h3]; exact Mine.om136
    · right; rw [List.length_cons]; exact Mine.om176 h2 h

structure PH (a : Addr) (st : HS) (z : PM) (m : Str → Option Value) (mu : List (Addr × MO)) : Prop where
  part : ∃ t, m (Str.ofString "part") = some (.str st.part t)
  esc : m (Str.ofString "escape") = some (.bool st.esc)
  quo : m (Str.ofString "quote") = some (.bool st.quo)
  res : m (Str.ofString "res") = some (.ref a)
  mu : ∃ vs, mu = [(a, .lst vs)] ∧ All2 (Rstr z) vs.toList st.acc
theorem PH.put {a : Addr} {st : HS} {m' : Str → Option Value} (h : PH a st z m mu) {x : Str} (k : ∀ y u, y ≠ x → m y = u → m' y = u) (hx : ∀ y ∈ [Str.ofString "part", Str.ofString "escape", Str.ofString "quote", Str.ofString "res"], y ≠ x) : PH a st z m' mu :=
  ⟨⟨_, k _ _ (hx _ (.head _)) h.part.choose_spec⟩, k _ _ (hx _ (.tail _ (.head _))) h.esc, k _ _ (hx _ (.tail _ (.tail _ (.head _)))) h.quo, k _ _ (hx _ (.tail _ (.tail _ (.tail _ (.head _))))) h.res, h.mu⟩
theorem PH.setP {a : Addr} {st : HS} (h : PH a st z m mu) {y : Str} {t : Tok} : PH a { st with part := y } z (upd m (Str.ofString "part") (.str y t)) mu :=
  ⟨⟨t, upd_self _ _ _⟩, upd_get (by decide +kernel) h.esc, upd_get (by decide +kernel) h.quo, upd_get (by decide +kernel) h.res, h.mu⟩
theorem PH.setE {a : Addr} {st : HS} (h : PH a st z m mu) {b : Bool} : PH a { st with esc := b } z (upd m (Str.ofString "escape") (.bool b)) mu :=
  ⟨by obtain ⟨t, e⟩ := h.part; exact ⟨t, upd_get (by decide +kernel) e⟩, upd_self _ _ _, upd_get (by decide +kernel) h.quo, upd_get (by decide +kernel) h.res, h.mu⟩
theorem PH.setQ {a : Addr} {st : HS} (h : PH a st z m mu) {b : Bool} : PH a { st with quo := b } z (upd m (Str.ofString "quote") (.bool b)) mu :=
  ⟨by obtain ⟨t, e⟩ := h.part; exact ⟨t, upd_get (by decide +kernel) e⟩, upd_get (by decide +kernel) h.esc, upd_self _ _ _, upd_get (by decide +kernel) h.res, h.mu⟩

theorem http_ok {x : Str} {tx : Tok} {Q : Value → Shared → Prop} (G : Sit w z s) (R : Rm A 3) (hx : x.length + 2 ≤ sizeLine)
    (h : ∀ v z' s', Nx z s z' s' → Rlist Rstr z' v (httpF x) → Q v s') : Wp w A (call (.ref 33) [.str x tx]) Q E s := by
  refine go (at_http w) G R rfl fun A' env own m s' R' H hsv hgl hm hsc => post fun Q₁ fin₁ => ?_
  have h := fun r z' s' N X => fin₁ (.ret r) s' (h r z' s' N X)
  have vS := hsv (Str.ofString "s") (.inl (by kernel_rfl))
  have vR := hsv (Str.ofString "res") (.inl (by kernel_rfl))
  have vP := hsv (Str.ofString "part") (.inl (by kernel_rfl))
  have vE := hsv (Str.ofString "escape") (.inl (by kernel_rfl))
  have vQ := hsv (Str.ofString "quote") (.inl (by kernel_rfl))
  have vC := hsv (Str.ofString "cur") (.inl (by kernel_rfl))
  have mS : m (Str.ofString "s") = some (.str x tx) := hm (_, _) (.head _)
  clear hsv hgl hm hsc
  refine x_set (e_nilM H fun a s₁ H => x_store H vR fun s₂ H => x_set (e_str H fun t₁ s₃ H => x_store H vP fun s₄ H => x_set2 (e_bool (x_store H vE fun s₅ H => x_store H vQ fun s₆ H => ?_))))
  have P0 : PH a ⟨[], sNil, false, false⟩ z (upd (upd (upd (upd m (Str.ofString "res") (.ref a)) (Str.ofString "part") (.str (Str.ofString "") t₁)) (Str.ofString "escape") (.bool false)) (Str.ofString "quote") (.bool false)) [(a, .lst #[])] := by
    refine ⟨⟨t₁, ?_⟩, ?_, upd_self _ _ _, ?_, _, rfl, trivial⟩
    · exact upd_get (by decide +kernel) (upd_get (by decide +kernel) (upd_self _ _ _))
    · exact upd_get (by decide +kernel) (upd_self _ _ _)
    · exact upd_get (by decide +kernel) (upd_get (by decide +kernel) (upd_get (by decide +kernel) (upd_self _ _ _)))
  have mS : (upd (upd (upd (upd m (Str.ofString "res") (.ref a)) (Str.ofString "part") (.str (Str.ofString "") t₁)) (Str.ofString "escape") (.bool false)) (Str.ofString "quote") (.bool false)) (Str.ofString "s") = some (.str x tx) := upd_get (by decide +kernel) (upd_get (by decide +kernel) (upd_get (by decide +kernel) (upd_get (by decide +kernel) mS)))
  refine x_for H (e_var H vS.var mS (i_str H R'.hh fun I s₇ H IT => forI H IT (fun i z' m mu => Le z z' ∧ PH a ((x.cps.toList.take i).foldl hstep ⟨[], sNil, false, false⟩) z' m mu) ⟨Le.refl _, P0⟩ ?_ ?_))
  · intro i v z₁ m₁ mu₁ B₁ s₈ E' hi hP hJ H
    dsimp only
    refine turnQ fun Q₀ fin₀ => ?_
    obtain ⟨hz₁, J⟩ := hJ
    obtain ⟨c, u, hc, rfl⟩ := hP
    have hstp : (x.cps.toList.take (i + 1)).foldl hstep ⟨[], sNil, false, false⟩ = hstep ((x.cps.toList.take i).foldl hstep ⟨[], sNil, false, false⟩) c := by
      rw [List.take_add_one, List.foldl_append, Array.getElem?_toList, hc]; rfl
    have hlen := hrun_len (x.cps.toList.take i) ⟨[], sNil, false, false⟩
    rw [hstp] at fin₀
    generalize (x.cps.toList.take i).foldl hstep ⟨[], sNil, false, false⟩ = st at J hlen fin₀
    have hl0 : sNil.length = 0 := by decide +kernel
    have hl : st.acc.length ≤ i ∧ st.part.length ≤ i := by
      simp only [List.length_take, hl0, List.length_nil] at hlen; exact Mine.om175 hlen
    have hi' : i < x.length := hi
    refine x_assignG H vC fun m₂ kk mC s₉ H => ?_
    have J := J.put kk (by decide +kernel)
    -- part += cur
    have app : ∀ (m₃ : Str → Option Value) (st' : HS) (s₁₀ : Shared) (p q pos : Pos) (rest : List Stmt) (K : Flow → Shared → Prop), st'.part = st.part → W w B₁ z₁ env own m₃ mu₁ s₁₀ → PH a st' z₁ m₃ mu₁ → m₃ (Str.ofString "cur") = some (.str ⟨#[c]⟩ u) →
        (∀ m₄ s₁₁, W w B₁ z₁ env own m₄ mu₁ s₁₁ → PH a { st' with part := st.part ++ ⟨#[c]⟩ } z₁ m₄ mu₁ → Wp w A' (execs rest env) K E' s₁₁) → Wp w A' (execs (.AugAssign (.Name (Str.ofString "part") p) .Add (.Name (Str.ofString "cur") q) pos :: rest) env) K E' s₁₀ := by
      intro m₃ st' s₁₀ p q pos rest K he H J mC k
      obtain ⟨tp, mP⟩ := J.part
      refine x_aug (e_load H vP.var mP (e_var H vC.var mC (d_iaddS H (by rw [he, len1]; exact Mine.om174 hx hl hi') fun t' s₁₁ H => x_store H vP fun s₁₂ H => k _ _ H ?_)))
      rw [he]
      exact J.setP
    have e44 := fun c => eq1 c 44 (Str.ofString ",") is44
    have e34 := fun c => eq1 c 34 (Str.ofString "\"") is34
    have e92 := fun c => eq1 c 92 (Str.ofString "\\") is92
    refine x_if (t_val (e_var H vE.var J.esc (t_bool ⟨fun he => ?_, fun he => ?_⟩)))
    · -- behind a backslash
      refine app _ st _ _ _ _ _ _ rfl H J mC fun m₄ s₁₁ H J => x_set (e_bool (x_store H vE fun s₁₂ H => x_cont (fin₀ _ _ ⟨.inr rfl, z₁, _, _, H, Le.refl _, hz₁, ?_⟩)))
      rw [show hstep st c = { st with part := st.part ++ ⟨#[c]⟩, esc := false } by simp [hstep, he]]
      exact J.setE
    · refine x_if (t_val (e_var H vQ.var J.quo (t_bool ⟨fun hq => ?_, fun hq => ?_⟩)))
      · -- in quotes
        refine x_if (t_cmp (e_var H vC.var mC (e_str H fun t₂ s₁₀ H => d_eqS ⟨_, rfl, fun h1 => ?_, fun h1 => ?_⟩)))
        · have h1 := (e92 c).mp h1
          refine x_set (e_bool (x_store H vE fun s₁₂ H => x_cont (fin₀ _ _ ⟨.inr rfl, z₁, _, _, H, Le.refl _, hz₁, ?_⟩)))
          rw [show hstep st c = { st with esc := true } by simp [hstep, he, hq, h1]]
          exact J.setE
        · have h1 : ¬ c = 92 := fun q => by rw [(e92 c).mpr q] at h1; cases h1
          refine x_if (t_cmp (e_var H vC.var mC (e_str H fun t₂ s₁₀ H => d_eqS ⟨_, rfl, fun h2 => ?_, fun h2 => ?_⟩)))
          · have h2 := (e34 c).mp h2
            refine x_set (e_bool (x_store H vQ fun s₁₂ H => app _ { st with quo := false } _ _ _ _ _ _ rfl H J.setQ (upd_get (by decide +kernel) mC) fun m₄ s₁₁ H J => x_cont (fin₀ _ _ ⟨.inr rfl, z₁, _, _, H, Le.refl _, hz₁, ?_⟩)))
            rw [show hstep st c = { st with part := st.part ++ ⟨#[c]⟩, quo := false } by simp [hstep, he, hq, h2]]
            exact J
          · have h2 : ¬ c = 34 := fun q => by rw [(e34 c).mpr q] at h2; cases h2
            refine app _ st _ _ _ _ _ _ rfl H J mC fun m₄ s₁₁ H J => x_cont (fin₀ _ _ ⟨.inr rfl, z₁, _, _, H, Le.refl _, hz₁, ?_⟩)
            rw [show hstep st c = { st with part := st.part ++ ⟨#[c]⟩ } by simp [hstep, he, hq, h1, h2]]
            exact J
      · -- outside
        refine x_if (t_cmp (e_var H vC.var mC (e_str H fun t₂ s₁₀ H => d_eqS ⟨_, rfl, fun h1 => ?_, fun h1 => ?_⟩)))
        · have h1 := (e44 c).mp h1
          obtain ⟨vs, rfl, hvs⟩ := J.mu
          obtain ⟨tp, mP⟩ := J.part
          have hsz : vs.size ≤ sizeLine := by
            have h2 := hvs.length
            rw [Array.length_toList] at h2; exact Mine.om173 hx hl hi' h2
          refine x_append 0 H vR.var J.res rfl (e_var H vP.var mP ⟨z₁, _, _, 0, vs, H, rfl, hsz, fun s₁₁ H => x_set (e_str H fun t₃ s₁₂ H => x_store H vP fun s₁₃ H => x_cont (fin₀ _ _ ⟨.inr rfl, z₁, _, _, H, Le.refl _, hz₁, ?_⟩))⟩)
          rw [show hstep st c = { st with acc := st.acc ++ [st.part], part := sNil } by simp [hstep, he, hq, h1]]
          refine ⟨⟨t₃, upd_self _ _ _⟩, upd_get (by decide +kernel) J.esc, upd_get (by decide +kernel) J.quo, upd_get (by decide +kernel) J.res, _, rfl, ?_⟩
          rw [Array.toList_push]
          exact hvs.snoc ⟨tp, rfl⟩
        · have h1 : ¬ c = 44 := fun q => by rw [(e44 c).mpr q] at h1; cases h1
          refine x_if (t_cmp (e_var H vC.var mC (e_str H fun t₂ s₁₀ H => d_eqS ⟨_, rfl, fun h2 => ?_, fun h2 => ?_⟩)))
          · have h2 := (e34 c).mp h2
            refine x_set (e_bool (x_store H vQ fun s₁₂ H => app _ { st with quo := true } _ _ _ _ _ _ rfl H J.setQ (upd_get (by decide +kernel) mC) fun m₄ s₁₁ H J => x_nil (fin₀ _ _ ⟨.inl rfl, z₁, _, _, H, Le.refl _, hz₁, ?_⟩)))
            rw [show hstep st c = { st with part := st.part ++ ⟨#[c]⟩, quo := true } by simp [hstep, he, hq, h2]]
            exact J
          · have h2 : ¬ c = 34 := fun q => by rw [(e34 c).mpr q] at h2; cases h2
            refine app _ st _ _ _ _ _ _ rfl H J mC fun m₄ s₁₁ H J => x_nil (fin₀ _ _ ⟨.inl rfl, z₁, _, _, H, Le.refl _, hz₁, ?_⟩)
            rw [show hstep st c = { st with part := st.part ++ ⟨#[c]⟩ } by simp [hstep, he, hq, h1, h2]]
            exact J
  · intro z' m' mu' s₅ H hJ
    obtain ⟨_, J⟩ := hJ
    rw [show x.cps.size = x.cps.toList.length by simp, List.take_length] at J
    have hh : httpF x = (let st := x.cps.toList.foldl hstep ⟨[], sNil, false, false⟩; (if st.part.length ≠ 0 then st.acc ++ [st.part] else st.acc).map Txt.strip) := rfl
    have hlen := hrun_len x.cps.toList ⟨[], sNil, false, false⟩
    have hmm := hrun_mem x.cps.toList ⟨[], sNil, false, false⟩
    generalize x.cps.toList.foldl hstep ⟨[], sNil, false, false⟩ = st at J hlen hh hmm
    have hl0 : sNil.length = 0 := by decide +kernel
    have hxl : x.cps.toList.length = x.length := by simp [Str.length]
    have hl : st.acc.length ≤ x.length ∧ st.part.length ≤ x.length := by
      simp only [hl0, List.length_nil, hxl] at hlen; exact Mine.om172 hlen
    have hmem : ∀ p ∈ st.acc, p.length ≤ x.length := fun p hp => by
      rcases hmm p hp with h | h
      · cases h
      · simp only [hl0, hxl] at h; exact Mine.om171 h
    obtain ⟨vs, rfl, hvs⟩ := J.mu
    obtain ⟨tp, mP⟩ := J.part
    have hsz : vs.size ≤ sizeLine := by
      have h2 := hvs.length
      rw [Array.length_toList] at h2; exact Mine.om170 hx hl h2
    -- the strips
    have fin : ∀ (us : Array Value) (ps : List Str) (s₆ : Shared), W w (Bs.of z s) z' env own m' [(a, .lst us)] s₆ → All2 (Rstr z') us.toList ps → (∀ p ∈ ps, p.length ≤ x.length) → ps.length ≤ x.length + 1 → ps.map Txt.strip = httpF x →
        Wp w A' (execs ((bodyOf (stAt 3)).drop 5) env) Q₁ (fun _ _ => False) s₆ := by
      intro us ps s₆ H hus hpl hps hpe
      obtain ⟨z₁, hz₁, hl1, H⟩ := H.freezeL
      have hus := hus.mono fun _ _ => mono_str _ _ _ _ hz₁
      have eu : us.size = ps.length := by rw [← hus.length]; simp
      refine x_ret (e_comp H ⟨by decide +kernel, rfl, by decide +kernel⟩ (free_of [] (by decide +kernel) all_nil) (e_var H vR.var J.res ?_))
      refine i_list H R'.hh hl1 fun I s₇ H IT => compI H IT (by exact Mine.om169 hx hps eu) (Rr Rstr (fun i => ps[i]?.bind fun p => some (Txt.strip p))) (Rr.mono mono_str) ?_ ?_
      · intro i v z₂ B₁ C cenv mc s₁ E' hi hP hz₁ H CE
        refine turnC fun Q₂ fin₂ => ?_
        obtain ⟨p, hp, t, rfl⟩ := hus.get' (i := i) (a := v) (by simpa using hP)
        have vK := CE.loc (Str.ofString "part") (by kernel_rfl)
        refine x_assignN H vK fun s₃ H => ?_
        have := hpl p (List.mem_of_getElem? hp)
        refine e_meth0 (e_var H vK.var (upd_self _ _ _) (gm_strip ⟨_, _, rfl, c_strip H (by exact Mine.om168 hx this) fun t' s₄ H => fin₂ _ _ ⟨z₂, _, _, H, Le.refl _, Rr_some (by rw [hp]; rfl) ⟨t', rfl⟩⟩⟩))
      · intro z₂ s₃ D ys opts H hz₂ hlen' hops hys
        have hvals : All2 (Rstr z₂) ys.toList (ps.filterMap fun p => some (Txt.strip p)) := comp_vals (hlen'.trans eu) hops hys
        obtain ⟨z₃, hz₃, hl3, H⟩ := H.freezeL
        refine h _ _ _ (H.back G) ⟨_, _, rfl, hl3, ?_⟩
        rw [← hpe, ← List.filterMap_eq_map]
        exact hvals.mono fun _ _ => mono_str _ _ _ _ hz₃
    refine x_if (t_val (e_var H vP.var mP (t_str H (by exact Mine.om167 hx hl) fun s₆ H => ⟨fun h0 => ?_, fun h0 => ?_⟩)))
    · have hne : st.part.length ≠ 0 := by simpa using h0
      refine x_append 0 H vR.var J.res rfl (e_var H vP.var mP ⟨z', _, _, 0, vs, H, rfl, hsz, fun s₇ H => fin _ (st.acc ++ [st.part]) _ H ?_ ?_ ?_ ?_⟩)
      · rw [Array.toList_push]; exact hvs.snoc ⟨tp, rfl⟩
      · intro p hp
        rcases List.mem_append.mp hp with hp | hp
        · exact hmem p hp
        · rw [List.mem_singleton.mp hp]; exact hl.2
      · simp; exact Mine.om166 hl
      · rw [hh]; simp only [if_pos hne]
    · have hne : ¬ st.part.length ≠ 0 := by simpa using h0
      refine fin vs st.acc _ H hvs hmem (by exact Mine.om165 hl) ?_
      rw [hh]; simp only [if_neg hne]
end
end Mine
end
section
open PySem PySem.W PySem.Calls PyProof.Rows PySem.Spec
set_option Elab.async false
set_option maxRecDepth 100000
set_option linter.unusedVariables false
namespace Mine
theorem at_read (w : World) : FnAt w 119 (Str.ofString "_law_read") [Str.ofString "header", Str.ofString "front"] (bodyOf (stAt 21)) (scopeOf (stAt 21)) where
  fd := ⟨_, _, rfl, rfl, rfl, rfl, rfl, rfl, rfl, by kernel_rfl, ofLen2 (fun _ _ => rfl)⟩
  par := by decide +kernel
  nd := by decide +kernel
  nnd := by decide +kernel
  cnd := by decide +kernel
  co := by kernel_rfl
  gen := by kernel_rfl
  fn := by kernel_rfl

section
variable {w : World} {B : Bs} {z z' : PM} {env : Env} {own : List Addr} {m m' : Str → Option Value} {mu mu' : List (Addr × MO)} {s s' s₀ : Shared} {A : Around} {E : Value → Shared → Prop} {k : Nat} {xs : List Addr}
/-- a dict is compared with {} -/
theorem d_eqD0 {a b : Addr} {ka : List (Str × Value)} {Q : Value → Shared → Prop} (H : W w B z env own m mu s) (R : Rm A 1) (ha : IsD w z a ka) (hb : IsD w z b []) (h : Q (.bool (ka.isEmpty)) s) : Wp w A (compareOp .Eq (.ref a) (.ref b)) Q E s := by
  refine .mk (keq_eq (r := true) ha.1 hb.1 (ha.at H) (hb.at H) (by have := R.u; exact Mine.om195 this) (fun e => ?_) ?_)
  · cases ka with
    | nil => exact .nil
    | cons _ _ => cases e
  · cases ka with
    | nil => exact h
    | cons _ _ => exact h
end

/-- a dict's key that ends in a slash -/
noncomputable abbrev lastF (k : Str) : Str := Txt.slice k (some (-1)) none
noncomputable abbrev butF (k : Str) : Str := Txt.slice k none (some (-1))
noncomputable abbrev Row := List Str × Str
noncomputable def rowF (g : Str → List Str → Option (List Row)) (fr : List Str) (q : Str × Str) : Option (List Row) :=
  if lastF q.1 = sSlash then g q.2 (fr ++ [butF q.1]) else some [(fr ++ [q.1], q.2)]
noncomputable def rowsF (g : Str → List Str → Option (List Row)) (fr : List Str) : List (Str × Str) → Option (List Row)
  | [] => some []
  | q :: r => (rowF g fr q).bind fun a => (rowsF g fr r).bind fun b => some (a ++ b)
theorem rowsF_cons (g : Str → List Str → Option (List Row)) (fr : List Str) (q : Str × Str) (r : List (Str × Str)) : rowsF g fr (q :: r) = (rowF g fr q).bind fun a => (rowsF g fr r).bind fun b => some (a ++ b) := by
  conv => lhs; unfold rowsF
noncomputable def readF : Nat → Str → List Str → Option (List Row)
  | 0, _, _ => none
  | f + 1, hd, fr => match keqvF (httpF hd) [] with
    | none => none
    | some tb => if tb = [] then some [(fr ++ [sNil], sNil)] else rowsF (readF f) fr tb

theorem unq_len (v : Str) : (unqF v).length ≤ v.length := by
  unfold unqF; split
  · exact Txt.slice_le _ _ _
  · exact Nat.le_refl _
theorem kv_len {e k v : Str} (h : kvF e = some (k, v)) : k.length ≤ e.length ∧ v.length ≤ e.length := by
  unfold kvF at h
  split at h
  · rename_i k' v' hs
    split at h
    · cases h
    · cases h
      have h1 : k.length ≤ e.length := PyProof.Rows.partMax_short (x := e) (y := sEq) (k := 1) (by rw [hs]; exact .head _)
      have h2 : v'.length ≤ e.length := PyProof.Rows.partMax_short (x := e) (y := sEq) (k := 1) (by rw [hs]; exact .tail _ (.head _))
      exact ⟨h1, Nat.le_trans (unq_len v') h2⟩
  · cases h
theorem keqv_mem {N : Nat} : ∀ (l : List Str) (d r : List (Str × Str)), (∀ e ∈ l, e.length ≤ N) → (∀ q ∈ d, q.1.length ≤ N ∧ q.2.length ≤ N) → keqvF l d = some r → ∀ q ∈ r, q.1.length ≤ N ∧ q.2.length ≤ N
  | [], d, r, _, hd, h => by cases h; exact hd
  | e :: l, d, r, hl, hd, h => by
    rw [keqvF] at h
    cases q : kvF e with
    | none => rw [q] at h; cases h
    | some kv =>
      rw [q] at h
      have hk := kv_len q
      have he := hl e (.head _)
      refine keqv_mem l _ r (fun x hx => hl x (.tail _ hx)) (fun p hp => ?_) h
      unfold storedF at hp
      split at hp
      · obtain ⟨p', hp', rfl⟩ := List.mem_map.mp hp
        have := hd p' hp'
        split
        · exact ⟨this.1, Nat.le_trans hk.2 he⟩
        · exact this
      · rcases List.mem_append.mp hp with hp | hp
        · exact hd p hp
        · rw [List.mem_singleton.mp hp]; exact ⟨Nat.le_trans hk.1 he, Nat.le_trans hk.2 he⟩
theorem http_mem (x : Str) : ∀ e ∈ httpF x, e.length ≤ x.length := by
  intro e he
  unfold httpF at he
  obtain ⟨p, hp, rfl⟩ := List.mem_map.mp he
  have hl0 : sNil.length = 0 := by decide +kernel
  have hxl : x.cps.toList.length = x.length := by simp [Str.length]
  have h1 := hrun_len x.cps.toList ⟨[], sNil, false, false⟩
  have h2 := hrun_mem x.cps.toList ⟨[], sNil, false, false⟩
  simp only [hl0, hxl] at h1 h2
  refine Nat.le_trans (PyProof.Rows.len_strip p) ?_
  unfold hrun at hp
  split at hp
  · rcases List.mem_append.mp hp with hp | hp
    · rcases h2 p hp with h | h
      · cases h
      · exact Mine.om171 h
    · rw [List.mem_singleton.mp hp]; exact Mine.om194 h1
  · rcases h2 p hp with h | h
    · cases h
    · exact Mine.om171 h
theorem http_len (x : Str) : (httpF x).length ≤ x.length + 1 := by
  have hxl : x.cps.toList.length = x.length := by simp [Str.length]
  have h1 := hrun_len x.cps.toList ⟨[], sNil, false, false⟩
  simp only [hxl, List.length_nil] at h1
  unfold httpF hrun
  rw [List.length_map]
  split
  · rw [List.length_append, List.length_singleton]; exact Mine.om193 h1
  · exact Mine.om192 h1
theorem valueAt_get : ∀ {kvs : List (Str × Value)} {i : Nat} {k : Str} {x : Value}, (kvs.map (·.1)).Nodup → kvs[i]? = some (k, x) → valueAt kvs k = some x
  | (k', x') :: r, 0, k, x, _, h => by cases h; simp [valueAt]
  | (k', x') :: r, i + 1, k, x, nd, h => by
    have nd' := List.nodup_cons.mp nd
    have h' : r[i]? = some (k, x) := by simpa using h
    have hne : ¬ k' = k := fun q => nd'.1 (q ▸ List.mem_map.mpr ⟨(k, x), List.mem_of_getElem? h', rfl⟩)
    have ih := valueAt_get nd'.2 h'
    unfold valueAt at ih ⊢
    simp only [List.find?_cons, decide_eq_false hne]
    exact ih
theorem rowsF_snoc {g : Str → List Str → Option (List Row)} {fr : List Str} : ∀ (l : List (Str × Str)) (q : Str × Str) (a b : List Row), rowsF g fr l = some a → rowF g fr q = some b → rowsF g fr (l ++ [q]) = some (a ++ b)
  | [], q, a, b, ha, hb => by
    cases ha
    rw [List.nil_append, rowsF_cons, hb]
    show some (b ++ []) = _
    rw [List.append_nil]; rfl
  | p :: l, q, a, b, ha, hb => by
    rw [rowsF_cons] at ha
    rw [List.cons_append, rowsF_cons]
    cases e1 : rowF g fr p with
    | none => rw [e1] at ha; cases ha
    | some c =>
      cases e2 : rowsF g fr l with
      | none => rw [e1, e2] at ha; cases ha
      | some d =>
        rw [e1, e2] at ha
        cases ha
        rw [rowsF_snoc l q d b e2 hb]
        show some (c ++ (d ++ b)) = _
        rw [List.append_assoc]
theorem rowsF_at {g : Str → List Str → Option (List Row)} {fr : List Str} : ∀ {l : List (Str × Str)} {res : List Row} {i : Nat} {q : Str × Str}, rowsF g fr l = some res → l[i]? = some q → ∃ a b c, rowsF g fr (l.take i) = some a ∧ rowF g fr q = some b ∧ res = a ++ b ++ c
  | p :: l, res, 0, q, h, hq => by
    cases hq
    rw [rowsF_cons] at h
    cases e1 : rowF g fr p with
    | none => rw [e1] at h; cases h
    | some c =>
      cases e2 : rowsF g fr l with
      | none => rw [e1, e2] at h; cases h
      | some d => rw [e1, e2] at h; cases h; exact ⟨[], c, d, rfl, rfl, rfl⟩
  | p :: l, res, i + 1, q, h, hq => by
    rw [rowsF_cons] at h
    cases e1 : rowF g fr p with
    | none => rw [e1] at h; cases h
    | some c =>
      cases e2 : rowsF g fr l with
      | none => rw [e1, e2] at h; cases h
      | some d =>
        rw [e1, e2] at h; cases h
        obtain ⟨a, b, c', h1, h2, h3⟩ := rowsF_at (i := i) e2 (by rw [List.getElem?_cons_succ] at hq; exact hq)
        refine ⟨c ++ a, b, c', ?_, h2, by rw [h3, ← List.append_assoc, ← List.append_assoc]⟩
        rw [List.take_succ_cons, rowsF_cons, e1, h1]; rfl
noncomputable abbrev RRow : Rep Row := Rpair (Rlist Rstr) Rstr
theorem mono_row : Mono RRow := mono_pair (mono_list mono_str) mono_str

noncomputable abbrev ReadC (w : World) (c : Nat) (g : Str → List Str → Option (List Row)) : Prop :=
  ∀ (A : Around) (s : Shared) (z : PM) (vf : Value) (hd : Str) (t : Tok) (fr : List Str) (res : List Row) (Q : Value → Shared → Prop) (E : Value → Shared → Prop) (_ : Sit w z s) (_ : Rm A c) (_ : Rlist Rstr z vf fr) (_ : fr.length ≤ 100 - c)
    (_ : hd.length + 2 ≤ sizeLine) (_ : g hd fr = some res) (_ : res.length ≤ sizeLine) (_ : ∀ r z' s', Nx z s z' s' → Rlist RRow z' r res → Q r s'), Wp w A (call (.ref 119) [.str hd t, vf]) Q E s

theorem read_step {w : World} {c f : Nat} (hc : 6 ≤ c) (hc' : c + 1 ≤ 90) (sub : ReadC w c (readF f)) : ReadC w (c + 1) (readF (f + 1)) := by
  intro A s z vf hd t fr res Q E G R hf hfl hdl hres hrl h
  obtain ⟨fa, fvs, rfl, hfa, hfv⟩ := hf
  refine go (at_read w) G R rfl fun A' env own m s' R' H hsv hgl hm hsc => post fun Q₁ fin₁ => ?_
  have h := fun r z' s' N X => fin₁ (.ret r) s' (h r z' s' N X)
  have vH := hsv (Str.ofString "header") (.inl (by kernel_rfl))
  have vF := hsv (Str.ofString "front") (.inl (by kernel_rfl))
  have vT := hsv (Str.ofString "table") (.inl (by kernel_rfl))
  have vR := hsv (Str.ofString "rows") (.inl (by kernel_rfl))
  have vK := hsv (Str.ofString "key") (.inl (by kernel_rfl))
  have mH : m (Str.ofString "header") = some (.str hd t) := hm (_, _) (.head _)
  have mF : m (Str.ofString "front") = some (.ref fa) := hm (_, _) (.tail _ (.head _))
  have gK := hgl (Str.ofString "parse_keqv_list") (by kernel_rfl)
  have gH := hgl (Str.ofString "parse_http_list") (by kernel_rfl)
  have gR := hgl (Str.ofString "_law_read") (by kernel_rfl)
  clear hsv hgl hm hsc
  obtain ⟨tb, htb, hres⟩ : ∃ tb, keqvF (httpF hd) [] = some tb ∧ (if tb = [] then some [(fr ++ [sNil], sNil)] else rowsF (readF f) fr tb) = some res := by
    rw [readF] at hres
    cases e : keqvF (httpF hd) [] with
    | none => rw [e] at hres; cases hres
    | some tb => rw [e] at hres; exact ⟨tb, rfl, hres⟩
  have hmem := keqv_mem (N := hd.length) (httpF hd) [] tb (http_mem hd) (fun _ h => nomatch h) htb
  have hfsz : fvs.size ≤ 100 := by
    have := hfv.length
    rw [Array.length_toList] at this; exact Mine.om191 hfl this
  refine x_set (e_gcall (.ref 28) H gK (a_one (e_gcall (.ref 33) H gH (a_one (e_var H vH.var mH ⟨H.gd', ?_⟩)))))
  refine http_ok H.sit (R'.le (by exact Mine.om84 hc)) hdl fun v₁ z₁ s₁ N₁ hv₁ => ?_
  have H := H.nx N₁
  refine ⟨H.gd', keqv_ok H.sit (R'.le (by exact Mine.om84 hc)) hv₁ (by have := http_len hd; exact Mine.om190 hdl this) (fun e he => by have := http_mem hd e he; exact Mine.om189 hdl this) htb fun v₂ z₂ s₂ N₂ hv₂ => ?_⟩
  have H := H.nx N₂
  have hz₂ := N₁.zz.trans N₂.zz
  have hfa := hfa.mono hz₂
  have hfv := hfv.mono fun _ _ => mono_str _ _ _ _ hz₂
  obtain ⟨d, kvs, rfl, hdk, hkv⟩ := hv₂
  refine x_storeG H vT fun m₁ kk mT s₃ H => ?_
  have mF := kk _ _ (by decide +kernel) mF
  have nd : (kvs.map (·.1)).Nodup := let ⟨ep, hat⟩ := (hdk.at H).dictAt; hat.nodup
  -- the loop
  have loop : ∀ (a : Addr) (vs : Array Value) (ini : List Row) (z₃ : PM) (s₄ : Shared) (m₂ : Str → Option Value), Le z₂ z₃ → W w (Bs.of z s) z₃ env own m₂ [(a, .lst vs)] s₄ → m₂ (Str.ofString "front") = some (.ref fa) → m₂ (Str.ofString "table") = some (.ref d) → m₂ (Str.ofString "rows") = some (.ref a) →
      All2 (RRow z₃) vs.toList ini → (tb = [] → ini = [(fr ++ [sNil], sNil)]) → (tb ≠ [] → ini = []) → Wp w A' (execs ((bodyOf (stAt 21)).drop 2) env) Q₁ (fun _ _ => False) s₄ := by
    intro a vs ini z₃ s₄ m₂ hz₃ H mF mT mR hvs hi0 hi1
    refine x_for H (e_var H vT.var mT (i_dict H R'.hh (hdk.mono hz₃) fun I s₅ H IT => forI H IT
      (fun i z' m mu => Le z₃ z' ∧ m (Str.ofString "front") = some (.ref fa) ∧ m (Str.ofString "table") = some (.ref d) ∧ m (Str.ofString "rows") = some (.ref a) ∧ ∃ vs acc, mu = [(a, .lst vs)] ∧ All2 (RRow z') vs.toList (ini ++ acc) ∧ rowsF (readF f) fr (tb.take i) = some acc)
      ⟨Le.refl _, mF, mT, mR, vs, [], rfl, by simpa using hvs, rfl⟩ ?_ ?_))
    · intro i v z₄ m₃ mu₃ B₃ s₆ E' hi hP hJ H
      dsimp only
      refine turnQ fun Q₀ fin₀ => ?_
      obtain ⟨hz₄, mF, mT, mR, us, acc, rfl, hus, hacc⟩ := hJ
      obtain ⟨k, x, tk, hk, rfl⟩ := hP
      obtain ⟨⟨k', v⟩, hq, e1, tv, rfl⟩ := hkv.get' hk
      cases e1
      have hne : tb ≠ [] := fun q => by rw [q] at hq; cases hq
      rw [if_neg hne] at hres
      have hini := hi1 hne
      subst hini
      obtain ⟨a', b, c', h1, h2, h3⟩ := rowsF_at hres hq
      rw [hacc] at h1; cases h1
      have hsn := rowsF_snoc _ _ _ _ hacc h2
      have htk : tb.take (i + 1) = tb.take i ++ [(k, v)] := by rw [List.take_add_one, hq]; rfl
      have hml := hmem _ (List.mem_of_getElem? hq)
      simp only at hml
      have hrl2 : acc.length + b.length ≤ sizeLine := by rw [h3] at hrl; simp at hrl; exact Mine.om188 hrl
      have husz : us.size = acc.length := by rw [← Array.length_toList]; exact hus.length
      rw [htk] at fin₀
      refine x_assignG H vK fun m₄ kk mK s₇ H => ?_
      have mF := kk _ _ (by decide +kernel) mF
      have mT := kk _ _ (by decide +kernel) mT
      have mR := kk _ _ (by decide +kernel) mR
      have hdk4 := hdk.mono (hz₃.trans hz₄)
      have hva := valueAt_get nd hk
      have hfa4 := hfa.mono (hz₃.trans hz₄)
      have hfv4 := hfv.mono fun _ _ => mono_str _ _ _ _ (hz₃.trans hz₄)
      refine x_if (t_cmp (e_sliceS H (e_var H vK.var mK (p_some (e_neg H fun t₁ s₈ H => p_none ⟨k, tk, some (-1, t₁), none, z₄, _, _, rfl, rfl, rfl, by exact Mine.om187 hdl hml, H, fun t₂ s₉ H => e_str H fun t₃ s₁₀ H => d_eqS ⟨_, rfl, fun hb => ?_, fun hb => ?_⟩⟩))) (fun _ _ _ => ⟨_, by with_unfolding_all rfl⟩)))
      · have hlast : lastF k = sSlash := by simpa using hb
        have h2' : readF f v (fr ++ [butF k]) = some b := by rw [rowF, if_pos hlast] at h2; exact h2
        refine x_extend 0 H vR.var mR rfl (e_gcall (.ref 119) H gR (a_cons (e_sub (e_var H vT.var mT (e_var H vK.var mK (d_getD H hdk4 hva (fun s₁₁ H => a_one (e_bin (e_var H vF.var mF ?_))) ⟨_, by with_unfolding_all rfl⟩))))))
        refine e_listZ H (a_one (e_sliceS H (e_var H vK.var mK (p_none (p_some (e_neg H fun t₄ s₁₂ H => ⟨k, tk, none, some (-1, t₄), z₄, _, _, rfl, rfl, rfl, by exact Mine.om187 hdl hml, H, fun t₅ s₁₃ H => ⟨by rw [sizeLine_eq]; simp, z₄, _, _, H, fun c z₅ s₁₄ hz₅ hc H => ?_⟩⟩)))) (fun _ _ _ => ⟨_, by with_unfolding_all rfl⟩)))
        refine d_addL H ((hfa4.mono hz₅).plain H) (hc.plain H) (by rw [sizeLine_eq]; simp; exact Mine.om98 hfsz) fun c₂ z₆ s₁₅ hz₆ hc₂ H => ⟨H.gd', ?_⟩
        refine sub _ _ _ _ v tv (fr ++ [butF k]) b _ _ H.sit R' ⟨c₂, _, rfl, hc₂, ?_⟩ (by rw [List.length_append, List.length_singleton]; exact Mine.om186 hc' hfl) (by exact Mine.om185 hdl hml) h2' (by exact Mine.om184 hrl2) fun r z₇ s₁₆ N hr => ?_
        · rw [Array.toList_append]
          exact (hfv4.mono fun _ _ => mono_str _ _ _ _ (hz₅.trans hz₆)).append ⟨⟨t₅, rfl⟩, trivial⟩
        obtain ⟨ra, rvs, rfl, hra, hrv⟩ := hr
        have H := H.nx N
        have hz₇ := hz₅.trans (hz₆.trans N.zz)
        refine ⟨ra, z₇, _, _, 0, us, rvs, rfl, H, rfl, hra, ?_, fun s₁₇ H => x_nil (fin₀ _ _ ⟨.inl rfl, z₇, _, _, H, hz₇, hz₄.trans hz₇, mF, mT, mR, _, _, rfl, ?_, hsn⟩)⟩
        · have := hrv.length
          rw [Array.length_toList] at this; exact Mine.om183 hrl2 husz this
        · rw [Array.toList_append]
          exact (hus.mono fun _ _ => mono_row _ _ _ _ hz₇).append hrv
      · have hlast : ¬ lastF k = sSlash := by simpa using hb
        have h2' : b = [(fr ++ [k], v)] := by rw [rowF, if_neg hlast] at h2; exact (Option.some.inj h2).symm
        subst h2'
        refine x_append 0 H vR.var mR rfl (e_tupZ H (a_cons (e_bin (e_var H vF.var mF (e_listZ H (a_one (e_var H vK.var mK ⟨by rw [sizeLine_eq]; simp, z₄, _, _, H, fun c z₅ s₁₁ hz₅ hc H => ?_⟩)))))))
        refine d_addL H ((hfa4.mono hz₅).plain H) (hc.plain H) (by rw [sizeLine_eq]; simp; exact Mine.om98 hfsz) fun c₂ z₆ s₁₂ hz₆ hc₂ H => a_one (e_sub (e_var H vT.var mT (e_var H vK.var mK (d_getD H (hdk4.mono (hz₅.trans hz₆)) hva (fun s₁₃ H => ⟨by rw [sizeLine_eq]; simp, z₆, _, _, H, fun c₃ z₇ s₁₄ hz₇ hc₃ H => ?_⟩) ⟨_, by with_unfolding_all rfl⟩))))
        have hz₈ := hz₅.trans (hz₆.trans hz₇)
        refine ⟨z₇, _, _, 0, us, H, rfl, by simp at hrl2; exact Mine.om182 husz hrl2, fun s₁₅ H => x_nil (fin₀ _ _ ⟨.inl rfl, z₇, _, _, H, hz₈, hz₄.trans hz₈, mF, mT, mR, _, _, rfl, ?_, hsn⟩)⟩
        rw [Array.toList_push]
        refine (hus.mono fun _ _ => mono_row _ _ _ _ hz₈).append ⟨⟨c₃, _, _, rfl, hc₃, ⟨c₂, _, rfl, hc₂.mono hz₇, ?_⟩, ⟨tv, rfl⟩⟩, trivial⟩
        rw [Array.toList_append]
        exact (hfv4.mono fun _ _ => mono_str _ _ _ _ hz₈).append ⟨⟨tk, rfl⟩, trivial⟩
    · intro z' m' mu' s₅ H hJ
      obtain ⟨_, _, _, mR, us, acc, rfl, hus, hacc⟩ := hJ
      have e : kvs.length = tb.length := hkv.length
      rw [e, List.take_length] at hacc
      refine x_ret (e_var H vR.var mR ?_)
      obtain ⟨z₄, hz₄, hl, H⟩ := H.freezeL
      refine h _ _ _ (H.back G) ⟨_, _, rfl, hl, ?_⟩
      have er : res = ini ++ acc := by
        by_cases ht : tb = []
        · rw [if_pos ht] at hres
          rw [ht] at hacc
          cases hacc
          rw [hi0 ht, List.append_nil]
          exact (Option.some.inj hres).symm
        · rw [if_neg ht, hacc] at hres
          rw [hi1 ht]
          exact (Option.some.inj hres).symm
      rw [er]
      exact hus.mono fun _ _ => mono_row _ _ _ _ hz₄
  refine x_set (e_ifexp (t_cmp (e_var H vT.var mT (e_dict0 H fun c s₄ H => ?_))))
  obtain ⟨z₃, hz₃, hcd, H⟩ := H.freezeD
  refine d_eqD0 H (R'.le (by exact Mine.om181 hc)) (hdk.mono hz₃) hcd ⟨_, rfl, fun hb => ?_, fun hb => ?_⟩
  · have htb0 : tb = [] := by
      cases kvs with
      | nil => cases tb with | nil => rfl | cons _ _ => exact hkv.elim
      | cons _ _ => cases hb
    refine e_listM H (a_one (e_tupZ H (a_cons (e_bin (e_var H vF.var mF (e_listZ H (a_one (e_str H fun t₁ s₅ H => ⟨by rw [sizeLine_eq]; simp, z₃, _, _, H, fun c₁ z₄ s₆ hz₄ hc₁ H => ?_⟩))))))))
    refine d_addL H ((hfa.mono (hz₃.trans hz₄)).plain H) (hc₁.plain H) (by rw [sizeLine_eq]; simp; exact Mine.om98 hfsz) fun c₂ z₅ s₇ hz₅ hc₂ H => a_one (e_str H fun t₂ s₈ H => ⟨by rw [sizeLine_eq]; simp, z₅, _, _, H, fun c₃ z₆ s₉ hz₆ hc₃ H => ⟨by rw [sizeLine_eq]; simp, z₆, _, _, H, fun a s₁₀ H => ?_⟩⟩)
    have hz₇ := hz₃.trans (hz₄.trans (hz₅.trans hz₆))
    refine x_store H vR fun s₁₁ H => loop a _ [(fr ++ [sNil], sNil)] z₆ _ _ hz₇ H (upd_get (by decide +kernel) mF) (upd_get (by decide +kernel) mT) (upd_self _ _ _) ⟨⟨c₃, _, _, rfl, hc₃, ⟨c₂, _, rfl, hc₂.mono hz₆, ?_⟩, ⟨t₂, rfl⟩⟩, trivial⟩ (fun _ => rfl) (fun q => absurd htb0 q)
    rw [Array.toList_append]
    exact (hfv.mono fun _ _ => mono_str _ _ _ _ hz₇).append ⟨⟨t₁, rfl⟩, trivial⟩
  · have htb0 : tb ≠ [] := fun q => by
      subst q
      cases kvs with
      | nil => cases hb
      | cons _ _ => exact hkv.elim
    refine e_nilM H fun a s₅ H => x_store H vR fun s₆ H => loop a _ [] z₃ _ _ hz₃ H (upd_get (by decide +kernel) mF) (upd_get (by decide +kernel) mT) (upd_self _ _ _) trivial (fun q => absurd q htb0) (fun _ => rfl)

theorem read_ok (w : World) : ∀ f, f ≤ 60 → ReadC w (f + 6) (readF f)
  | 0, _ => fun A s z vf hd t fr res Q E G R hf hfl hdl hres hrl h => by cases hres
  | f + 1, hf => read_step (c := f + 6) (by exact Mine.om180) (by exact Mine.om179 hf) (read_ok w f (by exact Mine.om178 hf))
end Mine
end
section
open PySem PySem.W PySem.Calls PyProof.Rows PySem.Spec
set_option Elab.async false
set_option maxRecDepth 100000
set_option linter.unusedVariables false
namespace Mine
noncomputable def addS (acc : List Str) (x : Str) : List Str := if acc.contains x then acc else acc ++ [x]
noncomputable def dedF (l : List Str) : List Str := l.foldl addS []
theorem addS_len : ∀ (l acc : List Str), (l.foldl addS acc).length ≤ acc.length + l.length
  | [], acc => by simp
  | k :: l, acc => by
    rw [List.foldl_cons]
    have h := addS_len l (addS acc k)
    have h2 : (addS acc k).length ≤ acc.length + 1 := by
      unfold addS; split
      · exact Mine.om97
      · simp
    simp only [List.length_cons]; exact Mine.om96 h h2
theorem stored_keys (kvs : List (Str × Value)) (k : Str) (v : Value) : (stored kvs k v).map (·.1) = addS (kvs.map (·.1)) k := by
  have e : (kvs.any fun kv => decide (kv.1 = k)) = (kvs.map (·.1)).contains k := by
    rw [List.contains_eq_any_beq, List.any_map]
    congr 1
    funext a
    rw [Bool.eq_iff_iff]; simp; exact eq_comm
  unfold stored addS
  rw [e]
  split
  · rw [List.map_map]
    apply List.map_congr_left
    intro a _
    simp only [Function.comp]
    split <;> rfl
  · rw [List.map_append]; rfl

theorem plain_fk : plainId "dict.fromkeys.loop" = true := by decide +kernel
theorem entry_fkl : entryFor table "dict.fromkeys.loop" = some Builtin.«dict.fromkeys.loop» := entryFor_of_tree (by kernel_rfl)
theorem entry_fk : entryFor table "dict.fromkeys" = some Builtin.«dict.fromkeys» := entryFor_of_tree (by kernel_rfl)
theorem check_fk (a : Addr) : checkBoundCall "dict.fromkeys" ⟨[.type "dict", .ref a], []⟩ = pure () := by first | kernel_rfl | rfl
theorem quiet_fk (args : Args) : (Code.builtin "dict.fromkeys" args).quiet = true := Code.quiet_builtin _ (by decide +kernel)
theorem newCall_dict_0 : checkBuiltinCall "dict.__new__" ⟨[.type "dict"], []⟩ = pure () := by kernel_rfl
theorem typeCall_dict_0 : checkTypeCall "dict" ⟨[], []⟩ = pure () := by kernel_rfl
section
variable {w : World} {A : Around} {E : Value → Shared → Prop} {s : Shared}
theorem fk_loop {R : Result → Shared → Prop} {D I : Addr} {n : Nat} {fp : List Addr} {P : Nat → Value → Prop} {St : Nat → Heap → Prop} (WK : Walks prg w A.in1 I fp [I] n P St) (ls : List Str) (hn : ls.length = n) (hnl : n ≤ sizeLine)
    (hP : ∀ i v, P i v → ∃ x t, ls[i]? = some x ∧ v = .str x t) (hDI : D ≠ I) (hDf : D ∉ fp) (h₀ : Heap) (hD0 : h₀.get? D = none) (hI0 : h₀.get? I = none) :
    ∀ (k i : Nat) (s : Shared) (kvs : List (Str × Value)), n - i = k → i ≤ n → St i s.heap → s.heap.DictOf (PySem.strKind prg w) D kvs → kvs.map (·.1) = (ls.take i).foldl addS [] → (∀ a o, h₀.get? a = some o → s.heap.get? a = some o) →
    (∀ h' tk kvs', h'.DictOf (PySem.strKind prg w) D kvs' → kvs'.map (·.1) = dedF ls → (∀ a o, h₀.get? a = some o → h'.get? a = some o) → R (.ok (.ret (.ref D))) { s with heap := h', toks := tk }) →
    codeAny (model prg w) A (.builtin "dict.fromkeys.loop" ⟨[.ref D, .ref I, .none], []⟩) R s := by
  intro k
  induction k with
  | zero =>
    intro i s kvs hk hi hst hd hkv keep hR
    have hin : i = n := by exact Mine.om201 hk hi
    subst hin
    refine codeAny_builtin entry_fkl ?_
    rw [Around.under_plainId plain_fk _]
    show wpAny _ A.in1 (pyNext (.ref I) >>= _) _ _ s
    refine wpAny_bind (WK.done s _ _ hst fun h' tk hk => ?_)
    refine wpAny_pure (hR h' tk kvs ?_ ?_ fun a o e => hk a o (fun q => ?_) (keep a o e))
    · obtain ⟨o, es, ep, e, r⟩ := hd
      exact ⟨o, es, ep, hk D o (fun q => hDI (List.mem_singleton.mp q)) e, r⟩
    · rw [hkv, ← hn, List.take_length]; rfl
    · rw [List.mem_singleton.mp q, hI0] at e; cases e
  | succ k ih =>
    intro i s kvs hk hi hst hd hkv keep hR
    have hlt : i < n := by exact Mine.om200 hk
    refine codeAny_builtin entry_fkl ?_
    rw [Around.under_plainId plain_fk _]
    show wpAny _ A.in1 (pyNext (.ref I) >>= _) _ _ s
    refine wpAny_bind (WK.item i s _ _ hlt hst fun v h₁ tk₁ hp hst₁ hk₁ => ?_)
    obtain ⟨x, t, hx, rfl⟩ := hP i v hp
    have hd₁ : h₁.DictOf (PySem.strKind prg w) D kvs := by
      obtain ⟨o, es, ep, e, r⟩ := hd
      exact ⟨o, es, ep, hk₁ D o (fun q => hDI (List.mem_singleton.mp q)) e, r⟩
    have keep₁ : ∀ a o, h₀.get? a = some o → h₁.get? a = some o := fun a o e => hk₁ a o (fun q => by rw [List.mem_singleton.mp q, hI0] at e; cases e) (keep a o e)
    have hkl : kvs.length ≤ sizeLine := by
      have h1 := addS_len (ls.take i) []
      rw [← hkv, List.length_map, List.length_take] at h1
      simp at h1; exact Mine.om199 hnl hlt h1
    show wpAny _ A.in1 (typeOf (.ref D) >>= _) _ _ _
    refine wpAny_bind (wpAny_typeOf hd₁.typeIs ?_)
    show wpAny _ A.in1 (if (Value.type "dict" == Value.type "dict") = true then _ else _) _ _ _
    rw [if_pos (by decide)]
    refine wpAny_bind (wpAny_pure ?_)
    refine wpAny_bind (wpAny_holding (wpAny_dictSet_pairs (knd := PySem.strKind prg w) (k := x) (by simp [PySem.strKind, Value.isStrOf]) hd₁ (fun h₂ hm hs => ?_) hkl))
    refine wpAny_pure ⟨plainId_quiet plain_fk _, ih (i + 1) _ (stored kvs x .none) (by exact Mine.om198 hk) hlt (WK.frame _ _ _ hst₁ fun b hb o e => (hs.2 b (fun q => hDf (q ▸ hb))).trans e) hm ?_ (fun a o e => (hs.2 a (fun q => ?_)).trans (keep₁ a o e)) hR⟩
    · rw [stored_keys, hkv, List.take_add_one, hx, List.foldl_append]; rfl
    · rw [q, hD0] at e; cases e

/-- a new dict -/
theorem dict_new {Q₁ : Value → Shared → Prop} (h : Q₁ (.ref s.heap.objs.size) { s with heap := s.heap.push { cls := .type "dict", data := .dict #[] } }) :
    codeAny (model prg w) A (.call (.builtin "dict.__new__") ⟨[.type "dict"], []⟩) (wants Q₁ E) s := by
  refine codeAny_call_builtin PySem.F.kt_plain_dict_new PySem.F.kt_entry_dict_new (wpAny_of_eq newCall_dict_0 ?_)
  have hsub := PySem.F.kt_sub_dict
  have hmro := PySem.F.kt_mro_dict
  obtain ⟨hp, g, d, tk, os⟩ := s
  unfold Builtin.«dict.__new__»
  wp_walk
  exact h
theorem call_dict_0 {Q : Value → Shared → Prop} (h : Q (.ref s.heap.objs.size) { s with heap := s.heap.push { cls := .type "dict", data := .dict #[] } }) : wpAny (model prg w) A (call (.type "dict") []) Q E s := by
  refine callType_codes (Q₁ := fun obj s₁ => obj = .ref s.heap.objs.size ∧ s₁ = { s with heap := s.heap.push { cls := .type "dict", data := .dict #[] } }) PySem.F.kt_called_dict typeCall_dict_0 PySem.F.entry_dict_init (dict_new ⟨rfl, rfl⟩) ?_
  rintro obj s₁ ⟨rfl, rfl⟩
  have hnew : (s.heap.push { cls := .type "dict", data := .dict #[] }).DictOf (PySem.strKind prg w) s.heap.objs.size [] := Heap.DictOf.new s.heap
  refine ⟨hnew.typeIs, PySem.F.args_dict_init_1 _, ?_⟩
  unfold Builtin.«dict.__init__»
  refine wpAny_bind ?_
  unfold Builtin.Dict.selfAndRest
  refine wpAny_bind (wpAny_notOrdered_dict hnew.typeIs ?_)
  show wpAny _ _ (pure (s.heap.objs.size, [])) _ _ _
  refine wpAny_pure ?_
  show wpAny _ _ (Builtin.Dict.addKeywords s.heap.objs.size [] >>= _) _ _ _
  exact wpAny_bind (wpAny_pure (wpAny_pure ⟨rfl, h⟩))

theorem ded_ok {z : PM} {v : Value} {l : List Str} {Q : Value → Shared → Prop} (G : Sit w z s) (R : Rm A 2) (hv : Rlist Rstr z v l) (hl : l.length ≤ sizeLine) (h : ∀ a kvs z' s', Nx z s z' s' → IsD w z' a kvs → kvs.map (·.1) = dedF l → Q (.ref a) s') :
    Wp w A (call (.ref 62) [v]) Q E s := by
  obtain ⟨la, vs, rfl, ⟨ln, hla⟩, hvs⟩ := hv
  have hla' : s.heap.IsList la vs := ⟨_, G.zin _ _ hla, rfl, _, rfl⟩
  obtain ⟨o, hK, hcls, hdata⟩ : ∃ o, (KK w).lookup 62 = some o ∧ o.cls = .type "builtin_function_or_method" ∧ o.data = .fields #[.builtin "dict.fromkeys", .type "dict"] := ⟨_, rfl, rfl, rfl⟩
  refine .mk (wpAny_call (codeAny_of_tree ?_))
  show wpAny _ A.in1 (callAny (.ref 62) ⟨[.ref la], []⟩) _ _ s
  simp only [callAny]
  refine wpAny_bind (wpAny_load (G.gd.K _ _ hK) ?_)
  simp only [hdata, hcls]
  rw [if_pos (by decide)]
  refine wpAny_bind (wpAny_of_eq (a := ()) (check_fk la) ?_)
  refine wpAny_bind (wpAny_pure (wpAny_pure ?_))
  refine ⟨quiet_fk _, codeAny_builtin entry_fk ?_⟩
  have hA2 : (A.under (Code.builtin "dict.fromkeys" ⟨[.type "dict", .ref la], []⟩)).handled = none := by first | exact R.hh | (simp only [Around.under]; exact R.hh)
  show wpAny _ (A.under (Code.builtin "dict.fromkeys" ⟨[.type "dict", .ref la], []⟩)) (Builtin.«dict.fromkeys» ⟨[.type "dict", .ref la], []⟩) _ _ s
  generalize A.under (Code.builtin "dict.fromkeys" ⟨[.type "dict", .ref la], []⟩) = A2 at hA2 ⊢
  have hD0 : s.heap.get? s.heap.objs.size = none := by
    cases q : s.heap.get? s.heap.objs.size with
    | none => rfl
    | some o => exact absurd (Heap.lt_size q) (Nat.lt_irrefl _)
  have hlalt : la < s.heap.objs.size := Heap.lt_size (G.zin _ _ hla)
  unfold Builtin.«dict.fromkeys»
  refine wpAny_bind (wpAny_of_eq (a := true) (by first | rfl | kernel_rfl) ?_)
  refine wpAny_bind (wpAny_of_eq (a := true) PySem.F.kt_sub_dict ?_)
  refine wpAny_bind (wpAny_rule ?_)
  refine wpAny_bind (wpAny_pure (wpAny_bind (call_dict_0 ?_)))
  have hnew : (s.heap.push { cls := .type "dict", data := .dict #[] }).DictOf (PySem.strKind prg w) s.heap.objs.size [] := Heap.DictOf.new s.heap
  have hla1 : (s.heap.push { cls := .type "dict", data := .dict #[] }).IsList la vs := hla'.push _
  refine wpAny_holding ?_
  refine wpAny_bind (wpAny_typeOf hla1.typeIs ?_)
  refine wpAny_bind (wpAny_typeOf hnew.typeIs ?_)
  rw [if_neg (by decide)]
  refine wpAny_bind (wpAny_typeOf hnew.typeIs ?_)
  rw [if_neg (by decide)]
  refine wpAny_bind (wpAny_pyIter_list hla1 ?_)
  have hDI : s.heap.objs.size ≠ (s.heap.push { cls := .type "dict", data := .dict #[] }).objs.size := by rw [Heap.size_push]; exact Nat.ne_of_lt (Nat.lt_succ_self _)
  have hlI : la ≠ (s.heap.push { cls := .type "dict", data := .dict #[] }).objs.size := by rw [Heap.size_push]; exact Nat.ne_of_lt (Nat.lt_succ_of_lt hlalt)
  have hI0 : s.heap.get? (s.heap.push { cls := .type "dict", data := .dict #[] }).objs.size = none := by
    rw [Heap.size_push]
    cases q : s.heap.get? (s.heap.objs.size + 1) with
    | none => rfl
    | some o => exact absurd (Heap.lt_size q) (Nat.not_lt.mpr (Nat.le_succ _))
  have hnl : vs.size = l.length := by rw [← Array.length_toList]; exact hvs.length
  refine wpAny_pure ⟨Code.quiet_builtin _ (by decide +kernel), fk_loop (Walks.list (A := A.in1) R.hh _ la hlI vs) l hnl.symm (by exact Mine.om197 hl hnl) (fun i v e => ?_) hDI (fun q => ?_) s.heap hD0 hI0 l.length 0 _ [] (by exact Mine.om196 hnl) (Nat.zero_le _)
    ⟨⟨_, Heap.get?_push_size _ rfl, rfl, rfl⟩, hla1.push _⟩ (hnew.push _) rfl (fun a o e => Heap.get?_push_of_some _ (Heap.get?_push_of_some _ e)) fun h' tk kvs' hd hk keep => ?_⟩
  · obtain ⟨x, hx, t, rfl⟩ := hvs.get' (i := i) (a := v) (by simpa using e)
    exact ⟨x, t, hx, rfl⟩
  · rcases List.mem_cons.mp q with q | q
    · exact hDI q
    · exact absurd (List.mem_singleton.mp q) (Nat.ne_of_gt hlalt)
  · obtain ⟨od, e, hdd⟩ := Heap.dictOf_iff.mp hd
    have hzD : z s.heap.objs.size = none := by
      cases q : z s.heap.objs.size with
      | none => rfl
      | some o => have := G.zin _ _ q; rw [hD0] at this; cases this
    have hns : (s.heap.objs.size == sysModules) = false := by
      obtain ⟨o, e⟩ : ∃ o, (KK w).lookup 67 = some o := ⟨_, rfl⟩
      have h := Heap.lt_size (G.gd.K _ _ e)
      have h1 : sysModules = 1 := rfl
      rw [h1]
      exact beq_eq_false_iff_ne.mpr (Nat.ne_of_gt (Nat.lt_trans (by decide) h))
    refine h _ kvs' (z.put s.heap.objs.size od) _ ⟨keep, PM.put_le hzD, fun a o e' => ?_, fun a h1 h2 => ?_, rfl, #[], by simp, AllBare.empty⟩ ⟨hns, od, PM.put_self _ _ _, hdd⟩ hk
    · rcases PM.put_some e' with ⟨rfl, rfl⟩ | ⟨_, e'⟩
      · exact e
      · exact keep _ _ (G.zin _ _ e')
    · by_cases ha : a = s.heap.objs.size
      · rw [ha]; exact hD0
      · exact absurd (PM.put_none h2 ha) h1
end
end Mine
end
section
open PySem PySem.W PySem.Calls PyProof.Rows PySem.Spec
set_option Elab.async false
set_option maxRecDepth 100000
set_option linter.unusedVariables false
namespace Mine
section
variable {w : World} {B : Bs} {z z' : PM} {env : Env} {own : List Addr} {m m' : Str → Option Value} {mu mu' : List (Addr × MO)} {s s' s₀ : Shared} {A : Around} {E : Value → Shared → Prop} {k : Nat} {xs : List Addr}
theorem keeps_ded {M : Model} (h : Heap) (G : Gd w h) : ∃ k, (k = Keeper.frame ∨ k = Keeper.machine ∨ k = Keeper.boundFrame) ∧ Looks M h (keeperOf (.ref 62)) k := by
  obtain ⟨o, hK, hcls, hdata⟩ : ∃ o, (KK w).lookup 62 = some o ∧ o.cls = .type "builtin_function_or_method" ∧ o.data = .fields #[.builtin "dict.fromkeys", .type "dict"] := ⟨_, rfl, rfl, rfl⟩
  refine ⟨.machine, .inr (.inl rfl), (Looks.ld (part := none) (G.K _ _ hK)).andThen ?_⟩
  rw [hdata, hcls]
  exact .now
/-- a call of _dedupe -/
theorem e_ded {x : Str} {px pos : Pos} {e : Expr} {Q : Value → Shared → Prop} (H : W w B z env own m mu s) (hx : env.kindOf x = some .globalImplicit)
    (h : Wp w A (spliced (backTo pos (starEach [e] env))) (fun vs s₂ => Gd w s₂.heap ∧ Wp w A (call (.ref 62) vs) Q E s₂) E s)
    (e0 : nsIn (KK w) mainGlobals x = some (some (.ref 62)) := by kernel_rfl)
    (he : starEach [e] env = (false, eval e env) :: starEach [] env := by kernel_rfl)
    (hd : (x == ("__debug__" : Str)) = false := by kernel_rfl) : Wp w A (eval (.Call (.Name x px) [e] [] pos) env) Q E s := by
  refine .mk ?_
  rw [eval_Call]
  refine wpAny_bind (wpAny_mono (r_glob (Q := fun v s₁ => v = .ref 62 ∧ wpAny (model prg w) A (spliced (backTo pos (starEach [e] env))) (fun vs s₂ => Gd w s₂.heap ∧ wpAny (model prg w) A (call (.ref 62) vs) Q E s₂) E s₁) H hx e0 ⟨rfl, un h fun _ _ q => ⟨q.1, q.2.out⟩⟩ hd) (fun v s₁ h₁ => ?_) fun _ _ e => e)
  obtain ⟨rfl, h₁⟩ := h₁
  rw [he] at h₁ ⊢
  exact callWith_of (P := fun h => Gd w h) (by show ((false || (backTo pos (starEach [] env)).any (·.1)) || false) = false; rfl) (fun h G => keeps_ded h G) (evalArgs_plain h₁)
/-- a list's item, any base -/
theorem d_item0 {value slice : Expr} {a : Addr} {vs : Array Value} {i : Nat} {t : Tok} {v : Value} {Q : Value → Shared → Prop} (H : W w B z env own m mu s) (hl : IsL z a vs) (hf : i < 2 ^ 62)
    (hv : vs[i]? = some v) (h : Q v s) (hs : ∃ ops, subscripted slice false (.ref a) (.int (i : Int) t) = operate ops (getItem (.ref a) (.int (i : Int) t))) : Wp w A (subscriptTail value slice (.ref a) (.int (i : Int) t)) Q E s := by
  obtain ⟨ops, hs⟩ := hs
  exact tail_any (hl.at H).typeIs slot_list_getitem.lookup (.mk (wpAny_getItem_list (hl.at H) (by exact Mine.om27) (by exact Mine.om206 hf) (by simpa using hv) h)) hs
/-- the last one -/
theorem d_itemLast {value slice : Expr} {a : Addr} {vs : Array Value} {t : Tok} {v : Value} {Q : Value → Shared → Prop} (H : W w B z env own m mu s) (hl : IsL z a vs) (hv : vs.toList.getLast? = some v) (h : Q v s)
    (hs : ∃ ops, subscripted slice false (.ref a) (.int (-1) t) = operate ops (getItem (.ref a) (.int (-1) t))) : Wp w A (subscriptTail value slice (.ref a) (.int (-1) t)) Q E s := by
  obtain ⟨ops, hs⟩ := hs
  have hp : 1 ≤ vs.size := by
    rcases Nat.eq_zero_or_pos vs.size with h0 | h0
    · rw [List.eq_nil_of_length_eq_zero (show vs.toList.length = 0 by rw [Array.length_toList]; exact h0)] at hv; cases hv
    · exact h0
  refine tail_any (hl.at H).typeIs slot_list_getitem.lookup (.mk (wpAny_getItem_list_neg (hl.at H) (by decide) (by exact Mine.om205 hp) (by decide) ?_ h)) hs
  rw [List.getLast?_eq_getElem?, Array.length_toList, Array.getElem?_toList] at hv
  rw [← hv]; congr 1; exact Mine.om162
/-- a tuple's item -/
theorem d_itemT {value slice : Expr} {a : Addr} {vs : Array Value} {i : Int} {t : Tok} {j : Nat} {v : Value} {Q : Value → Shared → Prop} (ht : s.heap.IsTuple a vs) (hi : -(2 ^ 62) ≤ i ∧ i < 2 ^ 62)
    (hj : seqIndex? i vs.size = some j) (hv : vs[j]? = some v) (h : Q v s) (hs : ∃ ops, subscripted slice false (.ref a) (.int i t) = operate ops (getItem (.ref a) (.int i t))) : Wp w A (subscriptTail value slice (.ref a) (.int i t)) Q E s := by
  obtain ⟨ops, hs⟩ := hs
  exact tail_any ht.typeIs slot_tuple_getitem.lookup (.mk (getItem_tuple ht (by exact Mine.om204 hi) (by exact Mine.om203 hi) hj hv h)) hs
/-- an assignment of a tuple that stands now -/
theorem g_tupleH {elts : List Expr} {n : _} {pos : Pos} {t : Addr} {items : Array Value} {Q : Unit → Shared → Prop} (H : W w B z env own m mu s) (hA : A.handled = none) (ht : s.heap.IsTuple t items)
    (hn : elts.length = items.size) (h : ∀ s', W w B z env own m mu s' → Wp w A (assignInOrder (elts.map fun e => assign e env) items.toList) Q E s')
    (hf : assignEach elts env = elts.map fun e => (false, assign e env) := by kernel_rfl) : Wp w A (assign (.Tuple elts n pos) env (.ref t)) Q E s := by
  have hf : assignEach elts env = (elts.map fun e => assign e env).map fun f => (false, f) := by rw [hf, List.map_map]; rfl
  refine .mk (wpAny_assign_Tuple hA ht (by rw [hf, List.length_map, List.length_map]; exact hn) (by rw [hf]; exact findNone _) fun h' hs => ?_)
  have e : (assignEach elts env).map (·.2) = elts.map fun e => assign e env := by rw [hf, List.map_map]; exact List.map_id' _
  rw [e]
  refine (h _ (H.side (s' := { s with heap := h' }) [s.heap.objs.size] (fun b o hb e => hs b o (fun q => hb (q ▸ .head _)) e) (fun b hb => ?_) rfl rfl)).out
  rw [List.mem_singleton.mp hb]
  have := H.none_size
  exact ⟨this.2.1, this.1, this.2.2.1, this.2.2.2⟩
theorem i_it {target : Expr} {I : Addr} {n : Nat} {P : Nat → Value → Heap → Prop} {Q : Value → Shared → Prop} (IT : It w A B z own mu s target I n P) (h : Q (.ref I) s) : Wp w A (pyIter (.ref I)) Q E s := by
  obtain ⟨fp, wr, St, WK, hst, _⟩ := IT.it
  exact .mk (WK.self 0 s Q E hst h)

/-- zip of two lists, for a tuple target -/
theorem d_zip {a b : Addr} {xs ys : Array Value} {Q : Value → Shared → Prop} (H : W w B z env own m mu s) (hA : A.handled = none) (ha : IsL z a xs) (hb : IsL z b ys)
    (h : ∀ I s', W w B z env own m mu s' → (∀ (elts : List Expr) (k : Nat) (pos : Pos), It w A B z own mu s' (.Tuple elts k pos) I (min xs.size ys.size) (fun i v h => ∃ T x y, v = .ref T ∧ h.IsTuple T #[x, y] ∧ xs[i]? = some x ∧ ys[i]? = some y)) → Q (.ref I) s') :
    Wp w A (call (.type "zip") [.ref a, .ref b]) Q E s := by
  have hs : ∀ j, B.p (s.heap.objs.size + j) = none ∧ z (s.heap.objs.size + j) = none ∧ s.heap.objs.size + j ∉ own ∧ s.heap.objs.size + j ∉ mu.map (·.1) := fun j => by
    have hn : s.heap.get? (s.heap.objs.size + j) = none := by
      cases q : s.heap.get? (s.heap.objs.size + j) with
      | none => rfl
      | some o => exact absurd (Heap.lt_size q) (Nat.not_lt.mpr (Nat.le_add_right _ _))
    refine ⟨?_, ?_, fun q => ?_, fun q => ?_⟩
    · cases q : B.p (s.heap.objs.size + j) with
      | none => rfl
      | some o => have := H.pin _ _ q; rw [hn] at this; cases this
    · cases q : z (s.heap.objs.size + j) with
      | none => rfl
      | some o => have := H.zin _ _ q; rw [hn] at this; cases this
    · obtain ⟨o, e⟩ := (H.ownp _ q).2.2
      rw [hn] at e; cases e
    · obtain ⟨p, hp, e⟩ := List.mem_map.mp q
      obtain ⟨o, e'⟩ := (H.muo p hp).1.some
      rw [e, hn] at e'; cases e'
  have la : @LT.lt Nat _ a s.heap.objs.size := let ⟨_, e, _⟩ := ha.at H; Heap.lt_size e
  have lb : @LT.lt Nat _ b s.heap.objs.size := let ⟨_, e, _⟩ := hb.at H; Heap.lt_size e
  refine .mk (call_zip_2 (ha.at H) (hb.at H) fun h' z1 z2 z3 z4 z5 hsz keep => ?_)
  have D : ZipApart (s.heap.objs.size + 4) (s.heap.objs.size + 2) (s.heap.objs.size + 3) s.heap.objs.size (s.heap.objs.size + 1) a b := by
    constructor <;> first | exact Nat.ne_of_lt (by (first | exact Mine.om44 la | exact Mine.om202 lb | omega)) | exact Nat.ne_of_gt (by omega) | (apply Nat.ne_of_lt; show (_ : Nat) < _; omega) | (apply Nat.ne_of_gt; show (_ : Nat) < _; omega)
  have H' : W w B z env own m mu { s with heap := h' } := H.nx ⟨keep, Le.refl z, fun a o e => keep a o (H.zin a o e), fun _ a b => absurd b a, rfl, #[], by simp, AllBare.empty⟩
  have WT := WalksT.zip2 (prog := prg) (w := w) hA (s.heap.objs.size + 4) (s.heap.objs.size + 2) (s.heap.objs.size + 3) s.heap.objs.size (s.heap.objs.size + 1) a b D xs ys
  have hwr : ∀ b ∈ [s.heap.objs.size + 4, s.heap.objs.size + 3, s.heap.objs.size, s.heap.objs.size + 1], b ∈ [s.heap.objs.size + 4, s.heap.objs.size + 3, s.heap.objs.size, s.heap.objs.size + 1, s.heap.objs.size + 2] := fun b hb => by
    simp at hb ⊢; rcases hb with rfl | rfl | rfl | rfl <;> simp
  refine h _ _ H' fun elts k pos => ⟨_, [s.heap.objs.size + 4, s.heap.objs.size + 3, s.heap.objs.size, s.heap.objs.size + 1, s.heap.objs.size + 2], _, ⟨WT.frame, fun i s₁ Q E hi hst hq => ?_, fun s₁ Q E hst hq => ?_, WT.self, fun i h₁ hst c hc => ?_⟩, ?_, ?_, ?_⟩
  · refine WT.item i s₁ _ E hi hst fun T vals h₁ tk hp hT hTu hmid hk => ?_
    obtain ⟨x, y, hx, hy, rfl⟩ := hp
    refine WT.go elts k pos i T _ _ E hmid fun h₂ hst₂ hk₂ => hq (.ref T) h₂ tk ⟨T, x, y, rfl, ?_, hx, hy⟩ hst₂ fun b o hb e => hk₂ b o (fun q => hb (hwr b q)) (hk b o (fun q => hb (hwr b q)) e)
    obtain ⟨o, e, r⟩ := hTu
    exact ⟨o, hk₂ T o (WT.apart i T _ hmid) e, r⟩
  · refine wpAny_mono (WT.done s₁ (fun r s' => match r with | none => Q s' | some _ => False) E hst fun h₁ tk hk => hq h₁ tk fun b o hb e => hk b o (fun q => hb (hwr b q)) e) (fun r s' q => q) fun _ _ q => q
  · obtain ⟨hz, hTI, ⟨u, v, hTO⟩, ⟨o1, e1, _⟩, ⟨o2, e2, _⟩, _⟩ := hst
    simp at hc
    rcases hc with rfl | rfl | rfl | rfl | rfl
    · exact ⟨_, hz⟩
    · exact ⟨_, hTO⟩
    · exact ⟨_, e1⟩
    · exact ⟨_, e2⟩
    · exact ⟨_, hTI⟩
  · exact ⟨z1, z2, ⟨_, _, z3⟩, z4, z5, ha.at H', hb.at H'⟩
  · intro c hc
    simp at hc
    rcases hc with rfl | rfl | rfl | rfl | rfl | rfl | rfl
    · left; simp
    · left; simp
    · left; simp
    · left; simp
    · left; simp
    · right; left
      obtain ⟨_, e⟩ := ha
      rw [e]; nofun
    · right; left
      obtain ⟨_, e⟩ := hb
      rw [e]; nofun
  · intro c hc
    simp at hc
    rcases hc with rfl | rfl | rfl | rfl | rfl
    · exact hs 4
    · exact hs 3
    · exact hs 0
    · exact hs 1
    · exact hs 2
end
end Mine
end
section
open PySem PySem.W PySem.Calls PyProof.Rows PySem.Spec PySem.Builtin PySem.Builtin.Str
set_option Elab.async false
set_option maxRecDepth 100000
set_option linter.unusedVariables false
namespace Mine
theorem at_packed (w : World) : FnAt w 112 (Str.ofString "_law_packed") [Str.ofString "members"] (bodyOf (stAt 20)) (scopeOf (stAt 20)) where
  fd := ⟨_, _, rfl, rfl, rfl, rfl, rfl, rfl, rfl, by kernel_rfl, ofLen1 (fun _ => rfl)⟩
  par := by decide +kernel
  nd := by decide +kernel
  nnd := by decide +kernel
  cnd := by decide +kernel
  co := by kernel_rfl
  gen := by kernel_rfl
  fn := by kernel_rfl

noncomputable def optAll {α β : Type} (f : α → Option β) : List α → Option (List β)
  | [] => some []
  | a :: l => (f a).bind fun b => (optAll f l).bind fun bs => some (b :: bs)
theorem optAll_cons {α β : Type} (f : α → Option β) (a : α) (l : List α) : optAll f (a :: l) = (f a).bind fun b => (optAll f l).bind fun bs => some (b :: bs) := by
  conv => lhs; unfold optAll
theorem optAll_get {α β : Type} {f : α → Option β} : ∀ {l : List α} {r : List β} {i : Nat} {a : α}, optAll f l = some r → l[i]? = some a → ∃ b, f a = some b ∧ r[i]? = some b
  | x :: l, r, i, a, h, hi => by
    rw [optAll_cons] at h
    cases e : f x with
    | none => rw [e] at h; cases h
    | some b =>
      cases e2 : optAll f l with
      | none => rw [e, e2] at h; cases h
      | some bs =>
        rw [e, e2] at h; cases h
        cases i with
        | zero => cases hi; exact ⟨b, e, rfl⟩
        | succ i => obtain ⟨b', h1, h2⟩ := optAll_get (i := i) e2 (by rw [List.getElem?_cons_succ] at hi; exact hi); exact ⟨b', h1, by rw [List.getElem?_cons_succ]; exact h2⟩
theorem optAll_len {α β : Type} {f : α → Option β} : ∀ {l : List α} {r : List β}, optAll f l = some r → r.length = l.length
  | [], r, h => by cases h; rfl
  | x :: l, r, h => by
    rw [optAll_cons] at h
    cases e : f x with
    | none => rw [e] at h; cases h
    | some b =>
      cases e2 : optAll f l with
      | none => rw [e, e2] at h; cases h
      | some bs => rw [e, e2] at h; cases h; rw [List.length_cons, List.length_cons, optAll_len e2]
theorem optAll_take {α β : Type} {f : α → Option β} {l : List α} {r : List β} (h : optAll f l = some r) (i : Nat) : l.filterMap f = r ∧ (l.take i).filterMap f = r.take i := by
  have gen : ∀ {l : List α} {r : List β}, optAll f l = some r → ∀ i, (l.take i).filterMap f = r.take i := by
    intro l
    induction l with
    | nil => intro r h i; cases h; simp
    | cons x l ih =>
      intro r h i
      rw [optAll_cons] at h
      cases e : f x with
      | none => rw [e] at h; cases h
      | some b =>
        cases e2 : optAll f l with
        | none => rw [e, e2] at h; cases h
        | some bs =>
          rw [e, e2] at h; cases h
          cases i with
          | zero => rfl
          | succ i => rw [List.take_succ_cons, List.filterMap_cons, e, ih e2 i, List.take_succ_cons]
  refine ⟨?_, gen h i⟩
  have h2 := gen h l.length
  have h3 := optAll_len h
  rw [List.take_length, ← h3, List.take_length] at h2
  exact h2

noncomputable abbrev Mem := Str × Str
noncomputable def anc (p : Str) : Option (List Str) := ancF 60 (Txt.rstripChars p sSlash)
noncomputable def belowP (zs : List (Mem × List Str)) (top : Str) : List Mem :=
  zs.filterMap fun p => if p.2.getLast? = some top then some (Txt.slice p.1.1 (some (top.length : Int)) none, p.1.2) else none
noncomputable def packItem (g : List Mem → Option Str) (zs : List (Mem × List Str)) (top : Str) : Option Str :=
  (belowP zs top).head?.bind fun b =>
    if b.1.length = 0 then (if b.2.length ≤ 1000000 then some (itemF (Txt.lstripChars top sSlash) b.2) else none)
    else (g (belowP zs top)).bind fun h => if h.length ≤ 1000000 then some (itemF (Txt.lstripChars top sSlash ++ sSlash) h) else none
noncomputable def memOk (m : Mem) : Bool := decide (m.1.length ≤ 900) && PyData.strOk m.1
noncomputable def packF : Nat → List Mem → Option Str
  | 0, _ => none
  | f + 1, ms => if (ms.all memOk && decide (ms.length ≤ 10000)) = true then
      (optAll (fun m => anc m.1) ms).bind fun ways => (optAll (packItem (packF f) (ms.zip ways)) (dedF (ways.filterMap List.getLast?))).bind fun items => if JoinOk sComma items = true then some (Txt.join sComma items) else none
    else none

theorem filterMap_sub {α β : Type} {f : α → Option β} {l : List α} {b : β} (h : b ∈ l.filterMap f) : ∃ a ∈ l, f a = some b := by simpa [List.mem_filterMap] using h
theorem strOk_mem {x y : Str} (h : ∀ c ∈ y.cps.toList, c ∈ x.cps.toList) (hx : PyData.strOk x = true) : PyData.strOk y = true := by
  unfold PyData.strOk at hx ⊢
  rw [Array.all_eq_true_iff_forall_mem] at hx ⊢
  intro c hc
  exact hx c (Array.mem_def.mpr (h c (Array.mem_def.mp hc)))
theorem slice_mem (x : Str) (l u : Option Int) : ∀ c ∈ (Txt.slice x l u).cps.toList, c ∈ x.cps.toList := by
  intro c hc
  unfold Txt.slice at hc
  split at hc
  · exact hc
  · obtain ⟨i, _, hi⟩ := filterMap_sub (by simpa using hc)
    exact Array.mem_def.mp (Array.mem_of_getElem? hi)

theorem sub_mem (x : Str) (i j : Nat) : ∀ c ∈ (strSub x i j).cps.toList, c ∈ x.cps.toList := by
  intro c hc
  unfold strSub at hc
  have hc' : c ∈ x.cps.extract i j := Array.mem_def.mpr hc
  obtain ⟨k, hk, e⟩ := Array.mem_iff_getElem.mp hc'
  rw [Array.getElem_extract] at e
  exact Array.mem_def.mp (e ▸ Array.getElem_mem _)
theorem rstrip_mem (x y : Str) : ∀ c ∈ (Txt.rstripChars x y).cps.toList, c ∈ x.cps.toList := by
  obtain ⟨j, _, e⟩ := PyProof.Rows.rstripChars_is_prefix x y
  rw [e]; exact sub_mem x 0 j
theorem head_mem (p : Str) : ∀ c ∈ (headF p).cps.toList, c ∈ p.cps.toList := by
  intro c hc
  unfold headF at hc
  dsimp only at hc
  split at hc
  · exact slice_mem _ _ _ c (rstrip_mem _ _ c hc)
  · exact slice_mem _ _ _ c hc
theorem ancF_mem : ∀ (f : Nat) (p : Str) (l : List Str), ancF f p = some l → ∀ x ∈ l, (∀ c ∈ x.cps.toList, c ∈ p.cps.toList) ∧ x.length ≤ p.length
  | 0, p, l, h, x, hx => by
    unfold ancF at h
    split at h
    · cases h; cases hx
    · cases h
  | f + 1, p, l, h, x, hx => by
    unfold ancF at h
    split at h
    · cases h; cases hx
    · cases e : ancF f (headF p) with
      | none => rw [e] at h; cases h
      | some r =>
        rw [e] at h; cases h
        rcases List.mem_cons.mp hx with rfl | hx
        · exact ⟨fun c h => h, Nat.le_refl _⟩
        · obtain ⟨h1, h2⟩ := ancF_mem f (headF p) r e x hx
          exact ⟨fun c hc => head_mem p c (h1 c hc), Nat.le_trans h2 (head_len p)⟩
theorem ancF_len : ∀ (f : Nat) (p : Str) (l : List Str), ancF f p = some l → l.length ≤ f
  | 0, p, l, h => by
    unfold ancF at h
    split at h
    · cases h; simp
    · cases h
  | f + 1, p, l, h => by
    unfold ancF at h
    split at h
    · cases h; simp
    · cases e : ancF f (headF p) with
      | none => rw [e] at h; cases h
      | some r => rw [e] at h; cases h; have := ancF_len f _ r e; simp; exact Mine.om207 this

noncomputable abbrev RMem : Rep Mem := Rpair Rstr Rstr
theorem mono_mem : Mono RMem := mono_pair mono_str mono_str
noncomputable abbrev PackedC (w : World) (c : Nat) (g : List Mem → Option Str) : Prop :=
  ∀ (A : Around) (s : Shared) (z : PM) (vm : Value) (ms : List Mem) (res : Str) (Q : Value → Shared → Prop) (E : Value → Shared → Prop) (_ : Sit w z s) (_ : Rm A c) (_ : Rlist RMem z vm ms) (_ : g ms = some res)
    (_ : ∀ r z' s', Nx z s z' s' → Rstr z' r res → Q r s'), Wp w A (call (.ref 112) [vm]) Q E s

theorem last_slice (vs : Array Value) : (slicePick vs (some (-1)) none none).toList = vs.toList.drop (vs.size - 1) := by
  have h := slicePick_last vs 1 (by decide)
  rw [show (-((1 : Nat) : Int)) = -1 from rfl] at h
  rw [h]
theorem All2.drop {α β : Type} {R : α → β → Prop} : ∀ {l : List α} {r : List β} (n : Nat), All2 R l r → All2 R (l.drop n) (r.drop n)
  | _, _, 0, h => h
  | [], [], n + 1, _ => trivial
  | _ :: _, _ :: _, n + 1, h => h.2.drop n
theorem drop_last {α : Type} (l : List α) (a : α) : l.drop (l.length - 1) = [a] ↔ l.getLast? = some a := by
  cases h : l.getLast? with
  | none =>
    rw [List.getLast?_eq_none_iff] at h
    subst h; simp
  | some b =>
    obtain ⟨pre, rfl⟩ := List.getLast?_eq_some_iff.mp h
    simp
theorem zip_get {α β : Type} : ∀ (l : List α) (r : List β) (i : Nat), (l.zip r)[i]? = (l[i]?).bind fun a => (r[i]?).bind fun b => some (a, b)
  | [], r, i => by simp
  | a :: l, [], i => by cases h : (a :: l)[i]? <;> simp [h]
  | a :: l, b :: r, 0 => rfl
  | a :: l, b :: r, i + 1 => by simpa using zip_get l r i
end Mine
end
section
open PySem PySem.W PySem.Calls PyProof.Rows PySem.Spec PySem.Builtin PySem.Builtin.Str
set_option Elab.async false
set_option maxRecDepth 100000
set_option linter.unusedVariables false
namespace Mine
theorem packed_step {w : World} {c f : Nat} (hc : 12 ≤ c) (sub : PackedC w c (packF f)) : PackedC w (c + 1) (packF (f + 1)) := by
  intro A s z vm ms res Q E G R hm0 hres h
  obtain ⟨ma, mvs, rfl, hma, hmv⟩ := hm0
  obtain ⟨hok, ways, hways, items, hitems, hjoin, rfl⟩ : (ms.all memOk && decide (ms.length ≤ 10000)) = true ∧ ∃ ways, optAll (fun m => anc m.1) ms = some ways ∧ ∃ items, optAll (packItem (packF f) (ms.zip ways)) (dedF (ways.filterMap List.getLast?)) = some items ∧ JoinOk sComma items = true ∧ res = Txt.join sComma items := by
    rw [packF] at hres
    split at hres
    · rename_i hok
      cases e1 : optAll (fun m => anc m.1) ms with
      | none => rw [e1] at hres; cases hres
      | some ways =>
        rw [e1] at hres
        cases e2 : optAll (packItem (packF f) (ms.zip ways)) (dedF (ways.filterMap List.getLast?)) with
        | none =>
          have hres' : (optAll (packItem (packF f) (ms.zip ways)) (dedF (ways.filterMap List.getLast?))).bind (fun items => if JoinOk sComma items = true then some (Txt.join sComma items) else none) = some res := hres
          rw [e2] at hres'; cases hres'
        | some items =>
          have hres' : (optAll (packItem (packF f) (ms.zip ways)) (dedF (ways.filterMap List.getLast?))).bind (fun items => if JoinOk sComma items = true then some (Txt.join sComma items) else none) = some res := hres
          rw [e2] at hres'
          have hres'' : (if JoinOk sComma items = true then some (Txt.join sComma items) else none) = some res := hres'
          split at hres''
          · exact ⟨hok, ways, rfl, items, e2, by assumption, (Option.some.inj hres'').symm⟩
          · cases hres''
    · cases hres
  obtain ⟨hok1, hok2⟩ := Bool.and_eq_true_iff.mp hok
  have hmsl : ms.length ≤ 10000 := of_decide_eq_true hok2
  have hmem : ∀ m ∈ ms, m.1.length ≤ 900 ∧ PyData.strOk m.1 = true := fun m hm => by
    have := List.all_eq_true.mp hok1 m hm
    unfold memOk at this
    obtain ⟨h1, h2⟩ := Bool.and_eq_true_iff.mp this
    exact ⟨of_decide_eq_true h1, h2⟩
  have hwl : ways.length = ms.length := optAll_len hways
  have hwayok : ∀ (i : Nat) (way : List Str), ways[i]? = some way → ∃ m, ms[i]? = some m ∧ anc m.1 = some way ∧ ∀ x ∈ way, PyData.strOk x = true ∧ x.length ≤ 900 := fun i way hw => by
    have hi : i < ms.length := by rw [← hwl]; exact (List.getElem?_eq_some_iff.mp hw).1
    obtain ⟨way', h1, h2⟩ := optAll_get hways (List.getElem?_eq_getElem hi)
    rw [hw] at h2; cases h2
    refine ⟨_, List.getElem?_eq_getElem hi, h1, fun x hx => ?_⟩
    obtain ⟨hm1, hm2⟩ := hmem _ (List.getElem_mem hi)
    obtain ⟨h3, h4⟩ := ancF_mem 60 _ _ h1 x hx
    exact ⟨strOk_mem (fun c hc => rstrip_mem _ _ c (h3 c hc)) hm2, Nat.le_trans h4 (Nat.le_trans (PyProof.Rows.len_rstripChars _ _) hm1)⟩
  refine go (at_packed w) G R rfl fun A' env own m s' R' H hsv hgl hm hsc => post fun Q₁ fin₁ => ?_
  have h := fun r z' s' N X => fin₁ (.ret r) s' (h r z' s' N X)
  have vM := hsv (Str.ofString "members") (.inl (by kernel_rfl))
  have vI := hsv (Str.ofString "items") (.inl (by kernel_rfl))
  have vW := hsv (Str.ofString "ways") (.inl (by kernel_rfl))
  have vT := hsv (Str.ofString "top") (.inr (by kernel_rfl))
  have vB := hsv (Str.ofString "below") (.inl (by kernel_rfl))
  have mM : m (Str.ofString "members") = some (.ref ma) := hm (_, _) (.head _)
  have gD := hgl (Str.ofString "_dedupe") (by kernel_rfl)
  have gZ := hgl (Str.ofString "zip") (by kernel_rfl)
  have gI := hgl (Str.ofString "_law_item") (by kernel_rfl)
  have gP := hgl (Str.ofString "_law_packed") (by kernel_rfl)
  have cT := cell_of hsc (x := Str.ofString "top") (by kernel_rfl) vT
  have ee := env_eq hsc
  clear hsv hgl hm hsc
  refine x_set (e_nilM H fun a s₁ H => x_storeG H vI fun m₁ kk mI s₂ H => ?_)
  have mM := kk _ _ (by decide +kernel) mM
  have ems : mvs.size = ms.length := by rw [← hmv.length]; simp
  -- ways = [list(_ancestry(name)) for name, text in members]
  refine x_acomp H vW ⟨by decide +kernel, rfl, by decide +kernel⟩ (free_of [] (by decide +kernel) all_nil) (e_var H vM.var mM (i_list H R'.hh hma fun I s₃ H IT => compI H IT (by rw [sizeLine_eq]; exact Mine.om226 hmsl ems)
    (Rr (Rlist Rstr) (fun i => ms[i]?.bind fun m => anc m.1)) (Rr.mono (mono_list mono_str)) ?_ ?_)) (by rw [ee]; kernel_rfl)
  · intro i v z₁ B₁ C cenv mc s₁ E' hi hP hz₁ H CE
    refine turnC fun Q₂ fin₂ => ?_
    obtain ⟨mm, hmm, ta, u, y, rfl, hta, ⟨t₁, rfl⟩, ⟨t₂, rfl⟩⟩ := hmv.get' (i := i) (a := v) (by simpa using hP)
    have vN := CE.loc (Str.ofString "name") (by kernel_rfl)
    have vX := CE.loc (Str.ofString "text") (by kernel_rfl)
    have gL := CE.glo (Str.ofString "list") (by kernel_rfl)
    have gA := CE.glo (Str.ofString "_ancestry") (by kernel_rfl)
    have hmo := hmem mm (List.mem_of_getElem? hmm)
    obtain ⟨way, hw, _⟩ := optAll_get hways hmm
    have hw : anc mm.1 = some way := hw
    refine g_tuple H R'.hh (hta.mono hz₁) rfl fun s₂ H => i_cons (x_assignN H vN fun s₃ H => i_cons (x_assignN H vX fun s₄ H => i_nil ?_))
    refine e_bcall (.type "list") H gL (a_one (e_gcall (.ref 61) H gA (a_one (e_var H vN.var (upd_get (by decide +kernel) (upd_self _ _ _)) ⟨H.gd', ?_⟩))))
    refine anclist_ok H.sit (R'.le (by exact Mine.om225 hc)) (by rw [sizeLine_eq]; exact Mine.om215 hmo) hw (by have := ancF_len _ _ _ hw; rw [sizeLine_eq]; exact Mine.om224 this) fun r z₂ s₅ N hr => ?_
    exact fin₂ _ _ ⟨z₂, _, _, H.nx N, N.zz, Rr_some (by rw [hmm, Option.bind_some]; exact hw) hr⟩
  · intro z₁ s₄ D ys opts H hz₁ hlen' hops hys
    obtain ⟨m₂, kk, mW, H⟩ := H.named
    have hvals : All2 (Rlist Rstr z₁) ys.toList ways := by
      have := comp_vals (l := ms) (f := fun m => anc m.1) (hlen'.trans ems) hops hys
      rw [(optAll_take hways 0).1] at this
      exact this
    obtain ⟨z₂, hz₂, hD, H⟩ := H.freezeL
    have hwv := hvals.mono fun _ _ => mono_list mono_str _ _ _ _ hz₂
    have eys : ys.size = ways.length := by rw [← hwv.length]; simp
    have hma := hma.mono (hz₁.trans hz₂)
    have hmv := hmv.mono fun _ _ => mono_mem _ _ _ _ (hz₁.trans hz₂)
    have mM := kk _ _ (by decide +kernel) mM
    have mI := kk _ _ (by decide +kernel) mI
    -- the loop over the tops
    refine x_for H (e_ded H gD (a_one (e_comp H ⟨by decide +kernel, rfl, by decide +kernel⟩ (free_of [] (by decide +kernel) all_nil) (e_var H vW.var mW (i_list H R'.hh hD fun I s₅ H IT => compI H IT (by rw [sizeLine_eq]; exact Mine.om223 hmsl hwl eys)
      (Rr Rstr (fun i => ways[i]?.bind List.getLast?)) (Rr.mono mono_str) ?_ ?_)))))
    · intro i v z₃ B₁ C cenv mc s₁ E' hi hP hz₃ H CE
      obtain ⟨way, hway, wa, wvs, rfl, hwa, hwvs⟩ := hwv.get' (i := i) (a := v) (by simpa using hP)
      obtain ⟨mm, hmm, hanc, hwok⟩ := hwayok i way hway
      have vY := CE.loc (Str.ofString "way") (by kernel_rfl)
      have hwa := hwa.mono hz₃
      have hwvs := hwvs.mono fun _ _ => mono_str _ _ _ _ hz₃
      refine x_assignN H vY fun s₆ H => g_tests1 (t_cmp (e_var H vY.var (upd_self _ _ _) (e_listZ H (a_nil ⟨Nat.zero_le _, z₃, _, _, H, fun b z₄ s₇ hz₄ hb H => ?_⟩))))
      refine d_neD (dat_list dat_str) (x := way) (y := []) H (R'.le (by exact Mine.om216 hc)) (by decide) ⟨_, _, rfl, hwa.mono hz₄, hwvs.mono fun _ _ => mono_str _ _ _ _ hz₄⟩ ⟨_, _, rfl, hb, trivial⟩ (fun x hx => (hwok x hx).1) (fun _ h => nomatch h) fun b hbq => ⟨b, rfl, fun hb1 => ?_, fun hb0 => ?_⟩
      · have hne : way ≠ [] := hbq.mp hb1
        obtain ⟨x, hx⟩ : ∃ x, way.getLast? = some x := by
          cases e : way.getLast? with
          | none => exact absurd (List.getLast?_eq_none_iff.mp e) hne
          | some x => exact ⟨x, rfl⟩
        obtain ⟨v, hv, t, rfl⟩ : ∃ v, wvs.toList.getLast? = some v ∧ Rstr z₃ v x := by
          rw [List.getLast?_eq_getElem?] at hx ⊢
          rw [hwvs.length]
          exact hwvs.get hx
        refine e_sub (e_var H vY.var (upd_self _ _ _) (e_neg H fun t₁ s₈ H => d_itemLast H (hwa.mono hz₄) hv ⟨z₄, _, _, H, hz₄, Rr_some (by rw [hway, Option.bind_some]; exact hx) ⟨t, rfl⟩⟩ ⟨_, by with_unfolding_all rfl⟩))
      · have hne : way = [] := Decidable.byContradiction fun q => by rw [hbq.mpr q] at hb0; cases hb0
        exact ⟨z₄, _, H, hz₄, Rr_none (by rw [hway, hne, Option.bind_some]; rfl)⟩
    · intro z₃ s₆ D2 ys2 opts2 H hz₃ hlen2 hops2 hys2
      have hv2 : All2 (Rstr z₃) ys2.toList (ways.filterMap List.getLast?) := comp_vals (l := ways) (f := List.getLast?) (hlen2.trans eys) hops2 hys2
      obtain ⟨z₄, hz₄, hD2, H⟩ := H.freezeL
      have hv2 := hv2.mono fun _ _ => mono_str _ _ _ _ hz₄
      have htl : (ways.filterMap List.getLast?).length ≤ 10000 := Nat.le_trans (List.length_filterMap_le _ _) (by exact Mine.om222 hmsl hwl)
      refine ⟨H.gd', ded_ok H.sit (R'.le (by exact Mine.om221 hc)) ⟨_, _, rfl, hD2, hv2⟩ (by rw [sizeLine_eq]; exact Mine.om209 htl) fun dd kvs z₅ s₇ N hdd hkeys => ?_⟩
      have H := H.nx N
      have hz₅ : Le z₂ z₅ := hz₃.trans (hz₄.trans N.zz)
      have hma := hma.mono hz₅
      have hmv := hmv.mono fun _ _ => mono_mem _ _ _ _ hz₅
      have hD := hD.mono hz₅
      have hwv := hwv.mono fun _ _ => mono_list mono_str _ _ _ _ hz₅
      have hkl : kvs.length = items.length := by
        have h1 := congrArg List.length hkeys
        rw [List.length_map] at h1
        rw [h1, ← optAll_len hitems]
      have hil : items.length ≤ 10000 := by
        rw [← hkl, ← List.length_map (f := fun x : Str × Value => x.1), hkeys]
        have := addS_len (ways.filterMap List.getLast?) []
        unfold dedF; simp at this; exact Mine.om220 htl this
      refine i_dict H R'.hh hdd fun I s₈ H IT => forI H IT
        (fun i z' m mu => Le z₅ z' ∧ m (Str.ofString "members") = some (.ref ma) ∧ m (Str.ofString "items") = some (.ref a) ∧ m (Str.ofString "ways") = some (.ref D) ∧ ∃ vs, mu = [(a, .lst vs)] ∧ All2 (Rstr z') vs.toList (items.take i))
        ⟨Le.refl _, mM, mI, mW, _, rfl, trivial⟩ ?_ ?_
      · intro i v z₆ m₃ mu₃ B₃ s₉ E' hi hP hJ H
        refine turnQ fun Q₀ fin₀ => ?_
        obtain ⟨hz₆, mM, mI, mW, vs, rfl, hvs⟩ := hJ
        obtain ⟨k, xv, t, hk, rfl⟩ := hP
        have hki : (dedF (ways.filterMap List.getLast?))[i]? = some k := by rw [← hkeys, List.getElem?_map, hk]; rfl
        obtain ⟨b, hb, hbi⟩ := optAll_get hitems hki
        have hb : packItem (packF f) (ms.zip ways) k = some b := hb
        have hma := hma.mono hz₆
        have hmv := hmv.mono fun _ _ => mono_mem _ _ _ _ hz₆
        have hD := hD.mono hz₆
        have hwv := hwv.mono fun _ _ => mono_list mono_str _ _ _ _ hz₆
        have hsz : vs.size ≤ 10000 := by
          have h1 := hvs.length
          rw [Array.length_toList, List.length_take] at h1; exact Mine.om219 hil h1
        -- the top's own length
        have hkin : ∃ way, ∃ j : Nat, ways[j]? = some way ∧ way.getLast? = some k := by
          have : k ∈ dedF (ways.filterMap List.getLast?) := List.mem_of_getElem? hki
          have gen : ∀ (l acc : List Str) (y : Str), y ∈ l.foldl addS acc → y ∈ acc ∨ y ∈ l := by
            intro l
            induction l with
            | nil => intro acc y h; exact .inl h
            | cons x l ih =>
              intro acc y h
              rw [List.foldl_cons] at h
              rcases ih _ y h with h | h
              · unfold addS at h
                split at h
                · exact .inl h
                · rcases List.mem_append.mp h with h | h
                  · exact .inl h
                  · right; rw [List.mem_singleton.mp h]; exact .head _
              · exact .inr (.tail _ h)
          rcases gen _ _ k this with h | h
          · cases h
          · obtain ⟨way, hw, hl⟩ := filterMap_sub h
            obtain ⟨j, hj⟩ := List.mem_iff_getElem?.mp hw
            exact ⟨way, j, hj, hl⟩
        obtain ⟨kway, kj, hkj, hklast⟩ := hkin
        obtain ⟨_, _, _, hkok⟩ := hwayok kj kway hkj
        obtain ⟨hkstr, hkl9⟩ := hkok k (List.mem_of_getLast? hklast)
        refine x_assignG H vT fun m₄ kk mT s₁₀ H => ?_
        have mM := kk _ _ (by decide +kernel) mM
        have mI := kk _ _ (by decide +kernel) mI
        have mW := kk _ _ (by decide +kernel) mW
        have ezip : (ms.zip ways).length = min mvs.size ys.size := by rw [List.length_zip, ems, eys]
        refine x_acomp H vB ⟨by decide +kernel, rfl, by decide +kernel⟩ (free_of [Str.ofString "top"] (by decide +kernel) (all_cons cT all_nil)) (e_bcall (.type "zip") H gZ (a_cons (e_var H vM.var mM (a_one (e_var H vW.var mW
          (d_zip H R'.hh hma hD fun I s₁₁ H IT => i_it (IT [] 0 default) (compI H (IT _ _ _) (by rw [sizeLine_eq]; exact Mine.om218 hmsl ems)
            (Rr RMem (fun i => (ms.zip ways)[i]?.bind fun p => if p.2.getLast? = some k then some (Txt.slice p.1.1 (some (k.length : Int)) none, p.1.2) else none)) (Rr.mono mono_mem) ?_ ?_))))))) (by rw [ee]; kernel_rfl)
        · intro j v z₇ B₁ C cenv mc s₁₂ E'' hj hP hz₇ H CE
          obtain ⟨T, xv, yv, rfl, hT, hxv, hyv⟩ := hP
          obtain ⟨mm, hmm, ta, u, y, rfl, hta, ⟨t₁, rfl⟩, hy2⟩ := hmv.get' (i := j) (a := xv) (by simpa using hxv)
          obtain ⟨way, hway, wa, wvs, rfl, hwa, hwvs⟩ := hwv.get' (i := j) (a := yv) (by simpa using hyv)
          obtain ⟨_, _, _, hwok⟩ := hwayok j way hway
          have hmo := hmem mm (List.mem_of_getElem? hmm)
          have hzj : (ms.zip ways)[j]? = some (mm, way) := by rw [zip_get, hmm, hway]; rfl
          have vO := CE.loc (Str.ofString "one") (by kernel_rfl)
          have vY := CE.loc (Str.ofString "way") (by kernel_rfl)
          have gN := CE.glo (Str.ofString "len") (by kernel_rfl)
          have cT := CE.cap (Str.ofString "top") (by kernel_rfl)
          have hta := hta.mono hz₇
          have hwa := hwa.mono hz₇
          have hwvs := hwvs.mono fun _ _ => mono_str _ _ _ _ hz₇
          refine g_tupleH H R'.hh hT rfl fun s₁₃ H => i_cons (x_assignN H vO fun s₁₄ H => i_cons (x_assignN H vY fun s₁₅ H => i_nil (g_tests1 (t_cmp ?_))))
          have mO : upd (upd mc (Str.ofString "one") (.ref ta)) (Str.ofString "way") (.ref wa) (Str.ofString "one") = some (.ref ta) := upd_get (by decide +kernel) (upd_self _ _ _)
          have mY := upd_self (upd mc (Str.ofString "one") (.ref ta)) (Str.ofString "way") (.ref wa)
          have mT' : upd (upd mc (Str.ofString "one") (.ref ta)) (Str.ofString "way") (.ref wa) (Str.ofString "top") = some (.str k t) := upd_get (by decide +kernel) (upd_get (by decide +kernel) (cT.2.trans mT))
          have ewv : wvs.size = way.length := by rw [← hwvs.length]; simp
          have hwl60 : way.length ≤ 60 := by
            obtain ⟨_, _, h3, _⟩ := hwayok j way hway
            exact ancF_len _ _ _ h3
          refine e_sliceL H (e_var H vY.var mY (p_some (e_neg H fun t₂ s₁₆ H => p_none (p_none ⟨wa, wvs, some (-1), none, none, z₇, _, _, rfl, H, hwa.plain H, by rw [sizeLine_eq]; exact Mine.om217 ewv hwl60, .int _ _, .none, .none, by decide, fun b₁ z₈ s₁₇ hz₈ hb₁ H => ?_⟩)))) (fun _ _ => ⟨_, by with_unfolding_all rfl⟩)
          refine e_listZ H (a_one (e_var H cT.1 mT' ⟨by rw [sizeLine_eq]; simp, z₈, _, _, H, fun b₂ z₉ s₁₈ hz₉ hb₂ H => ?_⟩))
          have hl1 : Rlist Rstr z₉ (.ref b₁) (way.drop (way.length - 1)) := ⟨b₁, _, rfl, hb₁.mono hz₉, by rw [last_slice, ewv]; exact (hwvs.mono fun _ _ => mono_str _ _ _ _ (hz₈.trans hz₉)).drop _⟩
          refine d_eqD (dat_list dat_str) (x := way.drop (way.length - 1)) (y := [k]) H (R'.le (by exact Mine.om216 hc)) (by decide) hl1 ⟨b₂, _, rfl, hb₂, ⟨⟨t, rfl⟩, trivial⟩⟩ (fun x hx => (hwok x (List.mem_of_mem_drop hx)).1) (fun x hx => by rw [List.mem_singleton.mp hx]; exact hkstr) fun bb hbq => ⟨bb, rfl, fun hb1 => ?_, fun hb0 => ?_⟩
          · have hl := (drop_last way k).mp (hbq.mp hb1)
            have hz₁₀ := hz₈.trans hz₉
            refine e_tupZ H (a_cons (e_sliceS H (e_sub (e_var H vO.var mO (e_int H fun t₃ s₁₉ H => d_itemT (j := 0) ((hta.mono hz₁₀).at H) (by decide) rfl rfl (p_some (e_bcall (.builtin "len") H gN (a_one (e_var H cT.1 mT' (d_lenS H (by rw [sizeLine_eq]; exact Mine.om213 hkl9) fun t₄ s₂₀ H => p_none
              ⟨mm.1, t₁, some (_, _), none, z₉, _, _, rfl, rfl, rfl, by rw [sizeLine_eq]; exact Mine.om215 hmo, H, fun t₅ s₂₁ H => ?_⟩))))) ⟨_, by with_unfolding_all rfl⟩))) (fun _ _ _ => ⟨_, by with_unfolding_all rfl⟩)))
            refine a_one (e_sub (e_var H vO.var mO (e_int H fun t₆ s₂₂ H => d_itemT (j := 1) ((hta.mono hz₁₀).at H) (by decide) rfl rfl ⟨by rw [sizeLine_eq]; simp, z₉, _, _, H, fun b₃ z₁₁ s₂₃ hz₁₁ hb₃ H => ?_⟩ ⟨_, by with_unfolding_all rfl⟩)))
            refine ⟨z₁₁, _, _, H, hz₁₀.trans hz₁₁, Rr_some (d := (Txt.slice mm.1 (some (k.length : Int)) none, mm.2)) (by rw [hzj, Option.bind_some, if_pos hl]) ⟨b₃, _, _, rfl, hb₃, ⟨t₅, rfl⟩, hy2⟩⟩
          · have hl : ¬ way.getLast? = some k := fun q => by rw [hbq.mpr ((drop_last way k).mpr q)] at hb0; cases hb0
            exact ⟨z₉, _, H, hz₈.trans hz₉, Rr_none (by rw [hzj, Option.bind_some, if_neg hl])⟩
        · intro z₇ s₁₂ D3 ys3 opts3 H hz₇ hlen3 hops3 hys3
          obtain ⟨m₅, kk, mB, H⟩ := H.named
          have hbv : All2 (RMem z₇) ys3.toList (belowP (ms.zip ways) k) := comp_vals (l := ms.zip ways) (f := fun p => if p.2.getLast? = some k then some (Txt.slice p.1.1 (some (k.length : Int)) none, p.1.2) else none) (hlen3.trans ezip.symm) hops3 hys3
          obtain ⟨z₈, hz₈, hD3, H⟩ := H.freezeL
          have hbv := hbv.mono fun _ _ => mono_mem _ _ _ _ hz₈
          have hz₉ := hz₇.trans hz₈
          have hvs := hvs.mono fun _ _ => mono_str _ _ _ _ hz₉
          have mM := kk _ _ (by decide +kernel) mM
          have mI := kk _ _ (by decide +kernel) mI
          have mW := kk _ _ (by decide +kernel) mW
          have mT := kk _ _ (by decide +kernel) mT
          have hpk : packItem (packF f) (ms.zip ways) k = ((belowP (ms.zip ways) k).head?.bind fun b =>
              if b.1.length = 0 then (if b.2.length ≤ 1000000 then some (itemF (Txt.lstripChars k sSlash) b.2) else none)
              else (packF f (belowP (ms.zip ways) k)).bind fun h => if h.length ≤ 1000000 then some (itemF (Txt.lstripChars k sSlash ++ sSlash) h) else none) := rfl
          rw [hpk] at hb
          obtain ⟨mb, hmb, hb⟩ : ∃ mb, (belowP (ms.zip ways) k).head? = some mb ∧ (if mb.1.length = 0 then (if mb.2.length ≤ 1000000 then some (itemF (Txt.lstripChars k sSlash) mb.2) else none)
              else (packF f (belowP (ms.zip ways) k)).bind fun h => if h.length ≤ 1000000 then some (itemF (Txt.lstripChars k sSlash ++ sSlash) h) else none) = some b := by
            cases e : (belowP (ms.zip ways) k).head? with
            | none => rw [e] at hb; cases hb
            | some mb => rw [e] at hb; exact ⟨mb, rfl, hb⟩
          have hmb0 : (belowP (ms.zip ways) k)[0]? = some mb := by rw [← List.head?_eq_getElem?]; exact hmb
          obtain ⟨v0, hv0, ta, u, y, rfl, hta, ⟨t₁, rfl⟩, ⟨t₂, rfl⟩⟩ := hbv.get hmb0
          have hv0 : ys3[0]? = some (.ref ta) := by simpa using hv0
          have hmb9 : mb.1.length ≤ 900 := by
            obtain ⟨p, hp, hp2⟩ := filterMap_sub (List.mem_of_getElem? hmb0)
            split at hp2
            · cases hp2
              have := (hmem p.1 (List.of_mem_zip (a := p.1) (b := p.2) hp).1).1
              exact Nat.le_trans (Txt.slice_le _ _ _) this
            · cases hp2
          have hlt : (Txt.lstripChars k sSlash).length ≤ 900 := Nat.le_trans (PyProof.Rows.len_lstripChars _ _) hkl9
          generalize belowP (ms.zip ways) k = bl at hbv hb hmb hmb0
          -- the end of a turn
          have fin : ∀ (z₉' : PM) (s₁₃ : Shared) (r : Value), Le z₈ z₉' → W w B₃ z₉' env own m₅ [(a, .lst (vs.push r))] s₁₃ → Rstr z₉' r b →
              Wp w A' (execs [] env) Q₀ E' s₁₃ := by
            intro z₉' s₁₃ r hz H hr
            refine x_nil (fin₀ _ _ ⟨.inl rfl, z₉', _, _, H, hz₉.trans hz, hz₆.trans (hz₉.trans hz), mM, mI, mW, _, rfl, ?_⟩)
            rw [List.take_add_one, hbi, Array.toList_push]
            exact (hvs.mono fun _ _ => mono_str _ _ _ _ hz).snoc hr
          refine x_if (t_cmp (e_sub (e_sub (e_var H vB.var mB (e_int H fun t₃ s₁₃ H => d_item0 (i := 0) H hD3 (by decide) hv0 (e_int H fun t₄ s₁₄ H => d_itemT (j := 0) (hta.at H) (by decide) rfl rfl (e_str H fun t₅ s₁₅ H => d_eqS ⟨_, rfl, fun h0 => ?_, fun h0 => ?_⟩) ⟨_, by with_unfolding_all rfl⟩) ⟨_, by with_unfolding_all rfl⟩)))))
          · have h0' : mb.1 = sNil := by simpa using h0
            rw [if_pos (by rw [h0']; decide +kernel)] at hb
            split at hb
            · rename_i hlen6
              cases hb
              refine x_append 0 H vI.var mI rfl (e_gcall (.ref 100) H gI (a_cons (e_sm "str.lstrip" (e_var H vT.var mT ⟨_, _, rfl, a_one (e_str H fun t₆ s₁₆ H => c_lstrip H (by rw [sizeLine_eq]; exact Mine.om213 hkl9) fun t₇ s₁₇ H => ?_)⟩) (fun _ _ _ _ h => gm_lstrip h))))
              refine a_one (e_sub (e_sub (e_var H vB.var mB (e_int H fun t₈ s₁₈ H => d_item0 (i := 0) H hD3 (by decide) hv0 (e_int H fun t₉ s₁₉ H => d_itemT (j := 1) (hta.at H) (by decide) rfl rfl ⟨H.gd', ?_⟩ ⟨_, by with_unfolding_all rfl⟩) ⟨_, by with_unfolding_all rfl⟩))))
              refine item_ok H.sit (R'.le (by exact Mine.om211 hc)) ⟨t₇, rfl⟩ ⟨t₂, rfl⟩ (by show (Txt.lstripChars k sSlash).length ≤ 1000; exact Mine.om214 hlt) hlen6 fun r z₁₀ s₂₀ N hr => ?_
              exact ⟨z₁₀, _, _, 0, vs, H.nx N, rfl, by rw [sizeLine_eq]; exact Mine.om209 hsz, fun s₂₁ H => fin z₁₀ s₂₁ r N.zz H hr⟩
            · cases hb
          · have h0' : ¬ mb.1.length = 0 := fun q => by
              have : mb.1 = sNil := by
                have e : mb.1.cps = #[] := Array.eq_empty_of_size_eq_zero q
                cases hm1 : mb.1
                rw [hm1] at e
                simp only at e
                subst e
                decide +kernel
              rw [this] at h0; exact absurd h0 (by decide +kernel)
            rw [if_neg h0'] at hb
            obtain ⟨hh, hp, hb⟩ : ∃ hh, packF f bl = some hh ∧ (if hh.length ≤ 1000000 then some (itemF (Txt.lstripChars k sSlash ++ sSlash) hh) else none) = some b := by
              cases e : packF f bl with
              | none => rw [e] at hb; cases hb
              | some hh => rw [e] at hb; exact ⟨hh, rfl, hb⟩
            split at hb
            · rename_i hlen6
              cases hb
              refine x_append 0 H vI.var mI rfl (e_gcall (.ref 100) H gI (a_cons (e_bin (e_sm "str.lstrip" (e_var H vT.var mT ⟨_, _, rfl, a_one (e_str H fun t₆ s₁₆ H => c_lstrip H (by rw [sizeLine_eq]; exact Mine.om213 hkl9) fun t₇ s₁₇ H => e_str H fun t₈ s₁₈ H => ?_)⟩) (fun _ _ _ _ h => gm_lstrip h)))))
              refine d_addS H (by rw [show (Str.ofString "/").length = 1 from len_slash, sizeLine_eq]; show (Txt.lstripChars k sSlash).length + 1 ≤ _; exact Mine.om212 hlt) fun t₉ s₁₉ H => a_one (e_gcall (.ref 112) H gP (a_one (e_var H vB.var mB ⟨H.gd', ?_⟩)))
              refine sub _ _ _ _ bl hh _ _ H.sit R' ⟨D3, _, rfl, hD3, hbv⟩ hp fun r z₁₀ s₂₀ N hr => ?_
              have H := H.nx N
              refine ⟨H.gd', item_ok H.sit (R'.le (by exact Mine.om211 hc)) ⟨t₉, rfl⟩ hr (by rw [Str.length_append, show (Str.ofString "/").length = 1 from len_slash]; show (Txt.lstripChars k sSlash).length + 1 ≤ 1000; exact Mine.om210 hlt) hlen6 fun r z₁₁ s₂₁ N' hr => ?_⟩
              exact ⟨z₁₁, _, _, 0, vs, H.nx N', rfl, by rw [sizeLine_eq]; exact Mine.om209 hsz, fun s₂₂ H => fin z₁₁ s₂₂ r (N.zz.trans N'.zz) H hr⟩
            · cases hb
      · intro z' m' mu' s₉ H hJ
        obtain ⟨_, _, mI, _, vs, rfl, hvs⟩ := hJ
        rw [hkl, List.take_length] at hvs
        refine x_ret (e_sm "str.join" (e_str H fun t s₁₀ H => ⟨_, _, rfl, a_one (e_var H vI.var mI ?_)⟩) (fun _ _ _ _ h => gm_join h))
        obtain ⟨z₆, hz₆, hl', H⟩ := H.freezeL
        exact c_join H ⟨_, _, rfl, hl', hvs.mono fun _ _ => mono_str _ _ _ _ hz₆⟩ hjoin fun t' s₁₁ H => h _ _ _ (H.back G) ⟨t', rfl⟩

theorem packed_ok (w : World) : ∀ f, PackedC w (f + 12) (packF f)
  | 0 => fun A s z vm ms res Q E G R hm hres h => by cases hres
  | f + 1 => packed_step (c := f + 12) (by exact Mine.om208) (packed_ok w f)
end Mine
end
section
open PySem PySem.W PySem.Calls PyProof.Rows PySem.Spec PySem.Builtin PySem.Builtin.Str
set_option Elab.async false
set_option maxRecDepth 100000
set_option linter.unusedVariables false
namespace Mine
noncomputable def PM.del (z : PM) (a : Addr) : PM := fun b => if b = a then none else z b
theorem PM.del_some {z : PM} {a b : Addr} {o : Obj} (h : z.del a b = some o) : b ≠ a ∧ z b = some o := by
  unfold PM.del at h
  by_cases hb : b = a
  · rw [if_pos hb] at h; cases h
  · rw [if_neg hb] at h; exact ⟨hb, h⟩
theorem PM.del_none {z : PM} {a b : Addr} (h : z b = none) : z.del a b = none := by
  unfold PM.del; split
  · rfl
  · exact h
theorem PM.del_ne {z : PM} {a b : Addr} (h : b ≠ a) : z.del a b = z b := by unfold PM.del; rw [if_neg h]
theorem PM.del_le {z z' : PM} {a : Addr} {o : Obj} (ha : z a = none) (h : Le (z.put a o) z') : Le z (z'.del a) := fun b o' e => by
  have hb : b ≠ a := by rintro rfl; rw [ha] at e; cases e
  rw [PM.del_ne hb]
  exact h b o' (PM.put_le ha b o' e)
section
variable {w : World} {B : Bs} {z z' : PM} {env : Env} {own : List Addr} {m m' : Str → Option Value} {mu mu' : List (Addr × MO)} {s s' s₀ : Shared} {A : Around} {E : Value → Shared → Prop} {k : Nat} {xs : List Addr}
theorem W.perm (H : W w B z env own m mu s) (h : mu.Perm mu') : W w B z env own m mu' s :=
  { H with muo := fun q hq => H.muo q (h.mem_iff.mpr hq), nd := (h.map _).nodup_iff.mp H.nd }
/-- what was frozen for a while is mutable again -/
theorem W.thaw {a : Addr} {x : MO} {o : Obj} (H₀ : W w B z env own m ((a, x) :: mu) s₀) (ho : s₀.heap.get? a = some o) (H : W w B z' env own m' mu' s) (hz : Le (z.put a o) z') : W w B (z'.del a) env own m' ((a, x) :: mu') s := by
  obtain ⟨hx, hp, hza, hno⟩ := H₀.muo (a, x) (.head _)
  have hz' : z' a = some o := hz a o (PM.put_self _ _ _)
  have hs : s.heap.get? a = some o := H.zin a o hz'
  exact
  { H with
    cov := fun b o' e => by
      rcases H.cov b o' e with h | h
      · exact .inl h
      · by_cases hb : b = a
        · exfalso
          rw [hb] at e
          rcases H₀.cov a o' e with h1 | h1
          · rw [hp] at h1; cases h1
          · rw [hza] at h1; cases h1
        · right; rw [PM.del_ne hb]; exact h
    zin := fun b o' e => H.zin b o' (PM.del_some e).2
    pz := fun b hb => PM.del_none (H.pz b hb)
    ownp := fun b hb => ⟨(H.ownp b hb).1, PM.del_none (H.ownp b hb).2.1, (H.ownp b hb).2.2⟩
    muo := fun q hq => by
      rcases List.mem_cons.mp hq with rfl | hq
      · refine ⟨hx.keep fun o' e => ?_, hp, ?_, hno⟩
        · rw [ho] at e; cases e; exact hs
        · unfold PM.del; rw [if_pos rfl]
      · have h := H.muo q hq
        exact ⟨h.1, h.2.1, PM.del_none h.2.2.1, h.2.2.2⟩
    nd := by
      rw [List.map_cons, List.nodup_cons]
      refine ⟨fun h => ?_, H.nd⟩
      obtain ⟨q, hq, e⟩ := List.mem_map.mp h
      have := (H.muo q hq).2.2.1
      rw [e, hz'] at this; cases this }
theorem d_itemM {value slice : Expr} {a : Addr} {vs : Array Value} {i : Nat} {t : Tok} {v : Value} {Q : Value → Shared → Prop} (H : W w B z env own m mu s) (n : Nat) (hn : mu[n]? = some (a, .lst vs)) (hf : i < 2 ^ 62)
    (hv : vs[i]? = some v) (h : Q v s) (hs : ∃ ops, subscripted slice false (.ref a) (.int (i : Int) t) = operate ops (getItem (.ref a) (.int (i : Int) t))) : Wp w A (subscriptTail value slice (.ref a) (.int (i : Int) t)) Q E s := by
  obtain ⟨ops, hs⟩ := hs
  have hl := (H.plainAt hn).isList
  exact tail_any hl.typeIs slot_list_getitem.lookup (.mk (wpAny_getItem_list hl (by exact Mine.om27) (by exact Mine.om206 hf) (by simpa using hv) h)) hs
theorem d_lenM {a : Addr} {vs : Array Value} {Q : Value → Shared → Prop} (H : W w B z env own m mu s) (n : Nat) (hn : mu[n]? = some (a, .lst vs)) (hf : vs.size ≤ 2 ^ 62) (h : ∀ t s', W w B z env own m mu s' → Q (.int vs.size t) s') :
    Wp w A (call (.builtin "len") [.ref a]) Q E s := .mk (call_len_list (H.plainAt hn).isList (by exact Mine.om239 hf) (h _ _ (H.same rfl rfl rfl)))
theorem d_fdiv {a b : Int} {t u : Tok} {Q : Value → Shared → Prop} (H : W w B z env own m mu s) (hb : 0 < b) (hb' : b < 100) (h : ∀ t s', W w B z env own m mu s' → Q (.int (a.fdiv b) t) s') : Wp w A (binaryOp .FloorDiv (.int a t) (.int b u)) Q E s :=
  .mk (PyProof.Rows.floordiv_int (by exact Mine.om238 hb) (h _ _ (H.same rfl rfl rfl)) (Or.inl (PyProof.noPylong_small (by omega))))
theorem d_chr {i : Int} {t : Tok} {Q : Value → Shared → Prop} (H : W w B z env own m mu s) (h0 : 0 ≤ i) (h1 : i ≤ 0x10FFFF) (h : ∀ t s', W w B z env own m mu s' → Q (.str ⟨#[i.toNat]⟩ t) s') : Wp w A (call (.builtin "chr") [.int i t]) Q E s :=
  .mk (PySem.P.chr_of_int (by rw [decide_eq_false (by exact Mine.om237 h0), decide_eq_false (by exact Mine.om236 h1)]; rfl) (h _ _ (H.same rfl rfl rfl)))
theorem d_inS {x y : Str} {t u : Tok} {Q : Value → Shared → Prop} (h : Q (.bool !(occurrences x y 0 x.length 1).isEmpty) s) : Wp w A (compareOp .In (.str y u) (.str x t)) Q E s := .mk (PyProof.Rows.in_str h)
end

theorem at_grown (w : World) : FnAt w 72 (Str.ofString "_law_grown") [Str.ofString "script"] (bodyOf (stAt 14)) (scopeOf (stAt 14)) where
  fd := ⟨_, _, rfl, rfl, rfl, rfl, rfl, rfl, rfl, by kernel_rfl, ofLen1 (fun _ => rfl)⟩
  par := by decide +kernel
  nd := by decide +kernel
  nnd := by decide +kernel
  cnd := by decide +kernel
  co := by kernel_rfl
  gen := by kernel_rfl
  fn := by kernel_rfl

structure GS where
  ab : List Nat
  fl : List Nat
  ws : List Str
  rg : List Str
  ts : List Str
noncomputable def signF (r : Int) : Str := ⟨#[((r.fdiv 16).fmod 55296).toNat]⟩
noncomputable def safeF (x : Str) : Str := if (!(occurrences (Str.ofString "/=,\"") x 0 (Str.ofString "/=,\"").length 1).isEmpty) = true then Str.ofString "." else x
noncomputable def wordF (r : Int) : Str := (#[Str.ofString "a", Str.ofString "ab", Str.ofString "b", Str.ofString "a" ++ safeF (signF r)][(r.fmod 4).toNat]?).getD sNil
noncomputable def textF (r : Int) : Str := (#[sNil, Str.ofString "\"", Str.ofString "\\", Str.ofString ", " ++ signF r][((r.fdiv 4).fmod 4).toNat]?).getD sNil
noncomputable def nodeF (st : GS) (x : Int) : Nat := if st.fl[(x.fmod st.ab.length).toNat]?.getD 0 = 3 then 0 else (x.fmod st.ab.length).toNat
noncomputable def gstep (st : GS) (x : Int) : GS :=
  let n := st.ab.length
  let nd := nodeF st x
  let r := x.fdiv n
  if ((belowF st.ab nd).filterMap fun k => st.ws[k]?).contains (wordF r) then st
  else { ab := st.ab ++ [nd], fl := st.fl ++ [st.fl[nd]?.getD 0 + 1], ws := st.ws ++ [wordF r], rg := st.rg ++ [(at? st.rg nd ++ Txt.mul sSlash ((1 + n % 3 : Nat) : Int)) ++ wordF r], ts := st.ts ++ [textF r] }
noncomputable def grown (sc : List Int) : GS := sc.foldl gstep ⟨[0], [0], [sNil], [sNil], [sNil]⟩

theorem fmod_nat (x : Int) {n : Nat} (hn : 0 < n) : x.fmod (n : Int) = ((x.fmod (n : Int)).toNat : Int) ∧ (x.fmod (n : Int)).toNat < n := by
  have h1 := Int.fmod_nonneg_of_pos x (show (0 : Int) < n by exact Mine.om235 hn)
  have h2 := Int.fmod_lt_of_pos x (show (0 : Int) < n by exact Mine.om235 hn)
  exact Mine.om234 h1 h2
theorem safe_len (x : Str) (h : x.length = 1) : (safeF x).length = 1 := by
  unfold safeF
  split
  · decide +kernel
  · exact h
theorem four {k : Nat} (h : k < 4) : k = 0 ∨ k = 1 ∨ k = 2 ∨ k = 3 := by exact Mine.om233 h
theorem word_len (r : Int) : (wordF r).length ≤ 2 := by
  have hs := safe_len (signF r) rfl
  have h4 := (fmod_nat r (n := 4) (by decide)).2
  unfold wordF
  rcases four h4 with e | e | e | e <;> (rw [show ((4 : Nat) : Int) = 4 from rfl] at e; rw [e])
  · show (Str.ofString "a").length ≤ 2; decide +kernel
  · show (Str.ofString "ab").length ≤ 2; decide +kernel
  · show (Str.ofString "b").length ≤ 2; decide +kernel
  · show (Str.ofString "a" ++ safeF (signF r)).length ≤ 2
    rw [Str.length_append, hs]
    have : (Str.ofString "a").length = 1 := by decide +kernel
    exact Mine.om232 this
theorem text_len (r : Int) : (textF r).length ≤ 3 := by
  have h4 := (fmod_nat (r.fdiv 4) (n := 4) (by decide)).2
  unfold textF
  rcases four h4 with e | e | e | e <;> (rw [show ((4 : Nat) : Int) = 4 from rfl] at e; rw [e])
  · show sNil.length ≤ 3; decide +kernel
  · show (Str.ofString "\"").length ≤ 3; decide +kernel
  · show (Str.ofString "\\").length ≤ 3; decide +kernel
  · show (Str.ofString ", " ++ signF r).length ≤ 3
    rw [Str.length_append, show (signF r).length = 1 from rfl]
    have : (Str.ofString ", ").length = 2 := by decide +kernel
    exact Mine.om231 this

/-- what holds of the lists all along -/
structure GI (st : GS) : Prop where
  pos : 0 < st.ab.length
  fl : st.fl.length = st.ab.length
  ws : st.ws.length = st.ab.length
  rg : st.rg.length = st.ab.length
  ts : st.ts.length = st.ab.length
  rl : ∀ r ∈ st.rg, r.length ≤ 6 * st.ab.length
theorem GI.node {st : GS} (h : GI st) (x : Int) : nodeF st x < st.ab.length := by
  unfold nodeF; split
  · exact h.pos
  · exact (fmod_nat x h.pos).2
theorem mul_len (n : Nat) (h : n ≤ 3) : (Txt.mul sSlash (n : Int)).length ≤ 3 := by
  have : n = 0 ∨ n = 1 ∨ n = 2 ∨ n = 3 := by exact Mine.om230 h
  rcases this with rfl | rfl | rfl | rfl <;> decide +kernel
theorem GI.step {st : GS} (h : GI st) (x : Int) : GI (gstep st x) ∧ (gstep st x).ab.length ≤ st.ab.length + 1 := by
  unfold gstep
  dsimp only
  split
  · exact ⟨h, by exact Mine.om97⟩
  · refine ⟨⟨by simp, by simp [h.fl], by simp [h.ws], by simp [h.rg], by simp [h.ts], fun r hr => ?_⟩, by simp⟩
    rw [List.length_append, List.length_singleton]
    rcases List.mem_append.mp hr with hr | hr
    · have := h.rl r hr; exact Mine.om229 this
    · rw [List.mem_singleton.mp hr, Str.length_append, Str.length_append]
      have h1 := at_len (k := nodeF st x) h.rl
      have h2 := word_len (x.fdiv st.ab.length)
      have h3 := mul_len (1 + st.ab.length % 3) (by exact Mine.om228)
      exact Mine.om227 h1 h2 h3
noncomputable def RG4 : Rep GS := fun z v st => ∃ T a b c d, v = .ref T ∧ IsT z T #[a, b, c, d] ∧ Rlist Rnat z a st.ab ∧ Rlist Rstr z b st.ws ∧ Rlist Rstr z c st.rg ∧ Rlist Rstr z d st.ts
structure GM (aA aF aW aR aT : Addr) (st : GS) (z : PM) (m : Str → Option Value) (mu : List (Addr × MO)) : Prop where
  A : m (Str.ofString "above") = some (.ref aA)
  F : m (Str.ofString "floors") = some (.ref aF)
  W : m (Str.ofString "words") = some (.ref aW)
  R : m (Str.ofString "rough") = some (.ref aR)
  T : m (Str.ofString "texts") = some (.ref aT)
  mu : ∃ vA vF vW vR vT, mu = [(aT, .lst vT), (aR, .lst vR), (aW, .lst vW), (aF, .lst vF), (aA, .lst vA)] ∧ All2 (Rnat z) vA.toList st.ab ∧ All2 (Rnat z) vF.toList st.fl ∧ All2 (Rstr z) vW.toList st.ws ∧ All2 (Rstr z) vR.toList st.rg ∧ All2 (Rstr z) vT.toList st.ts
theorem GM.put {aA aF aW aR aT : Addr} {st : GS} {z : PM} {m m' : Str → Option Value} {mu : List (Addr × MO)} (h : GM aA aF aW aR aT st z m mu) {x : Str} (k : ∀ y u, y ≠ x → m y = u → m' y = u)
    (hx : ∀ y ∈ [Str.ofString "above", Str.ofString "floors", Str.ofString "words", Str.ofString "rough", Str.ofString "texts"], y ≠ x) : GM aA aF aW aR aT st z m' mu :=
  ⟨k _ _ (hx _ (.head _)) h.A, k _ _ (hx _ (.tail _ (.head _))) h.F, k _ _ (hx _ (.tail _ (.tail _ (.head _)))) h.W, k _ _ (hx _ (.tail _ (.tail _ (.tail _ (.head _))))) h.R, k _ _ (hx _ (.tail _ (.tail _ (.tail _ (.tail _ (.head _)))))) h.T, h.mu⟩
end Mine
end
section
open PySem PySem.W PySem.Calls PyProof.Rows PySem.Spec PySem.Builtin PySem.Builtin.Str
set_option Elab.async false
set_option maxRecDepth 100000
set_option linter.unusedVariables false
namespace Mine
theorem grown_ok {w : World} {A : Around} {s : Shared} {z : PM} {vs : Value} {sc : List Int} {Q : Value → Shared → Prop} {E : Value → Shared → Prop} (G : Sit w z s) (R : Rm A 6) (hv : Rlist Rint z vs sc) (hl : sc.length ≤ 14)
    (h : ∀ r z' s', Nx z s z' s' → RG4 z' r (grown sc) → Q r s') : Wp w A (call (.ref 72) [vs]) Q E s := by
  obtain ⟨sa, svs, rfl, hsa, hsv'⟩ := hv
  refine go (at_grown w) G R rfl fun A' env own m s' R' H hsv hgl hm hsc => post fun Q₁ fin₁ => ?_
  have vS := hsv (Str.ofString "script") (.inl (by kernel_rfl))
  have vA := hsv (Str.ofString "above") (.inl (by kernel_rfl))
  have vF := hsv (Str.ofString "floors") (.inl (by kernel_rfl))
  have vW := hsv (Str.ofString "words") (.inr (by kernel_rfl))
  have vR := hsv (Str.ofString "rough") (.inl (by kernel_rfl))
  have vT := hsv (Str.ofString "texts") (.inl (by kernel_rfl))
  have vX := hsv (Str.ofString "x") (.inl (by kernel_rfl))
  have vN := hsv (Str.ofString "node") (.inl (by kernel_rfl))
  have vQ := hsv (Str.ofString "rest") (.inl (by kernel_rfl))
  have vG := hsv (Str.ofString "sign") (.inl (by kernel_rfl))
  have vD := hsv (Str.ofString "word") (.inl (by kernel_rfl))
  have mS : m (Str.ofString "script") = some (.ref sa) := hm (_, _) (.head _)
  have gL := hgl (Str.ofString "len") (by kernel_rfl)
  have gC := hgl (Str.ofString "chr") (by kernel_rfl)
  have gB := hgl (Str.ofString "_law_below") (by kernel_rfl)
  have cW := cell_of hsc (x := Str.ofString "words") (by kernel_rfl) vW
  clear hsv hgl hm hsc
  -- the five lists
  refine x_setT (e_tupZ H (a_cons (e_listM H (a_one (e_int H fun t₁ s₁ H => ⟨by rw [sizeLine_eq]; simp, z, _, _, H, fun aA s₂ H => ?_⟩)))))
  refine a_cons (e_listM H (a_one (e_int H fun t₂ s₃ H => ⟨by rw [sizeLine_eq]; simp, z, _, _, H, fun aF s₄ H => ?_⟩)))
  refine a_cons (e_listM H (a_one (e_str H fun t₃ s₅ H => ⟨by rw [sizeLine_eq]; simp, z, _, _, H, fun aW s₆ H => ?_⟩)))
  refine a_cons (e_listM H (a_one (e_str H fun t₄ s₇ H => ⟨by rw [sizeLine_eq]; simp, z, _, _, H, fun aR s₈ H => ?_⟩)))
  refine a_one (e_listM H (a_one (e_str H fun t₅ s₉ H => ⟨by rw [sizeLine_eq]; simp, z, _, _, H, fun aT s₁₀ H => ⟨by rw [sizeLine_eq]; simp, z, _, _, H, fun tu z₁ s₁₁ hz₁ htu H => ?_⟩⟩)))
  refine g_tuple H R'.hh htu rfl fun s₁₂ H => i_cons (x_assignG H vA fun ma ka mA s₁₃ H => i_cons (x_assignG H vF fun mb kb mF s₁₄ H => i_cons (x_assignG H vW fun mc kc mW s₁₅ H => i_cons (x_assignG H vR fun md kd mR s₁₆ H => i_cons (x_assignG H vT fun m₀ ke mT s₁₇ H => i_nil ?_)))))
  have M0 : GM aA aF aW aR aT ⟨[0], [0], [sNil], [sNil], [sNil]⟩ z₁ m₀ [(aT, .lst #[.str (Str.ofString "") t₅]), (aR, .lst #[.str (Str.ofString "") t₄]), (aW, .lst #[.str (Str.ofString "") t₃]), (aF, .lst #[.int 0 t₂]), (aA, .lst #[.int 0 t₁])] :=
    ⟨ke _ _ (by decide +kernel) (kd _ _ (by decide +kernel) (kc _ _ (by decide +kernel) (kb _ _ (by decide +kernel) mA))), ke _ _ (by decide +kernel) (kd _ _ (by decide +kernel) (kc _ _ (by decide +kernel) mF)), ke _ _ (by decide +kernel) (kd _ _ (by decide +kernel) mW), ke _ _ (by decide +kernel) mR, mT,
      _, _, _, _, _, rfl, ⟨⟨t₁, rfl⟩, trivial⟩, ⟨⟨t₂, rfl⟩, trivial⟩, ⟨⟨t₃, rfl⟩, trivial⟩, ⟨⟨t₄, rfl⟩, trivial⟩, ⟨⟨t₅, rfl⟩, trivial⟩⟩
  have mS := ke _ _ (by decide +kernel) (kd _ _ (by decide +kernel) (kc _ _ (by decide +kernel) (kb _ _ (by decide +kernel) (ka _ _ (by decide +kernel) mS))))
  have esv : svs.size = sc.length := by rw [← hsv'.length]; simp
  refine x_for H (e_var H vS.var mS (i_list H R'.hh (hsa.mono hz₁) fun I s₁₈ H IT => forI H IT
    (fun i z' m mu => Le z₁ z' ∧ GM aA aF aW aR aT ((sc.take i).foldl gstep ⟨[0], [0], [sNil], [sNil], [sNil]⟩) z' m mu ∧ GI ((sc.take i).foldl gstep ⟨[0], [0], [sNil], [sNil], [sNil]⟩) ∧ ((sc.take i).foldl gstep ⟨[0], [0], [sNil], [sNil], [sNil]⟩).ab.length ≤ i + 1)
    ⟨Le.refl _, M0, ⟨by show 0 < 1; decide, rfl, rfl, rfl, rfl, fun r hr => by rw [List.mem_singleton.mp hr]; show sNil.length ≤ 6 * 1; decide +kernel⟩, Nat.le_refl _⟩ ?_ ?_))
  · intro i v z₂ m₂ mu₂ B₂ s₁₉ E' hi hP hJ H
    dsimp only
    refine turnQ fun Q₀ fin => ?_
    obtain ⟨hz₂, M, gi, hn⟩ := hJ
    obtain ⟨x, hx, t, rfl⟩ := hsv'.get' (i := i) (a := v) (by simpa using hP)
    have hfold : (sc.take (i + 1)).foldl gstep ⟨[0], [0], [sNil], [sNil], [sNil]⟩ = gstep ((sc.take i).foldl gstep ⟨[0], [0], [sNil], [sNil], [sNil]⟩) x := foldl_take_succ _ _ _ _ _ hx
    rw [hfold] at fin
    generalize (sc.take i).foldl gstep ⟨[0], [0], [sNil], [sNil], [sNil]⟩ = st at M gi hn fin
    have hi14 : i < 14 := by exact Mine.om261 hl esv hi
    obtain ⟨giS, hnS⟩ := gi.step x
    refine x_assignG H vX fun m₃ k mX s₂₀ H => ?_
    have M := M.put k (by decide +kernel)
    obtain ⟨vA', vF', vW', vR', vT', hmu, hA, hF, hW, hR, hT⟩ := M.mu
    have i4 : mu₂[4]? = some (aA, .lst vA') := by rw [hmu]; rfl
    have eA : vA'.size = st.ab.length := by rw [← hA.length]; simp
    have eF : vF'.size = st.ab.length := by rw [← gi.fl, ← hF.length]; simp
    have eW : vW'.size = st.ab.length := by rw [← gi.ws, ← hW.length]; simp
    have eR : vR'.size = st.ab.length := by rw [← gi.rg, ← hR.length]; simp
    have eT : vT'.size = st.ab.length := by rw [← gi.ts, ← hT.length]; simp
    have hpos := gi.pos
    -- node = x % len(above)
    refine x_set (e_bin (e_var H vX.var mX (e_bcall (.builtin "len") H gL (a_one (e_var H vA.var M.A (d_lenM H 4 i4 (by exact Mine.om251 hn hi14 eA) fun t₆ s₂₁ H => d_mod H (by exact Mine.om260 eA hpos) fun t₇ s₂₂ H => x_storeG H vN fun m₄ k mN s₂₃ H => ?_))))))
    rw [eA] at mN
    have M := M.put k (by decide +kernel)
    have mX := k _ _ (by decide +kernel) mX
    -- rest = x // len(above)
    refine x_set (e_bin (e_var H vX.var mX (e_bcall (.builtin "len") H gL (a_one (e_var H vA.var M.A (d_lenM H 4 i4 (by exact Mine.om251 hn hi14 eA) fun t₈ s₂₄ H => d_fdiv H (by exact Mine.om259 eA hpos) (by exact Mine.om258 hn hi14 eA) fun t₉ s₂₅ H => x_storeG H vQ fun m₅ k mQ s₂₆ H => ?_))))))
    rw [eA] at mQ
    generalize hrd : x.fdiv st.ab.length = r at mQ
    have M := M.put k (by decide +kernel)
    have mN := k _ _ (by decide +kernel) mN
    obtain ⟨hmod, hlt⟩ := fmod_nat x hpos
    -- what comes behind the choice of the place
    have behind : ∀ (m₆ : Str → Option Value) (s₂₇ : Shared) (tn : Tok), W w B₂ z₂ env own m₆ mu₂ s₂₇ →
        GM aA aF aW aR aT st z₂ m₆ mu₂ → m₆ (Str.ofString "rest") = some (.int r t₉) → m₆ (Str.ofString "node") = some (.int (nodeF st x : Nat) tn) →
        Wp w A' (execs ((bodyFor (nthS (bodyOf (stAt 14)) 1)).drop 3) env) Q₀ E' s₂₇ := by
      intro m₆ s₂₇ tn H M mQ mN
      have hnd := gi.node x
      -- sign
      refine x_set (e_bcall (.builtin "chr") H gC (a_one (e_bin (e_bin (e_var H vQ.var mQ (e_int H fun t₁₀ s₂₈ H => d_fdiv H (by decide) (by decide) fun t₁₁ s₂₉ H => e_int H fun t₁₂ s₃₀ H => d_mod H (by decide) fun t₁₃ s₃₁ H => ?_))))))
      have hs1 := (fmod_nat (r.fdiv 16) (n := 55296) (by decide))
      rw [show ((55296 : Nat) : Int) = 55296 from rfl] at hs1
      refine d_chr H (by exact Mine.om257 hs1) (by exact Mine.om256 hs1) fun t₁₄ s₃₂ H => x_storeG H vG fun m₇ k mG s₃₃ H => ?_
      have M := M.put k (by decide +kernel)
      have mQ := k _ _ (by decide +kernel) mQ
      have mN := k _ _ (by decide +kernel) mN
      have mG : m₇ (Str.ofString "sign") = some (.str (signF r) t₁₄) := mG
      have hsl : (signF r).length = 1 := rfl
      -- word
      obtain ⟨hq, hq4⟩ := fmod_nat r (n := 4) (by decide)
      rw [show ((4 : Nat) : Int) = 4 from rfl] at hq hq4
      refine x_set (e_sub (e_listZ H (a_cons (e_str H fun w₁ s₃₄ H => a_cons (e_str H fun w₂ s₃₅ H => a_cons (e_str H fun w₃ s₃₆ H => a_one (e_bin (e_str H fun w₄ s₃₇ H => Wp.mono (Q := fun v s' => ∃ t', v = .str (safeF (signF r)) t' ∧ W w B₂ z₂ env own m₇ mu₂ s') ?_ fun v s₃₈ q => ?_))))))))
      · refine e_ifexp (t_cmp (e_var H vG.var mG (e_str H fun t₁₅ s₃₈ H => d_inS ⟨_, rfl, fun hb => ?_, fun hb => ?_⟩)))
        · refine e_str H fun t₁₆ s₃₉ H => ⟨t₁₆, ?_, H⟩
          unfold safeF; rw [if_pos hb]
        · refine e_var H vG.var mG ⟨t₁₄, ?_, H⟩
          unfold safeF; rw [if_neg (by rw [hb]; decide)]
      obtain ⟨w₅, rfl, H⟩ := q
      have hsf := safe_len (signF r) hsl
      refine d_addS H (by rw [hsf, sizeLine_eq]; decide +kernel) fun w₆ s₃₉ H => ⟨by rw [sizeLine_eq]; simp, z₂, _, _, H, fun aw z₃ s₄₀ hz₃ haw H => ?_⟩
      refine e_bin (e_var H vQ.var mQ (e_int H fun t₁₇ s₄₁ H => d_mod H (by decide) fun t₁₈ s₄₂ H => ?_))
      rw [hq]
      have hwd : ∃ tw, (#[Value.str (Str.ofString "a") w₁, .str (Str.ofString "ab") w₂, .str (Str.ofString "b") w₃, .str (Str.ofString "a" ++ safeF (signF r)) w₆] : Array Value)[(r.fmod 4).toNat]? = some (.str (wordF r) tw) := by
        unfold wordF
        rcases four hq4 with e | e | e | e <;> rw [e]
        · exact ⟨w₁, rfl⟩
        · exact ⟨w₂, rfl⟩
        · exact ⟨w₃, rfl⟩
        · exact ⟨w₆, rfl⟩
      obtain ⟨tw, hwd⟩ := hwd
      refine d_item0 H haw (by exact Mine.om246 hq4) hwd (x_storeG H vD fun m₈ k mD s₄₃ H => ?_) ⟨_, by with_unfolding_all rfl⟩
      have M' := M.put k (by decide +kernel)
      have M : GM aA aF aW aR aT st z₃ m₈ mu₂ := ⟨M'.A, M'.F, M'.W, M'.R, M'.T, _, _, _, _, _, hmu, hA, hF, hW, hR, hT⟩
      have mQ := k _ _ (by decide +kernel) mQ
      have mN := k _ _ (by decide +kernel) mN
      have mG := k _ _ (by decide +kernel) mG
      have hwl := word_len r
      have hgs : gstep st x = if ((belowF st.ab (nodeF st x)).filterMap fun k => st.ws[k]?).contains (wordF r) then st
          else { ab := st.ab ++ [nodeF st x], fl := st.fl ++ [st.fl[nodeF st x]?.getD 0 + 1], ws := st.ws ++ [wordF r], rg := st.rg ++ [(at? st.rg (nodeF st x) ++ Txt.mul sSlash ((1 + st.ab.length % 3 : Nat) : Int)) ++ wordF r], ts := st.ts ++ [textF r] } := by rw [← hrd]; rfl
      generalize hnode : nodeF st x = nd at hnd mN hgs
      have hz₁₃ := hz₂.trans hz₃
      subst hmu
      -- words and above are held still for a while
      have Hp := H.perm (List.perm_middle (l₁ := [(aT, MO.lst vT'), (aR, MO.lst vR')]) (a := (aW, MO.lst vW')) (l₂ := [(aF, MO.lst vF'), (aA, MO.lst vA')]))
      obtain ⟨oW, eoW, hlW, _, HW⟩ := Hp.freeze
      have lW := IsL.of_heap hlW eoW (z := z₃)
      have HWp := HW.perm (List.perm_middle (l₁ := [(aT, MO.lst vT'), (aR, MO.lst vR'), (aF, MO.lst vF')]) (a := (aA, MO.lst vA')) (l₂ := []))
      obtain ⟨oA, eoA, hlA, hzA, HA⟩ := HWp.freeze
      have lA := IsL.of_heap hlA eoA (z := z₃.put aW oW)
      have lW := lW.mono hzA
      have hbl : ∀ k ∈ belowF st.ab nd, 0 < k ∧ k < st.ab.length ∧ st.ab[k]? = some nd := fun k hk => below_lt hk
      have hbll := below_len st.ab nd
      refine x_if (t_cmp (e_var HA vD.var mD (e_comp HA ⟨by decide +kernel, rfl, by decide +kernel⟩ (free_of [Str.ofString "words"] (by decide +kernel) (all_cons cW all_nil)) (e_gcall (.ref 67) HA gB (a_cons (e_var HA vA.var M.A (a_one (e_var HA vN.var mN ⟨HA.gd', ?_⟩))))))))
      refine below_ok HA.sit (R'.le (by exact Mine.om255)) ⟨aA, vA', rfl, lA, hA⟩ ⟨tn, rfl⟩ (by exact Mine.om254 hn hi14) fun rb z₄ s₄₄ N hb => ?_
      have HN := HA.nx N
      obtain ⟨b, us, rfl, hbL, hus⟩ := hb
      have eus : us.size = (belowF st.ab nd).length := by rw [← hus.length]; simp
      have lW := lW.mono N.zz
      refine i_list HN R'.hh hbL fun I s₄₅ H IT => compI H IT (by rw [sizeLine_eq]; exact Mine.om253 hn hi14 hbll eus) (Rr Rstr (fun i => (belowF st.ab nd)[i]?.bind fun k => st.ws[k]?)) (Rr.mono mono_str) ?_ ?_
      · intro j v z₅ B₁ C cenv mc s₁ E'' hj hP hz₅ H CE
        refine turnC fun Q₂ fin₂ => ?_
        obtain ⟨k, hk, t', rfl⟩ := hus.get' (i := j) (a := v) (by simpa using hP)
        have vK := CE.loc (Str.ofString "k") (by kernel_rfl)
        have cW := CE.cap (Str.ofString "words") (by kernel_rfl)
        have hkl := (hbl k (List.mem_of_getElem? hk)).2.1
        have hwk : st.ws[k]? = some (st.ws[k]'(by rw [gi.ws]; exact hkl)) := List.getElem?_eq_getElem _
        refine x_assignN H vK fun s₂ H => ?_
        refine e_sub (e_var H cW.1 (upd_get (by decide +kernel) (cW.2.trans M.W)) (e_var H vK.var (upd_self _ _ _) (d_item (R := Rstr) H ⟨aW, vW', rfl, lW.mono hz₅, hW⟩ ⟨t', rfl⟩ hwk (by rw [gi.ws]; exact Mine.om252 hn hi14) fun y hy => ?_)))
        exact fin₂ _ _ ⟨z₅, _, _, H, Le.refl _, Rr_some (by rw [hk, Option.bind_some]; exact hwk) hy⟩
      · intro z₅ s₄₆ D ys opts H hz₅ hlen' hops hys
        have hvals : All2 (Rstr z₅) ys.toList ((belowF st.ab nd).filterMap fun k => st.ws[k]?) := comp_vals (hlen'.trans eus) hops hys
        -- and let go again
        have hz₆ := N.zz.trans hz₅
        have H1 := HWp.thaw eoA H hz₆
        have le1 := PM.del_le (HWp.muo _ (.head _)).2.2.1 hz₆
        have H2 := Hp.thaw eoW H1 le1
        have le2 := PM.del_le (Hp.muo _ (.head _)).2.2.1 le1
        have H := H2.perm (((List.perm_middle (l₁ := [(D, MO.lst ys), (aT, MO.lst vT'), (aR, MO.lst vR'), (aF, MO.lst vF')]) (a := (aA, MO.lst vA')) (l₂ := [])).symm.cons (aW, MO.lst vW')).trans
          (List.perm_middle (l₁ := [(D, MO.lst ys), (aT, MO.lst vT'), (aR, MO.lst vR')]) (a := (aW, MO.lst vW')) (l₂ := [(aF, MO.lst vF'), (aA, MO.lst vA')])).symm)
        have H : W w B₂ ((z₅.del aA).del aW) env own m₈ [(D, MO.lst ys), (aT, MO.lst vT'), (aR, MO.lst vR'), (aW, MO.lst vW'), (aF, MO.lst vF'), (aA, MO.lst vA')] s₄₆ := H
        generalize (z₅.del aA).del aW = z₆ at H le2
        have lez := hz₃.trans le2
        refine d_notinS (H.plainAt (i := 0) rfl) hvals ⟨_, rfl, fun hb1 => ?_, fun hb0 => ?_⟩
        · have hc : ¬ ((belowF st.ab nd).filterMap fun k => st.ws[k]?).contains (wordF r) = true := by simpa using hb1
          rw [if_neg hc] at hgs
          rw [hgs] at giS hnS fin
          have H := H.drop
          -- rough
          have hrk : vR'[nd]? = some (vR'[nd]'(by exact Mine.om16 eR hnd)) := Array.getElem?_eq_getElem _
          obtain ⟨rk, hrk2, tr, hre⟩ := hR.get' (i := nd) (a := vR'[nd]'(by exact Mine.om16 eR hnd)) (by rw [Array.getElem?_toList]; exact hrk)
          rw [hre] at hrk
          have hrkl : rk.length ≤ 6 * st.ab.length := gi.rl rk (List.mem_of_getElem? hrk2)
          have hat : at? st.rg nd = rk := by unfold at?; rw [hrk2]; rfl
          refine x_append 1 H vR.var M.R rfl (e_bin (e_bin (e_sub (e_var H vR.var M.R (e_var H vN.var mN (d_itemM H 1 rfl (by exact Mine.om245 hn hi14 hnd) hrk (e_bin (e_str H fun u₁ s₄₇ H => e_bin (e_int H fun u₂ s₄₈ H => e_bin (e_bcall (.builtin "len") H gL (a_one (e_var H vA.var M.A (d_lenM H 4 rfl (by exact Mine.om251 hn hi14 eA) fun u₃ s₄₉ H => e_int H fun u₄ s₅₀ H => d_modN (b := 3) H (by decide) fun u₅ s₅₁ H => d_addI H fun u₆ s₅₂ H => ?_))))))) ⟨_, by with_unfolding_all rfl⟩))))))
          rw [eA, show (1 : Int) + ((st.ab.length % 3 : Nat) : Int) = ((1 + st.ab.length % 3 : Nat) : Int) by exact Mine.om250]
          have hml := mul_len (1 + st.ab.length % 3) (by exact Mine.om228)
          refine d_mulS H (by decide +kernel) (by exact Mine.om249) fun u₇ s₅₃ H => d_addS H (by rw [sizeLine_eq]; show rk.length + (Txt.mul sSlash ((1 + st.ab.length % 3 : Nat) : Int)).length ≤ _; exact Mine.om248 hn hi14 hrkl hml) fun u₈ s₅₄ H => e_var H vD.var mD (d_addS H (by rw [Str.length_append, sizeLine_eq]; show rk.length + (Txt.mul sSlash ((1 + st.ab.length % 3 : Nat) : Int)).length + _ ≤ _; exact Mine.om247 hn hi14 hwl hrkl hml) fun u₉ s₅₅ H => ?_)
          refine ⟨z₆, _, _, 1, vR', H, rfl, by rw [sizeLine_eq]; exact Mine.om244 hn hi14 eR, fun s₅₆ H => ?_⟩
          -- texts
          refine x_append 0 H vT.var M.T rfl (e_sub (e_listZ H (a_cons (e_str H fun y₁ s₅₇ H => a_cons (e_str H fun y₂ s₅₈ H => a_cons (e_str H fun y₃ s₅₉ H => a_one (e_bin (e_str H fun y₄ s₆₀ H => e_var H vG.var mG (d_addS H (by rw [hsl, sizeLine_eq]; decide +kernel) fun y₅ s₆₁ H => ⟨by rw [sizeLine_eq]; simp, z₆, _, _, H, fun al z₇ s₆₂ hz₇ hal H => ?_⟩)))))))))
          refine e_bin (e_bin (e_var H vQ.var mQ (e_int H fun y₆ s₆₃ H => d_fdiv H (by decide) (by decide) fun y₇ s₆₄ H => e_int H fun y₈ s₆₅ H => d_mod H (by decide) fun y₉ s₆₆ H => ?_)))
          obtain ⟨hq', hq4'⟩ := fmod_nat (r.fdiv 4) (n := 4) (by decide)
          rw [show ((4 : Nat) : Int) = 4 from rfl] at hq' hq4'
          rw [hq']
          have htx : ∃ tw, (#[Value.str (Str.ofString "") y₁, .str (Str.ofString "\"") y₂, .str (Str.ofString "\\") y₃, .str (Str.ofString ", " ++ signF r) y₅] : Array Value)[((r.fdiv 4).fmod 4).toNat]? = some (.str (textF r) tw) := by
            unfold textF
            rcases four hq4' with e | e | e | e <;> rw [e]
            · exact ⟨y₁, rfl⟩
            · exact ⟨y₂, rfl⟩
            · exact ⟨y₃, rfl⟩
            · exact ⟨y₅, rfl⟩
          obtain ⟨tx', htx⟩ := htx
          refine d_item0 H hal (by exact Mine.om246 hq4') htx ⟨z₇, _, _, 0, vT', H, rfl, by rw [sizeLine_eq]; exact Mine.om244 hn hi14 eT, fun s₆₇ H => ?_⟩ ⟨_, by with_unfolding_all rfl⟩
          -- above
          refine x_append 4 H vA.var M.A rfl (e_var H vN.var mN ⟨z₇, _, _, 4, vA', H, rfl, by rw [sizeLine_eq]; exact Mine.om244 hn hi14 eA, fun s₆₈ H => ?_⟩)
          -- floors
          have hfk : vF'[nd]? = some (vF'[nd]'(by exact Mine.om16 eF hnd)) := Array.getElem?_eq_getElem _
          obtain ⟨fk, hfk2, tf, hfe⟩ := hF.get' (i := nd) (a := vF'[nd]'(by exact Mine.om16 eF hnd)) (by rw [Array.getElem?_toList]; exact hfk)
          rw [hfe] at hfk
          refine x_append 3 H vF.var M.F rfl (e_bin (e_sub (e_var H vF.var M.F (e_var H vN.var mN (d_itemM H 3 rfl (by exact Mine.om245 hn hi14 hnd) hfk (e_int H fun g₁ s₆₉ H => d_addI H fun g₂ s₇₀ H => ⟨z₇, _, _, 3, vF', H, rfl, by rw [sizeLine_eq]; exact Mine.om244 hn hi14 eF, fun s₇₁ H => ?_⟩) ⟨_, by with_unfolding_all rfl⟩)))))
          -- words
          refine x_append 2 H vW.var M.W rfl (e_var H vD.var mD ⟨z₇, _, _, 2, vW', H, rfl, by rw [sizeLine_eq]; exact Mine.om244 hn hi14 eW, fun s₇₂ H => x_nil (fin _ _ ⟨.inl rfl, z₇, _, _, H, lez.trans hz₇, hz₂.trans (lez.trans hz₇), ⟨M.A, M.F, M.W, M.R, M.T, _, _, _, _, _, rfl, ?_, ?_, ?_, ?_, ?_⟩, giS, by exact Mine.om243 hn hnS⟩)⟩)
          · rw [Array.toList_push]; exact All2.snoc (hA.mono fun _ _ q => q) ⟨tn, rfl⟩
          · rw [Array.toList_push]; refine All2.snoc (hF.mono fun _ _ q => q) ⟨g₂, ?_⟩
            rw [hfk2]; show Value.int ((fk : Int) + 1) g₂ = Value.int ((fk + 1 : Nat) : Int) g₂
            rw [Int.natCast_add]; rfl
          · rw [Array.toList_push]; exact All2.snoc (hW.mono fun _ _ q => q) ⟨tw, rfl⟩
          · rw [Array.toList_push]; refine All2.snoc (hR.mono fun _ _ q => q) ⟨u₉, ?_⟩
            rw [hat]
          · rw [Array.toList_push]; exact All2.snoc (hT.mono fun _ _ q => q) ⟨tx', rfl⟩
        · have hc : ((belowF st.ab nd).filterMap fun k => st.ws[k]?).contains (wordF r) = true := by simpa using hb0
          rw [if_pos hc] at hgs
          rw [hgs] at giS hnS fin
          have H := H.drop
          exact x_nil (fin _ _ ⟨.inl rfl, z₆, _, _, H, lez, hz₂.trans lez, ⟨M.A, M.F, M.W, M.R, M.T, _, _, _, _, _, rfl, hA.mono fun _ _ q => q, hF.mono fun _ _ q => q, hW.mono fun _ _ q => q, hR.mono fun _ _ q => q, hT.mono fun _ _ q => q⟩, giS, by exact Mine.om242 hn⟩)
    -- if floors[node] == 3
    rw [hmod] at mN
    have hfl : vF'[(x.fmod st.ab.length).toNat]? = some (vF'[(x.fmod st.ab.length).toNat]'(by exact Mine.om241 eF hlt)) := Array.getElem?_eq_getElem _
    obtain ⟨fl, hfl2, hfl3⟩ := hF.get' (i := (x.fmod st.ab.length).toNat) (a := vF'[(x.fmod st.ab.length).toNat]'(by exact Mine.om241 eF hlt)) (by rw [Array.getElem?_toList]; exact hfl)
    obtain ⟨tf, hfe⟩ := hfl3
    rw [hfe] at hfl
    refine x_if (t_cmp (e_sub (e_var H vF.var M.F (e_var H vN.var mN (d_itemM H 3 (by rw [hmu]; rfl) (by exact Mine.om240 hn hi14 hlt) hfl (e_int H fun t₁₀ s₂₇ H => d_eqN (b := 3) ⟨_, rfl, fun hb => ?_, fun hb => ?_⟩) ⟨_, by with_unfolding_all rfl⟩)))))
    · have h3 : fl = 3 := by simpa using hb
      refine x_set (e_int H fun t₁₁ s₂₈ H => x_storeG H vN fun m₆ k mN s₂₉ H => behind _ _ t₁₁ H (M.put k (by decide +kernel)) (k _ _ (by decide +kernel) mQ) ?_)
      rw [mN, nodeF, hfl2, h3]; rfl
    · have h3 : ¬ fl = 3 := by simpa using hb
      refine behind _ _ t₇ H M mQ ?_
      rw [mN, nodeF, hfl2, Option.getD_some, if_neg h3]
  · intro z' m' mu' s₅ H hJ
    obtain ⟨hz', M, gi, hn⟩ := hJ
    rw [esv, List.take_length] at M gi hn
    obtain ⟨vA', vF', vW', vR', vT', rfl, hA, hF, hW, hR, hT⟩ := M.mu
    obtain ⟨za, ha, la, H⟩ := H.freezeL
    obtain ⟨zb, hb, lb, H⟩ := H.freezeL
    obtain ⟨zc, hc, lc, H⟩ := H.freezeL
    have H := H.drop
    obtain ⟨zd, hd, ld, H⟩ := H.freezeL
    refine x_ret (e_tupZ H (a_cons (e_var H vA.var M.A (a_cons (e_var H vW.var M.W (a_cons (e_var H vR.var M.R (a_one (e_var H vT.var M.T ⟨by rw [sizeLine_eq]; simp, zd, _, _, H, fun tt ze s₆ he htt H => ?_⟩)))))))))
    refine fin₁ _ _ (h _ _ _ (H.back G) ⟨tt, _, _, _, _, rfl, htt, ⟨aA, vA', rfl, ld.mono he, ?_⟩, ⟨aW, vW', rfl, lc.mono (hd.trans he), ?_⟩, ⟨aR, vR', rfl, lb.mono (hc.trans (hd.trans he)), ?_⟩, ⟨aT, vT', rfl, la.mono (hb.trans (hc.trans (hd.trans he))), ?_⟩⟩)
    · exact hA.mono fun _ _ q => q
    · exact hW.mono fun _ _ q => q
    · exact hR.mono fun _ _ q => q
    · exact hT.mono fun _ _ q => q
end Mine
end
section
open PySem PySem.W PySem.Calls PyProof.Rows PySem.Spec
set_option Elab.async false
set_option maxRecDepth 100000
set_option linter.unusedVariables false
namespace Mine
section
variable {w : World} {B : Bs} {z z' : PM} {env : Env} {own : List Addr} {m m' : Str → Option Value} {mu mu' : List (Addr × MO)} {s s' s₀ : Shared} {A : Around} {E : Value → Shared → Prop} {k : Nat} {xs : List Addr}

/-- into a comprehension's block, with one mutable object -/
theorem W.innerD {cenv : Env} {C : Addr} {mc : Str → Option Value} {q : Addr × MO} (H : W w B z env own m (q :: mu) s) (Hi : W w (B.plus s xs) z cenv [C] mc [] s) (hq : q.1 ∉ xs) (hC : q.1 ≠ C) : W w (B.plus s xs) z cenv [C] mc [q] s :=
  { Hi with
    muo := fun p hp => by
      rw [List.mem_singleton.mp hp]
      have h := H.muo q (.head _)
      exact ⟨h.1, by rw [plus_out hq]; exact h.2.1, h.2.2.1, fun c => hC (List.mem_singleton.mp c)⟩
    nd := by simp }
/-- and out of it -/
theorem W.outerD {cenv : Env} {C : Addr} {mc : Str → Option Value} {q : Addr × MO} {x' : MO} {mu'' : List (Addr × MO)} (H₀ : W w B z env own m (q :: mu) s₀) (H : W w (B.plus s₀ xs) z' cenv [C] mc ((q.1, x') :: mu'') s') (hz : Le z z') (ho : ∀ a ∈ own, a ∈ xs) (hm : ∀ a ∈ mu.map (·.1), a ∈ xs) :
    W w B z' env own m ((q.1, x') :: mu) s' := by
  have H1 := H₀.drop.outer H hz ho hm
  have h0 := H₀.muo q (.head _)
  have h := H.muo (q.1, x') (.head _)
  exact
  { H1 with
    muo := fun p hp => by
      rcases List.mem_cons.mp hp with rfl | hp
      · exact ⟨h.1, h0.2.1, h.2.2.1, h0.2.2.2⟩
      · exact H1.muo p hp
    nd := H₀.nd }

theorem cl_core {target : Expr} {ipos : Pos} {ifs : List Expr} {I : Addr} {n : Nat} {emit : Sem Unit} {c : Code} {P : Nat → Value → Heap → Prop} {R : Result → Shared → Prop} {J : Nat → PM → (Str → Option Value) → List (Addr × MO) → Prop}
    (hq : c.quiet = true) (hu : A.under c = A) (hden : (model prg w).den c = (turnTree target ipos ifs (.ref I) env emit c).onRaise (fun x => do noteFrame x env; theTreesLotGoes x))
    (H : W w B z env own m mu s) (IT : It w A B z own mu s target I n P) (hJ : J 0 z m mu)
    (turn : ∀ i v z₁ m₁ mu₁ B₁ s₁ (E' : Value → Shared → Prop), i < n → P i v s₁.heap → Le z z₁ → J i z₁ m₁ mu₁ → W w B₁ z₁ env own m₁ mu₁ s₁ → Wp w A (assign target env v) (fun _ s₂ => Wp w A (testAll ifs env) (fun ok s₃ =>
      (ok = true → Wp w A emit (fun _ s₄ => ∃ z₂ m₂ mu₂, W w B₁ z₂ env own m₂ mu₂ s₄ ∧ Le z₁ z₂ ∧ J (i + 1) z₂ m₂ mu₂) E' s₃) ∧ (ok = false → ∃ z₂ m₂ mu₂, W w B₁ z₂ env own m₂ mu₂ s₃ ∧ Le z₁ z₂ ∧ J (i + 1) z₂ m₂ mu₂)) E' s₂) E' s₁)
    (done : ∀ z' m' mu' s', W w B z' env own m' mu' s' → Le z z' → J n z' m' mu' → R (.ok .next) s') : codeAny (model prg w) A c R s := by
  obtain ⟨fp, wr, St, WK, hst, hfp, hwr⟩ := IT.it
  let Inv : Nat → Shared → Prop := fun j s' => ∃ i z' m' mu', i + j = n + 1 ∧ i ≤ n ∧ W w B z' env own m' mu' s' ∧ Le z z' ∧ St i s'.heap ∧ (∀ b ∈ wr, z' b = none ∧ b ∉ mu'.map (·.1)) ∧ J i z' m' mu'
  refine loop_any (target := target) (ipos := ipos) (ifs := ifs) (it := .ref I) (emit := emit) hq hu hden Inv (fun j s₁ E' hI => ?_) (n + 1) ⟨0, z, m, mu, by exact Mine.om17, Nat.zero_le _, H, Le.refl z, hst, fun b hb => ⟨(hwr b hb).2.1, (hwr b hb).2.2.2⟩, hJ⟩
  obtain ⟨i, z₁, m₁, mu₁, hij, hin, H₁, hz₁, hst₁, hw₁, hJ₁⟩ := hI
  have hx₁ : ∀ b ∈ wr, B.p b = none ∧ z₁ b = none ∧ b ∉ own ∧ b ∉ mu₁.map (·.1) := fun b hb => ⟨(hwr b hb).1, (hw₁ b hb).1, (hwr b hb).2.2.1, (hw₁ b hb).2⟩
  by_cases hlt : i < n
  · refine wpAny_mono (WK.item i s₁ (fun v s₂ => wpAny (model prg w) A (assign target env v) (fun _ s₃ => wpAny (model prg w) A (testAll ifs env) (fun ok s₄ =>
            if ok = true then wpAny (model prg w) A emit (fun _ s₅ => ∃ m, m < j ∧ Inv m s₅) E' s₄ else ∃ m, m < j ∧ Inv m s₄) E' s₃) E' s₂) E' hlt hst₁ (fun v h' tk' hP hst₂ hk₂ => ?_)) (fun r s₂ h₂ => ?_) fun _ _ e => e
    · have H₂ := H₁.side (s' := { s₁ with heap := h', toks := tk' }) wr hk₂ hx₁ rfl rfl
      have HP := H₂.protect (xs := wr) (fun b hb => (hx₁ b hb).2.1) (fun b hb => (hx₁ b hb).2.2.1) (fun b hb => (hx₁ b hb).2.2.2)
      have goal : ∀ s₄, (∃ z₂ m₂ mu₂, W w (B.plus { s₁ with heap := h', toks := tk' } wr) z₂ env own m₂ mu₂ s₄ ∧ Le z₁ z₂ ∧ J (i + 1) z₂ m₂ mu₂) → ∃ m, m < j ∧ Inv m s₄ := by
        rintro s₄ ⟨z₂, m₂, mu₂, H₄, hz₂, hJ₂⟩
        have H₅ := H₂.unprotect H₄ hz₂
        have wrp : ∀ b ∈ wr, (B.plus { s₁ with heap := h', toks := tk' } wr).p b ≠ none := fun b hb => by
          rw [plus_xs hb]
          obtain ⟨o, e⟩ := WK.ex _ _ hst₂ b hb
          rw [show ({ s₁ with heap := h', toks := tk' } : Shared).heap = h' from rfl, e]; nofun
        refine ⟨j - 1, by exact Mine.om21 hij hlt, i + 1, z₂, m₂, mu₂, by exact Mine.om20 hij hlt, by exact Mine.om19 hlt, H₅, hz₁.trans hz₂, WK.frame _ _ _ hst₂ (fun b hb o e => ?_), (fun b hb => ⟨H₄.pz b (wrp b hb), fun hm => ?_⟩), hJ₂⟩
        · rcases hfp b hb with h | h | h
          · exact H₄.pin b o (by rw [plus_xs h]; exact e)
          · cases q : z b with
            | none => exact absurd q h
            | some o' =>
              have h1 := H₂.zin b o' (hz₁ b o' q)
              have h2 := H₅.zin b o' (hz₂ b o' (hz₁ b o' q))
              rw [show ({ s₁ with heap := h', toks := tk' } : Shared).heap = h' from rfl, e] at h1
              cases h1; exact h2
          · cases q : B.p b with
            | none => exact absurd q h
            | some o' =>
              have h1 := H₂.pin b o' q
              have h2 := H₅.pin b o' q
              rw [show ({ s₁ with heap := h', toks := tk' } : Shared).heap = h' from rfl, e] at h1
              cases h1; exact h2
        · obtain ⟨q, hq, e⟩ := List.mem_map.mp hm
          exact wrp b hb (e ▸ (H₄.muo q hq).2.1)
      refine un (turn i v z₁ m₁ mu₁ _ _ E' hlt hP hz₁ hJ₁ HP) fun _ s₃ h₃ => un h₃ fun ok s₄ h₄ => ?_
      cases ok with
      | true => rw [if_pos rfl]; exact un (h₄.1 rfl) fun _ s₅ h₅ => goal s₅ h₅
      | false => rw [if_neg Bool.false_ne_true]; exact goal s₄ (h₄.2 rfl)
    · cases r with
      | none => exact h₂.elim
      | some v => exact h₂
  · have hin' : i = n := by exact Mine.om18 hin hlt
    subst hin'
    refine wpAny_mono (WK.done s₁ (fun s₂ => R (.ok .next) s₂) E' hst₁ (fun h' tk' hk₂ => done z₁ m₁ mu₁ _ (H₁.side wr hk₂ hx₁ rfl rfl) hz₁ hJ₁)) (fun r s₂ h₂ => ?_) fun _ _ e => e
    cases r with
    | none => exact h₂
    | some v => exact h₂.elim

theorem start1 {elt : Expr} {g1 : Comprehension} {t2 i2 : Expr} {ifs2 : List Expr} {scope : Scope} {pos : Pos} {it acc : Value} {R : Result → Shared → Prop}
    (h0 : codeAny (model prg w) A (.compLoop (.ListComp elt [g1, ⟨t2, i2, ifs2, 0⟩] scope pos) 1 it acc env) R s)
    (h : wpAny (model prg w) A (pyIter it) (fun it' s' => codeAny (model prg w) A (.compLoop (.ListComp elt [g1, ⟨t2, i2, ifs2, 0⟩] scope pos) 1 it' acc env) R s') (notedBy (model prg w) A env fun x s' => R (.error x) s') s) :
    codeAny (model prg w) A (.compStart (.ListComp elt [g1, ⟨t2, i2, ifs2, 0⟩] scope pos) 1 it acc env) R s := by
  refine codeAny_of_tree ?_
  show wpAny _ _ ((compStart (.ListComp elt [g1, ⟨t2, i2, ifs2, 0⟩] scope pos) 1 it acc env).onRaise (fun x => do noteFrame x env; standAt theWindowsPlace)) _ _ s
  refine wpAny_notedAt ?_
  unfold compStart
  show wpAny _ _ (ask >>= _) _ _ s
  refine wpAny_bind (wpAny_askSetting (wpAny_ite ?_))
  split
  · first
      | exact wpAny_bind (wpAny_pure (wpAny_pure (And.intro rfl h0)))
      | exact wpAny_pure (And.intro rfl h0)
  · first
      | exact wpAny_bind (wpAny_rule (wpAny_bind (wpAny_standAt (wpAny_bind (wpAny_mono h (fun it' s' h' => wpAny_pure (And.intro rfl h')) fun _ _ x => x)))))
      | (refine wpAny_bind (wpAny_rule ?_); show wpAny _ _ (standAt i2.pos >>= _) _ _ s; exact wpAny_bind (wpAny_standAt (wpAny_bind (wpAny_mono h (fun it' s' h' => wpAny_pure (And.intro rfl h')) fun _ _ x => x))))

theorem compTurnO (elt t1 i1 t2 i2 : Expr) (scope : Scope) (pos : Pos) (it acc : Value) (env : Env) :
    compTurn (.ListComp elt [⟨t1, i1, [], 0⟩, ⟨t2, i2, [], 0⟩] scope pos) 0 it acc env =
      turnTree t1 i1.pos [] it env (do let x ← eval i2 env; standAt i2.pos; let x ← foldedSetIterable i2 env x; let _ ← runOwn (.compStart (.ListComp elt [⟨t1, i1, [], 0⟩, ⟨t2, i2, [], 0⟩] scope pos) 1 (← holding [x] (pyIter x)) acc env) env) (.compLoop (.ListComp elt [⟨t1, i1, [], 0⟩, ⟨t2, i2, [], 0⟩] scope pos) 0 it acc env) := by
  unfold turnTree
  simp only [bind_assoc, pure_bind]
  first | rfl | (unfold compTurn; simp only [bind_assoc, pure_bind, List.forIn_nil]; rfl)
theorem compTurnI (elt t1 i1 t2 i2 : Expr) (scope : Scope) (pos : Pos) (it acc : Value) (env : Env) :
    compTurn (.ListComp elt [⟨t1, i1, [], 0⟩, ⟨t2, i2, [], 0⟩] scope pos) 1 it acc env =
      turnTree t2 i2.pos [] it env (do let _ ← call (.builtin "list.append") [acc, ← eval elt env]) (.compLoop (.ListComp elt [⟨t1, i1, [], 0⟩, ⟨t2, i2, [], 0⟩] scope pos) 1 it acc env) := by rfl

/-- [elt for t1 in i1 for t2 in i2]: the first iterable is a frozen thing, each turn brings the next -/
theorem e_comp2 {elt t1 i1 t2 i2 : Expr} {scope : Scope} {pos : Pos} {Q : Value → Shared → Prop} (_ : W w B z env own m mu s)
    (hsc : CSc scope) (hfree : ∀ x, (x, NameKind.free) ∈ scope.names → env.kindOf x = some .cell ∧ ∃ c, env.cells.lookup x = some c)
    (h : Wp w A (eval i1 env) (fun xv s₁ => Wp w A (pyIter xv) (fun it s₂ => ∃ I n P z₁, it = .ref I ∧ W w B z₁ env own m mu s₂ ∧ It w A B z₁ own mu s₂ t1 I n P ∧ n ≤ sizeLine ∧
      ∃ J : Nat → PM → List Value → Prop, J 0 z₁ [] ∧
      (∀ i v z₂ B₁ C cenv mc s₃ D ys (E' : Value → Shared → Prop), i < n → P i v s₃.heap → Le z₁ z₂ → J i z₂ ys → W w B₁ z₂ cenv [C] mc [(D, .lst ys.toArray)] s₃ → CEnv scope m mc C cenv →
        Wp w A (assign t1 cenv v) (fun _ s₄ => Wp w A (eval i2 cenv) (fun x s₅ => (∀ y, foldedSetIterable i2 cenv y = Pure.pure y) ∧ Wp w A (pyIter x) (fun it2 s₆ => ∃ I2 n2 P2 z₃ mc₃, it2 = .ref I2 ∧ W w B₁ z₃ cenv [C] mc₃ [(D, .lst ys.toArray)] s₆ ∧ It w A B₁ z₃ [C] [(D, .lst ys.toArray)] s₆ t2 I2 n2 P2 ∧ Le z₂ z₃ ∧ n2 + ys.length ≤ sizeLine ∧ CEnv scope m mc₃ C cenv ∧
          ∃ vals : List Value, vals.length = n2 ∧ J (i + 1) z₃ (ys ++ vals) ∧
            ∀ j v2 z₄ B₂ mc₄ mu₄ s₇ (E'' : Value → Shared → Prop), j < n2 → P2 j v2 s₇.heap → Le z₃ z₄ → W w B₂ z₄ cenv [C] mc₄ mu₄ s₇ → CEnv scope m mc₄ C cenv →
              Wp w A (assign t2 cenv v2) (fun _ s₈ => Wp w A (eval elt cenv) (fun y s₉ => vals[j]? = some y ∧ ∃ mc₅, W w B₂ z₄ cenv [C] mc₅ mu₄ s₉ ∧ CEnv scope m mc₅ C cenv) E'' s₈) E'' s₇) E' s₅) E' s₄) E' s₃) ∧
      (∀ i z z' ys, Le z z' → J i z ys → J i z' ys) ∧
      ∀ z' s' D ys, W w B z' env own m ((D, .lst ys) :: mu) s' → Le z₁ z' → J n z' ys.toList → Q (.ref D) s') E s₁) E s)
    (hs : ∀ x, foldedSetIterable i1 env x = Pure.pure x := by intro _; rfl) :
    Wp w A (eval (.ListComp elt [⟨t1, i1, [], 0⟩, ⟨t2, i2, [], 0⟩] scope pos) env) Q E s := by
  refine .mk ?_
  rw [eval_ListComp]
  have hclos : closureFor scope env = pure (closL (look env) scope.names []) := closureFor_eq fun x hx => (hfree x hx).2
  refine wpAny_comprehension_free (use := none) rfl hs hclos hsc.fn hsc.names (un h fun xv s₁ h₁ => un h₁ fun it s₂ h₂ => ?_)
  obtain ⟨I, n, P, z₁, rfl, H, IT, hsz, J, hJ0, turn, hJm, done⟩ := h₂
  obtain ⟨fp, wr, St, WK, hst, hfp, hwr⟩ := IT.it
  refine wpAny_newObj_type (wpAny_newFunctionEnv hsc.cell (by intro y hy; simp at hy) (fun h₁ hns₁ hsb₁ => ?_) hsc.fn)
  dsimp only at hns₁ hsb₁ ⊢
  have hD := H.none_size
  generalize hDe : s₂.heap.objs.size = D at hD
  generalize hH2 : s₂.heap.push { cls := .type "list", dict := none, data := .seq ([] : List Value).toArray } = H2 at hns₁ hsb₁ ⊢
  have H2w : W w B z₁ env own m ((D, .lst #[]) :: mu) { s₂ with heap := H2 } := by
    have := H.pushM (s' := { s₂ with heap := H2 }) (o := { cls := .type "list", dict := none, data := .seq ([] : List Value).toArray }) (x := .lst #[]) hH2.symm rfl rfl
      ⟨_, by show H2.get? _ = _; rw [← hH2]; exact Heap.get?_push_size _ rfl⟩
    rw [hDe] at this; exact this
  have hC2 := H2w.none_size
  simp only [show (Shared.mk H2 s₂.gens s₂.drawn s₂.toks s₂.os).heap = H2 from rfl] at hC2
  generalize hCe : H2.objs.size = C at hns₁ hsb₁ hC2 ⊢
  have keep12 : ∀ a o, H2.get? a = some o → h₁.get? a = some o := fun a o e => hsb₁.extBut a o (by rintro rfl; exact absurd (Heap.lt_size e) (by rw [hCe]; exact Nat.lt_irrefl _)) (Heap.get?_push_of_some _ e)
  have keep02 : ∀ a o, s₂.heap.get? a = some o → H2.get? a = some o := fun a o e => hH2 ▸ Heap.get?_push_of_some _ e
  have hCD : C ≠ D := fun q => by
    have e : H2.get? D = some { cls := .type "list", dict := none, data := .seq ([] : List Value).toArray } := by rw [← hH2, ← hDe]; exact Heap.get?_push_size _ rfl
    have := Heap.lt_size e
    rw [hCe, q] at this; exact Nat.lt_irrefl _ this
  have hCn : C ∉ D :: mu.map (·.1) := hC2.2.2.2
  have hCwr : C ∉ wr := fun h => by
    obtain ⟨o, e⟩ := WK.ex 0 _ hst C h
    have := Heap.lt_size (keep02 _ _ e)
    rw [hCe] at this; exact Nat.lt_irrefl _ this
  have hDwr : D ∉ wr := fun h => by
    obtain ⟨o, e⟩ := WK.ex 0 _ hst D h
    have := Heap.lt_size e
    rw [hDe] at this; exact Nat.lt_irrefl _ this
  have hcode : ∀ tk, codeAny (model prg w) A (.compStart (.ListComp elt [⟨t1, i1, [], 0⟩, ⟨t2, i2, [], 0⟩] scope pos) 0 (.ref I) (.ref D) (cEnv scope C env)) (compPost (model prg w) A E none Q (.ref D) C) { s₂ with heap := h₁, toks := tk } := by
    intro tk
    have H4 : W w B z₁ env own m ((D, .lst #[]) :: mu) { s₂ with heap := h₁, toks := tk } :=
      H2w.nx ⟨keep12, Le.refl z₁, fun a o e => keep12 a o (H2w.zin a o e), fun _ a b => absurd b a, rfl, #[], by simp, AllBare.empty⟩
    generalize hs4 : ({ s₂ with heap := h₁, toks := tk } : Shared) = s₄ at H4 ⊢
    obtain ⟨ml4, hns₄⟩ : ∃ ml, s₄.heap.Ns C ml := ⟨_, by rw [← hs4]; exact hns₁⟩
    have hst4 : St 0 s₄.heap := by rw [← hs4]; exact WK.frame _ _ _ hst fun b _ o e => keep12 b o (keep02 b o e)
    let xs := own ++ mu.map (·.1)
    have hxo : ∀ a ∈ own, a ∈ xs := fun a h => List.mem_append_left _ h
    have hxm : ∀ a ∈ mu.map (·.1), a ∈ xs := fun a h => List.mem_append_right _ h
    have hxz : ∀ a ∈ xs, z₁ a = none := fun a h => by
      rcases List.mem_append.mp h with h | h
      · exact (H.ownp a h).2.1
      · obtain ⟨q, hq, rfl⟩ := List.mem_map.mp h
        exact (H.muo q hq).2.2.1
    have hCx : C ∉ xs := fun h => by
      rcases List.mem_append.mp h with h | h
      · exact hC2.2.2.1 h
      · exact hCn (.tail _ h)
    have hDx : D ∉ xs := fun h => by
      rcases List.mem_append.mp h with h | h
      · exact hD.2.2.1 h
      · exact hD.2.2.2 h
    obtain ⟨mc, HI, CE⟩ := inner_of (xs := xs) H4 hsc hfree hxz hxo hCx hC2.2.1 hC2.1 hns₄
    have HD := H4.innerD HI hDx (Ne.symm hCD)
    have IT4 : It w A (B.plus s₄ xs) z₁ [C] [(D, .lst #[])] s₄ t1 I n P := ⟨fp, wr, St, WK, hst4, fun b hb => (hfp b hb).imp id fun h => h.imp id fun h => by
        cases q : B.p b with
        | none => exact absurd q h
        | some o => rw [plus_in H4 q]; nofun, fun b hb => ⟨by
        have h := hwr b hb
        rw [plus_out (fun q => by
          rcases List.mem_append.mp q with q | q
          · exact h.2.2.1 q
          · exact h.2.2.2 q)]
        exact h.1, (hwr b hb).2.1, fun q => hCwr (List.mem_singleton.mp q ▸ hb), fun q => hDwr (by
          have e : b = D := by simpa using q
          exact e ▸ hb)⟩⟩
    have loop : codeAny (model prg w) A (.compLoop (.ListComp elt [⟨t1, i1, [], 0⟩, ⟨t2, i2, [], 0⟩] scope pos) 0 (.ref I) (.ref D) (cEnv scope C env)) (compPost (model prg w) A E none Q (.ref D) C) s₄ := by
      refine cl_core (target := t1) (ipos := i1.pos) (ifs := []) (n := n) (P := P) (J := fun i z' m' mu' => ∃ ys : List Value, mu' = [(D, .lst ys.toArray)] ∧ J i z' ys ∧ CEnv scope m m' C (cEnv scope C env)) rfl rfl
        (congrArg (fun t => Sem.onRaise t fun x => do noteFrame x (cEnv scope C env); theTreesLotGoes x) (compTurnO elt t1 i1 t2 i2 scope pos (.ref I) (.ref D) (cEnv scope C env))) HD IT4 ⟨[], rfl, hJ0, CE⟩ ?_ ?_
      · intro i v z₂ m₁ mu₁ B₁ s₁ E' hi hP hz₂ hJ H
        obtain ⟨ys, rfl, hJ, CE⟩ := hJ
        refine (turn i v z₂ B₁ C (cEnv scope C env) m₁ s₁ D ys E' hi hP hz₂ hJ H CE).mono fun _ s₅ q => g_tests0 ⟨fun _ => ?_, fun q => (nomatch q)⟩
        refine .mk (wpAny_bind (un q fun x s₆ q => ?_))
        obtain ⟨hf2, q⟩ := q
        refine wpAny_bind (wpAny_standAt (wpAny_bind (wpAny_of_eq (hf2 x) (wpAny_bind (wpAny_holding (un q fun it2 s₇ q => ?_))))))
        obtain ⟨I2, n2, P2, z₃, mc₃, rfl, H, IT2, hz₃, hn2, CE, vals, hvl, hJ', turn2⟩ := q
        refine wpAny_bind (wpAny_runOwn ?_)
        rw [Around.mark_none A]
        have inner : codeAny (model prg w) A (.compLoop (.ListComp elt [⟨t1, i1, [], 0⟩, ⟨t2, i2, [], 0⟩] scope pos) 1 (.ref I2) (.ref D) (cEnv scope C env)) (fun r s' => match r with | .ok f => wpAny (model prg w) A (Pure.pure () : Sem Unit) (fun _ s₅ => ∃ z₂' m₂ mu₂, W w B₁ z₂' (cEnv scope C env) [C] m₂ mu₂ s₅ ∧ Le z₂ z₂' ∧ ∃ ys, mu₂ = [(D, MO.lst ys.toArray)] ∧ J (i + 1) z₂' ys ∧ CEnv scope m m₂ C (cEnv scope C env)) E' s' | .error e => cameBackBy (model prg w) A (cEnv scope C env) E' e s') s₇ := by
          refine cl_core (target := t2) (ipos := i2.pos) (ifs := []) (n := n2) (P := P2) (J := fun j z' m' mu' => mu' = [(D, .lst (ys ++ vals.take j).toArray)] ∧ CEnv scope m m' C (cEnv scope C env)) rfl rfl
            (congrArg (fun t => Sem.onRaise t fun x => do noteFrame x (cEnv scope C env); theTreesLotGoes x) (compTurnI elt t1 i1 t2 i2 scope pos (.ref I2) (.ref D) (cEnv scope C env))) H IT2 ⟨by simp, CE⟩ ?_ ?_
          · intro j v2 z₄ m₄ mu₄ B₂ s₈ E'' hj hP2 hz₄ hJ2 H
            obtain ⟨rfl, CE⟩ := hJ2
            refine (turn2 j v2 z₄ B₂ m₄ _ s₈ E'' hj hP2 hz₄ H CE).mono fun _ s₉ q => g_tests0 ⟨fun _ => ?_, fun q => (nomatch q)⟩
            refine .mk (wpAny_bind (un q fun y s₁₀ q => ?_))
            obtain ⟨hy, mc₅, H, CE⟩ := q
            have hD := H.plainAt (i := 0) rfl
            refine wpAny_bind (wpAny_list_append_plain hD (fun h₇ hl₇ hs₇ => wpAny_pure ?_) (by simp; exact Mine.om262 hn2 hj))
            refine ⟨z₄, _, _, H.chg (s' := { s₁₀ with heap := h₇ }) 0 (y := .lst ((ys ++ vals.take j).toArray.push y)) rfl hl₇ hs₇ rfl rfl, Le.refl _, ?_, CE⟩
            rw [List.take_add_one, hy]
            simp
          · intro z' m' mu' s' H hz' hJ2
            obtain ⟨rfl, CE⟩ := hJ2
            refine wpAny_pure ⟨z', _, _, H, hz₃.trans hz', _, rfl, ?_, CE⟩
            rw [← hvl, List.take_length]
            exact hJm _ _ _ _ hz' hJ'
        exact start1 inner (i_it IT2 inner).out
      · intro z' m' mu' s' H' hz' hJ
        obtain ⟨ys, rfl, hJ, CE⟩ := hJ
        have H5 := H4.outerD (q := (D, .lst #[])) (mu'' := []) H' hz' hxo hxm
        obtain ⟨ml, hC5, _⟩ := H'.ns
        have hzC : z' C = none := (H'.ownp C (.head _)).2.1
        refine ⟨ml, hC5, fun h' hs' => done z' _ D ys.toArray (H5.side [C] (fun b o hb e => (hs'.2 b (fun q => hb (q ▸ .head _))).trans e) (fun b hb => ?_) rfl rfl) hz' (by simpa using hJ)⟩
        rw [List.mem_singleton.mp hb]
        exact ⟨hC2.2.1, hzC, hC2.2.2.1, hCn⟩
    exact codeAny_compStart_list loop (WK.self 0 _ _ _ hst4 loop)
  exact hcode _
end
end Mine
end
section
open PySem PySem.W PySem.Calls PyProof.Rows PySem.Spec PySem.Builtin PySem.Builtin.Str
set_option Elab.async false
set_option maxRecDepth 100000
set_option linter.unusedVariables false
namespace Mine
theorem at_law (w : World) : FnAt w 129 (Str.ofString "law") [Str.ofString "script"] (bodyOf (stAt 23)) (scopeOf (stAt 23)) where
  fd := ⟨_, _, rfl, rfl, rfl, rfl, rfl, rfl, rfl, by kernel_rfl, ofLen1 (fun _ => rfl)⟩
  par := by decide +kernel
  nd := by decide +kernel
  nnd := by decide +kernel
  cnd := by decide +kernel
  co := by kernel_rfl
  gen := by kernel_rfl
  fn := by kernel_rfl

noncomputable def scriptF (ns : List Int) : List Int := [0, 1, 5, 24, 6, 62] ++ ns.take 8
noncomputable abbrev lawLeaves (g : GS) : List Nat := leavesF g.ab 3 0
noncomputable def memF (g : GS) (k : Nat) : Mem := (at? g.rg k ++ Txt.mul sSlash ((k % 2 : Nat) : Int), at? g.ts k)
noncomputable abbrev lawMem (g : GS) : List Mem := (lawLeaves g).map (memF g)
structure LawOk (g : GS) (ways : List (List Str)) : Prop where
  len : g.ab.length ≤ 15
  gi : GI g
  up : Up g.ab
  a0 : g.ab[0]? = some 0
  ht : Ht g.ab 3 0
  wds : Wds g.ab g.ws g.ts
  ll : (lawLeaves g).length ≤ 2744
  lv : ∀ x ∈ lawLeaves g, x < g.ab.length
  mem : ∀ m ∈ lawMem g, memOk m = true
  hways : optAll (fun m => anc m.1) (lawMem g) = some ways
  fold : dedF (ways.map (List.drop 1)).flatten = (foldersF g.ab (lawLeaves g)).map (at? g.rg)
  pack : packF 8 (lawMem g) = some (writtenF g.ab g.ws g.ts 3 0)
  read : readF 8 (writtenF g.ab g.ws g.ts 3 0) [] = some ((lawLeaves g).map (dueF g.ab g.ws g.ts))
  vr : ∀ r ∈ g.rg, PyData.strOk r = true
  vd : ∀ row ∈ (lawLeaves g).map (dueF g.ab g.ws g.ts), (∀ x ∈ row.1, PyData.strOk x = true) ∧ PyData.strOk row.2 = true

theorem ints_all2 {zz : PM} : ∀ {vs : List Value} {ns : List Int}, IntsAre vs ns → All2 (Rint zz) vs ns
  | _, _, .nil => trivial
  | _, _, .cons n t h => ⟨⟨t, rfl⟩, ints_all2 h⟩
theorem All2.take {α β : Type} {R : α → β → Prop} : ∀ {l : List α} {r : List β} (n : Nat), All2 R l r → All2 R (l.take n) (r.take n)
  | _, _, 0, h => by simp only [List.take_zero]; exact trivial
  | [], [], n + 1, _ => trivial
  | _ :: _, _ :: _, n + 1, h => ⟨h.1, h.2.take n⟩
section
variable {w : World} {B : Bs} {z z' : PM} {env : Env} {own : List Addr} {m m' : Str → Option Value} {mu mu' : List (Addr × MO)} {s s' s₀ : Shared} {A : Around} {E : Value → Shared → Prop} {k : Nat} {xs : List Addr}
/-- a slice of a list that stands now -/
theorem e_sliceI {value : Expr} {lower upper step : Option Expr} {p pos : Pos} {Q : Value → Shared → Prop} (_ : W w B z env own m mu s)
    (h : Wp w A (eval value env) (fun o s₁ => Wp w A (evalPart lower env) (fun vl s₂ => Wp w A (evalPart upper env) (fun vu s₃ => Wp w A (evalPart step env) (fun vk s₄ =>
      ∃ l items lo hi st z₁ m₁ mu₁, o = .ref l ∧ W w B z₁ env own m₁ mu₁ s₄ ∧ s₄.heap.IsList l items ∧ items.size ≤ sizeLine ∧ IsPart vl lo ∧ IsPart vu hi ∧ IsPart vk st ∧ st ≠ some 0 ∧
        ∀ a z₂ s₅, Le z₁ z₂ → IsL z₂ a (slicePick items lo hi st) → W w B z₂ env own m₁ mu₁ s₅ → Q (.ref a) s₅) E s₃) E s₂) E s₁) E s)
    (hs : ∀ l a, ∃ ops, subscripted (.Slice lower upper step p) false (.ref l) (.ref a) = operate ops (getItem (.ref l) (.ref a))) :
    Wp w A (eval (.Subscript value (.Slice lower upper step p) pos) env) Q E s := by
  refine e_sub (h.mono fun o s₁ q => .mk (wpAny_Slice (un q fun vl s₂ q => un q fun vu s₃ q => un q fun vk s₄ q => ?_)))
  obtain ⟨l, items, lo, hi, st, z₁, m₁, mu₁, rfl, H, hl, hsz, pl, pu, pk, h0, q⟩ := q
  obtain ⟨ops, hs⟩ := hs l s₄.heap.objs.size
  have hl2 : ({ s₄ with heap := s₄.heap.push { cls := .type "slice", data := .fields #[vl, vu, vk] } } : Shared).heap.IsList l items := hl.push _
  have H2 : W w B z₁ env own m₁ mu₁ { s₄ with heap := s₄.heap.push { cls := .type "slice", data := .fields #[vl, vu, vk] } } := H.pushO rfl rfl rfl
  refine tail_any hl2.typeIs list_getitem_lookup (.mk (wpAny_getItem_list_slice hl2 (Heap.IsSliceOf.new ..) pl pu pk h0 (q _ _ _ (PM.put_le H2.none_size.1) ⟨_, PM.put_self _ _ _⟩ (H2.pushZ rfl rfl rfl rfl)) hsz)) hs

/-- list(d), d a dict of texts -/
theorem d_listD {d : Addr} {kvs : List (Str × Value)} {Q : Value → Shared → Prop} (H : W w B z env own m mu s) (hA : A.handled = none) (hd : IsD w z d kvs) (hn : kvs.length ≤ sizeLine)
    (h : ∀ a vs z₂ s', Le z z₂ → IsL z₂ a vs → All2 (Rstr z₂) vs.toList (kvs.map (·.1)) → W w B z₂ env own m mu s' → Q (.ref a) s') : Wp w A (call (.type "list") [.ref d]) Q E s := by
  obtain ⟨ep, hat⟩ := (hd.at H).dictAt
  have hns := H.none_size
  refine .mk (kdl_call (kdl_dict (knd := PySem.strKind prg w) (kvs := kvs) (ep := ep) hd.1) hA hat hn fun h' tk acc c hk hD hacc => ?_)
  have hv : ∀ zz : PM, All2 (Rstr zz) acc.toList (kvs.map (·.1)) := fun zz => by
    refine all2_of_get _ _ (by rw [Array.length_toList, List.length_map]; exact hacc.1) fun j v e => ?_
    obtain ⟨k, x, hx, hkk⟩ := hacc.2 j v (by simpa using e)
    obtain ⟨t, rfl⟩ := Value.isStrOf_shape hkk
    exact ⟨k, t, by rw [List.getElem?_map, hx]; rfl, rfl⟩
  have N : Nx z s (z.put s.heap.objs.size { cls := .type "list", dict := none, data := .seq acc c, slots := #[] }) { s with heap := h', toks := tk } := by
    refine ⟨hk, PM.put_le hns.1, fun a o e => ?_, fun a h1 h2 => ?_, rfl, #[], by simp, AllBare.empty⟩
    · rcases PM.put_some e with ⟨rfl, rfl⟩ | ⟨_, e⟩
      · exact hD
      · exact hk _ _ (H.zin _ _ e)
    · by_cases ha : a = s.heap.objs.size
      · rw [ha]
        cases q : s.heap.get? s.heap.objs.size with
        | none => rfl
        | some o => exact absurd (Heap.lt_size q) (Nat.lt_irrefl _)
      · exact absurd (PM.put_none h2 ha) h1
  exact h _ acc _ _ N.zz ⟨c, PM.put_self _ _ _⟩ (hv _) (H.nx N)
end

theorem CEnv.put {scope : Scope} {m mc : Str → Option Value} {C : Addr} {cenv : Env} {y : Str} {v : Value} (CE : CEnv scope m mc C cenv) (hy : scope.names.lookup y = some .local) : CEnv scope m (upd mc y v) C cenv :=
  ⟨CE.loc, CE.glo, fun x hx => ⟨(CE.cap x hx).1, by
    rw [upd_ne (fun e => by subst e; rw [hy] at hx; cases hx)]
    exact (CE.cap x hx).2⟩⟩
theorem flat_len {ways : List (List Str)} {N : Nat} (h : ∀ way ∈ ways, way.length ≤ N) : (ways.map (List.drop 1)).flatten.length ≤ ways.length * N := by
  induction ways with
  | nil => simp
  | cons a l ih =>
    have h1 := h a (.head _)
    have h2 := ih fun way hw => h way (.tail _ hw)
    rw [List.map_cons, List.flatten_cons, List.length_append, List.length_drop, List.length_cons, Nat.succ_mul]
    exact Mine.om294 h1 h2

theorem folders_mem {ab ls : List Nat} (U : Up ab) (h : ∀ x ∈ ls, parF ab x < ab.length) : ∀ k ∈ foldersF ab ls, 0 < k ∧ k < ab.length := by
  have add : ∀ (l acc : List Nat), (∀ k ∈ acc, 0 < k ∧ k < ab.length) → (∀ k ∈ l, 0 < k ∧ k < ab.length) → ∀ k ∈ l.foldl addF acc, 0 < k ∧ k < ab.length := by
    intro l
    induction l with
    | nil => exact fun acc ha _ => ha
    | cons a l ih =>
      intro acc ha hl
      rw [List.foldl_cons]
      refine ih _ (fun k hk => ?_) fun k hk => hl k (.tail _ hk)
      unfold addF at hk
      split at hk
      · exact ha k hk
      · rcases List.mem_append.mp hk with hk | hk
        · exact ha k hk
        · rw [List.mem_singleton.mp hk]; exact hl a (.head _)
  have gen : ∀ (ls acc : List Nat), (∀ x ∈ ls, parF ab x < ab.length) → (∀ k ∈ acc, 0 < k ∧ k < ab.length) → ∀ k ∈ ls.foldl (fun acc x => (upF ab (parF ab x) (parF ab x)).foldl addF acc) acc, 0 < k ∧ k < ab.length := by
    intro ls
    induction ls with
    | nil => exact fun acc _ ha => ha
    | cons a l ih =>
      intro acc hl ha
      rw [List.foldl_cons]
      exact ih _ (fun x hx => hl x (.tail _ hx)) (add _ _ ha (upF_mem U _ _ (hl a (.head _))))
  exact gen ls [] h fun k hk => nomatch hk
theorem folders_len {ab ls : List Nat} {N : Nat} (h : ∀ x ∈ ls, parF ab x ≤ N) : (foldersF ab ls).length ≤ ls.length * N := by
  have gen : ∀ (ls acc : List Nat), (∀ x ∈ ls, parF ab x ≤ N) → (ls.foldl (fun acc x => (upF ab (parF ab x) (parF ab x)).foldl addF acc) acc).length ≤ acc.length + ls.length * N := by
    intro ls
    induction ls with
    | nil => simp
    | cons a l ih =>
      intro acc hl
      rw [List.foldl_cons, List.length_cons, Nat.succ_mul]
      have h1 := ih ((upF ab (parF ab a) (parF ab a)).foldl addF acc) fun x hx => hl x (.tail _ hx)
      have h2 := addF_len (upF ab (parF ab a) (parF ab a)) acc
      have h3 := upF_len ab (parF ab a) (parF ab a)
      have h4 := hl a (.head _)
      exact Mine.om95 h1 h2 h3 h4
  have := gen ls [] h
  rw [List.length_nil, Nat.zero_add] at this
  exact this

theorem law_ok {w : World} {A : Around} {s : Shared} {l : Addr} {vs : List Value} {ns : List Int} {ways : List (List Str)} {QR : Result → Shared → Prop} (G : Gd w s.heap) (R : Rm A 40) (hL : s.heap.IsList l vs.toArray) (hI : IntsAre vs ns) (hn : ns.length ≤ 63)
    (LK : LawOk (grown (scriptF ns)) ways) (h : ∀ z' s', Nx (fun _ => none) s z' s' → QR (.ok (.ret (.bool true))) s') : codeAny (model prg w) A (.call (.ref 129) ⟨[.ref l], []⟩) QR s := by
  refine enterC (at_law w) G (z := fun _ => none) (fun _ _ e => nomatch e) (k := 39) R rfl fun A' env own m s' R' H hsv hgl hm hsc => Wp.out (post fun Q₁ fin₁ => ?_)
  have vS := hsv (Str.ofString "script") (.inl (by kernel_rfl))
  have vA := hsv (Str.ofString "above") (.inr (by kernel_rfl))
  have vW := hsv (Str.ofString "words") (.inr (by kernel_rfl))
  have vR := hsv (Str.ofString "rough") (.inr (by kernel_rfl))
  have vT := hsv (Str.ofString "texts") (.inr (by kernel_rfl))
  have vL := hsv (Str.ofString "leaves") (.inl (by kernel_rfl))
  have vM := hsv (Str.ofString "members") (.inl (by kernel_rfl))
  have vF := hsv (Str.ofString "folders") (.inl (by kernel_rfl))
  have vH := hsv (Str.ofString "header") (.inl (by kernel_rfl))
  have mS : m (Str.ofString "script") = some (.ref l) := hm (_, _) (.head _)
  have gG := hgl (Str.ofString "_law_grown") (by kernel_rfl)
  have gL := hgl (Str.ofString "_law_leaves") (by kernel_rfl)
  have gF := hgl (Str.ofString "_law_folders") (by kernel_rfl)
  have gW := hgl (Str.ofString "_law_written") (by kernel_rfl)
  have gP := hgl (Str.ofString "_law_packed") (by kernel_rfl)
  have gR := hgl (Str.ofString "_law_read") (by kernel_rfl)
  have gD := hgl (Str.ofString "_dedupe") (by kernel_rfl)
  have gl := hgl (Str.ofString "list") (by kernel_rfl)
  have cA := cell_of hsc (x := Str.ofString "above") (by kernel_rfl) vA
  have cW := cell_of hsc (x := Str.ofString "words") (by kernel_rfl) vW
  have cR := cell_of hsc (x := Str.ofString "rough") (by kernel_rfl) vR
  have cT := cell_of hsc (x := Str.ofString "texts") (by kernel_rfl) vT
  have ee := env_eq hsc
  clear hsv hgl hm hsc
  have GS' : Sit w (fun _ => none) s := ⟨G, fun _ _ e => nomatch e⟩
  -- the tree
  refine x_setT (e_gcall (.ref 72) H gG (a_one (e_bin (e_listZ H (a_cons (e_int H fun i₁ s₁ H => a_cons (e_int H fun i₂ s₂ H => a_cons (e_int H fun i₃ s₃ H => a_cons (e_int H fun i₄ s₄ H => a_cons (e_int H fun i₅ s₅ H => a_one (e_int H fun i₆ s₆ H =>
    ⟨by rw [sizeLine_eq]; simp, _, _, _, H, fun la z₁ s₇ hz₁ hla H => ?_⟩)))))))))))
  have hvl : vs.length ≤ 63 := by rw [hI.length]; exact hn
  refine e_sliceI H (e_var H vS.var mS (p_none (p_some (e_int H fun i₇ s₈ H => p_none ⟨l, vs.toArray, none, some 8, none, z₁, _, _, rfl, H, hL.at fun o e => H.keep0 _ _ e, by rw [sizeLine_eq]; simp; exact Mine.om293 hvl, .none, .int _ _, .none, by decide, fun lb z₂ s₉ hz₂ hlb H => ?_⟩)))) (fun _ _ => ⟨_, by with_unfolding_all rfl⟩)
  rw [show slicePick vs.toArray none (some 8) none = (vs.toArray.toList.take 8).toArray from slicePick_upto' _ 8] at hlb
  refine d_addL H ((hla.mono hz₂).plain H) (hlb.plain H) (by rw [sizeLine_eq]; simp; exact Mine.om292) fun lc z₃ s₁₀ hz₃ hlc H => ⟨H.gd', ?_⟩
  refine grown_ok H.sit (R'.le (by exact Mine.om291)) ⟨lc, _, rfl, hlc, ?_⟩ (sc := scriptF ns) (by unfold scriptF; simp; exact Mine.om290) fun r z₄ s₁₁ N hr => ?_
  · rw [Array.toList_append]
    exact All2.append (r := [0, 1, 5, 24, 6, 62]) ⟨⟨i₁, rfl⟩, ⟨i₂, rfl⟩, ⟨i₃, rfl⟩, ⟨i₄, rfl⟩, ⟨i₅, rfl⟩, ⟨i₆, rfl⟩, trivial⟩ ((ints_all2 hI).take 8)
  generalize grown (scriptF ns) = g at LK hr
  have H := H.nx N
  obtain ⟨tt, va, vb, vc, vd, rfl, htt, hva, hvb, hvc, hvd⟩ := hr
  refine g_tuple H R'.hh htt rfl fun s₁₂ H => i_cons (x_assignG H vA fun ma ka mA s₁₃ H => i_cons (x_assignG H vW fun mb kb mW s₁₄ H => i_cons (x_assignG H vR fun mc kc mR s₁₅ H => i_cons (x_assignG H vT fun m₁ kd mT s₁₆ H => i_nil ?_))))
  have mA := kd _ _ (by decide +kernel) (kc _ _ (by decide +kernel) (kb _ _ (by decide +kernel) mA))
  have mW := kd _ _ (by decide +kernel) (kc _ _ (by decide +kernel) mW)
  have mR := kd _ _ (by decide +kernel) mR
  have hab := LK.len
  have gi := LK.gi
  -- leaves
  refine x_set (e_gcall (.ref 79) H gL (a_cons (e_var H vA.var mA (a_one (e_int H fun i₈ s₁₇ H => ⟨H.gd', ?_⟩)))))
  refine leaves_ok w va (by exact Mine.om117 hab) 3 0 (by exact Mine.om104) LK.ht _ _ _ _ _ _ H.sit (R'.le (by exact Mine.om271)) hva ⟨i₈, rfl⟩ fun r z₅ s₁₈ N₅ hls => ?_
  have H := H.nx N₅
  refine x_storeG H vL fun m₂ k mL s₁₉ H => ?_
  have hz₅ := N₅.zz
  have hva := mono_list mono_nat _ _ _ _ hz₅ hva
  have hvb := mono_list mono_str _ _ _ _ hz₅ hvb
  have hvc := mono_list mono_str _ _ _ _ hz₅ hvc
  have hvd := mono_list mono_str _ _ _ _ hz₅ hvd
  obtain ⟨lv, lus, rfl, hlv, hlus⟩ := hls
  have mA := k _ _ (by decide +kernel) mA
  have mW := k _ _ (by decide +kernel) mW
  have mR := k _ _ (by decide +kernel) mR
  have mT := k _ _ (by decide +kernel) mT
  have hlvl := LK.lv
  have hlll := LK.ll
  have hgmem := LK.mem
  have elu : lus.size = (lawLeaves g).length := by rw [← hlus.length]; simp
  -- members
  refine x_acomp H vM ⟨by decide +kernel, rfl, by decide +kernel⟩ (free_of [Str.ofString "rough", Str.ofString "texts"] (by decide +kernel) (all_cons cR (all_cons cT all_nil))) (e_var H vL.var mL (i_list H R'.hh hlv fun I s₂₀ H IT => compI H IT (by rw [sizeLine_eq]; exact Mine.om265 hlll elu)
    (Rr RMem (fun i => (lawLeaves g)[i]?.bind fun k => some (memF g k))) (Rr.mono (mono_pair mono_str mono_str)) ?_ ?_)) (by rw [ee]; kernel_rfl)
  · intro i v z₆ B₁ C cenv mc s₁ E' hi hP hz₆ H CE
    refine turnC fun Q₂ fin₂ => ?_
    obtain ⟨k, hk, t, rfl⟩ := hlus.get' (i := i) (a := v) (by simpa using hP)
    have vK := CE.loc (Str.ofString "k") (by kernel_rfl)
    have cR := CE.cap (Str.ofString "rough") (by kernel_rfl)
    have cT := CE.cap (Str.ofString "texts") (by kernel_rfl)
    have hkl := hlvl k (List.mem_of_getElem? hk)
    have hrk : g.rg[k]? = some (g.rg[k]'(by rw [gi.rg]; exact hkl)) := List.getElem?_eq_getElem _
    have htk : g.ts[k]? = some (g.ts[k]'(by rw [gi.ts]; exact hkl)) := List.getElem?_eq_getElem _
    have hrl := gi.rl _ (List.mem_of_getElem? hrk)
    refine x_assignN H vK fun s₂ H => ?_
    refine e_tupZ H (a_cons (e_bin (e_sub (e_var H cR.1 (upd_get (by decide +kernel) (cR.2.trans mR)) (e_var H vK.var (upd_self _ _ _) (d_item (R := Rstr) H (mono_list mono_str _ _ _ _ hz₆ hvc) ⟨t, rfl⟩ hrk (by rw [gi.rg]; exact Mine.om273 hab) fun y hy => ?_))))))
    obtain ⟨ty, rfl⟩ := hy
    have hml := mul_len (k % 2) (by exact Mine.om289)
    refine e_bin (e_str H fun u₁ s₃ H => e_bin (e_var H vK.var (upd_self _ _ _) (e_int H fun u₂ s₄ H => d_modN (b := 2) H (by decide) fun u₃ s₅ H => d_mulS H (by decide +kernel) (by exact Mine.om288) fun u₄ s₆ H => d_addS H (by rw [sizeLine_eq]; show _ + (Txt.mul sSlash ((k % 2 : Nat) : Int)).length ≤ _; exact Mine.om287 hab hrl hml) fun u₅ s₇ H => ?_)))
    refine a_one (e_sub (e_var H cT.1 (upd_get (by decide +kernel) (cT.2.trans mT)) (e_var H vK.var (upd_self _ _ _) (d_item (R := Rstr) H (mono_list mono_str _ _ _ _ hz₆ hvd) ⟨t, rfl⟩ htk (by rw [gi.ts]; exact Mine.om273 hab) fun y hy => ?_))))
    refine ⟨by rw [sizeLine_eq]; simp, z₆, _, _, H, fun c z₇ s₈ hz₇ hc H => fin₂ _ _ ⟨z₇, _, _, H, hz₇, Rr_some (by rw [hk]; rfl) ⟨c, _, _, rfl, hc, ?_, ?_⟩⟩⟩
    · refine ⟨u₅, ?_⟩
      unfold memF at?
      rw [hrk]; rfl
    · have := mono_str _ _ _ _ hz₇ hy
      unfold memF at?
      rw [htk]; exact this
  intro z₆ s₂₁ D ys opts H hz₆ hlen' hops hys
  obtain ⟨m₃, k, mM, H⟩ := H.named
  have hmem : All2 (RMem z₆) ys.toList (lawMem g) := by
    have := comp_vals (hlen'.trans elu) hops hys
    rwa [List.filterMap_eq_map'] at this
  obtain ⟨z₇, hz₇, hD, H⟩ := H.freezeL
  have hmemL : Rlist RMem z₇ (.ref D) (lawMem g) := ⟨D, ys, rfl, hD, hmem.mono fun _ _ => mono_pair mono_str mono_str _ _ _ _ hz₇⟩
  have hz₈ := hz₆.trans hz₇
  have hva := mono_list mono_nat _ _ _ _ hz₈ hva
  have hvb := mono_list mono_str _ _ _ _ hz₈ hvb
  have hvc := mono_list mono_str _ _ _ _ hz₈ hvc
  have hvd := mono_list mono_str _ _ _ _ hz₈ hvd
  have hls : Rlist Rnat z₇ (.ref lv) (lawLeaves g) := mono_list mono_nat _ _ _ _ hz₈ ⟨lv, lus, rfl, hlv, hlus⟩
  have mA := k _ _ (by decide +kernel) mA
  have mW := k _ _ (by decide +kernel) mW
  have mR := k _ _ (by decide +kernel) mR
  have mT := k _ _ (by decide +kernel) mT
  have mL := k _ _ (by decide +kernel) mL
  clear hlv hlus
  have hz : Le (fun _ => none) z₇ := fun _ _ e => nomatch e
  have hwlen : ways.length = (lawMem g).length := optAll_len LK.hways
  have hml2 : (lawMem g).length = (lawLeaves g).length := List.length_map _
  have eys : ys.size = (lawMem g).length := by rw [← hmem.length]; simp
  have hwl60 : ∀ way ∈ ways, way.length ≤ 60 := fun way hw => by
    obtain ⟨i, hi, rfl⟩ := List.mem_iff_getElem.mp hw
    obtain ⟨b, h1, h2⟩ := optAll_get LK.hways (i := i) (List.getElem?_eq_getElem (by exact Mine.om286 hwlen hi))
    rw [List.getElem?_eq_getElem hi] at h2
    cases h2
    exact ancF_len 60 _ _ h1
  have hmem : All2 (RMem z₇) ys.toList (lawMem g) := hmem.mono fun _ _ => mono_mem _ _ _ _ hz₇
  -- folders
  refine x_set (e_bcall (.type "list") H gl (a_one (e_ded H gD (a_one (e_comp2 H ⟨by decide +kernel, rfl, by decide +kernel⟩ (free_of [] (by decide +kernel) all_nil) (e_var H vM.var mM (i_list H R'.hh hD fun I s₂₂ H IT => ⟨I, _, _, z₇, rfl, H, IT, by rw [sizeLine_eq]; exact Mine.om285 hlll hml2 eys,
    (fun i z ys => All2 (Rstr z) ys ((ways.take i).map (List.drop 1)).flatten), trivial, ?_, fun _ _ _ _ k q => q.mono fun _ _ => mono_str _ _ _ _ k, ?_⟩)))))))
  · intro i v z₈ B₁ C cenv mc s₁ D₁ zs E' hi hP hz₈ hJ H CE
    obtain ⟨mm, hmm, ta, u, y, rfl, hta, ⟨tn, rfl⟩, ⟨tx, rfl⟩⟩ := hmem.get' (i := i) (a := v) (by simpa using hP)
    have vN := CE.loc (Str.ofString "name") (by kernel_rfl)
    have vX := CE.loc (Str.ofString "text") (by kernel_rfl)
    have vY := CE.loc (Str.ofString "way") (by kernel_rfl)
    have gl := CE.glo (Str.ofString "list") (by kernel_rfl)
    have gA := CE.glo (Str.ofString "_ancestry") (by kernel_rfl)
    have hmo := hgmem mm (List.mem_of_getElem? hmm)
    unfold memOk at hmo
    have hmo : mm.1.length ≤ 900 := of_decide_eq_true (Bool.and_eq_true_iff.mp hmo).1
    obtain ⟨way, hw, hway⟩ := optAll_get LK.hways hmm
    have hw : anc mm.1 = some way := hw
    have hw60 := hwl60 way (List.mem_of_getElem? hway)
    have htk : ways.take (i + 1) = ways.take i ++ [way] := by rw [List.take_add_one, hway]; rfl
    have CE : CEnv _ _ (upd (upd mc (Str.ofString "name") (.str mm.1 tn)) (Str.ofString "text") (.str mm.2 tx)) C cenv := (CE.put (by kernel_rfl)).put (by kernel_rfl)
    have hzl : zs.length ≤ ways.length * 60 := by
      rw [hJ.length]
      refine Nat.le_trans (flat_len (N := 60) fun way hw => hwl60 way (List.mem_of_mem_take hw)) (Nat.mul_le_mul_right _ ?_)
      rw [List.length_take]; exact Mine.om284
    refine g_tuple H R'.hh (hta.mono hz₈) rfl fun s₂ H => i_cons (x_assignN H vN fun s₃ H => i_cons (x_assignN H vX fun s₄ H => i_nil ?_))
    refine e_sliceL H (e_bcall (.type "list") H gl (a_one (e_gcall (.ref 61) H gA (a_one (e_var H vN.var (upd_get (by decide +kernel) (upd_self _ _ _)) ⟨H.gd', ?_⟩))))) (fun _ _ => ⟨_, by with_unfolding_all rfl⟩)
    refine anclist_ok H.sit (R'.le (by exact Mine.om283)) (by rw [sizeLine_eq]; exact Mine.om213 hmo) hw (by rw [sizeLine_eq]; exact Mine.om224 hw60) fun r z₉ s₅ N hr => ?_
    obtain ⟨la, lvs, rfl, hla, hlvs⟩ := hr
    have H := H.nx N
    have elv : lvs.size = way.length := by rw [← hlvs.length]; simp
    refine p_some (e_int H fun t s₆ H => p_none (p_none ⟨la, lvs, some 1, none, none, z₉, _, _, rfl, H, hla.plain H, by rw [sizeLine_eq]; exact Mine.om282 hw60 elv, .int _ _, .none, .none, by decide, fun a z₁₀ s₇ hz₁₀ ha H => ?_⟩))
    rw [show slicePick lvs (some 1) none none = (lvs.toList.drop 1).toArray from slicePick_from' _ 1] at ha
    have hdr : All2 (Rstr z₁₀) (lvs.toList.drop 1) (way.drop 1) := (hlvs.drop 1).mono fun _ _ => mono_str _ _ _ _ hz₁₀
    refine ⟨fun _ => rfl, i_list H R'.hh ha fun I2 s₈ H IT2 => ⟨I2, _, _, z₁₀, _, rfl, H, IT2, N.zz.trans hz₁₀, ?_, CE, lvs.toList.drop 1, by simp, ?_, ?_⟩⟩
    · have : (lvs.toList.drop 1).toArray.size ≤ 60 := by simp; exact Mine.om281 hw60 elv
      rw [sizeLine_eq]
      exact Mine.om280 hlll hwlen hml2 hzl this
    · show All2 (Rstr z₁₀) (zs ++ lvs.toList.drop 1) ((ways.take (i + 1)).map (List.drop 1)).flatten
      rw [htk, List.map_append, List.flatten_append]
      refine (hJ.mono fun _ _ => mono_str _ _ _ _ (N.zz.trans hz₁₀)).append ?_
      simpa using hdr
    · intro j v2 z₁₁ B₂ mc₄ mu₄ s₉ E'' hj hP2 hz₁₁ H CE
      refine x_assignN H vY fun s₁₀ H => e_var H vY.var (upd_self _ _ _) ⟨by simpa using hP2, _, H, CE.put (by kernel_rfl)⟩
  intro z₈ s₂₂ D₂ zs H hz₈ hJ
  have hJ : All2 (Rstr z₈) zs.toList (ways.map (List.drop 1)).flatten := by rwa [List.take_of_length_le (by exact Mine.om279 hwlen eys)] at hJ
  have hfl := flat_len hwl60
  obtain ⟨z₉, hz₉, hD₂, H⟩ := H.freezeL
  refine ⟨H.gd', ded_ok H.sit (R'.le (by exact Mine.om278)) ⟨D₂, zs, rfl, hD₂, hJ.mono fun _ _ => mono_str _ _ _ _ hz₉⟩ (by rw [sizeLine_eq]; exact Mine.om277 hlll hwlen hml2 hfl) fun a kvs z₁₀ s₂₃ N hd hkv => ?_⟩
  have H := H.nx N
  have hkl : kvs.length ≤ sizeLine := by
    have h1 : (kvs.map (·.1)).length ≤ (ways.map (List.drop 1)).flatten.length := by rw [hkv]; exact Nat.le_trans (addS_len _ []) (by simp)
    rw [List.length_map] at h1
    rw [sizeLine_eq]; exact Mine.om276 hlll hwlen hml2 hfl h1
  refine d_listD H R'.hh hd hkl fun fa fvs z₁₁ s₂₄ hz₁₁ hfa hfv H => x_storeG H vF fun m₄ k mF s₂₅ H => ?_
  rw [hkv, LK.fold] at hfv
  have hz₁₂ := hz₈.trans (hz₉.trans (N.zz.trans hz₁₁))
  have hva := mono_list mono_nat _ _ _ _ hz₁₂ hva
  have hvb := mono_list mono_str _ _ _ _ hz₁₂ hvb
  have hvc := mono_list mono_str _ _ _ _ hz₁₂ hvc
  have hvd := mono_list mono_str _ _ _ _ hz₁₂ hvd
  have hls := mono_list mono_nat _ _ _ _ hz₁₂ hls
  have hmemL := mono_list mono_mem _ _ _ _ hz₁₂ hmemL
  have mA := k _ _ (by decide +kernel) mA
  have mW := k _ _ (by decide +kernel) mW
  have mR := k _ _ (by decide +kernel) mR
  have mT := k _ _ (by decide +kernel) mT
  have mL := k _ _ (by decide +kernel) mL
  have mM := k _ _ (by decide +kernel) mM
  have hpar : ∀ x ∈ lawLeaves g, ∃ p, g.ab[x]? = some p ∧ p < g.ab.length := fun x hx => by
    have hl := hlvl x hx
    rcases Nat.eq_zero_or_pos x with rfl | h0
    · exact ⟨0, LK.a0, hl⟩
    · obtain ⟨p, hp, hlt⟩ := LK.up x hl h0
      exact ⟨p, hp, by exact Mine.om66 hl hlt⟩
  have hparF : ∀ x ∈ lawLeaves g, parF g.ab x < g.ab.length := fun x hx => by
    obtain ⟨p, hp, hlt⟩ := hpar x hx
    unfold parF; rw [hp]; exact hlt
  have hfm := folders_mem LK.up hparF
  have hfl := folders_len (N := 15) fun x hx => Nat.le_trans (Nat.le_of_lt (hparF x hx)) hab
  refine x_if (t_cmp (e_var H vF.var mF (e_comp H ⟨by decide +kernel, rfl, by decide +kernel⟩ (free_of [Str.ofString "rough"] (by decide +kernel) (all_cons cR all_nil)) (e_gcall (.ref 93) H gF (a_cons (e_var H vA.var mA (a_one (e_var H vL.var mL ⟨H.gd', ?_⟩))))))))
  refine folders_ok H.sit (R'.le (by exact Mine.om264)) hva hls (by exact Mine.om117 hab) (by exact Mine.om275 hlll) LK.up hpar fun r z₁₂ s₂₆ N₁₂ hr => ?_
  have H := H.nx N₁₂
  obtain ⟨b, us, rfl, hb, hus⟩ := hr
  have eus : us.size = (foldersF g.ab (lawLeaves g)).length := by rw [← hus.length]; simp
  have hvc := mono_list mono_str _ _ _ _ N₁₂.zz hvc
  refine i_list H R'.hh hb fun I s₂₇ H IT => compI H IT (by rw [sizeLine_eq]; exact Mine.om274 hlll hfl eus) (Rr Rstr (fun i => (foldersF g.ab (lawLeaves g))[i]?.bind fun k => some (at? g.rg k))) (Rr.mono mono_str) ?_ ?_
  · intro i v z₁₃ B₁ C cenv mc s₁ E' hi hP hz₁₃ H CE
    refine turnC fun Q₂ fin₂ => ?_
    obtain ⟨k, hk, t, rfl⟩ := hus.get' (i := i) (a := v) (by simpa using hP)
    have vK := CE.loc (Str.ofString "k") (by kernel_rfl)
    have cR := CE.cap (Str.ofString "rough") (by kernel_rfl)
    have hkl := (hfm k (List.mem_of_getElem? hk)).2
    have hrk : g.rg[k]? = some (g.rg[k]'(by rw [gi.rg]; exact hkl)) := List.getElem?_eq_getElem _
    refine x_assignN H vK fun s₂ H => ?_
    refine e_sub (e_var H cR.1 (upd_get (by decide +kernel) (cR.2.trans mR)) (e_var H vK.var (upd_self _ _ _) (d_item (R := Rstr) H (mono_list mono_str _ _ _ _ hz₁₃ hvc) ⟨t, rfl⟩ hrk (by rw [gi.rg]; exact Mine.om273 hab) fun y hy => ?_)))
    refine fin₂ _ _ ⟨z₁₃, _, _, H, Le.refl _, Rr_some (by rw [hk]; rfl) ?_⟩
    unfold at?
    rw [hrk]; exact hy
  intro z₁₃ s₂₈ D₃ zs₃ opts H hz₁₃ hlen' hops hys
  have hvals : All2 (Rstr z₁₃) zs₃.toList ((foldersF g.ab (lawLeaves g)).map (at? g.rg)) := by
    have := comp_vals (hlen'.trans eus) hops hys
    rwa [List.filterMap_eq_map'] at this
  obtain ⟨z₁₄, hz₁₄, hD₃, H⟩ := H.freezeL
  have hz₁₅ := N₁₂.zz.trans (hz₁₃.trans hz₁₄)
  have hva := mono_list mono_nat _ _ _ _ hz₁₅ hva
  have hvb := mono_list mono_str _ _ _ _ hz₁₅ hvb
  have hvd := mono_list mono_str _ _ _ _ hz₁₅ hvd
  have hls := mono_list mono_nat _ _ _ _ hz₁₅ hls
  have hmemL := mono_list mono_mem _ _ _ _ hz₁₅ hmemL
  have hatk : ∀ x ∈ (foldersF g.ab (lawLeaves g)).map (at? g.rg), PyData.strOk x = true := fun x hx => by
    obtain ⟨k, hk, rfl⟩ := List.mem_map.mp hx
    have hkl := (hfm k hk).2
    have hrk : g.rg[k]? = some (g.rg[k]'(by rw [gi.rg]; exact hkl)) := List.getElem?_eq_getElem _
    unfold at?
    rw [hrk]
    exact LK.vr _ (List.getElem_mem _)
  refine d_neD (dat_list dat_str) H (R'.le (by exact Mine.om264)) (by exact Mine.om272) (x := (foldersF g.ab (lawLeaves g)).map (at? g.rg)) (y := (foldersF g.ab (lawLeaves g)).map (at? g.rg)) ⟨fa, fvs, rfl, hfa.mono hz₁₅, hfv.mono fun _ _ => mono_str _ _ _ _ hz₁₅⟩ ⟨D₃, zs₃, rfl, hD₃, hvals.mono fun _ _ => mono_str _ _ _ _ hz₁₄⟩ hatk hatk fun b hb => ⟨b, rfl, fun q => absurd rfl (hb.mp q), fun _ => ?_⟩
  -- header
  refine x_set (e_gcall (.ref 107) H gW (a_cons (e_var H vA.var mA (a_cons (e_var H vW.var mW (a_cons (e_var H vT.var mT (a_one (e_int H fun t₁ s₂₉ H => ⟨H.gd', ?_⟩)))))))))
  refine written_ok LK.wds hab 3 0 (by exact Mine.om104) LK.ht _ _ _ _ _ _ H.sit (R'.le (by exact Mine.om271)) hva hvb hvd ⟨t₁, rfl⟩ fun r z₁₆ s₃₀ N₁₆ hr => ?_
  obtain ⟨th, rfl⟩ := hr
  have H := H.nx N₁₆
  refine x_storeG H vH fun m₅ k mH s₃₁ H => ?_
  generalize hhd : writtenF g.ab g.ws g.ts 3 0 = hd at mH
  have mA := k _ _ (by decide +kernel) mA
  have mW := k _ _ (by decide +kernel) mW
  have mT := k _ _ (by decide +kernel) mT
  have mL := k _ _ (by decide +kernel) mL
  have mM := k _ _ (by decide +kernel) mM
  have hva := mono_list mono_nat _ _ _ _ N₁₆.zz hva
  have hvb := mono_list mono_str _ _ _ _ N₁₆.zz hvb
  have hvd := mono_list mono_str _ _ _ _ N₁₆.zz hvd
  have hls := mono_list mono_nat _ _ _ _ N₁₆.zz hls
  have hmemL := mono_list mono_mem _ _ _ _ N₁₆.zz hmemL
  have hpack := LK.pack
  have hread := LK.read
  rw [hhd] at hpack hread
  -- packed
  refine x_if (t_cmp (e_gcall (.ref 112) H gP (a_one (e_var H vM.var mM ⟨H.gd', ?_⟩))))
  refine packed_ok w 8 _ _ _ _ _ _ _ _ H.sit (R'.le (by exact Mine.om270)) hmemL hpack fun r z₁₇ s₃₂ N₁₇ hr => ?_
  obtain ⟨tp, rfl⟩ := hr
  have H := H.nx N₁₇
  refine e_var H vH.var mH (d_neS ⟨_, rfl, fun q => (by rw [bne_self_eq_false] at q; cases q), fun _ => ?_⟩)
  have hva := mono_list mono_nat _ _ _ _ N₁₇.zz hva
  have hvb := mono_list mono_str _ _ _ _ N₁₇.zz hvb
  have hvd := mono_list mono_str _ _ _ _ N₁₇.zz hvd
  have hls := mono_list mono_nat _ _ _ _ N₁₇.zz hls
  -- read
  have hhl : hd.length ≤ Lw 3 := by rw [← hhd]; exact written_len LK.wds hab 3 0
  have hLw : Lw 3 + 2 ≤ 16777216 := by decide
  refine x_ret (e_cmp (e_gcall (.ref 119) H gR (a_cons (e_var H vH.var mH (a_one (e_listZ H (a_nil ⟨by rw [sizeLine_eq]; simp, _, _, _, H, fun c z₁₈ s₃₃ hz₁₈ hc H => ⟨H.gd', ?_⟩⟩)))))))
  refine read_ok w 8 (by exact Mine.om269) _ _ _ _ hd th [] _ _ _ H.sit (R'.le (by exact Mine.om268)) ⟨c, _, rfl, hc, trivial⟩ (by simp) (by rw [sizeLine_eq]; exact Mine.om267 hhl hLw) hread (by rw [List.length_map, sizeLine_eq]; exact Mine.om266 hlll) fun r z₁₉ s₃₄ N₁₉ hr => ?_
  have H := H.nx N₁₉
  have hz₁₉ := hz₁₈.trans N₁₉.zz
  have hva := mono_list mono_nat _ _ _ _ hz₁₉ hva
  have hvb := mono_list mono_str _ _ _ _ hz₁₉ hvb
  have hvd := mono_list mono_str _ _ _ _ hz₁₉ hvd
  obtain ⟨l₂, lus, e₂, hlv, hlus⟩ := mono_list mono_nat _ _ _ _ hz₁₉ hls
  cases e₂
  have elu : lus.size = (lawLeaves g).length := by rw [← hlus.length]; simp
  refine e_comp H ⟨by decide +kernel, rfl, by decide +kernel⟩ (free_of [Str.ofString "above", Str.ofString "texts", Str.ofString "words"] (by decide +kernel) (all_cons cA (all_cons cT (all_cons cW all_nil)))) (e_var H vL.var mL (i_list H R'.hh hlv fun I s₃₅ H IT => compI H IT (by rw [sizeLine_eq]; exact Mine.om265 hlll elu)
    (Rr RRow (fun i => (lawLeaves g)[i]?.bind fun k => some (dueF g.ab g.ws g.ts k))) (Rr.mono mono_row) ?_ ?_))
  · intro i v z₂₀ B₁ C cenv mc s₁ E' hi hP hz₂₀ H CE
    refine turnC fun Q₂ fin₂ => ?_
    obtain ⟨k, hk, t, rfl⟩ := hlus.get' (i := i) (a := v) (by simpa using hP)
    have vK := CE.loc (Str.ofString "leaf") (by kernel_rfl)
    have cA := CE.cap (Str.ofString "above") (by kernel_rfl)
    have cW := CE.cap (Str.ofString "words") (by kernel_rfl)
    have cT := CE.cap (Str.ofString "texts") (by kernel_rfl)
    have gU := CE.glo (Str.ofString "_law_due") (by kernel_rfl)
    have hkl := hlvl k (List.mem_of_getElem? hk)
    refine x_assignN H vK fun s₂ H => ?_
    refine e_gcall (.ref 124) H gU (a_cons (e_var H cA.1 (upd_get (by decide +kernel) (cA.2.trans mA)) (a_cons (e_var H cW.1 (upd_get (by decide +kernel) (cW.2.trans mW)) (a_cons (e_var H cT.1 (upd_get (by decide +kernel) (cT.2.trans mT)) (a_one (e_var H vK.var (upd_self _ _ _) ⟨H.gd', ?_⟩))))))))
    refine due_ok H.sit (R'.le (by exact Mine.om264)) (mono_list mono_nat _ _ _ _ hz₂₀ hva) (mono_list mono_str _ _ _ _ hz₂₀ hvb) (mono_list mono_str _ _ _ _ hz₂₀ hvd) ⟨t, rfl⟩ (by exact Mine.om117 hab) gi.ws gi.ts LK.up hkl fun r z₂₁ s₃ N hr => ?_
    exact fin₂ _ _ ⟨z₂₁, _, _, H.nx N, N.zz, Rr_some (by rw [hk]; rfl) hr⟩
  intro z₂₀ s₃₆ D₄ zs₄ opts H hz₂₀ hlen' hops hys
  have hvals : All2 (RRow z₂₀) zs₄.toList ((lawLeaves g).map (dueF g.ab g.ws g.ts)) := by
    have := comp_vals (hlen'.trans elu) hops hys
    rwa [List.filterMap_eq_map'] at this
  obtain ⟨z₂₁, hz₂₁, hD₄, H⟩ := H.freezeL
  refine d_eqD (dat_list (dat_pair (dat_list dat_str) dat_str)) H (R'.le (by exact Mine.om264)) (by exact Mine.om263) (x := (lawLeaves g).map (dueF g.ab g.ws g.ts)) (y := (lawLeaves g).map (dueF g.ab g.ws g.ts)) (mono_list mono_row _ _ _ _ (hz₂₀.trans hz₂₁) hr) ⟨D₄, zs₄, rfl, hD₄, hvals.mono fun _ _ => mono_row _ _ _ _ hz₂₁⟩ LK.vd LK.vd fun b hb => ?_
  rw [hb.mpr rfl]
  exact fin₁ _ _ (h _ _ (H.back GS'))
end Mine
end
section
open PySem PySem.W PySem.Calls PyProof.Rows PySem.Spec PySem.Builtin PySem.Builtin.Str
set_option Elab.async false
set_option linter.unusedVariables false
namespace Mine
noncomputable abbrev L (x : Str) : List Nat := x.cps.toList
theorem L_ext {x y : Str} (h : L x = L y) : x = y := by
  obtain ⟨⟨a⟩⟩ := x; obtain ⟨⟨b⟩⟩ := y
  have : a = b := h
  rw [this]
theorem L_app (x y : Str) : L (x ++ y) = L x ++ L y := by simp [L, Str.cps_append]
theorem L_len (x : Str) : x.length = (L x).length := by simp [L, Str.length]
theorem L_mk (l : List Nat) : L ⟨l.toArray⟩ = l := rfl
theorem L_nil : L sNil = [] := by decide +kernel
theorem L_slash : L sSlash = [47] := by decide +kernel
theorem L_sub (x : Str) (i j : Nat) : L (strSub x i j) = ((L x).take j).drop i := by
  simp [L, strSub, Array.toList_extract, List.drop_take]

theorem takeWhile_drop {α : Type} (p : α → Bool) : ∀ l : List α, l.drop (l.takeWhile p).length = l.dropWhile p
  | [] => rfl
  | a :: l => by
    rw [List.takeWhile_cons, List.dropWhile_cons]
    by_cases h : p a = true
    · rw [if_pos h, if_pos h]; exact takeWhile_drop p l
    · rw [if_neg h, if_neg h]; rfl
theorem L_stripBy (g : Nat → Bool) (x : Str) : L (Txt.stripBy g false true x) = ((L x).reverse.dropWhile g).reverse ∧ L (Txt.stripBy g true false x) = (L x).dropWhile g ∧ L (Txt.stripBy g true true x) = (((L x).dropWhile g).reverse.dropWhile g).reverse := by
  have key : ∀ l : List Nat, l.take (l.length - (l.reverse.takeWhile g).length) = (l.reverse.dropWhile g).reverse := fun l => by
    rw [← takeWhile_drop, ← List.length_reverse (as := l), List.drop_reverse, List.reverse_reverse, List.length_reverse]
  have hx : x.length = (L x).length := L_len x
  refine ⟨?_, ?_, ?_⟩
  · rw [PyProof.Rows.stripBy_eq, L_sub]
    simp only [stripLo, stripHi, if_true, Bool.false_eq_true, if_false, List.drop_zero]
    rw [hx]; exact key _
  · rw [PyProof.Rows.stripBy_eq, L_sub]
    simp only [stripLo, stripHi, if_true, Bool.false_eq_true, if_false]
    rw [hx, List.take_length]; exact takeWhile_drop _ _
  · rw [PyProof.Rows.stripBy_eq, L_sub]
    simp only [stripLo, stripHi, if_true]
    rw [hx]
    show ((L x).take ((L x).length - (((L x).drop ((L x).takeWhile g).length).reverse.takeWhile g).length)).drop ((L x).takeWhile g).length = _
    generalize L x = l
    have h1 : (l.takeWhile g).length + (l.dropWhile g).length = l.length := by rw [← List.length_append, List.takeWhile_append_dropWhile]
    rw [List.drop_take, takeWhile_drop, ← key]
    congr 1
    exact Mine.om297 h1
theorem slash_goes : (fun c : Nat => sSlash.cps.contains c) = (fun c => c == 47) := by
  have : sSlash = ⟨#[47]⟩ := by decide +kernel
  rw [this]
  funext c
  simp
  rfl
theorem L_rstrip (x : Str) : L (Txt.rstripChars x sSlash) = ((L x).reverse.dropWhile (· == 47)).reverse := by
  have h := (L_stripBy sSlash.cps.contains x).1
  rw [show (sSlash.cps.contains : Nat → Bool) = fun c => c == 47 from slash_goes] at h
  rw [← h]
  unfold Txt.rstripChars
  rw [show (sSlash.cps.contains : Nat → Bool) = fun c => c == 47 from slash_goes]
theorem L_lstrip (x : Str) : L (Txt.lstripChars x sSlash) = (L x).dropWhile (· == 47) := by
  have h := (L_stripBy sSlash.cps.contains x).2.1
  rw [show (sSlash.cps.contains : Nat → Bool) = fun c => c == 47 from slash_goes] at h
  rw [← h]
  unfold Txt.lstripChars
  rw [show (sSlash.cps.contains : Nat → Bool) = fun c => c == 47 from slash_goes]
theorem L_strip (x : Str) : L (Txt.strip x) = (((L x).dropWhile Unicode.isSpace).reverse.dropWhile Unicode.isSpace).reverse := (L_stripBy Unicode.isSpace x).2.2

theorem fold_rep (c : Nat) : ∀ (n : Nat) (a : Array Nat), ((List.replicate n #[c]).foldl (· ++ ·) a).toList = a.toList ++ List.replicate n c
  | 0, a => by simp
  | n + 1, a => by
    rw [List.replicate_succ, List.foldl_cons, fold_rep c n, List.replicate_succ]
    simp
theorem L_mul (n : Nat) : L (Txt.mul sSlash (n : Int)) = List.replicate n 47 := by
  have e : sSlash = ⟨#[47]⟩ := by decide +kernel
  rw [e]
  unfold Txt.mul
  by_cases h : (n : Int) < 1
  · rw [if_pos h]
    have : n = 0 := by exact Mine.om296 h
    subst this; rfl
  · rw [if_neg h]
    by_cases h1 : ((n : Int) == 1 || (⟨#[47]⟩ : Str).length == 0) = true
    · rw [if_pos h1]
      have : n = 1 := by
        rcases Bool.or_eq_true_iff.mp h1 with q | q
        · have := beq_iff_eq.mp q; exact Mine.om295 this
        · exact absurd q (by decide)
      subst this; rfl
    · rw [if_neg h1]
      show ((List.replicate (n : Int).toNat #[47]).foldl (· ++ ·) #[]).toList = _
      rw [fold_rep]; simp

/-! one character for a text -/
theorem L_joinS (z : Str) : ∀ (xs : List Str), L (Str.join z xs) = match xs with | [] => [] | x :: r => L x ++ r.flatMap (fun y => L z ++ L y)
  | [] => rfl
  | [x] => by simp [Str.join]
  | x :: y :: r => by
    have ih := L_joinS z (y :: r)
    show L (x ++ z ++ Str.join z (y :: r)) = _
    rw [L_app, L_app, ih]
    simp
noncomputable def sub1 (c : Nat) (z : List Nat) (l : List Nat) : List Nat := l.flatMap fun k => if k = c then z else [k]
theorem sub1_free (c : Nat) (z : List Nat) : ∀ l : List Nat, c ∉ l → sub1 c z l = l
  | [], _ => rfl
  | k :: r, h => by
    have h1 : ¬ k = c := fun e => h (e ▸ List.mem_cons_self ..)
    have ih := sub1_free c z r fun m => h (List.mem_cons_of_mem _ m)
    unfold sub1 at ih ⊢
    rw [List.flatMap_cons, if_neg h1, ih]; rfl
theorem sub1_app (c : Nat) (z a b : List Nat) : sub1 c z (a ++ b) = sub1 c z a ++ sub1 c z b := by unfold sub1; rw [List.flatMap_append]
theorem sub1_join (c : Nat) (z : Str) : ∀ parts : List Str, (∀ p ∈ parts, c ∉ L p) → sub1 c (L z) (L (Str.join ⟨#[c]⟩ parts)) = L (Str.join z parts)
  | [], _ => rfl
  | [p], h => sub1_free c _ _ (h p (List.mem_singleton.mpr rfl))
  | p :: q :: r, h => by
    have ih := sub1_join c z (q :: r) fun a ha => h a (List.mem_cons_of_mem _ ha)
    show sub1 c (L z) (L (p ++ ⟨#[c]⟩ ++ Str.join ⟨#[c]⟩ (q :: r))) = L (p ++ z ++ Str.join z (q :: r))
    rw [L_app, L_app, L_app, L_app, sub1_app, sub1_app, ih, sub1_free c _ _ (h p (List.mem_cons_self ..))]
    congr 2
    show sub1 c (L z) [c] = L z
    simp [sub1]
theorem L_replace (x z : Str) (c : Nat) : L (Txt.replace x ⟨#[c]⟩ z) = sub1 c (L z) (L x) := by
  rw [StrLaws.replace_one, ← sub1_join c z _ (StrLaws.split_free x c), StrLaws.join_split]
noncomputable def escL (l : List Nat) : List Nat := l.flatMap fun c => if c = 92 then [92, 92] else if c = 34 then [92, 34] else [c]
theorem L_esc (h : Str) : L (escF h) = escL (L h) := by
  unfold escF
  rw [sBack_is, sBack2_is, sQuot_is, sQuotE_is, L_replace, L_replace]
  unfold sub1 escL
  rw [List.flatMap_assoc]
  congr 1
  funext c
  by_cases h1 : c = 92
  · rw [if_pos h1, if_pos h1]; rfl
  · rw [if_neg h1, if_neg h1]
    by_cases h2 : c = 34 <;> simp [h2]
noncomputable def rawL (l : List Nat) : List Nat := if l = [92] then [92] else 34 :: (escL l ++ [34])
theorem L_item (w h : Str) : L (itemF w h) = L w ++ 61 :: rawL (L h) := by
  unfold itemF rawL
  rw [L_app, L_app, show L sEq = [61] from by decide +kernel]
  by_cases e : h = sBack
  · subst e
    rw [if_pos (by simp), if_pos (by decide +kernel)]
    simp [show L sBack = [92] from by decide +kernel]
  · rw [if_neg (by simpa using e), if_neg (fun q => e (L_ext (by rw [q]; decide +kernel)))]
    rw [L_app, L_app, L_esc, show L sQuot = [34] from by decide +kernel]
    simp
theorem L_join (xs : List Str) : L (Txt.join sComma xs) = match xs with | [] => [] | x :: r => L x ++ r.flatMap (fun y => 44 :: 32 :: L y) := by
  rw [show Txt.join sComma xs = Str.join sComma xs from StrLaws.glued_eq_join _ _, L_joinS]
  rw [show L sComma = [44, 32] from by decide +kernel]
  rfl
end Mine
end
section
open PySem PySem.W PySem.Calls PyProof.Rows PySem.Spec PySem.Builtin PySem.Builtin.Str
set_option Elab.async false
set_option linter.unusedVariables false
namespace Mine
theorem fm_congr {α β : Type} {f g : α → Option β} : ∀ {l : List α}, (∀ k ∈ l, f k = g k) → l.filterMap f = l.filterMap g
  | [], _ => rfl
  | a :: l, h => by rw [List.filterMap_cons, List.filterMap_cons, h a (.head _), fm_congr fun k hk => h k (.tail _ hk)]
/-- an end of a slice, for the step 1 -/
noncomputable def clipF (v : Option Int) (d n : Int) : Int := match v with
  | none => d
  | some i => max 0 (min (if i < 0 then i + n else i) n)
theorem strSl1 (l u : Option Int) (n : Nat) : strSliceIndices l u 1 n = sliceRange (clipF l 0 n) (clipF u n n) 1 := by cases l <;> cases u <;> rfl
theorem clip_nat (k n : Nat) (d : Int) : clipF (some (k : Int)) d n = ((min k n : Nat) : Int) := by
  show max 0 (min (if (k : Int) < 0 then (k : Int) + n else k) (n : Int)) = _
  rw [if_neg (Int.not_lt.mpr (Int.natCast_nonneg k)), Int.max_eq_right (Int.le_min.mpr ⟨Int.natCast_nonneg k, Int.natCast_nonneg n⟩)]
  exact Mine.om310
theorem clip_neg (n : Nat) (d : Int) (h : 1 ≤ n) : clipF (some (-1)) d n = ((n - 1 : Nat) : Int) := by
  show max 0 (min (if (-1 : Int) < 0 then (-1 : Int) + n else -1) (n : Int)) = _
  rw [if_pos (by decide)]
  exact Mine.om309
theorem L_slice_ab (x : Str) (l u : Option Int) (a b : Nat) (hab : a ≤ b) (hb : b ≤ x.length) (el : clipF l 0 x.length = (a : Int)) (eu : clipF u x.length x.length = (b : Int)) :
    L (Txt.slice x l u) = ((L x).take b).drop a := by
  have hx := L_len x
  unfold Txt.slice
  rw [strSl1, el, eu, show sliceRange (a : Int) (b : Int) 1 = strSliceIndices (some (a : Int)) (some (b : Int)) 1 x.length from by rw [strSl1, clip_nat, clip_nat, Nat.min_eq_left hb, Nat.min_eq_left (Nat.le_trans hab hb)], StrLaws.strSliceIndices_plain hab hb]
  split
  · rename_i h
    have h2 : b - a = x.length := by simpa using h
    have ha : a = 0 := by exact Mine.om308 hab hb h2
    subst ha
    have hb2 : b = (L x).length := by exact Mine.om307 hx h2
    rw [hb2, List.take_length, List.drop_zero]
  · rw [L_mk, List.filterMap_map]
    have hm : (((L x).take b).drop a).length = b - a := by rw [List.length_drop, List.length_take]; exact Mine.om306 hb hx
    have hr := range_fm (((L x).take b).drop a) (some : Nat → Option Nat)
    rw [List.filterMap_some, hm] at hr
    rw [← hr]
    refine fm_congr fun k hk => ?_
    have hk : k < b - a := by simpa using hk
    rw [show ((((L x).take b).drop a)[k]?.bind some) = (((L x).take b).drop a)[k]? from by cases (((L x).take b).drop a)[k]? <;> rfl]
    rw [List.getElem?_drop, List.getElem?_take_of_lt (by exact Mine.om305 hk)]
    show x.cps[a + k]? = x.cps.toList[a + k]?
    rw [Array.getElem?_toList]
theorem L_from (x : Str) (n : Nat) : L (Txt.slice x (some (n : Int)) none) = (L x).drop n := by
  have hx := L_len x
  rw [L_slice_ab x _ _ (min n x.length) x.length (by exact Mine.om284) (Nat.le_refl _) (clip_nat _ _ _) rfl]
  rw [hx, List.take_length]
  by_cases h : n ≤ (L x).length
  · rw [Nat.min_eq_left h]
  · rw [Nat.min_eq_right (by exact Mine.om303 h), List.drop_length, List.drop_eq_nil_of_le (by exact Mine.om303 h)]
theorem L_upto (x : Str) (n : Nat) : L (Txt.slice x none (some (n : Int))) = (L x).take n := by
  have hx := L_len x
  rw [L_slice_ab x _ _ 0 (min n x.length) (by exact Mine.om304) (by exact Mine.om284) rfl (clip_nat _ _ _)]
  rw [hx, List.drop_zero]
  by_cases h : n ≤ (L x).length
  · rw [Nat.min_eq_left h]
  · rw [Nat.min_eq_right (by exact Mine.om303 h), List.take_length, List.take_of_length_le (by exact Mine.om303 h)]
theorem L_lastF (k : Str) (p : List Nat) (c : Nat) (h : L k = p ++ [c]) : L (lastF k) = [c] := by
  have hx := L_len k
  have hl : (L k).length = p.length + 1 := by rw [h]; simp
  rw [show lastF k = Txt.slice k (some (-1)) none from rfl, L_slice_ab k _ _ (k.length - 1) k.length (by exact Mine.om90) (Nat.le_refl _) (clip_neg _ _ (by exact Mine.om301 hx hl)) rfl]
  rw [hx, List.take_length, hl, h]
  simp
theorem L_butF (k : Str) (p : List Nat) (c : Nat) (h : L k = p ++ [c]) : L (butF k) = p := by
  have hx := L_len k
  have hl : (L k).length = p.length + 1 := by rw [h]; simp
  rw [show butF k = Txt.slice k none (some (-1)) from rfl, L_slice_ab k _ _ 0 (k.length - 1) (by exact Mine.om302) (by exact Mine.om90) rfl (clip_neg _ _ (by exact Mine.om301 hx hl))]
  rw [hx, hl, h]
  simp
theorem L_mid (k : Str) (p : List Nat) (c d : Nat) (h : L k = c :: (p ++ [d])) : L (Txt.slice k (some 1) (some (-1))) = p := by
  have hx := L_len k
  have hl : (L k).length = p.length + 2 := by rw [h]; simp
  rw [L_slice_ab k _ _ 1 (k.length - 1) (by exact Mine.om300 hx hl) (by exact Mine.om90) (show clipF (some 1) 0 k.length = ((1 : Nat) : Int) from (clip_nat 1 _ _).trans (by rw [Nat.min_eq_left (by exact Mine.om299 hx hl)])) (clip_neg _ _ (by exact Mine.om299 hx hl))]
  rw [hx, hl, h]
  simp
/-- the last slash -/
theorem L_rfind (x : Str) (a b : List Nat) (h : L x = a ++ 47 :: b) (hb : 47 ∉ b) : Txt.rfind x sSlash = (a.length : Int) := by
  have e : sSlash = ⟨#[47]⟩ := by decide +kernel
  unfold Txt.rfind
  rw [e]
  have key : ∀ i, StrLaws.At x ⟨#[47]⟩ x.length i ↔ (L x)[i]? = some 47 := fun i => StrLaws.subAt_one x 47 i
  have hat : (L x)[a.length]? = some 47 := by rw [h]; simp
  have hno : ∀ k, a.length < k → ¬ (L x)[k]? = some 47 := fun k hk q => by
    rw [h, List.getElem?_append_right (by exact Mine.om298 hk)] at q
    obtain ⟨j, hj⟩ : ∃ j, k - a.length = j + 1 := ⟨k - a.length - 1, by exact Mine.om153 hk⟩
    rw [hj, List.getElem?_cons_succ] at q
    exact hb (List.mem_of_getElem? q)
  rcases StrLaws.last_spec x ⟨#[47]⟩ with ⟨h1, h2⟩ | ⟨i, h1, h2, h3⟩
  · exact absurd ((key _).mpr hat) (h2 _)
  · rw [h1]
    have h2 := (key i).mp h2
    have : i = a.length := by
      rcases Nat.lt_trichotomy i a.length with q | q | q
      · exact absurd ((key _).mpr hat) (h3 _ q)
      · exact q
      · exact absurd h2 (hno i q)
    rw [this]
end Mine
end
section
open PySem PySem.W PySem.Calls PyProof.Rows PySem.Spec PySem.Builtin PySem.Builtin.Str
set_option Elab.async false
set_option linter.unusedVariables false
namespace Mine
noncomputable abbrev mk (l : List Nat) : Str := ⟨l.toArray⟩
theorem mk_L (x : Str) : mk (L x) = x := L_ext rfl
theorem snoc_mk (p : Str) (c : Nat) (l : List Nat) : (p ++ (⟨#[c]⟩ : Str)) ++ mk l = p ++ mk (c :: l) := L_ext (by simp only [L_app]; show (L p ++ [c]) ++ l = L p ++ (c :: l); simp)
theorem app_nil (p : Str) : p ++ mk [] = p := L_ext (by simp only [L_app]; show L p ++ [] = L p; simp)
theorem app_mk (p : Str) (a b : List Nat) : (p ++ mk a) ++ mk b = p ++ mk (a ++ b) := L_ext (by simp only [L_app]; show (L p ++ a) ++ b = L p ++ (a ++ b); simp)
noncomputable def plainSt (acc : List Str) (p : Str) : HS := { acc := acc, part := p, esc := false, quo := false }
noncomputable def quoSt (acc : List Str) (p : Str) : HS := { acc := acc, part := p, esc := false, quo := true }
theorem run_plain (acc : List Str) : ∀ (l : List Nat) (p : Str), 44 ∉ l → 34 ∉ l → l.foldl hstep (plainSt acc p) = plainSt acc (p ++ mk l)
  | [], p, _, _ => by rw [app_nil]; rfl
  | c :: l, p, h1, h2 => by
    have e1 : ¬ c = 44 := fun e => h1 (e ▸ List.mem_cons_self ..)
    have e2 : ¬ c = 34 := fun e => h2 (e ▸ List.mem_cons_self ..)
    have hs : hstep (plainSt acc p) c = plainSt acc (p ++ ⟨#[c]⟩) := by unfold hstep plainSt; simp [e1, e2]
    rw [List.foldl_cons, hs, run_plain acc l _ (fun m => h1 (.tail _ m)) (fun m => h2 (.tail _ m)), snoc_mk]
theorem run_quo (acc : List Str) : ∀ (l : List Nat) (p : Str), (escL l).foldl hstep (quoSt acc p) = quoSt acc (p ++ mk l)
  | [], p => by rw [app_nil]; rfl
  | c :: l, p => by
    have ih := run_quo acc l (p ++ ⟨#[c]⟩)
    have he : escL (c :: l) = (if c = 92 then [92, 92] else if c = 34 then [92, 34] else [c]) ++ escL l := by unfold escL; rw [List.flatMap_cons]
    rw [he, List.foldl_append, ← snoc_mk, ← ih]
    congr 1
    by_cases h1 : c = 92
    · subst h1; rfl
    · rw [if_neg h1]
      by_cases h2 : c = 34
      · subst h2; rfl
      · rw [if_neg h2, List.foldl_cons, List.foldl_nil]
        unfold hstep quoSt; simp [h1, h2]
noncomputable def rawU (l : List Nat) : List Nat := if l = [92] then [92] else 34 :: (l ++ [34])
theorem run_raw (acc : List Str) (l : List Nat) (p : Str) : (rawL l).foldl hstep (plainSt acc p) = plainSt acc (p ++ mk (rawU l)) := by
  unfold rawL rawU
  by_cases h : l = [92]
  · rw [if_pos h, if_pos h]; exact run_plain acc [92] p (by decide) (by decide)
  · rw [if_neg h, if_neg h, List.foldl_cons]
    have hs : hstep (plainSt acc p) 34 = quoSt acc (p ++ ⟨#[34]⟩) := by unfold hstep plainSt quoSt; simp
    rw [hs, List.foldl_append, run_quo, List.foldl_cons, List.foldl_nil]
    have hs2 : ∀ q, hstep (quoSt acc q) 34 = plainSt acc (q ++ ⟨#[34]⟩) := fun q => by unfold hstep plainSt quoSt; simp
    rw [hs2, show (⟨#[34]⟩ : Str) = mk [34] from rfl, app_mk, app_mk]
    rfl
/-- a key that a header may bear -/
structure KeyOk (w : Str) : Prop where
  c44 : 44 ∉ L w
  c34 : 34 ∉ L w
  c61 : 61 ∉ L w
  head : ∃ c r, L w = c :: r ∧ Unicode.isSpace c = false
noncomputable def uitem (q : Str × Str) : List Nat := L q.1 ++ 61 :: rawU (L q.2)
theorem run_item (acc : List Str) (q : Str × Str) (hk : KeyOk q.1) (p : Str) : (L (itemF q.1 q.2)).foldl hstep (plainSt acc p) = plainSt acc (p ++ mk (uitem q)) := by
  rw [L_item, show L q.1 ++ 61 :: rawL (L q.2) = (L q.1 ++ [61]) ++ rawL (L q.2) by simp, List.foldl_append, run_plain acc _ p (by simp [hk.c44]) (by simp [hk.c34]), run_raw, app_mk]
  unfold uitem
  simp
theorem run_rest : ∀ (r : List (Str × Str)) (acc : List Str) (p : Str), (∀ q ∈ r, KeyOk q.1) →
    ∃ acc' p', (r.flatMap fun q => 44 :: 32 :: L (itemF q.1 q.2)).foldl hstep (plainSt acc p) = plainSt acc' p' ∧ acc' ++ [p'] = acc ++ [p] ++ r.map fun q => mk (32 :: uitem q)
  | [], acc, p, _ => ⟨acc, p, rfl, by simp⟩
  | q :: r, acc, p, h => by
    have hs : hstep (plainSt acc p) 44 = plainSt (acc ++ [p]) sNil := by unfold hstep plainSt; simp
    have hs2 : hstep (plainSt (acc ++ [p]) sNil) 32 = plainSt (acc ++ [p]) (mk [32]) := by
      have := run_plain (acc ++ [p]) [32] sNil (by decide) (by decide)
      rw [List.foldl_cons, List.foldl_nil] at this
      rw [this]
      congr 1
    obtain ⟨acc', p', h1, h2⟩ := run_rest r (acc ++ [p]) (mk (32 :: uitem q)) fun q hq => h q (.tail _ hq)
    refine ⟨acc', p', ?_, ?_⟩
    · rw [List.flatMap_cons, List.foldl_append, List.foldl_cons, List.foldl_cons, hs, hs2, run_item _ q (h q (.head _)), show mk [32] ++ mk (uitem q) = mk (32 :: uitem q) from L_ext (by rw [L_app]; rfl)]
      exact h1
    · rw [h2]; simp
theorem uitem_strip {q : Str × Str} (hk : KeyOk q.1) : Txt.strip (mk (uitem q)) = mk (uitem q) ∧ Txt.strip (mk (32 :: uitem q)) = mk (uitem q) := by
  obtain ⟨c, r, hc, hs⟩ := hk.head
  have hl : ∃ p d, uitem q = p ++ [d] ∧ Unicode.isSpace d = false := by
    unfold uitem rawU
    by_cases h : L q.2 = [92]
    · rw [if_pos h]; exact ⟨L q.1 ++ [61], 92, by simp, by decide +kernel⟩
    · rw [if_neg h]; exact ⟨L q.1 ++ 61 :: 34 :: L q.2, 34, by simp, by decide +kernel⟩
  obtain ⟨p, d, hp, hd⟩ := hl
  have hu : ∃ t, uitem q = c :: t := ⟨r ++ 61 :: rawU (L q.2), by unfold uitem; rw [hc]; rfl⟩
  obtain ⟨t, ht⟩ := hu
  have e1 : (uitem q).dropWhile Unicode.isSpace = uitem q := by rw [ht, List.dropWhile_cons, hs]; rfl
  have e2 : ((uitem q).reverse.dropWhile Unicode.isSpace).reverse = uitem q := by rw [hp, List.reverse_append, List.reverse_singleton, List.singleton_append, List.dropWhile_cons, hd]; simp
  constructor
  · refine L_ext ?_
    rw [L_strip, L_mk, e1, e2]
  · refine L_ext ?_
    rw [L_strip, L_mk, L_mk, List.dropWhile_cons, show Unicode.isSpace 32 = true from by decide +kernel, if_pos rfl, e1, e2]
theorem http_items (ps : List (Str × Str)) (h : ∀ q ∈ ps, KeyOk q.1) : httpF (Txt.join sComma (ps.map fun q => itemF q.1 q.2)) = ps.map fun q => mk (uitem q) := by
  cases ps with
  | nil => decide +kernel
  | cons q r =>
    have hj : L (Txt.join sComma ((q :: r).map fun q => itemF q.1 q.2)) = L (itemF q.1 q.2) ++ r.flatMap fun q => 44 :: 32 :: L (itemF q.1 q.2) := by
      rw [L_join]; simp [List.flatMap_map]
    obtain ⟨acc', p', h1, h2⟩ := run_rest r [] (mk (uitem q)) fun q hq => h q (.tail _ hq)
    have hrun : hrun (L (Txt.join sComma ((q :: r).map fun q => itemF q.1 q.2))) = plainSt acc' p' := by
      unfold hrun
      rw [hj, List.foldl_append, show (⟨[], sNil, false, false⟩ : HS) = plainSt [] sNil from rfl, run_item _ q (h q (.head _)), show sNil ++ mk (uitem q) = mk (uitem q) from L_ext (by rw [L_app, L_nil]; rfl)]
      exact h1
    have hne : p'.length ≠ 0 := by
      have hl : p' = ((mk (uitem q)) :: r.map fun q => mk (32 :: uitem q)).getLast (by simp) := by
        have : (acc' ++ [p']).getLast? = ([mk (uitem q)] ++ r.map fun q => mk (32 :: uitem q)).getLast? := by rw [h2]; rfl
        rw [List.getLast?_append] at this
        simpa [List.getLast?_eq_some_getLast] using this
      have hmem : p' ∈ (mk (uitem q)) :: r.map fun q => mk (32 :: uitem q) := by rw [hl]; exact List.getLast_mem _
      have hu : ∀ q : Str × Str, (uitem q).length ≠ 0 := fun q => by unfold uitem; simp
      rw [L_len]
      rcases List.mem_cons.mp hmem with e | e
      · rw [e, L_mk]; exact hu q
      · obtain ⟨q', _, rfl⟩ := List.mem_map.mp e
        rw [L_mk]; simp
    unfold httpF
    rw [hrun]
    show (if p'.length ≠ 0 then acc' ++ [p'] else acc').map Txt.strip = _
    rw [if_pos hne, h2]
    simp only [List.nil_append, List.map_append, List.map_cons, List.map_nil, List.map_map, List.singleton_append]
    rw [(uitem_strip (h q (.head _))).1]
    congr 1
    exact List.map_congr_left fun q' hq' => (uitem_strip (h q' (.tail _ hq'))).2
end Mine
end
section
open PySem PySem.W PySem.Calls PyProof.Rows PySem.Spec PySem.Builtin PySem.Builtin.Str
set_option Elab.async false
set_option linter.unusedVariables false
namespace Mine
theorem take_app_len {α : Type} (a b : List α) : (a ++ b).take a.length = a := by simp
theorem split_eq (x : Str) (a b : List Nat) (h : L x = a ++ 61 :: b) (ha : 61 ∉ a) : Txt.splitMax x sEq 1 = [mk a, mk b] := by
  have e : sEq = ⟨#[61]⟩ := by decide +kernel
  rw [e]
  have hx := L_len x
  have hl : (L x).length = a.length + b.length + 1 := by rw [h]; simp; exact Mine.om312
  have key : ∀ i, StrLaws.At x ⟨#[61]⟩ x.length i ↔ (L x)[i]? = some 61 := fun i => StrLaws.subAt_one x 61 i
  have hat : (L x)[a.length]? = some 61 := by rw [h]; simp
  have hno : ∀ k, k < a.length → ¬ (L x)[k]? = some 61 := fun k hk q => by
    rw [h, List.getElem?_append_left hk] at q
    exact ha (List.mem_of_getElem? q)
  have hocc : occurrences x ⟨#[61]⟩ 0 x.length 1 = [a.length] := by
    have hle := StrLaws.occ_length_le x ⟨#[61]⟩ 0 x.length 1
    rcases StrLaws.occ_head x ⟨#[61]⟩ 1 (Nat.le_refl _) with ⟨h1, h2⟩ | ⟨i, r, h1, h2, h3⟩
    · exact absurd ((key _).mpr hat) (h2 _)
    · have h2 := (key i).mp h2
      have hi : i = a.length := by
        rcases Nat.lt_trichotomy i a.length with q | q | q
        · exact absurd h2 (hno i q)
        · exact q
        · exact absurd ((key _).mpr hat) (h3 _ q)
      rw [h1] at hle
      have : r = [] := by cases r with | nil => rfl | cons _ _ => simp at hle
      rw [h1, hi, this]
  unfold Txt.splitMax
  have hk : (decide (x.length < (⟨#[61]⟩ : Str).length) || decide (Str.strKind x < Str.strKind ⟨#[61]⟩)) = false := by
    have h1 : Str.strKind ⟨#[61]⟩ = 1 := by decide +kernel
    have h2 : 1 ≤ Str.strKind x := by unfold Str.strKind; split; exact Nat.le_refl _; split <;> decide
    have h3 : (⟨#[61]⟩ : Str).length = 1 := rfl
    rw [h1, h3]
    simp only [Bool.or_eq_false_iff, decide_eq_false_iff_not]
    exact Mine.om311 hx hl h2
  have hlim : limitOf x 1 = 1 := by unfold limitOf; rfl
  rw [hk, hlim, hocc]
  show [strSub x 0 a.length, strSub x (a.length + 1) x.length] = _
  have e1 : strSub x 0 a.length = mk a := L_ext (by rw [L_sub, h, take_app_len]; rfl)
  have e2 : strSub x (a.length + 1) x.length = mk b := L_ext (by rw [L_sub, hx, List.take_length, h]; simp)
  rw [e1, e2]
theorem unq_raw (l : List Nat) : unqF (mk (rawU l)) = mk l ∧ (mk (rawU l)).length ≠ 0 := by
  unfold rawU
  by_cases h : l = [92]
  · rw [if_pos h, h]; exact ⟨by decide +kernel, by decide⟩
  · rw [if_neg h]
    refine ⟨?_, by rw [L_len, L_mk]; simp⟩
    unfold unqF
    rw [if_pos ⟨rfl, by show (34 :: (l ++ [34])).getLast? = some 34; rw [← List.cons_append, List.getLast?_append]; rfl⟩]
    exact L_ext (L_mid _ l 34 34 rfl)
theorem kv_item (q : Str × Str) (hk : KeyOk q.1) : kvF (mk (uitem q)) = some q := by
  unfold kvF
  rw [split_eq (mk (uitem q)) (L q.1) (rawU (L q.2)) rfl hk.c61]
  obtain ⟨h1, h2⟩ := unq_raw (L q.2)
  show (if (mk (rawU (L q.2))).length = 0 then none else some (mk (L q.1), unqF (mk (rawU (L q.2))))) = some q
  rw [if_neg h2, h1, mk_L, mk_L]
theorem stored_new {β : Type} (d : List (Str × β)) (k : Str) (v : β) (h : k ∉ d.map (·.1)) : storedF d k v = d ++ [(k, v)] := by
  unfold storedF
  rw [if_neg]
  intro q
  obtain ⟨a, ha, e⟩ := List.any_eq_true.mp q
  exact h (List.mem_map.mpr ⟨a, ha, by simpa using e⟩)
theorem keqv_items : ∀ (ps d : List (Str × Str)), (∀ q ∈ ps, KeyOk q.1) → ((d ++ ps).map (·.1)).Nodup → keqvF (ps.map fun q => mk (uitem q)) d = some (d ++ ps)
  | [], d, _, _ => by simp [keqvF]
  | q :: r, d, h, nd => by
    have hn : q.1 ∉ d.map (·.1) := by
      rw [List.map_append, List.map_cons] at nd
      have := (List.nodup_append.mp nd).2.2
      exact fun hm => this _ hm _ (List.mem_cons_self ..) rfl
    have ih := keqv_items r (d ++ [q]) (fun a ha => h a (.tail _ ha)) (by rw [List.append_assoc]; exact nd)
    rw [List.map_cons, keqvF, kv_item q (h q (.head _))]
    show keqvF _ (storedF d q.1 q.2) = _
    rw [stored_new d q.1 q.2 hn]
    rw [show (q.1, q.2) = q from rfl, ih, List.append_assoc]; rfl
/-- a header made of items reads back -/
theorem table_items (ps : List (Str × Str)) (h : ∀ q ∈ ps, KeyOk q.1) (nd : (ps.map (·.1)).Nodup) : keqvF (httpF (Txt.join sComma (ps.map fun q => itemF q.1 q.2))) [] = some ps := by
  rw [http_items ps h]
  exact keqv_items ps [] h nd
end Mine
end
section
open PySem PySem.W PySem.Calls PyProof.Rows PySem.Spec PySem.Builtin PySem.Builtin.Str
set_option Elab.async false
set_option linter.unusedVariables false
namespace Mine
structure WordOk (w : Str) : Prop where
  c47 : 47 ∉ L w
  c61 : 61 ∉ L w
  c44 : 44 ∉ L w
  c34 : 34 ∉ L w
  head : ∃ c r, L w = c :: r ∧ (c = 97 ∨ c = 98)
  len : (L w).length ≤ 2
  ok : PyData.strOk w = true
theorem safe_ok (n : Nat) (hn : n < 55296) : ∃ c, safeF ⟨#[n]⟩ = ⟨#[c]⟩ ∧ c < 55296 ∧ c ≠ 47 ∧ c ≠ 61 ∧ c ≠ 44 ∧ c ≠ 34 := by
  unfold safeF
  split
  · exact ⟨46, by decide +kernel, by decide, by decide, by decide, by decide, by decide⟩
  · rename_i h
    have he : (occurrences (Str.ofString "/=,\"") ⟨#[n]⟩ 0 (Str.ofString "/=,\"").length 1).isEmpty = true := by
      revert h
      cases (occurrences (Str.ofString "/=,\"") ⟨#[n]⟩ 0 (Str.ofString "/=,\"").length 1).isEmpty <;> simp
    have hno : ∀ i, ¬ (L (Str.ofString "/=,\""))[i]? = some n := fun i => by
      rcases StrLaws.occ_head (Str.ofString "/=,\"") ⟨#[n]⟩ 1 (Nat.le_refl _) with ⟨_, h2⟩ | ⟨i', r, h1, _⟩
      · exact fun q => h2 i ((StrLaws.subAt_one (Str.ofString "/=,\"") n i).mpr q)
      · rw [h1] at he; simp at he
    have e : L (Str.ofString "/=,\"") = [47, 61, 44, 34] := by decide +kernel
    rw [e] at hno
    exact ⟨n, rfl, hn, fun q => hno 0 (by rw [q]; rfl), fun q => hno 1 (by rw [q]; rfl), fun q => hno 2 (by rw [q]; rfl), fun q => hno 3 (by rw [q]; rfl)⟩
theorem word_ok (r : Int) : WordOk (wordF r) := by
  have h4 := (fmod_nat r (n := 4) (by decide)).2
  have hsn := (fmod_nat (r.fdiv 16) (n := 55296) (by decide)).2
  rw [show ((55296 : Nat) : Int) = 55296 from rfl] at hsn
  obtain ⟨c, hc, hlt, c1, c2, c3, c4⟩ := safe_ok _ hsn
  unfold wordF
  have es : safeF (signF r) = ⟨#[c]⟩ := hc
  rw [es]
  rcases four h4 with e | e | e | e <;> (rw [show ((4 : Nat) : Int) = 4 from rfl] at e; rw [e])
  · show WordOk (Str.ofString "a")
    exact ⟨by decide +kernel, by decide +kernel, by decide +kernel, by decide +kernel, ⟨97, [], by decide +kernel, .inl rfl⟩, by decide +kernel, by decide +kernel⟩
  · show WordOk (Str.ofString "ab")
    exact ⟨by decide +kernel, by decide +kernel, by decide +kernel, by decide +kernel, ⟨97, [98], by decide +kernel, .inl rfl⟩, by decide +kernel, by decide +kernel⟩
  · show WordOk (Str.ofString "b")
    exact ⟨by decide +kernel, by decide +kernel, by decide +kernel, by decide +kernel, ⟨98, [], by decide +kernel, .inr rfl⟩, by decide +kernel, by decide +kernel⟩
  · have ew : L (Str.ofString "a" ++ (⟨#[c]⟩ : Str)) = [97, c] := by rw [L_app, show L (Str.ofString "a") = [97] from by decide +kernel]; rfl
    show WordOk (Str.ofString "a" ++ (⟨#[c]⟩ : Str))
    refine ⟨?_, ?_, ?_, ?_, ⟨97, [c], ew, .inl rfl⟩, by rw [ew]; exact Nat.le_refl _, ?_⟩
    · rw [ew]; simp; exact Mine.om332 c1
    · rw [ew]; simp; exact Mine.om331 c2
    · rw [ew]; simp; exact Mine.om330 c3
    · rw [ew]; simp; exact Mine.om329 c4
    · unfold PyData.strOk
      rw [Array.all_eq_true_iff_forall_mem]
      intro d hd
      have hd : d ∈ [97, c] := by rw [← ew]; exact Array.mem_def.mp hd
      have : d = 97 ∨ d = c := by simpa using hd
      rcases this with rfl | rfl
      · decide
      · simp; exact Mine.om328 hlt
theorem strOk_iff (x : Str) : PyData.strOk x = true ↔ ∀ c ∈ L x, c < 1114112 := by
  unfold PyData.strOk
  rw [Array.all_eq_true_iff_forall_mem]
  constructor
  · exact fun h c hc => by simpa using h c (Array.mem_def.mpr hc)
  · exact fun h c hc => by simpa using h c (Array.mem_def.mp hc)
theorem text_ok (r : Int) : PyData.strOk (textF r) = true := by
  have h4 := (fmod_nat (r.fdiv 4) (n := 4) (by decide)).2
  have hsn := (fmod_nat (r.fdiv 16) (n := 55296) (by decide)).2
  rw [show ((55296 : Nat) : Int) = 55296 from rfl] at hsn
  unfold textF
  rcases four h4 with e | e | e | e <;> (rw [show ((4 : Nat) : Int) = 4 from rfl] at e; rw [e])
  · show PyData.strOk sNil = true; decide +kernel
  · show PyData.strOk (Str.ofString "\"") = true; decide +kernel
  · show PyData.strOk (Str.ofString "\\") = true; decide +kernel
  · show PyData.strOk (Str.ofString ", " ++ signF r) = true
    rw [strOk_iff]
    intro c hc
    rw [L_app, show L (Str.ofString ", ") = [44, 32] from by decide +kernel] at hc
    have : c = 44 ∨ c = 32 ∨ c = ((r.fdiv 16).fmod 55296).toNat := by simpa [signF] using hc
    exact Mine.om327 hsn this

structure Tree (g : GS) : Prop where
  gi : GI g
  up : Up g.ab
  a0 : g.ab[0]? = some 0
  f0 : g.fl[0]? = some 0
  fk : ∀ k p, 0 < k → g.ab[k]? = some p → ∃ f, g.fl[p]? = some f ∧ g.fl[k]? = some (f + 1)
  f3 : ∀ f ∈ g.fl, f ≤ 3
  wd : ∀ k, 0 < k → k < g.ab.length → WordOk (at? g.ws k)
  sib : ∀ j k p, 0 < j → 0 < k → g.ab[j]? = some p → g.ab[k]? = some p → at? g.ws j = at? g.ws k → j = k
  rgk : ∀ k p, 0 < k → g.ab[k]? = some p → at? g.rg k = (at? g.rg p ++ Txt.mul sSlash ((1 + k % 3 : Nat) : Int)) ++ at? g.ws k
  rg0 : at? g.rg 0 = sNil
  w2 : ∀ x ∈ g.ws, x.length ≤ 2
  t3 : ∀ x ∈ g.ts, x.length ≤ 3
  tok : ∀ x ∈ g.ts, PyData.strOk x = true
  wok : ∀ x ∈ g.ws, PyData.strOk x = true
  rok : ∀ x ∈ g.rg, PyData.strOk x = true
theorem app_get {α : Type} {l : List α} {a b : α} {k : Nat} (h : (l ++ [a])[k]? = some b) : (k < l.length ∧ l[k]? = some b) ∨ (k = l.length ∧ b = a) := by
  rcases Nat.lt_trichotomy k l.length with q | q | q
  · exact .inl ⟨q, by rwa [List.getElem?_append_left q] at h⟩
  · subst q
    exact .inr ⟨rfl, by simpa using h.symm⟩
  · rw [List.getElem?_eq_none (by simp; exact Mine.om19 q)] at h; cases h
theorem at_app {l : List Str} {a : Str} {k : Nat} (h : k < l.length) : at? (l ++ [a]) k = at? l k := by unfold at?; rw [List.getElem?_append_left h]
theorem at_app_last {l : List Str} {a : Str} {n : Nat} (h : n = l.length) : at? (l ++ [a]) n = a := by subst h; unfold at?; simp
theorem at_mem {l : List Str} {k : Nat} (h : k < l.length) : at? l k ∈ l := by unfold at?; rw [List.getElem?_eq_getElem h]; exact List.getElem_mem _
theorem mem_below {ab : List Nat} {n k : Nat} (h0 : 0 < k) (h : ab[k]? = some n) : k ∈ belowF ab n := by
  have hl := (List.getElem?_eq_some_iff.mp h).1
  unfold belowF
  rw [List.mem_filter, List.mem_range'_1]
  exact ⟨⟨h0, by exact Mine.om326 hl⟩, by simp [h]⟩
theorem strOk_app {a b : Str} (h : PyData.strOk a = true) (k : PyData.strOk b = true) : PyData.strOk (a ++ b) = true := by
  rw [strOk_iff] at *
  intro c hc
  rw [L_app] at hc
  rcases List.mem_append.mp hc with hc | hc
  · exact h c hc
  · exact k c hc
theorem strOk_mul (n : Nat) : PyData.strOk (Txt.mul sSlash (n : Int)) = true := by
  rw [strOk_iff]
  intro c hc
  rw [L_mul] at hc
  rw [List.eq_of_mem_replicate hc]; decide
theorem Tree.base : Tree ⟨[0], [0], [sNil], [sNil], [sNil]⟩ where
  gi := ⟨by show 0 < 1; decide, rfl, rfl, rfl, rfl, fun r hr => by rw [List.mem_singleton.mp hr]; show sNil.length ≤ 6 * 1; decide +kernel⟩
  up := fun k hk h0 => by have : k < 1 := hk; exact (Mine.om324 h0 this).elim
  a0 := rfl
  f0 := rfl
  fk := fun k p h0 h => by have := (List.getElem?_eq_some_iff.mp h).1; have : k < 1 := this; exact (Mine.om324 h0 this).elim
  f3 := fun f hf => by rw [List.mem_singleton.mp hf]; decide
  wd := fun k h0 hk => by have : k < 1 := hk; exact (Mine.om324 h0 this).elim
  sib := fun j k p h0 _ h _ _ => by have := (List.getElem?_eq_some_iff.mp h).1; have : j < 1 := this; exact Mine.om325 h0 this
  rgk := fun k p h0 h => by have := (List.getElem?_eq_some_iff.mp h).1; have : k < 1 := this; exact (Mine.om324 h0 this).elim
  rg0 := rfl
  w2 := fun x hx => by rw [List.mem_singleton.mp hx]; decide +kernel
  t3 := fun x hx => by rw [List.mem_singleton.mp hx]; decide +kernel
  tok := fun x hx => by rw [List.mem_singleton.mp hx]; decide +kernel
  wok := fun x hx => by rw [List.mem_singleton.mp hx]; decide +kernel
  rok := fun x hx => by rw [List.mem_singleton.mp hx]; decide +kernel
theorem Tree.step {g : GS} (T : Tree g) (x : Int) : Tree (gstep g x) := by
  have hnd := T.gi.node x
  have hgi := (T.gi.step x).1
  have hfn : ∃ f, g.fl[nodeF g x]? = some f ∧ f < 3 := by
    have hfl := T.gi.fl
    unfold nodeF
    split
    · exact ⟨0, T.f0, by decide⟩
    · rename_i h
      have hlt : (x.fmod g.ab.length).toNat < g.fl.length := by rw [hfl]; exact (fmod_nat x T.gi.pos).2
      have e := List.getElem?_eq_getElem hlt
      have h3 := T.f3 _ (List.getElem_mem hlt)
      rw [e, Option.getD_some] at h
      exact ⟨_, e, by exact Mine.om323 h h3⟩
  obtain ⟨f, hf, hf3⟩ := hfn
  revert hgi
  unfold gstep
  dsimp only
  split
  · exact fun _ => T
  · rename_i hc
    intro hgi
    have ew := T.gi.ws
    have er := T.gi.rg
    have ef := T.gi.fl
    generalize nodeF g x = nd at *
    generalize hr : x.fdiv g.ab.length = r at *
    rw [hf, Option.getD_some] at hgi ⊢
    have hnew : ∀ k, 0 < k → g.ab[k]? = some nd → at? g.ws k ≠ wordF r := fun k h0 hk e => by
      refine hc (List.contains_iff_mem.mpr (List.mem_filterMap.mpr ⟨k, mem_below h0 hk, ?_⟩))
      have hl := (List.getElem?_eq_some_iff.mp hk).1
      rw [← e]; unfold at?
      rw [List.getElem?_eq_getElem (by exact Mine.om316 ew hl)]; rfl
    have hpos := T.gi.pos
    refine ⟨hgi, ?_, ?_, ?_, ?_, ?_, ?_, ?_, ?_, ?_, ?_, ?_, ?_, ?_, ?_⟩
    · intro k hk h0
      have hk : k < g.ab.length + 1 := by simpa using hk
      by_cases q : k < g.ab.length
      · obtain ⟨p, hp, hlt⟩ := T.up k q h0
        exact ⟨p, by show (g.ab ++ [nd])[k]? = _; rw [List.getElem?_append_left q]; exact hp, hlt⟩
      · have : k = g.ab.length := by exact Mine.om322 hk q
        subst this
        exact ⟨nd, by simp, hnd⟩
    · show (g.ab ++ [nd])[0]? = _
      rw [List.getElem?_append_left hpos]; exact T.a0
    · show (g.fl ++ [f + 1])[0]? = _
      rw [List.getElem?_append_left (by exact Mine.om321 ef hnd)]; exact T.f0
    · intro k p h0 h
      rcases app_get h with ⟨hk, h⟩ | ⟨hk, h⟩
      · obtain ⟨f', h1, h2⟩ := T.fk k p h0 h
        have := (List.getElem?_eq_some_iff.mp h1).1
        exact ⟨f', by show (g.fl ++ [f + 1])[p]? = _; rw [List.getElem?_append_left this]; exact h1, by show (g.fl ++ [f + 1])[k]? = _; rw [List.getElem?_append_left (by exact Mine.om16 ef hk)]; exact h2⟩
      · have e : p = nd := h
        rw [e, hk]
        exact ⟨f, by show (g.fl ++ [f + 1])[nd]? = _; rw [List.getElem?_append_left (by exact Mine.om16 ef hnd)]; exact hf, by show (g.fl ++ [f + 1])[g.ab.length]? = _; rw [← ef]; simp⟩
    · intro f' hf'
      rcases List.mem_append.mp hf' with q | q
      · exact T.f3 _ q
      · rw [List.mem_singleton.mp q]; exact Mine.om320 hf3
    · intro k h0 hk
      have hk : k < g.ab.length + 1 := by simpa using hk
      show WordOk (at? (g.ws ++ [wordF r]) k)
      by_cases q : k < g.ab.length
      · rw [at_app (by exact Mine.om316 ew q)]; exact T.wd k h0 q
      · rw [at_app_last (by exact Mine.om319 ew hk q)]; exact word_ok r
    · intro j k p hj hk h1 h2 e
      have e : at? (g.ws ++ [wordF r]) j = at? (g.ws ++ [wordF r]) k := e
      rcases app_get h1 with ⟨qj, h1⟩ | ⟨qj, h1⟩ <;> rcases app_get h2 with ⟨qk, h2⟩ | ⟨qk, h2⟩
      · rw [at_app (by exact Mine.om316 ew qj), at_app (by exact Mine.om316 ew qk)] at e
        exact T.sib j k p hj hk h1 h2 e
      · rw [at_app (by exact Mine.om316 ew qj), at_app_last (by exact Mine.om314 ew qk)] at e
        exact absurd e (hnew j hj (h2 ▸ h1))
      · rw [at_app_last (by exact Mine.om314 ew qj), at_app (by exact Mine.om316 ew qk)] at e
        exact absurd e.symm (hnew k hk (h1 ▸ h2))
      · exact Mine.om318 qj qk
    · intro k p h0 h
      show at? (g.rg ++ [_]) k = (at? (g.rg ++ [_]) p ++ _) ++ at? (g.ws ++ [wordF r]) k
      rcases app_get h with ⟨hk, h⟩ | ⟨hk, h⟩
      · obtain ⟨p', hp', hlt⟩ := T.up k hk h0
        rw [h] at hp'; cases hp'
        rw [at_app (by exact Mine.om16 er hk), at_app (by exact Mine.om317 er hk hlt), at_app (by exact Mine.om316 ew hk)]
        exact T.rgk k p h0 h
      · subst h
        rw [at_app_last (by exact Mine.om315 er hk), at_app (by exact Mine.om16 er hnd), at_app_last (by exact Mine.om314 ew hk), hk]
    · show at? (g.rg ++ [_]) 0 = _
      rw [at_app (by exact Mine.om313 er hpos)]; exact T.rg0
    · intro y hy
      rcases List.mem_append.mp hy with q | q
      · exact T.w2 _ q
      · rw [List.mem_singleton.mp q]; exact word_len r
    · intro y hy
      rcases List.mem_append.mp hy with q | q
      · exact T.t3 _ q
      · rw [List.mem_singleton.mp q]; exact text_len r
    · intro y hy
      rcases List.mem_append.mp hy with q | q
      · exact T.tok _ q
      · rw [List.mem_singleton.mp q]; exact text_ok r
    · intro y hy
      rcases List.mem_append.mp hy with q | q
      · exact T.wok _ q
      · rw [List.mem_singleton.mp q]; exact (word_ok r).ok
    · intro y hy
      rcases List.mem_append.mp hy with q | q
      · exact T.rok _ q
      · rw [List.mem_singleton.mp q]
        exact strOk_app (strOk_app (T.rok _ (at_mem (by exact Mine.om16 er hnd))) (strOk_mul _)) (word_ok r).ok
theorem Tree.fold : ∀ (l : List Int) (g : GS), Tree g → Tree (l.foldl gstep g)
  | [], g, T => T
  | x :: l, g, T => by rw [List.foldl_cons]; exact Tree.fold l _ (T.step x)
theorem tree (sc : List Int) : Tree (grown sc) := Tree.fold sc _ Tree.base
end Mine
end
section
open PySem PySem.W PySem.Calls PyProof.Rows PySem.Spec PySem.Builtin PySem.Builtin.Str
set_option Elab.async false
set_option linter.unusedVariables false
namespace Mine
theorem nodup_map_on {α β : Type} {f : α → β} : ∀ {l : List α}, l.Nodup → (∀ a ∈ l, ∀ b ∈ l, f a = f b → a = b) → (l.map f).Nodup
  | [], _, _ => List.nodup_nil
  | a :: l, nd, h => by
    obtain ⟨h1, h2⟩ := List.nodup_cons.mp nd
    rw [List.map_cons, List.nodup_cons]
    refine ⟨fun hm => ?_, nodup_map_on h2 fun x hx y hy => h x (.tail _ hx) y (.tail _ hy)⟩
    obtain ⟨b, hb, e⟩ := List.mem_map.mp hm
    exact h1 (h a (.head _) b (.tail _ hb) e.symm ▸ hb)
theorem below_nodup (ab : List Nat) (n : Nat) : (belowF ab n).Nodup := by
  unfold belowF
  exact List.Pairwise.filter _ (List.nodup_range' (step := 1) (by decide))
noncomputable abbrev wayF (ab : List Nat) (ws : List Str) (x : Nat) : List Str := ((upF ab x x).filterMap (fun k => ws[k]?)).reverse
theorem up_step {ab : List Nat} (U : Up ab) {k n : Nat} (h0 : 0 < k) (h : ab[k]? = some n) : upF ab k k = k :: upF ab n n := by
  have hl := (List.getElem?_eq_some_iff.mp h).1
  obtain ⟨p, hp, hlt⟩ := U k hl h0
  rw [h] at hp; cases hp
  obtain ⟨j, rfl⟩ : ∃ j, k = j + 1 := ⟨k - 1, by exact Mine.om70 hlt⟩
  rw [upF, if_neg (by exact Mine.om338), h, Option.getD_some]
  rw [upF_fuel U j n (by exact Mine.om337 hl hlt) (by exact Mine.om68 hlt) n (Nat.le_refl _)]
theorem way_step {g : GS} (T : Tree g) {k n : Nat} (h0 : 0 < k) (h : g.ab[k]? = some n) : wayF g.ab g.ws k = wayF g.ab g.ws n ++ [at? g.ws k] := by
  have hl := (List.getElem?_eq_some_iff.mp h).1
  have hw : g.ws[k]? = some (at? g.ws k) := by
    unfold at?
    rw [List.getElem?_eq_getElem (by rw [T.gi.ws]; exact hl)]; rfl
  unfold wayF
  rw [up_step T.up h0 h, List.filterMap_cons, hw]
  simp
noncomputable def cellP (ab : List Nat) (ws ts : List Str) (g : Nat → Str) (k : Nat) : Str × Str :=
  if belowF ab k = [] ∧ k % 2 = 0 then (at? ws k, at? ts k) else (at? ws k ++ sSlash, g k)
theorem cell_eq (ab : List Nat) (ws ts : List Str) (g : Nat → Str) (k : Nat) : cellF ab ws ts g k = itemF (cellP ab ws ts g k).1 (cellP ab ws ts g k).2 := by
  unfold cellF cellP; split <;> rfl
theorem word_key {w : Str} (h : WordOk w) : KeyOk w ∧ KeyOk (w ++ sSlash) := by
  obtain ⟨c, r, hc, hcc⟩ := h.head
  have hsp : Unicode.isSpace c = false := by rcases hcc with rfl | rfl <;> decide +kernel
  have e : L (w ++ sSlash) = L w ++ [47] := by rw [L_app, L_slash]
  refine ⟨⟨h.c44, h.c34, h.c61, c, r, hc, hsp⟩, ⟨?_, ?_, ?_, c, r ++ [47], by rw [e, hc]; rfl, hsp⟩⟩
  · rw [e]; simp [h.c44]
  · rw [e]; simp [h.c34]
  · rw [e]; simp [h.c61]
theorem slash_inj {w w' : Str} (h : 47 ∉ L w) (h' : 47 ∉ L w') : (w = w' ++ sSlash → False) ∧ (w ++ sSlash = w' ++ sSlash → w = w') := by
  constructor
  · intro e
    rw [e, L_app, L_slash] at h
    exact h (by simp)
  · intro e
    refine L_ext ?_
    have : L (w ++ sSlash) = L (w' ++ sSlash) := by rw [e]
    rw [L_app, L_app] at this
    exact List.append_cancel_right this
theorem cell_inj {g : GS} (T : Tree g) (f : Nat → Str) {n j k : Nat} (hj : j ∈ belowF g.ab n) (hk : k ∈ belowF g.ab n) (e : (cellP g.ab g.ws g.ts f j).1 = (cellP g.ab g.ws g.ts f k).1) : j = k := by
  obtain ⟨j0, jl, hj⟩ := below_lt hj
  obtain ⟨k0, kl, hk⟩ := below_lt hk
  have wj := (T.wd j j0 jl).c47
  have wk := (T.wd k k0 kl).c47
  refine T.sib j k n j0 k0 hj hk ?_
  unfold cellP at e
  split at e <;> split at e
  · exact e
  · exact absurd e (slash_inj wj wk).1
  · exact absurd e.symm (slash_inj wk wj).1
  · exact (slash_inj wj wk).2 e
theorem table_of {g : GS} (T : Tree g) (f : Nat → Str) (n : Nat) : keqvF (httpF (Txt.join sComma ((belowF g.ab n).map (cellF g.ab g.ws g.ts f)))) [] = some ((belowF g.ab n).map (cellP g.ab g.ws g.ts f)) := by
  have := table_items ((belowF g.ab n).map (cellP g.ab g.ws g.ts f)) (fun q hq => ?_) ?_
  · rw [List.map_map] at this
    rw [← this]
    congr 4
    funext k
    exact cell_eq _ _ _ _ _
  · obtain ⟨k, hk, rfl⟩ := List.mem_map.mp hq
    obtain ⟨k0, kl, hk⟩ := below_lt hk
    have := word_key (T.wd k k0 kl)
    unfold cellP
    split
    · exact this.1
    · exact this.2
  · rw [List.map_map]
    exact nodup_map_on (below_nodup _ _) fun a ha b hb e => cell_inj T f ha hb e
theorem rows_map {g : Str → List Str → Option (List Row)} {fr : List Str} {α : Type} {c : α → Str × Str} {R : α → List Row} : ∀ {ks : List α}, (∀ k ∈ ks, rowF g fr (c k) = some (R k)) → rowsF g fr (ks.map c) = some (ks.flatMap R)
  | [], _ => rfl
  | k :: ks, h => by
    rw [List.map_cons, rowsF_cons, h k (.head _), rows_map fun k hk => h k (.tail _ hk), List.flatMap_cons]; rfl
theorem word_last {w : Str} (h : WordOk w) : lastF w ≠ sSlash ∧ lastF (w ++ sSlash) = sSlash ∧ butF (w ++ sSlash) = w := by
  have e : L (w ++ sSlash) = L w ++ [47] := by rw [L_app, L_slash]
  refine ⟨fun q => ?_, L_ext ?_, L_ext ?_⟩
  · obtain ⟨c, r, hc, _⟩ := h.head
    have hne : L w ≠ [] := by rw [hc]; simp
    have hs : L w = (L w).dropLast ++ [(L w).getLast hne] := (List.dropLast_concat_getLast hne).symm
    have h1 := L_lastF w _ _ hs
    rw [q, L_slash] at h1
    have : (L w).getLast hne = 47 := by simpa using h1.symm
    exact h.c47 (this ▸ List.getLast_mem hne)
  · rw [L_lastF _ _ _ e, L_slash]
  · exact L_butF _ _ _ e
theorem read_written {g : GS} (T : Tree g) : ∀ (d n : Nat), Ht g.ab d n → n < g.ab.length → ¬ (belowF g.ab n = [] ∧ n % 2 = 0) → ∀ f, d + 1 ≤ f →
    readF f (writtenF g.ab g.ws g.ts d n) (wayF g.ab g.ws n) = some ((leavesF g.ab d n).map (dueF g.ab g.ws g.ts)) := by
  have leaf : ∀ (n f : Nat), belowF g.ab n = [] → ¬ n % 2 = 0 → 1 ≤ f → readF f (Txt.join sComma []) (wayF g.ab g.ws n) = some [dueF g.ab g.ws g.ts n] := by
    intro n f hb hodd hf
    obtain ⟨f, rfl⟩ : ∃ j, f = j + 1 := ⟨f - 1, by exact Mine.om336 hf⟩
    rw [readF, show keqvF (httpF (Txt.join sComma [])) [] = some [] from by decide +kernel]
    show (if ([] : List (Str × Str)) = [] then some [(wayF g.ab g.ws n ++ [sNil], sNil)] else _) = _
    rw [if_pos rfl, dueF, if_neg hodd]
  intro d
  induction d with
  | zero =>
    intro n hh hn hne f hf
    exact leaf n f hh (fun q => hne ⟨hh, q⟩) hf
  | succ d ih =>
    intro n hh hn hne f hf
    by_cases hb : belowF g.ab n = []
    · rw [writtenF, hb, leavesF, if_pos hb]
      exact leaf n f hb (fun q => hne ⟨hb, q⟩) (by exact Mine.om335 hf)
    · obtain ⟨f, rfl⟩ : ∃ j, f = j + 1 := ⟨f - 1, by exact Mine.om334 hf⟩
      rw [writtenF, readF, table_of T, leavesF, if_neg hb]
      have hmb : (belowF g.ab n).map (cellP g.ab g.ws g.ts (writtenF g.ab g.ws g.ts d)) ≠ [] := fun q => hb (List.map_eq_nil_iff.mp q)
      show (if (belowF g.ab n).map (cellP g.ab g.ws g.ts (writtenF g.ab g.ws g.ts d)) = [] then _ else _) = _
      rw [if_neg hmb, rows_map (R := fun k => (leavesF g.ab d k).map (dueF g.ab g.ws g.ts)) fun k hk => ?_]
      · rw [List.map_flatMap]
      · obtain ⟨k0, kl, hkn⟩ := below_lt hk
        have hw := T.wd k k0 kl
        obtain ⟨l1, l2, l3⟩ := word_last hw
        have hway := way_step T k0 hkn
        unfold cellP
        by_cases hc : belowF g.ab k = [] ∧ k % 2 = 0
        · rw [if_pos hc, rowF, if_neg l1]
          have hlv : leavesF g.ab d k = [k] := by cases d with | zero => rfl | succ d => rw [leavesF, if_pos hc.1]
          rw [hlv]
          show some [(wayF g.ab g.ws n ++ [at? g.ws k], at? g.ts k)] = some [dueF g.ab g.ws g.ts k]
          rw [dueF, if_pos hc.2, ← hway]
        · rw [if_neg hc, rowF, if_pos l2]
          show readF f (writtenF g.ab g.ws g.ts d k) (wayF g.ab g.ws n ++ [butF (at? g.ws k ++ sSlash)]) = _
          rw [l3, ← hway]
          exact ih k (hh k hk) kl hc f (by exact Mine.om333 hf)
end Mine
end
section
open PySem PySem.W PySem.Calls PyProof.Rows PySem.Spec PySem.Builtin PySem.Builtin.Str
set_option Elab.async false
set_option linter.unusedVariables false
namespace Mine
noncomputable def segF (ws : List Str) (k : Nat) : Str := Txt.mul sSlash ((1 + k % 3 : Nat) : Int) ++ at? ws k
/-- the name of a way, written backwards -/
noncomputable def nameR (ws : List Str) : List Nat → Str
  | [] => sNil
  | k :: r => nameR ws r ++ segF ws k
noncomputable def chainR (ws : List Str) : List Nat → List Str
  | [] => []
  | k :: r => nameR ws (k :: r) :: chainR ws r
theorem L_seg (ws : List Str) (k : Nat) : L (segF ws k) = List.replicate (1 + k % 3) 47 ++ L (at? ws k) := by unfold segF; rw [L_app, L_mul]
theorem L_name (ws : List Str) (k : Nat) (r : List Nat) : L (nameR ws (k :: r)) = L (nameR ws r) ++ (List.replicate (1 + k % 3) 47 ++ L (at? ws k)) := by rw [nameR, L_app, L_seg]
theorem drop_rep (n : Nat) (l : List Nat) : (List.replicate n 47 ++ l).dropWhile (· == 47) = l.dropWhile (· == 47) := by
  induction n with
  | zero => rfl
  | succ n ih => rw [List.replicate_succ, List.cons_append, List.dropWhile_cons]; exact ih
theorem drop_word {l : List Nat} (h : 47 ∉ l) : l.dropWhile (· == 47) = l := by
  cases l with
  | nil => rfl
  | cons c r =>
    rw [List.dropWhile_cons, if_neg]
    intro q
    exact h (by rw [show c = 47 from by simpa using q]; exact List.mem_cons_self ..)
theorem seg_lstrip {ws : List Str} {k : Nat} (h : WordOk (at? ws k)) : Txt.lstripChars (segF ws k) sSlash = at? ws k := by
  refine L_ext ?_
  rw [L_lstrip, L_seg, drop_rep, drop_word h.c47]
theorem seg_inj {ws : List Str} {j k : Nat} (hj : WordOk (at? ws j)) (hk : WordOk (at? ws k)) (e : segF ws j = segF ws k) : at? ws j = at? ws k := by
  rw [← seg_lstrip hj, ← seg_lstrip hk, e]
/-- no slash at the end -/
noncomputable def EndOk (l : List Nat) : Prop := l.reverse.dropWhile (· == 47) = l.reverse
theorem end_nil : EndOk [] := rfl
theorem end_word {a b : List Nat} (hb : 47 ∉ b) (hne : b ≠ []) : EndOk (a ++ b) := by
  unfold EndOk
  rw [List.reverse_append]
  cases e : b.reverse with
  | nil => exact absurd (List.reverse_eq_nil_iff.mp e) hne
  | cons c r =>
    have hc : c ∈ b := by rw [← List.mem_reverse, e]; exact List.mem_cons_self ..
    rw [List.cons_append, List.dropWhile_cons, if_neg]
    intro q
    exact hb (by rw [← show c = 47 from by simpa using q]; exact hc)
theorem word_ne {w : Str} (h : WordOk w) : L w ≠ [] := by obtain ⟨c, r, e, _⟩ := h.head; rw [e]; simp
theorem name_end {ws : List Str} {r : List Nat} (h : ∀ k ∈ r, WordOk (at? ws k)) : EndOk (L (nameR ws r)) := by
  cases r with
  | nil => rw [nameR, L_nil]; exact end_nil
  | cons k r =>
    have hk := h k (.head _)
    rw [L_name, ← List.append_assoc]
    exact end_word hk.c47 (word_ne hk)
theorem strip_slashes {x : Str} {l : List Nat} {n : Nat} (e : L x = l ++ List.replicate n 47) (h : EndOk l) : L (Txt.rstripChars x sSlash) = l := by
  rw [L_rstrip, e, List.reverse_append, List.reverse_replicate, drop_rep, h, List.reverse_reverse]
theorem name_ne {ws : List Str} {k : Nat} {r : List Nat} (h : WordOk (at? ws k)) : (nameR ws (k :: r)).length ≠ 0 := by
  rw [L_len, L_name]
  simp [word_ne h]
theorem head_name {ws : List Str} {k : Nat} {r : List Nat} (h : ∀ j ∈ k :: r, WordOk (at? ws j)) : (r = [] → L (headF (nameR ws (k :: r))) = List.replicate (1 + k % 3) 47) ∧ (r ≠ [] → headF (nameR ws (k :: r)) = nameR ws r) := by
  have hk := h k (.head _)
  have hr : ∀ j ∈ r, WordOk (at? ws j) := fun j hj => h j (.tail _ hj)
  have e : L (nameR ws (k :: r)) = (L (nameR ws r) ++ List.replicate (k % 3) 47) ++ 47 :: L (at? ws k) := by
    rw [L_name, show 1 + k % 3 = k % 3 + 1 from by exact Mine.om341, List.replicate_succ']
    simp
  have hf := L_rfind _ _ _ e hk.c47
  have hh : L (Txt.slice (nameR ws (k :: r)) none (some (Txt.rfind (nameR ws (k :: r)) sSlash + 1))) = L (nameR ws r) ++ List.replicate (1 + k % 3) 47 := by
    have key : ∀ pre : List Nat, Txt.rfind (nameR ws (k :: r)) sSlash = (pre.length : Int) → L (nameR ws (k :: r)) = pre ++ 47 :: L (at? ws k) → L (Txt.slice (nameR ws (k :: r)) none (some (Txt.rfind (nameR ws (k :: r)) sSlash + 1))) = pre ++ [47] := by
      intro pre h1 h2
      have h3 := L_upto (nameR ws (k :: r)) (pre.length + 1)
      rw [Int.natCast_add] at h3
      rw [h1]
      refine h3.trans ?_
      rw [h2, show pre ++ 47 :: L (at? ws k) = (pre ++ [47]) ++ L (at? ws k) from by simp, show pre.length + 1 = (pre ++ [47]).length from by simp, List.take_left]
    rw [key _ hf e, show 1 + k % 3 = k % 3 + 1 from by exact Mine.om341, List.replicate_succ']
    simp
  unfold headF
  dsimp only
  generalize Txt.slice (nameR ws (k :: r)) none (some (Txt.rfind (nameR ws (k :: r)) sSlash + 1)) = hd at hh
  have hlen : hd.length = (L (nameR ws r)).length + (1 + k % 3) := by rw [L_len, hh]; simp
  constructor
  · intro q
    subst q
    have hhd : hd = Txt.mul sSlash (hd.length : Int) := by
      refine L_ext ?_
      rw [L_mul, hh, hlen, nameR, L_nil]; simp
    rw [if_neg (fun q => q.2 hhd), hh, nameR, L_nil]; rfl
  · intro q
    rw [if_pos]
    · exact L_ext (strip_slashes hh (name_end hr))
    · refine ⟨by rw [hlen]; exact Mine.om340, fun q2 => ?_⟩
      obtain ⟨j, t, rfl⟩ : ∃ j t, r = j :: t := by cases r with | nil => exact absurd rfl q | cons j t => exact ⟨j, t, rfl⟩
      have hj := hr j (.head _)
      obtain ⟨c, t', hc, hcc⟩ := hj.head
      have hm : c ∈ L hd := by rw [hh, L_name, hc]; simp
      rw [q2, L_mul] at hm
      have := List.eq_of_mem_replicate hm
      exact Mine.om339 hcc this
theorem anc_name {ws : List Str} : ∀ (r : List Nat) (f : Nat), r.length ≤ f → (∀ k ∈ r, WordOk (at? ws k)) → ancF f (nameR ws r) = some (chainR ws r)
  | [], f, _, _ => by
    have e : (Txt.rstripChars (nameR ws []) sSlash).length = 0 := by rw [L_len, strip_slashes (l := []) (n := 0) (by rw [nameR, L_nil]; rfl) end_nil]; rfl
    cases f with
    | zero => rw [ancF, if_pos e]; rfl
    | succ f => rw [ancF, if_pos e]; rfl
  | k :: r, 0, h, _ => by simp at h
  | k :: r, f + 1, h, hw => by
    have hr : ∀ j ∈ r, WordOk (at? ws j) := fun j hj => hw j (.tail _ hj)
    have e : (Txt.rstripChars (nameR ws (k :: r)) sSlash).length ≠ 0 := by
      rw [L_len, strip_slashes (l := L (nameR ws (k :: r))) (n := 0) (by simp) (name_end hw), ← L_len]
      exact name_ne (hw k (.head _))
    rw [ancF, if_neg e]
    obtain ⟨h1, h2⟩ := head_name hw
    have hsub : ancF f (headF (nameR ws (k :: r))) = some (chainR ws r) := by
      by_cases q : r = []
      · have hz : (Txt.rstripChars (headF (nameR ws (k :: r))) sSlash).length = 0 := by
          rw [L_len, strip_slashes (l := []) (n := 1 + k % 3) (by rw [h1 q]; rfl) end_nil]; rfl
        subst q
        cases f with
        | zero => rw [ancF, if_pos hz]; rfl
        | succ f => rw [ancF, if_pos hz]; rfl
      · rw [h2 q]
        exact anc_name r f (by simpa using h) hr
    rw [hsub]; rfl
/-- the ancestry of a member's name -/
theorem anc_member {ws : List Str} (r : List Nat) (n : Nat) (h : r.length ≤ 60) (hw : ∀ k ∈ r, WordOk (at? ws k)) : anc (nameR ws r ++ Txt.mul sSlash (n : Int)) = some (chainR ws r) := by
  unfold anc
  have : Txt.rstripChars (nameR ws r ++ Txt.mul sSlash (n : Int)) sSlash = nameR ws r := L_ext (strip_slashes (n := n) (by rw [L_app, L_mul]) (name_end hw))
  rw [this]
  exact anc_name r 60 h hw
theorem name_snoc (ws : List Str) (k : Nat) : ∀ r : List Nat, nameR ws (r ++ [k]) = segF ws k ++ nameR ws r
  | [] => L_ext (by simp only [List.nil_append, nameR, L_app, L_nil]; simp)
  | j :: r => by
    rw [List.cons_append, nameR, name_snoc ws k r, nameR]
    exact L_ext (by simp only [L_app]; simp)
theorem chain_last (ws : List Str) (k : Nat) : ∀ r : List Nat, (chainR ws (r ++ [k])).getLast? = some (segF ws k)
  | [] => by
    show some (nameR ws [k]) = _
    rw [show nameR ws [k] = sNil ++ segF ws k from rfl]
    congr 1
    exact L_ext (by rw [L_app, L_nil]; rfl)
  | j :: r => by
    rw [List.cons_append, chainR, List.getLast?_cons, chain_last ws k r]; rfl
end Mine
end
section
open PySem PySem.W PySem.Calls PyProof.Rows PySem.Spec PySem.Builtin PySem.Builtin.Str
set_option Elab.async false
set_option linter.unusedVariables false
namespace Mine
/-- the ways (written backwards) from a place down to the leaves -/
noncomputable def pathsR (ab : List Nat) : Nat → Nat → List (List Nat)
  | 0, _ => [[]]
  | d + 1, n => if belowF ab n = [] then [[]] else (belowF ab n).flatMap fun k => (pathsR ab d k).map (· ++ [k])
theorem headD_snoc (r : List Nat) (k n : Nat) : (r ++ [k]).headD n = r.headD k := by cases r <;> rfl
theorem paths_leaf {ab : List Nat} {d n : Nat} (h : belowF ab n = []) : pathsR ab d n = [[]] := by
  cases d with
  | zero => rfl
  | succ d => rw [pathsR, if_pos h]
theorem leaves_paths (ab : List Nat) : ∀ d n, leavesF ab d n = (pathsR ab d n).map fun r => r.headD n
  | 0, n => rfl
  | d + 1, n => by
    rw [leavesF, pathsR]
    split
    · rfl
    · rw [List.map_flatMap]
      congr 1
      funext k
      rw [leaves_paths ab d k, List.map_map]
      congr 1
      funext r
      exact (headD_snoc r k n).symm
theorem paths_ok {ab : List Nat} : ∀ (d n : Nat), ∀ r ∈ pathsR ab d n, r.length ≤ d ∧ ∀ k ∈ r, 0 < k ∧ k < ab.length
  | 0, n, r, hr => by rw [pathsR] at hr; rw [List.mem_singleton.mp hr]; simp
  | d + 1, n, r, hr => by
    rw [pathsR] at hr
    split at hr
    · rw [List.mem_singleton.mp hr]; simp
    · obtain ⟨k, hk, hr⟩ := List.mem_flatMap.mp hr
      obtain ⟨r', hr', rfl⟩ := List.mem_map.mp hr
      obtain ⟨h1, h2⟩ := paths_ok d k r' hr'
      obtain ⟨k0, kl, _⟩ := below_lt hk
      refine ⟨by simp; exact Mine.om207 h1, fun j hj => ?_⟩
      rcases List.mem_append.mp hj with q | q
      · exact h2 j q
      · rw [List.mem_singleton.mp q]; exact ⟨k0, kl⟩
theorem paths_ne {ab : List Nat} : ∀ (d n : Nat), pathsR ab d n ≠ []
  | 0, n => by rw [pathsR]; simp
  | d + 1, n => by
    rw [pathsR]
    split
    · simp
    · rename_i h
      cases e : belowF ab n with
      | nil => exact absurd e h
      | cons k ks =>
        intro q
        rw [List.flatMap_cons] at q
        have := List.append_eq_nil_iff.mp q
        exact paths_ne d k (List.map_eq_nil_iff.mp this.1)
theorem paths_long {ab : List Nat} {d n : Nat} (hh : Ht ab d n) (h : belowF ab n ≠ []) : ∀ r ∈ pathsR ab d n, r ≠ [] := by
  cases d with
  | zero => exact absurd hh h
  | succ d =>
    intro r hr
    rw [pathsR, if_neg h] at hr
    obtain ⟨k, hk, hr⟩ := List.mem_flatMap.mp hr
    obtain ⟨r', hr', rfl⟩ := List.mem_map.mp hr
    simp
theorem flat_le {α β : Type} {f : α → List β} {c : Nat} : ∀ {l : List α}, (∀ x ∈ l, (f x).length ≤ c) → (l.flatMap f).length ≤ l.length * c
  | [], _ => by simp
  | x :: l, h => by
    have h1 := h x (.head _)
    have h2 := flat_le (f := f) fun y hy => h y (.tail _ hy)
    rw [List.flatMap_cons, List.length_append, List.length_cons, Nat.succ_mul]; exact Mine.om89 h1 h2
theorem below_len14 {ab : List Nat} (h : ab.length ≤ 15) (n : Nat) : (belowF ab n).length ≤ 14 := by
  unfold belowF
  refine Nat.le_trans (List.length_filter_le _ _) ?_
  rw [List.length_range']; exact Mine.om343 h
theorem paths_len {ab : List Nat} (h : ab.length ≤ 15) : ∀ d n, (pathsR ab d n).length ≤ 14 ^ d
  | 0, n => by rw [pathsR]; simp
  | d + 1, n => by
    rw [pathsR]
    have hp : 1 ≤ 14 ^ (d + 1) := Nat.one_le_pow _ _ (by decide)
    split
    · simpa using hp
    · have h1 := flat_le (f := fun k => (pathsR ab d k).map (· ++ [k])) (c := 14 ^ d) (l := belowF ab n) fun k _ => by rw [List.length_map]; exact paths_len h d k
      have h2 := Nat.mul_le_mul_right (14 ^ d) (below_len14 h n)
      rw [Nat.pow_succ, Nat.mul_comm]
      exact Mine.om342 h1 h2
noncomputable def memR (ws ts : List Str) (n : Nat) (r : List Nat) : Mem := (nameR ws r ++ Txt.mul sSlash ((r.headD n % 2 : Nat) : Int), at? ts (r.headD n))
theorem rough_path {g : GS} (T : Tree g) : ∀ (d n : Nat), ∀ r ∈ pathsR g.ab d n, at? g.rg (r.headD n) = at? g.rg n ++ nameR g.ws r
  | 0, n, r, hr => by
    rw [pathsR] at hr; rw [List.mem_singleton.mp hr]
    exact L_ext (by rw [L_app, nameR, L_nil]; simp)
  | d + 1, n, r, hr => by
    rw [pathsR] at hr
    split at hr
    · rw [List.mem_singleton.mp hr]
      exact L_ext (by rw [L_app, nameR, L_nil]; simp)
    · obtain ⟨k, hk, hr⟩ := List.mem_flatMap.mp hr
      obtain ⟨r', hr', rfl⟩ := List.mem_map.mp hr
      obtain ⟨k0, kl, hkn⟩ := below_lt hk
      rw [headD_snoc, rough_path T d k r' hr', T.rgk k n k0 hkn, name_snoc]
      exact L_ext (by unfold segF; simp only [L_app]; simp)
theorem lawMem_eq {g : GS} (T : Tree g) : lawMem g = (pathsR g.ab 3 0).map (memR g.ws g.ts 0) := by
  show (leavesF g.ab 3 0).map (memF g) = _
  rw [leaves_paths, List.map_map]
  refine List.map_congr_left fun r hr => ?_
  show memF g (r.headD 0) = memR g.ws g.ts 0 r
  unfold memF memR
  rw [rough_path T 3 0 r hr, T.rg0]
  congr 1
  exact L_ext (by simp only [L_app, L_nil]; simp)
theorem opt_map {α β γ : Type} {f : β → Option γ} {c : α → β} {h : α → γ} : ∀ {l : List α}, (∀ r ∈ l, f (c r) = some (h r)) → optAll f (l.map c) = some (l.map h)
  | [], _ => rfl
  | r :: l, q => by rw [List.map_cons, optAll_cons, q r (.head _), opt_map fun r hr => q r (.tail _ hr)]; rfl
theorem flat_single {α β : Type} [DecidableEq α] {G : α → List β} {k : α} : ∀ {ks : List α}, ks.Nodup → k ∈ ks → (∀ j ∈ ks, j ≠ k → G j = []) → ks.flatMap G = G k
  | [], _, h, _ => nomatch h
  | j :: ks, nd, h, q => by
    obtain ⟨h1, h2⟩ := List.nodup_cons.mp nd
    rw [List.flatMap_cons]
    by_cases e : j = k
    · subst e
      have : ks.flatMap G = [] := List.flatMap_eq_nil_iff.mpr fun i hi => q i (.tail _ hi) fun e => h1 (e ▸ hi)
      rw [this, List.append_nil]
    · rw [q j (.head _) e, List.nil_append]
      exact flat_single h2 ((List.mem_cons.mp h).resolve_left fun x => e x.symm) fun i hi => q i (.tail _ hi)
theorem add_same {x : Str} {acc : List Str} (h : x ∈ acc) : ∀ {α : Type} (P : List α), (P.map fun _ => x).foldl addS acc = acc
  | _, [] => rfl
  | _, _ :: P => by
    rw [List.map_cons, List.foldl_cons, show addS acc x = acc from by unfold addS; rw [if_pos (List.contains_iff_mem.mpr h)]]
    exact add_same h P
theorem ded_blocks {α β : Type} {P : α → List β} {c : α → Str} : ∀ (ks : List α) (acc : List Str), (∀ k ∈ ks, P k ≠ []) → (∀ k ∈ ks, c k ∉ acc) → (ks.map c).Nodup →
    (ks.flatMap fun k => (P k).map fun _ => c k).foldl addS acc = acc ++ ks.map c
  | [], acc, _, _, _ => by simp
  | k :: ks, acc, hP, hc, nd => by
    rw [List.map_cons] at nd
    obtain ⟨h1, h2⟩ := List.nodup_cons.mp nd
    rw [List.flatMap_cons, List.foldl_append]
    cases e : P k with
    | nil => exact absurd e (hP k (.head _))
    | cons b bs =>
      rw [List.map_cons, List.foldl_cons]
      have ha : addS acc (c k) = acc ++ [c k] := by
        unfold addS
        rw [if_neg fun q => hc k (.head _) (List.contains_iff_mem.mp q)]
      rw [ha, add_same (by simp), ded_blocks ks _ (fun j hj => hP j (.tail _ hj)) (fun j hj q => ?_) h2]
      · simp
      · rcases List.mem_append.mp q with q | q
        · exact hc j (.tail _ hj) q
        · exact h1 (List.mem_singleton.mp q ▸ List.mem_map.mpr ⟨j, hj, rfl⟩)
end Mine
end
section
open PySem PySem.W PySem.Calls PyProof.Rows PySem.Spec PySem.Builtin PySem.Builtin.Str
set_option Elab.async false
set_option linter.unusedVariables false
namespace Mine
theorem name_len {ws : List Str} (h2 : ∀ x ∈ ws, x.length ≤ 2) : ∀ r : List Nat, (nameR ws r).length ≤ 5 * r.length
  | [] => by rw [L_len, nameR, L_nil]; simp
  | k :: r => by
    have h1 := name_len h2 r
    have h3 := at_len (k := k) h2
    rw [L_len] at h3 h1
    rw [L_len, L_name, List.length_append, List.length_append, List.length_replicate, List.length_cons]
    exact Mine.om354 h1 h3
theorem name_strOk {ws : List Str} (h : ∀ x ∈ ws, PyData.strOk x = true) : ∀ r : List Nat, PyData.strOk (nameR ws r) = true
  | [] => by show PyData.strOk sNil = true; decide +kernel
  | k :: r => by
    have hk : PyData.strOk (at? ws k) = true := by
      unfold at?
      cases e : ws[k]? with
      | none => decide +kernel
      | some x => exact h x (List.mem_of_getElem? e)
    exact strOk_app (name_strOk h r) (strOk_app (strOk_mul _) hk)
theorem memR_ok {g : GS} (T : Tree g) {n : Nat} {r : List Nat} (h : r.length ≤ 3) : memOk (memR g.ws g.ts n r) = true := by
  unfold memOk memR
  have h1 := name_len T.w2 r
  have h2 := mul_len (r.headD n % 2) (by exact Mine.om289)
  rw [Bool.and_eq_true]
  refine ⟨decide_eq_true ?_, strOk_app (name_strOk T.wok r) (strOk_mul _)⟩
  show (nameR g.ws r ++ Txt.mul sSlash ((r.headD n % 2 : Nat) : Int)).length ≤ 900
  rw [Str.length_append]
  show (nameR g.ws r).length + (Txt.mul sSlash ((r.headD n % 2 : Nat) : Int)).length ≤ 900
  exact Mine.om353 h h1 h2
theorem zip_map {α β γ : Type} (f : α → β) (h : α → γ) : ∀ l : List α, (l.map f).zip (l.map h) = l.map fun x => (f x, h x)
  | [] => rfl
  | a :: l => by rw [List.map_cons, List.map_cons, List.zip_cons_cons, zip_map f h l]; rfl
theorem fm_flat {α β γ : Type} (f : β → Option γ) (G : α → List β) (l : List α) : (l.flatMap G).filterMap f = l.flatMap fun a => (G a).filterMap f := by
  induction l with
  | nil => rfl
  | cons a l ih => rw [List.flatMap_cons, List.filterMap_append, ih, List.flatMap_cons]
theorem fm_all {α β : Type} {f : α → Option β} {c : α → β} : ∀ {l : List α}, (∀ a ∈ l, f a = some (c a)) → l.filterMap f = l.map c
  | [], _ => rfl
  | a :: l, h => by rw [List.filterMap_cons, h a (.head _), fm_all fun a ha => h a (.tail _ ha)]; rfl
theorem fm_none {α β : Type} {f : α → Option β} : ∀ {l : List α}, (∀ a ∈ l, f a = none) → l.filterMap f = []
  | [], _ => rfl
  | a :: l, h => by rw [List.filterMap_cons, h a (.head _), fm_none fun a ha => h a (.tail _ ha)]
theorem below_of {g : GS} (T : Tree g) {d n k : Nat} (hb : belowF g.ab n ≠ []) (hk : k ∈ belowF g.ab n) :
    belowP ((pathsR g.ab (d + 1) n).map fun r => (memR g.ws g.ts n r, chainR g.ws r)) (segF g.ws k) = (pathsR g.ab d k).map (memR g.ws g.ts k) := by
  unfold belowP
  rw [List.filterMap_map, pathsR, if_neg hb, fm_flat]
  obtain ⟨k0, kl, hkn⟩ := below_lt hk
  rw [flat_single (k := k) (below_nodup _ _) hk]
  · rw [List.filterMap_map]
    refine fm_all fun r hr => ?_
    show (if (chainR g.ws (r ++ [k])).getLast? = some (segF g.ws k) then some (Txt.slice (memR g.ws g.ts n (r ++ [k])).1 (some ((segF g.ws k).length : Int)) none, (memR g.ws g.ts n (r ++ [k])).2) else none) = _
    rw [if_pos (chain_last _ _ _)]
    unfold memR
    rw [headD_snoc]
    congr 2
    refine L_ext ?_
    rw [L_from, name_snoc, L_app, L_app, L_len, List.append_assoc, List.drop_left, L_app]
  · intro j hj hne
    obtain ⟨j0, jl, hjn⟩ := below_lt hj
    rw [List.filterMap_map]
    refine fm_none fun r hr => ?_
    show (if (chainR g.ws (r ++ [j])).getLast? = some (segF g.ws k) then _ else none) = none
    rw [if_neg]
    rw [chain_last]
    intro e
    exact hne (T.sib j k n j0 k0 hjn hkn (seg_inj (T.wd j j0 jl) (T.wd k k0 kl) (Option.some.inj e)))
theorem pack_written {g : GS} (T : Tree g) (hlen : g.ab.length ≤ 15) : ∀ (d n : Nat), d ≤ 3 → Ht g.ab d n → n < g.ab.length → ∀ f, d + 1 ≤ f →
    packF f ((pathsR g.ab d n).map (memR g.ws g.ts n)) = some (writtenF g.ab g.ws g.ts d n) := by
  have D : Wds g.ab g.ws g.ts := ⟨T.gi.ws, T.gi.ts, T.w2, T.t3⟩
  have start : ∀ (d n f : Nat), d ≤ 3 → packF (f + 1) ((pathsR g.ab d n).map (memR g.ws g.ts n)) =
      (optAll (packItem (packF f) ((pathsR g.ab d n).map fun r => (memR g.ws g.ts n r, chainR g.ws r))) (dedF (((pathsR g.ab d n).map (chainR g.ws)).filterMap List.getLast?))).bind fun items => if JoinOk sComma items = true then some (Txt.join sComma items) else none := by
    intro d n f hd
    have hp := paths_ok (ab := g.ab) d n
    have hl := paths_len hlen d n
    have hl2 : 14 ^ d ≤ 14 ^ 3 := Nat.pow_le_pow_right (by decide) hd
    rw [packF, if_pos, opt_map (h := chainR g.ws) fun r hr => ?_]
    · show (optAll (packItem (packF f) (((pathsR g.ab d n).map (memR g.ws g.ts n)).zip ((pathsR g.ab d n).map (chainR g.ws)))) _).bind _ = _
      rw [zip_map]
    · obtain ⟨h1, h2⟩ := hp r hr
      exact anc_member r _ (by exact Mine.om352 hd h1) fun k hk => T.wd k (h2 k hk).1 (h2 k hk).2
    · rw [Bool.and_eq_true]
      refine ⟨List.all_eq_true.mpr fun m hm => ?_, decide_eq_true ?_⟩
      · obtain ⟨r, hr, rfl⟩ := List.mem_map.mp hm
        exact memR_ok T (Nat.le_trans (hp r hr).1 hd)
      · rw [List.length_map]
        have : 14 ^ 3 ≤ 10000 := by decide
        exact Mine.om351 hl hl2
  have leaf : ∀ (d n f : Nat), d ≤ 3 → belowF g.ab n = [] → 1 ≤ f → packF f ((pathsR g.ab d n).map (memR g.ws g.ts n)) = some (Txt.join sComma []) := by
    intro d n f hd hb hf
    obtain ⟨f, rfl⟩ : ∃ j, f = j + 1 := ⟨f - 1, by exact Mine.om336 hf⟩
    rw [start d n f hd, paths_leaf hb]
    rfl
  intro d
  induction d with
  | zero =>
    intro n hd hh hn f hf
    rw [writtenF]
    exact leaf 0 n f (by exact Mine.om350) hh (by exact Mine.om349 hf)
  | succ d ih =>
    intro n hd hh hn f hf
    by_cases hb : belowF g.ab n = []
    · rw [writtenF, hb]
      exact leaf (d + 1) n f hd hb (by exact Mine.om335 hf)
    · obtain ⟨f, rfl⟩ : ∃ j, f = j + 1 := ⟨f - 1, by exact Mine.om334 hf⟩
      rw [start (d + 1) n f hd]
      have htops : dedF (((pathsR g.ab (d + 1) n).map (chainR g.ws)).filterMap List.getLast?) = (belowF g.ab n).map (segF g.ws) := by
        rw [List.filterMap_map, pathsR, if_neg hb, fm_flat]
        have e : ((belowF g.ab n).flatMap fun k => ((pathsR g.ab d k).map (· ++ [k])).filterMap (List.getLast? ∘ chainR g.ws)) = (belowF g.ab n).flatMap fun k => (pathsR g.ab d k).map fun _ => segF g.ws k := by
          congr 1
          funext k
          rw [List.filterMap_map]
          exact fm_all fun r _ => chain_last _ _ _
        rw [e]
        unfold dedF
        rw [ded_blocks (P := fun k => pathsR g.ab d k) _ [] (fun k _ => paths_ne d k) (fun _ _ q => nomatch q) (nodup_map_on (below_nodup _ _) fun a ha b hb' e => ?_)]
        · rfl
        · obtain ⟨a0, al, han⟩ := below_lt ha
          obtain ⟨b0, bl, hbn⟩ := below_lt hb'
          exact T.sib a b n a0 b0 han hbn (seg_inj (T.wd a a0 al) (T.wd b b0 bl) e)
      have hLw : ∀ k, (writtenF g.ab g.ws g.ts d k).length ≤ 61852 := fun k => Nat.le_trans (written_len D hlen d k) (by
        have h : d = 0 ∨ d = 1 ∨ d = 2 := by exact Mine.om103 hd
        rcases h with rfl | rfl | rfl <;> decide)
      rw [htops, opt_map (h := cellF g.ab g.ws g.ts (writtenF g.ab g.ws g.ts d)) fun k hk => ?_]
      · show (if JoinOk sComma _ = true then some (Txt.join sComma _) else none) = _
        rw [if_pos, writtenF]
        refine joinOk_len 560000 _ (fun x hx => ?_) ?_
        · obtain ⟨k, hk, rfl⟩ := List.mem_map.mp hx
          have h2 := at_len (k := k) T.w2
          have h3 := at_len (k := k) T.t3
          have h4 := hLw k
          unfold cellF
          split
          · have := item_len (at? g.ws k) (at? g.ts k); exact Mine.om348 h2 h3 this
          · have := item_len (at? g.ws k ++ sSlash) (writtenF g.ab g.ws g.ts d k)
            rw [Str.length_append, len_slash] at this
            exact Mine.om347 h2 h4 this
        · have := below_len14 hlen n
          rw [List.length_map]; exact Mine.om346 this
      · obtain ⟨k0, kl, hkn⟩ := below_lt hk
        have hw := T.wd k k0 kl
        unfold packItem
        rw [below_of T hb hk, seg_lstrip hw]
        have hsub := ih k (by exact Mine.om76 hd) (hh k hk) kl f (by exact Mine.om333 hf)
        cases hp : pathsR g.ab d k with
        | nil => exact absurd hp (paths_ne d k)
        | cons r rs =>
          rw [hp] at hsub
          rw [List.map_cons] at hsub ⊢
          show (if (memR g.ws g.ts k r).1.length = 0 then (if (memR g.ws g.ts k r).2.length ≤ 1000000 then some (itemF (at? g.ws k) (memR g.ws g.ts k r).2) else none) else (packF f (memR g.ws g.ts k r :: rs.map (memR g.ws g.ts k))).bind fun h => if h.length ≤ 1000000 then some (itemF (at? g.ws k ++ sSlash) h) else none) = some (cellF g.ab g.ws g.ts (writtenF g.ab g.ws g.ts d) k)
          have h3 := at_len (k := k) T.t3
          have h4 := hLw k
          by_cases hc : belowF g.ab k = [] ∧ k % 2 = 0
          · have : r = [] := by
              rw [paths_leaf hc.1] at hp; cases hp; rfl
            subst this
            have hz : (memR g.ws g.ts k []).1.length = 0 := by
              unfold memR
              rw [L_len, L_app, L_mul, nameR, L_nil]
              show ([] ++ List.replicate (k % 2) 47).length = 0
              rw [hc.2]; rfl
            rw [if_pos hz]
            show (if (at? g.ts k).length ≤ 1000000 then some (itemF (at? g.ws k) (at? g.ts k)) else none) = _
            rw [if_pos (by exact Mine.om114 h3)]
            unfold cellF
            rw [if_pos hc]
          · have hz : (memR g.ws g.ts k r).1.length ≠ 0 := by
              unfold memR
              rw [L_len, L_app, L_mul]
              by_cases hl : belowF g.ab k = []
              · have hodd : ¬ k % 2 = 0 := fun q => hc ⟨hl, q⟩
                have : r = [] := by
                  rw [paths_leaf hl] at hp; cases hp; rfl
                subst this
                show (L (nameR g.ws []) ++ List.replicate (k % 2) 47).length ≠ 0
                simp; omega
              · have hr := paths_long (hh k hk) hl r (by rw [hp]; exact .head _)
                obtain ⟨j, t, rfl⟩ : ∃ j t, r = j :: t := by cases r with | nil => exact absurd rfl hr | cons j t => exact ⟨j, t, rfl⟩
                have hj := ((paths_ok (ab := g.ab) d k) (j :: t) (by rw [hp]; exact .head _)).2 j (.head _)
                have := name_ne (r := t) (T.wd j hj.1 hj.2)
                rw [L_len] at this
                rw [List.length_append]; exact Mine.om345 this
            rw [if_neg hz, hsub]
            show (if (writtenF g.ab g.ws g.ts d k).length ≤ 1000000 then some (itemF (at? g.ws k ++ sSlash) (writtenF g.ab g.ws g.ts d k)) else none) = _
            rw [if_pos (by exact Mine.om344 h4)]
            unfold cellF
            rw [if_neg hc]
end Mine
end
section
open PySem PySem.W PySem.Calls PyProof.Rows PySem.Spec PySem.Builtin PySem.Builtin.Str
set_option Elab.async false
set_option linter.unusedVariables false
namespace Mine
theorem ht_floor {g : GS} (T : Tree g) : ∀ (d n f : Nat), g.fl[n]? = some f → 3 ≤ f + d → Ht g.ab d n
  | 0, n, f, hf, h => by
    show belowF g.ab n = []
    cases e : belowF g.ab n with
    | nil => rfl
    | cons k ks =>
      obtain ⟨k0, kl, hk⟩ := below_lt (show k ∈ belowF g.ab n by rw [e]; exact .head _)
      obtain ⟨f', h1, h2⟩ := T.fk k n k0 hk
      rw [hf] at h1; cases h1
      have := T.f3 _ (List.mem_of_getElem? h2)
      exact (Mine.om362 h this).elim
  | d + 1, n, f, hf, h => fun k hk => by
    obtain ⟨k0, kl, hk⟩ := below_lt hk
    obtain ⟨f', h1, h2⟩ := T.fk k n k0 hk
    rw [hf] at h1; cases h1
    exact ht_floor T d k (f + 1) h2 (by exact Mine.om361 h)
theorem paths_up {g : GS} (T : Tree g) : ∀ (d n : Nat), ∀ r ∈ pathsR g.ab d n, upF g.ab (r.headD n) (r.headD n) = r ++ upF g.ab n n
  | 0, n, r, hr => by rw [pathsR] at hr; rw [List.mem_singleton.mp hr]; rfl
  | d + 1, n, r, hr => by
    rw [pathsR] at hr
    split at hr
    · rw [List.mem_singleton.mp hr]; rfl
    · obtain ⟨k, hk, hr⟩ := List.mem_flatMap.mp hr
      obtain ⟨r', hr', rfl⟩ := List.mem_map.mp hr
      obtain ⟨k0, kl, hkn⟩ := below_lt hk
      rw [headD_snoc, paths_up T d k r' hr', up_step T.up k0 hkn]
      simp
theorem chain_up {g : GS} (T : Tree g) : ∀ (N x : Nat), x ≤ N → x < g.ab.length → nameR g.ws (upF g.ab x x) = at? g.rg x ∧ chainR g.ws (upF g.ab x x) = (upF g.ab x x).map (at? g.rg) := by
  intro N
  induction N with
  | zero =>
    intro x hx hl
    have : x = 0 := by exact Mine.om75 hx
    subst this
    exact ⟨T.rg0.symm, rfl⟩
  | succ N ih =>
    intro x hx hl
    by_cases h0 : x = 0
    · subst h0; exact ⟨T.rg0.symm, rfl⟩
    · obtain ⟨p, hp, hlt⟩ := T.up x hl (by exact Mine.om74 h0)
      obtain ⟨h1, h2⟩ := ih p (by exact Mine.om72 hx hlt) (by exact Mine.om73 hl hlt)
      have e := up_step T.up (by exact Mine.om359 hlt) hp
      have hn : nameR g.ws (x :: upF g.ab p p) = at? g.rg x := by
        rw [nameR, h1, T.rgk x p (by exact Mine.om359 hlt) hp]
        exact L_ext (by unfold segF; simp only [L_app]; simp)
      rw [e]
      exact ⟨hn, by rw [chainR, hn, h2, List.map_cons]⟩
theorem rg_inj {g : GS} (T : Tree g) : ∀ (N j k : Nat), j ≤ N → j < g.ab.length → k < g.ab.length → at? g.rg j = at? g.rg k → j = k := by
  have dec : ∀ k p, 0 < k → g.ab[k]? = some p → L (at? g.rg k) = (L (at? g.rg p) ++ List.replicate (k % 3) 47) ++ 47 :: L (at? g.ws k) := fun k p h0 h => by
    rw [T.rgk k p h0 h, L_app, L_app, L_mul, show 1 + k % 3 = k % 3 + 1 from by exact Mine.om341, List.replicate_succ']
    simp
  have zero : ∀ k, 0 < k → k < g.ab.length → at? g.rg k ≠ at? g.rg 0 := fun k h0 hl e => by
    obtain ⟨p, hp, hlt⟩ := T.up k hl h0
    have := dec k p h0 hp
    rw [e, T.rg0, L_nil] at this
    simp at this
  have en : ∀ p, p < g.ab.length → EndOk (L (at? g.rg p)) := fun p hp => by
    rw [← (chain_up T p p (Nat.le_refl _) hp).1]
    exact name_end fun k hk => by
      obtain ⟨h1, h2⟩ := upF_mem T.up _ _ hp k hk
      exact T.wd k h1 h2
  intro N
  induction N with
  | zero =>
    intro j k hj hjl hkl e
    have : j = 0 := by exact Mine.om75 hj
    subst this
    by_cases h : k = 0
    · exact h.symm
    · exact absurd e.symm (zero k (by exact Mine.om74 h) hkl)
  | succ N ih =>
    intro j k hj hjl hkl e
    by_cases hj0 : j = 0
    · subst hj0
      by_cases h : k = 0
      · exact h.symm
      · exact absurd e.symm (zero k (by exact Mine.om74 h) hkl)
    · by_cases hk0 : k = 0
      · subst hk0; exact absurd e (zero j (by exact Mine.om74 hj0) hjl)
      · obtain ⟨p, hp, hpl⟩ := T.up j hjl (by exact Mine.om74 hj0)
        obtain ⟨q, hq, hql⟩ := T.up k hkl (by exact Mine.om74 hk0)
        have d1 := dec j p (by exact Mine.om359 hpl) hp
        have d2 := dec k q (by exact Mine.om359 hql) hq
        rw [e] at d1
        have r1 := L_rfind _ _ _ d1 (T.wd j (by exact Mine.om359 hpl) hjl).c47
        have r2 := L_rfind _ _ _ d2 (T.wd k (by exact Mine.om359 hql) hkl).c47
        rw [r1] at r2
        have hlen : (L (at? g.rg p) ++ List.replicate (j % 3) 47).length = (L (at? g.rg q) ++ List.replicate (k % 3) 47).length := by exact Mine.om360 r2
        obtain ⟨e1, e2⟩ := List.append_inj (d1.symm.trans d2) hlen
        have hw : at? g.ws j = at? g.ws k := L_ext (by simpa using e2)
        have hpq : at? g.rg p = at? g.rg q := L_ext (by
          have h1 := strip_slashes (x := mk (L (at? g.rg p) ++ List.replicate (j % 3) 47)) rfl (en p (by exact Mine.om73 hjl hpl))
          have h2 := strip_slashes (x := mk (L (at? g.rg q) ++ List.replicate (k % 3) 47)) rfl (en q (by exact Mine.om66 hkl hql))
          rw [e1] at h1
          exact h1.symm.trans h2)
        have := ih p q (by exact Mine.om72 hj hpl) (by exact Mine.om73 hjl hpl) (by exact Mine.om66 hkl hql) hpq
        subst this
        exact T.sib j k p (by exact Mine.om359 hpl) (by exact Mine.om359 hql) hp hq hw
theorem ded_map {c : Nat → Str} : ∀ (l acc : List Nat), (∀ a ∈ acc ++ l, ∀ b ∈ acc ++ l, c a = c b → a = b) → (l.map c).foldl addS (acc.map c) = (l.foldl addF acc).map c
  | [], _, _ => rfl
  | a :: l, acc, h => by
    rw [List.map_cons, List.foldl_cons, List.foldl_cons]
    have e : addS (acc.map c) (c a) = (addF acc a).map c := by
      unfold addS addF
      by_cases q : a ∈ acc
      · rw [if_pos (List.contains_iff_mem.mpr (List.mem_map.mpr ⟨a, q, rfl⟩)), if_pos (List.contains_iff_mem.mpr q)]
      · rw [if_neg (fun m => ?_), if_neg (fun m => q (List.contains_iff_mem.mp m))]
        · simp
        · obtain ⟨b, hb, e⟩ := List.mem_map.mp (List.contains_iff_mem.mp m)
          exact q (h b (by simp [hb]) a (by simp) e ▸ hb)
    rw [e]
    refine ded_map l _ fun x hx y hy => h x ?_ y ?_
    · unfold addF at hx
      split at hx
      · simp at hx ⊢; rcases hx with q | q <;> simp [q]
      · simpa using hx
    · unfold addF at hy
      split at hy
      · simp at hy ⊢; rcases hy with q | q <;> simp [q]
      · simpa using hy
theorem fold_flat (G : Nat → List Nat) : ∀ (l acc : List Nat), l.foldl (fun acc x => (G x).foldl addF acc) acc = (l.flatMap G).foldl addF acc
  | [], _ => rfl
  | a :: l, acc => by rw [List.foldl_cons, List.flatMap_cons, List.foldl_append, fold_flat G l]
theorem gstep_ext (g : GS) (x : Int) : ∃ e, (gstep g x).ab = g.ab ++ e := by
  unfold gstep
  dsimp only
  split
  · exact ⟨[], by simp⟩
  · exact ⟨_, rfl⟩
theorem fold_ext : ∀ (l : List Int) (g : GS), ∃ e, (l.foldl gstep g).ab = g.ab ++ e
  | [], g => ⟨[], by simp⟩
  | x :: l, g => by
    obtain ⟨e1, h1⟩ := gstep_ext g x
    obtain ⟨e2, h2⟩ := fold_ext l (gstep g x)
    exact ⟨e1 ++ e2, by rw [List.foldl_cons, h2, h1, List.append_assoc]⟩
theorem fold_len : ∀ (l : List Int) (g : GS), GI g → (l.foldl gstep g).ab.length ≤ g.ab.length + l.length
  | [], g, _ => by simp
  | x :: l, g, h => by
    obtain ⟨h1, h2⟩ := h.step x
    have := fold_len l _ h1
    rw [List.foldl_cons, List.length_cons]; exact Mine.om176 h2 this
theorem law_pure (ns : List Int) : ∃ ways, LawOk (grown (scriptF ns)) ways := by
  have T := tree (scriptF ns)
  have hlen : (grown (scriptF ns)).ab.length ≤ 15 := by
    have := fold_len (scriptF ns) ⟨[0], [0], [sNil], [sNil], [sNil]⟩ Tree.base.gi
    have h2 : (scriptF ns).length ≤ 14 := by unfold scriptF; simp; exact Mine.om290
    have h3 : ([0] : List Nat).length = 1 := rfl
    show ((scriptF ns).foldl gstep _).ab.length ≤ 15
    refine Nat.le_trans this ?_
    show 1 + (scriptF ns).length ≤ 15
    exact Mine.om358 h2
  have hroot : belowF (grown (scriptF ns)).ab 0 ≠ [] := by
    obtain ⟨e, he⟩ := fold_ext ([1, 5, 24, 6, 62] ++ ns.take 8) (gstep ⟨[0], [0], [sNil], [sNil], [sNil]⟩ 0)
    have h1 : (gstep ⟨[0], [0], [sNil], [sNil], [sNil]⟩ 0).ab = [0, 0] := by decide +kernel
    have h2 : (grown (scriptF ns)).ab = [0, 0] ++ e := by rw [← h1]; exact he
    intro q
    have := mem_below (ab := (grown (scriptF ns)).ab) (k := 1) (n := 0) (by decide) (by rw [h2]; rfl)
    rw [q] at this; cases this
  generalize grown (scriptF ns) = g at *
  have hpos := T.gi.pos
  have ht := ht_floor T 3 0 0 T.f0 (by exact Mine.om357)
  have hp := paths_ok (ab := g.ab) 3 0
  have hlv : ∀ x ∈ lawLeaves g, x < g.ab.length := fun x hx => by
    have hx : x ∈ leavesF g.ab 3 0 := hx
    rw [leaves_paths] at hx
    obtain ⟨r, hr, rfl⟩ := List.mem_map.mp hx
    cases r with
    | nil => exact hpos
    | cons k r => exact ((hp _ hr).2 k (.head _)).2
  have hll : (lawLeaves g).length ≤ 2744 := by
    show (leavesF g.ab 3 0).length ≤ 2744
    rw [leaves_paths, List.length_map]
    exact paths_len hlen 3 0
  have hat : ∀ {l : List Str} (k : Nat), (∀ x ∈ l, PyData.strOk x = true) → PyData.strOk (at? l k) = true := fun {l} k h => by
    unfold at?
    cases e : l[k]? with
    | none => show PyData.strOk sNil = true; decide +kernel
    | some x => exact h x (List.mem_of_getElem? e)
  refine ⟨(pathsR g.ab 3 0).map (chainR g.ws), hlen, T.gi, T.up, T.a0, ht, ⟨T.gi.ws, T.gi.ts, T.w2, T.t3⟩, hll, hlv, ?_, ?_, ?_, ?_, ?_, T.rok, ?_⟩
  · intro m hm
    rw [lawMem_eq T] at hm
    obtain ⟨r, hr, rfl⟩ := List.mem_map.mp hm
    exact memR_ok T (hp r hr).1
  · rw [lawMem_eq T]
    refine opt_map fun r hr => ?_
    obtain ⟨h1, h2⟩ := hp r hr
    exact anc_member r _ (by exact Mine.om356 h1) fun k hk => T.wd k (h2 k hk).1 (h2 k hk).2
  · have hup : ∀ x, x < g.ab.length → ((upF g.ab x x).drop 1) = upF g.ab (parF g.ab x) (parF g.ab x) := fun x hx => by
      by_cases h0 : x = 0
      · subst h0; unfold parF; rw [T.a0]; rfl
      · obtain ⟨p, hpp, _⟩ := T.up x hx (by exact Mine.om74 h0)
        rw [up_step T.up (by exact Mine.om74 h0) hpp]
        unfold parF; rw [hpp]; rfl
    have e : (((pathsR g.ab 3 0).map (chainR g.ws)).map (List.drop 1)).flatten = ((lawLeaves g).flatMap fun x => upF g.ab (parF g.ab x) (parF g.ab x)).map (at? g.rg) := by
      show _ = ((leavesF g.ab 3 0).flatMap _).map _
      rw [leaves_paths, List.map_flatMap, List.flatMap_map, List.map_map, List.flatMap_def]
      congr 1
      refine List.map_congr_left fun r hr => ?_
      show (chainR g.ws r).drop 1 = _
      have hu := paths_up T 3 0 r hr
      have hx : r.headD 0 < g.ab.length := hlv _ (by show _ ∈ leavesF g.ab 3 0; rw [leaves_paths]; exact List.mem_map.mpr ⟨r, hr, rfl⟩)
      rw [show r ++ upF g.ab 0 0 = r from by simp [upF]] at hu
      rw [← hup _ hx]
      have hc := (chain_up T _ _ (Nat.le_refl _) hx).2
      rw [hu] at hc ⊢
      rw [hc, List.map_drop]
    rw [e]
    unfold dedF foldersF
    rw [fold_flat]
    refine ded_map _ [] fun a ha b hb q => ?_
    have hin : ∀ a ∈ ([] : List Nat) ++ (lawLeaves g).flatMap (fun x => upF g.ab (parF g.ab x) (parF g.ab x)), a < g.ab.length := fun a ha => by
      obtain ⟨x, hx, ha⟩ := List.mem_flatMap.mp (by simpa using ha)
      have hxl := hlv x hx
      rw [← hup x hxl] at ha
      exact (upF_mem T.up _ _ hxl a (List.mem_of_mem_drop ha)).2
    exact rg_inj T a a b (Nat.le_refl _) (hin a ha) (hin b hb) q
  · rw [lawMem_eq T]
    exact pack_written T hlen 3 0 (Nat.le_refl _) ht hpos 8 (by exact Mine.om355)
  · exact read_written T 3 0 ht hpos (fun q => hroot q.1) 8 (by exact Mine.om355)
  · intro row hrow
    obtain ⟨x, hx, rfl⟩ := List.mem_map.mp hrow
    have hway : ∀ y ∈ wayF g.ab g.ws x, PyData.strOk y = true := fun y hy => by
      obtain ⟨k, _, hk⟩ := List.mem_filterMap.mp (List.mem_reverse.mp hy)
      exact T.wok y (List.mem_of_getElem? hk)
    have hnil : PyData.strOk sNil = true := by decide +kernel
    unfold dueF
    dsimp only
    split
    · exact ⟨hway, hat x T.tok⟩
    · refine ⟨fun y hy => ?_, hnil⟩
      rcases List.mem_append.mp hy with q | q
      · exact hway y q
      · rw [List.mem_singleton.mp q]; exact hnil
end Mine
end
section
open PySem PySem.W PySem.Calls PyProof.Rows PySem.Spec PySem.Builtin PySem.Builtin.Str
set_option Elab.async false
set_option maxRecDepth 100000 in
set_option maxHeartbeats 8000000 in
theorem PySem.Challenge.cw_il0004_01_holds : PySem.Challenge.rw_il0004_01.Holds := by
  w_on; o_law; o_head (kHook Mine.frag Mine.fragAs (fun _ => by kernel_rfl)); (case hw => w_witness2)
  intro w s₀ s₁ mg mb G Y fa o pm cd doc dV kV ho hd hcd hD hmg hg args vals as hpre hlay hrd hwl hlo
  have KX := kIn_of Y
  refine Ground.open G ?_
  intro T B D TE TW
  wrow_args hpre hlay hrd hwl hlo
  refine enter_call ?_
  rename_i ns hs hlay0 hLy hr1 hl2 x4 x3 l vs x0 hL ra w1 r0 hI hr hc1 hc2
  have hfa : fa = 129 := by
    have e : nsIn (Mine.KK w) mainGlobals (Str.ofString "law") = some (some (Value.ref 129)) := by kernel_rfl
    have e2 := mg_of KX T.g e
    rw [show mg (Str.ofString "law") = some (Value.ref fa) from hmg] at e2
    cases e2; rfl
  subst hfa
  obtain ⟨ways, LK⟩ := Mine.law_pure ns
  refine Mine.law_ok (w := w) (vs := vs) (ns := ns) (ways := ways) ⟨KX, ⟨_, _, _, T⟩⟩ ⟨rfl, by decide, by decide⟩ hL hI (by have := hc1; exact Mine.om363 this) LK ?_
  intro z' s' N
  refine ⟨.inl ⟨.bool true, .bool true, [], rfl, fun cls => rfl, .bool _, ?_, fun hu => ⟨List.nodup_nil, fun a ha => (nomatch ha)⟩⟩, .of_keep N.keep, ?_, ?_⟩
  · kc_post
  · exact (congrArg Prod.fst N.os)
  · obtain ⟨ext, e, hb⟩ := N.gens
    rw [e]
    exact Mine.AllBare.app (by rw [hg]; exact AllBare.empty) hb
end
